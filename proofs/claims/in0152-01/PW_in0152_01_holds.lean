import PyProof.Rows.All
import Wide.All
import OpenK.AllK
import Wide.FinOn
import Lean
import PySem.Challenge.RW_in0152_01

set_option Elab.async false
set_option maxRecDepth 100000
set_option maxHeartbeats 0
local macro_rules | `(tactic| walk_at $s:str) => `(tactic| k_extra $s)
local macro_rules | `(tactic| x_close) => `(tactic| k_extra "x_close")
local macro_rules | `(tactic| tb_rel) => `(tactic| k_extra "tb_rel")
local macro_rules | `(tactic| tb_start) => `(tactic| k_extra "tb_start")
local macro_rules | `(tactic| lcg_src) => `(tactic| k_extra "lcg_src")
local macro_rules | `(tactic| k_all) => `(tactic| k_extra "k_all")
local macro_rules | `(tactic| k_ne) => `(tactic| k_extra "k_ne")
local macro_rules | `(tactic| k_room) => `(tactic| exact Nat.le_of_ble_eq_true rfl)

namespace Mine
open PySem PySem.W PySem.W.X PyProof.Rows PySem.Calls
theorem letA {α : Type} {M : Model} {A : Around} {m : Sem α} {Q : α → Shared → Prop} {E : Value → Shared → Prop} {s : Shared} (h : let A' := A; wpAny M A' m Q E s) : wpAny M A m Q E s := h
theorem letM {h₀ h : Heap} {L : Addr} {m : Str → Option Value} {P : Prop} (F : Fr h₀ L h m) (H : let m' := m; Fr h₀ L h m' → P) : P := H F
theorem genT1 {α : Type} {M : Model} {A : Around} {m : Sem α} {Q : α → Shared → Prop} {E : Value → Shared → Prop} {h : Heap} {g : Array GenState} {d : PySem.Drawn} {t k : Nat} {o : OsState} (H : ∀ t', wpAny M A m Q E ⟨h, g, d, t', o⟩) : wpAny M A m Q E ⟨h, g, d, t + k, o⟩ := H _
theorem genT2 {α : Type} {M : Model} {A : Around} {m : Sem α} {Q : α → Shared → Prop} {E : Value → Shared → Prop} {h : Heap} {g : Array GenState} {d : PySem.Drawn} {s : Shared} {o : OsState} (H : ∀ t', wpAny M A m Q E ⟨h, g, d, t', o⟩) : wpAny M A m Q E ⟨h, g, d, s.toks, o⟩ := H _
theorem ca0 { B : Prop} {a b : Nat} (h : a < b ∧ B) : a ≠ b := Nat.ne_of_lt h.1
theorem cb0 { B : Prop} {a b : Nat} (h : b < a ∧ B) : a ≠ b := Nat.ne_of_gt h.1
theorem cc0 {a b : Nat} (h : a < b) : a ≠ b := Nat.ne_of_lt h
theorem cd0 {a b : Nat} (h : b < a) : a ≠ b := Nat.ne_of_gt h
theorem ca1 {A0 B : Prop} {a b : Nat} (h : A0 ∧ a < b ∧ B) : a ≠ b := Nat.ne_of_lt h.2.1
theorem cb1 {A0 B : Prop} {a b : Nat} (h : A0 ∧ b < a ∧ B) : a ≠ b := Nat.ne_of_gt h.2.1
theorem cc1 {A0 : Prop} {a b : Nat} (h : A0 ∧ a < b) : a ≠ b := Nat.ne_of_lt h.2
theorem cd1 {A0 : Prop} {a b : Nat} (h : A0 ∧ b < a) : a ≠ b := Nat.ne_of_gt h.2
theorem ca2 {A0 A1 B : Prop} {a b : Nat} (h : A0 ∧ A1 ∧ a < b ∧ B) : a ≠ b := Nat.ne_of_lt h.2.2.1
theorem cb2 {A0 A1 B : Prop} {a b : Nat} (h : A0 ∧ A1 ∧ b < a ∧ B) : a ≠ b := Nat.ne_of_gt h.2.2.1
theorem cc2 {A0 A1 : Prop} {a b : Nat} (h : A0 ∧ A1 ∧ a < b) : a ≠ b := Nat.ne_of_lt h.2.2
theorem cd2 {A0 A1 : Prop} {a b : Nat} (h : A0 ∧ A1 ∧ b < a) : a ≠ b := Nat.ne_of_gt h.2.2
theorem ca3 {A0 A1 A2 B : Prop} {a b : Nat} (h : A0 ∧ A1 ∧ A2 ∧ a < b ∧ B) : a ≠ b := Nat.ne_of_lt h.2.2.2.1
theorem cb3 {A0 A1 A2 B : Prop} {a b : Nat} (h : A0 ∧ A1 ∧ A2 ∧ b < a ∧ B) : a ≠ b := Nat.ne_of_gt h.2.2.2.1
theorem cc3 {A0 A1 A2 : Prop} {a b : Nat} (h : A0 ∧ A1 ∧ A2 ∧ a < b) : a ≠ b := Nat.ne_of_lt h.2.2.2
theorem cd3 {A0 A1 A2 : Prop} {a b : Nat} (h : A0 ∧ A1 ∧ A2 ∧ b < a) : a ≠ b := Nat.ne_of_gt h.2.2.2
theorem ca4 {A0 A1 A2 A3 B : Prop} {a b : Nat} (h : A0 ∧ A1 ∧ A2 ∧ A3 ∧ a < b ∧ B) : a ≠ b := Nat.ne_of_lt h.2.2.2.2.1
theorem cb4 {A0 A1 A2 A3 B : Prop} {a b : Nat} (h : A0 ∧ A1 ∧ A2 ∧ A3 ∧ b < a ∧ B) : a ≠ b := Nat.ne_of_gt h.2.2.2.2.1
theorem cc4 {A0 A1 A2 A3 : Prop} {a b : Nat} (h : A0 ∧ A1 ∧ A2 ∧ A3 ∧ a < b) : a ≠ b := Nat.ne_of_lt h.2.2.2.2
theorem cd4 {A0 A1 A2 A3 : Prop} {a b : Nat} (h : A0 ∧ A1 ∧ A2 ∧ A3 ∧ b < a) : a ≠ b := Nat.ne_of_gt h.2.2.2.2
theorem ca5 {A0 A1 A2 A3 A4 B : Prop} {a b : Nat} (h : A0 ∧ A1 ∧ A2 ∧ A3 ∧ A4 ∧ a < b ∧ B) : a ≠ b := Nat.ne_of_lt h.2.2.2.2.2.1
theorem cb5 {A0 A1 A2 A3 A4 B : Prop} {a b : Nat} (h : A0 ∧ A1 ∧ A2 ∧ A3 ∧ A4 ∧ b < a ∧ B) : a ≠ b := Nat.ne_of_gt h.2.2.2.2.2.1
theorem cc5 {A0 A1 A2 A3 A4 : Prop} {a b : Nat} (h : A0 ∧ A1 ∧ A2 ∧ A3 ∧ A4 ∧ a < b) : a ≠ b := Nat.ne_of_lt h.2.2.2.2.2
theorem cd5 {A0 A1 A2 A3 A4 : Prop} {a b : Nat} (h : A0 ∧ A1 ∧ A2 ∧ A3 ∧ A4 ∧ b < a) : a ≠ b := Nat.ne_of_gt h.2.2.2.2.2
theorem ca6 {A0 A1 A2 A3 A4 A5 B : Prop} {a b : Nat} (h : A0 ∧ A1 ∧ A2 ∧ A3 ∧ A4 ∧ A5 ∧ a < b ∧ B) : a ≠ b := Nat.ne_of_lt h.2.2.2.2.2.2.1
theorem cb6 {A0 A1 A2 A3 A4 A5 B : Prop} {a b : Nat} (h : A0 ∧ A1 ∧ A2 ∧ A3 ∧ A4 ∧ A5 ∧ b < a ∧ B) : a ≠ b := Nat.ne_of_gt h.2.2.2.2.2.2.1
theorem cc6 {A0 A1 A2 A3 A4 A5 : Prop} {a b : Nat} (h : A0 ∧ A1 ∧ A2 ∧ A3 ∧ A4 ∧ A5 ∧ a < b) : a ≠ b := Nat.ne_of_lt h.2.2.2.2.2.2
theorem cd6 {A0 A1 A2 A3 A4 A5 : Prop} {a b : Nat} (h : A0 ∧ A1 ∧ A2 ∧ A3 ∧ A4 ∧ A5 ∧ b < a) : a ≠ b := Nat.ne_of_gt h.2.2.2.2.2.2
theorem ca7 {A0 A1 A2 A3 A4 A5 A6 B : Prop} {a b : Nat} (h : A0 ∧ A1 ∧ A2 ∧ A3 ∧ A4 ∧ A5 ∧ A6 ∧ a < b ∧ B) : a ≠ b := Nat.ne_of_lt h.2.2.2.2.2.2.2.1
theorem cb7 {A0 A1 A2 A3 A4 A5 A6 B : Prop} {a b : Nat} (h : A0 ∧ A1 ∧ A2 ∧ A3 ∧ A4 ∧ A5 ∧ A6 ∧ b < a ∧ B) : a ≠ b := Nat.ne_of_gt h.2.2.2.2.2.2.2.1
theorem cc7 {A0 A1 A2 A3 A4 A5 A6 : Prop} {a b : Nat} (h : A0 ∧ A1 ∧ A2 ∧ A3 ∧ A4 ∧ A5 ∧ A6 ∧ a < b) : a ≠ b := Nat.ne_of_lt h.2.2.2.2.2.2.2
theorem cd7 {A0 A1 A2 A3 A4 A5 A6 : Prop} {a b : Nat} (h : A0 ∧ A1 ∧ A2 ∧ A3 ∧ A4 ∧ A5 ∧ A6 ∧ b < a) : a ≠ b := Nat.ne_of_gt h.2.2.2.2.2.2.2
theorem ca8 {A0 A1 A2 A3 A4 A5 A6 A7 B : Prop} {a b : Nat} (h : A0 ∧ A1 ∧ A2 ∧ A3 ∧ A4 ∧ A5 ∧ A6 ∧ A7 ∧ a < b ∧ B) : a ≠ b := Nat.ne_of_lt h.2.2.2.2.2.2.2.2.1
theorem cb8 {A0 A1 A2 A3 A4 A5 A6 A7 B : Prop} {a b : Nat} (h : A0 ∧ A1 ∧ A2 ∧ A3 ∧ A4 ∧ A5 ∧ A6 ∧ A7 ∧ b < a ∧ B) : a ≠ b := Nat.ne_of_gt h.2.2.2.2.2.2.2.2.1
theorem cc8 {A0 A1 A2 A3 A4 A5 A6 A7 : Prop} {a b : Nat} (h : A0 ∧ A1 ∧ A2 ∧ A3 ∧ A4 ∧ A5 ∧ A6 ∧ A7 ∧ a < b) : a ≠ b := Nat.ne_of_lt h.2.2.2.2.2.2.2.2
theorem cd8 {A0 A1 A2 A3 A4 A5 A6 A7 : Prop} {a b : Nat} (h : A0 ∧ A1 ∧ A2 ∧ A3 ∧ A4 ∧ A5 ∧ A6 ∧ A7 ∧ b < a) : a ≠ b := Nat.ne_of_gt h.2.2.2.2.2.2.2.2
theorem ca9 {A0 A1 A2 A3 A4 A5 A6 A7 A8 B : Prop} {a b : Nat} (h : A0 ∧ A1 ∧ A2 ∧ A3 ∧ A4 ∧ A5 ∧ A6 ∧ A7 ∧ A8 ∧ a < b ∧ B) : a ≠ b := Nat.ne_of_lt h.2.2.2.2.2.2.2.2.2.1
theorem cb9 {A0 A1 A2 A3 A4 A5 A6 A7 A8 B : Prop} {a b : Nat} (h : A0 ∧ A1 ∧ A2 ∧ A3 ∧ A4 ∧ A5 ∧ A6 ∧ A7 ∧ A8 ∧ b < a ∧ B) : a ≠ b := Nat.ne_of_gt h.2.2.2.2.2.2.2.2.2.1
theorem cc9 {A0 A1 A2 A3 A4 A5 A6 A7 A8 : Prop} {a b : Nat} (h : A0 ∧ A1 ∧ A2 ∧ A3 ∧ A4 ∧ A5 ∧ A6 ∧ A7 ∧ A8 ∧ a < b) : a ≠ b := Nat.ne_of_lt h.2.2.2.2.2.2.2.2.2
theorem cd9 {A0 A1 A2 A3 A4 A5 A6 A7 A8 : Prop} {a b : Nat} (h : A0 ∧ A1 ∧ A2 ∧ A3 ∧ A4 ∧ A5 ∧ A6 ∧ A7 ∧ A8 ∧ b < a) : a ≠ b := Nat.ne_of_gt h.2.2.2.2.2.2.2.2.2
theorem ca10 {A0 A1 A2 A3 A4 A5 A6 A7 A8 A9 B : Prop} {a b : Nat} (h : A0 ∧ A1 ∧ A2 ∧ A3 ∧ A4 ∧ A5 ∧ A6 ∧ A7 ∧ A8 ∧ A9 ∧ a < b ∧ B) : a ≠ b := Nat.ne_of_lt h.2.2.2.2.2.2.2.2.2.2.1
theorem cb10 {A0 A1 A2 A3 A4 A5 A6 A7 A8 A9 B : Prop} {a b : Nat} (h : A0 ∧ A1 ∧ A2 ∧ A3 ∧ A4 ∧ A5 ∧ A6 ∧ A7 ∧ A8 ∧ A9 ∧ b < a ∧ B) : a ≠ b := Nat.ne_of_gt h.2.2.2.2.2.2.2.2.2.2.1
theorem cc10 {A0 A1 A2 A3 A4 A5 A6 A7 A8 A9 : Prop} {a b : Nat} (h : A0 ∧ A1 ∧ A2 ∧ A3 ∧ A4 ∧ A5 ∧ A6 ∧ A7 ∧ A8 ∧ A9 ∧ a < b) : a ≠ b := Nat.ne_of_lt h.2.2.2.2.2.2.2.2.2.2
theorem cd10 {A0 A1 A2 A3 A4 A5 A6 A7 A8 A9 : Prop} {a b : Nat} (h : A0 ∧ A1 ∧ A2 ∧ A3 ∧ A4 ∧ A5 ∧ A6 ∧ A7 ∧ A8 ∧ A9 ∧ b < a) : a ≠ b := Nat.ne_of_gt h.2.2.2.2.2.2.2.2.2.2
theorem ca11 {A0 A1 A2 A3 A4 A5 A6 A7 A8 A9 A10 B : Prop} {a b : Nat} (h : A0 ∧ A1 ∧ A2 ∧ A3 ∧ A4 ∧ A5 ∧ A6 ∧ A7 ∧ A8 ∧ A9 ∧ A10 ∧ a < b ∧ B) : a ≠ b := Nat.ne_of_lt h.2.2.2.2.2.2.2.2.2.2.2.1
theorem cb11 {A0 A1 A2 A3 A4 A5 A6 A7 A8 A9 A10 B : Prop} {a b : Nat} (h : A0 ∧ A1 ∧ A2 ∧ A3 ∧ A4 ∧ A5 ∧ A6 ∧ A7 ∧ A8 ∧ A9 ∧ A10 ∧ b < a ∧ B) : a ≠ b := Nat.ne_of_gt h.2.2.2.2.2.2.2.2.2.2.2.1
theorem cc11 {A0 A1 A2 A3 A4 A5 A6 A7 A8 A9 A10 : Prop} {a b : Nat} (h : A0 ∧ A1 ∧ A2 ∧ A3 ∧ A4 ∧ A5 ∧ A6 ∧ A7 ∧ A8 ∧ A9 ∧ A10 ∧ a < b) : a ≠ b := Nat.ne_of_lt h.2.2.2.2.2.2.2.2.2.2.2
theorem cd11 {A0 A1 A2 A3 A4 A5 A6 A7 A8 A9 A10 : Prop} {a b : Nat} (h : A0 ∧ A1 ∧ A2 ∧ A3 ∧ A4 ∧ A5 ∧ A6 ∧ A7 ∧ A8 ∧ A9 ∧ A10 ∧ b < a) : a ≠ b := Nat.ne_of_gt h.2.2.2.2.2.2.2.2.2.2.2
theorem ltm {a d : Nat} {o : Obj} {l : List (Addr × Obj)} (h : ∀ p ∈ l, p.1 < d) (m : (a, o) ∈ l) : @LT.lt Nat _ a d := h _ m
end Mine
section
open PySem PySem.W PySem.W.X PyProof.Rows
set_option Elab.async false
set_option maxRecDepth 100000
set_option maxHeartbeats 0
namespace Mine
theorem lnH0 : True := by
  k_with_none
  trivial
noncomputable def sT (i : Nat) : Stmt := PySem.Challenge.pw_in0152_01.main.body.getD i (.Pass default)
noncomputable def sM (i j : Nat) : Stmt := (match sT i with | .ClassDef _ _ _ b _ _ _ _ _ _ _ => b | _ => []).getD j (.Pass default)
noncomputable def sA (s : Stmt) : Arguments := match s with | .FunctionDef _ a _ _ _ _ _ _ _ _ => a | _ => ⟨[], [], none, [], [], none, []⟩
noncomputable def sB (s : Stmt) : List Stmt := match s with | .FunctionDef _ _ b _ _ _ _ _ _ _ => b | _ => []
noncomputable def sS (s : Stmt) : Scope := match s with | .FunctionDef _ _ _ _ _ _ c _ _ _ => c | _ => default
noncomputable def view : Program := { PySem.Challenge.rw_in0152_01.row.toRowW.1 with main := { PySem.Challenge.rw_in0152_01.row.toRowW.1.main with body := [0, 2, 3, 6, 7, 8, 9, 10, 12, 14, 16, 17, 19, 21, 23, 24, 25, 26, 28, 29, 30, 31].filterMap fun i => PySem.Challenge.pw_in0152_01.main.body[i]? } }
noncomputable def frag : Params → Frag := fun P =>
  (nat_lit 2, { cls := Value.none, data := Data.dict #[] }) ::
  (nat_lit 3, { cls := Value.type "dict", data := Data.dict #[{ hash := PyData.keyHash P (Str.ofString "__name__"), key := Value.str (Str.ofString "__name__") 165, val := Value.str (Str.ofString "law_in0152_01") 548 }, { hash := PyData.keyHash P (Str.ofString "__doc__"), key := Value.str (Str.ofString "__doc__") 166, val := Value.none }, { hash := PyData.keyHash P (Str.ofString "__package__"), key := Value.str (Str.ofString "__package__") 167, val := Value.none }, { hash := PyData.keyHash P (Str.ofString "__loader__"), key := Value.str (Str.ofString "__loader__") 168, val := Value.builtin "__main__.__loader__#opaque" }, { hash := PyData.keyHash P (Str.ofString "__spec__"), key := Value.str (Str.ofString "__spec__") 169, val := Value.none }, { hash := PyData.keyHash P (Str.ofString "__annotations__"), key := Value.str (Str.ofString "__annotations__") 170, val := Value.ref (nat_lit 6) }, { hash := PyData.keyHash P (Str.ofString "__builtins__"), key := Value.str (Str.ofString "__builtins__") 171, val := Value.ref (nat_lit 4) }, { hash := PyData.keyHash P (Str.ofString "__file__"), key := Value.str (Str.ofString "__file__") 173, val := Value.str (Str.ofString "/claim/cut.py") 172 }, { hash := PyData.keyHash P (Str.ofString "__cached__"), key := Value.str (Str.ofString "__cached__") 174, val := Value.none }, { hash := PyData.keyHash P (Str.ofString "_wall"), key := Value.str (Str.ofString "_wall") 193, val := Value.ref (nat_lit 21) }, { hash := PyData.keyHash P (Str.ofString "cmp_to_key"), key := Value.str (Str.ofString "cmp_to_key") 204, val := Value.ref (nat_lit 28) }, { hash := PyData.keyHash P (Str.ofString "_initial_missing"), key := Value.str (Str.ofString "_initial_missing") 205, val := Value.ref (nat_lit 29) }, { hash := PyData.keyHash P (Str.ofString "reduce"), key := Value.str (Str.ofString "reduce") 217, val := Value.ref (nat_lit 37) }, { hash := PyData.keyHash P (Str.ofString "_NODE_OUT"), key := Value.str (Str.ofString "_NODE_OUT") 222, val := Value.int (-1) 221 }, { hash := PyData.keyHash P (Str.ofString "_NODE_DONE"), key := Value.str (Str.ofString "_NODE_DONE") 225, val := Value.int (-2) 224 }, { hash := PyData.keyHash P (Str.ofString "_NodeInfo"), key := Value.str (Str.ofString "_NodeInfo") 262, val := Value.ref (nat_lit 56) }, { hash := PyData.keyHash P (Str.ofString "CycleError"), key := Value.str (Str.ofString "CycleError") 280, val := Value.ref (nat_lit 71) }, { hash := PyData.keyHash P (Str.ofString "TopologicalSorter"), key := Value.str (Str.ofString "TopologicalSorter") 399, val := Value.ref (nat_lit 153) }, { hash := PyData.keyHash P (Str.ofString "_plain_name"), key := Value.str (Str.ofString "_plain_name") 410, val := Value.ref (nat_lit 164) }, { hash := PyData.keyHash P (Str.ofString "ABCMeta"), key := Value.str (Str.ofString "ABCMeta") 436, val := Value.ref (nat_lit 181) }, { hash := PyData.keyHash P (Str.ofString "_ABCLike"), key := Value.str (Str.ofString "_ABCLike") 479, val := Value.ref (nat_lit 214) }, { hash := PyData.keyHash P (Str.ofString "_abc_plain_meta"), key := Value.str (Str.ofString "_abc_plain_meta") 486, val := Value.ref (nat_lit 223) }, { hash := PyData.keyHash P (Str.ofString "fspath"), key := Value.str (Str.ofString "fspath") 498, val := Value.ref (nat_lit 230) }, { hash := PyData.keyHash P (Str.ofString "_check_arg_types"), key := Value.str (Str.ofString "_check_arg_types") 511, val := Value.ref (nat_lit 237) }, { hash := PyData.keyHash P (Str.ofString "_get_sep"), key := Value.str (Str.ofString "_get_sep") 520, val := Value.ref (nat_lit 244) }, { hash := PyData.keyHash P (Str.ofString "join"), key := Value.str (Str.ofString "join") 531, val := Value.ref (nat_lit 251) }, { hash := PyData.keyHash P (Str.ofString "dirname"), key := Value.str (Str.ofString "dirname") 541, val := Value.ref (nat_lit 258) }, { hash := PyData.keyHash P (Str.ofString "commonpath"), key := Value.str (Str.ofString "commonpath") 547, val := Value.ref (nat_lit 263) }, { hash := PyData.keyHash P (Str.ofString "_law_rows"), key := Value.str (Str.ofString "_law_rows") 555, val := Value.ref (nat_lit 268) }, { hash := PyData.keyHash P (Str.ofString "_law_compared"), key := Value.str (Str.ofString "_law_compared") 561, val := Value.ref (nat_lit 273) }, { hash := PyData.keyHash P (Str.ofString "_law_let"), key := Value.str (Str.ofString "_law_let") 567, val := Value.ref (nat_lit 278) }, { hash := PyData.keyHash P (Str.ofString "law"), key := Value.str (Str.ofString "law") 573, val := Value.ref (nat_lit 283) }] 32 }) ::
  (nat_lit 15, { cls := Value.type "tuple", data := Data.seq #[] }) ::
  (nat_lit 17, { cls := Value.type "tuple", data := Data.seq #[Value.str (Str.ofString "k") 190] }) ::
  (nat_lit 18, { cls := Value.type "tuple", data := Data.seq #[] }) ::
  (nat_lit 20, { cls := Value.type "code", data := Data.fields #[Value.str (Str.ofString "_wall") 187, Value.str (Str.ofString "_wall") 188, Value.str (Str.ofString "/claim/cut.py") 189, Value.int 1 0, Value.int 1 0, Value.int 0 0, Value.int 0 0, Value.int 3 0, Value.ref (nat_lit 15), Value.bool true, Value.int 181 0, Value.ref (nat_lit 16), Value.none, Value.ref (nat_lit 17), Value.ref (nat_lit 18), Value.ref (nat_lit 19), Value.int 191 0, Value.int 1 0, Value.str (Str.ofString "/claim/cut.py") 192] }) ::
  (nat_lit 21, { cls := Value.type "function", data := Data.func { name := Str.ofString "_wall", qualname := Str.ofString "_wall", params := sA (sT 0), body := FuncBody.stmts (sB (sT 0)), scope := sS (sT 0), globals := 3, closure := [], defaults := Value.none, kwdefaults := Value.none, pyModule := Value.str (Str.ofString "__main__") 164, code := Value.ref (nat_lit 20) } }) ::
  (nat_lit 22, { cls := Value.type "tuple", data := Data.seq #[] }) ::
  (nat_lit 24, { cls := Value.type "tuple", data := Data.seq #[Value.str (Str.ofString "mycmp") 199, Value.str (Str.ofString "K") 200] }) ::
  (nat_lit 25, { cls := Value.type "tuple", data := Data.seq #[Value.str (Str.ofString "mycmp") 201] }) ::
  (nat_lit 27, { cls := Value.type "code", data := Data.fields #[Value.str (Str.ofString "cmp_to_key") 196, Value.str (Str.ofString "cmp_to_key") 197, Value.str (Str.ofString "/claim/cut.py") 198, Value.int 5 0, Value.int 1 0, Value.int 0 0, Value.int 0 0, Value.int 3 0, Value.ref (nat_lit 22), Value.bool true, Value.int 181 0, Value.ref (nat_lit 23), Value.none, Value.ref (nat_lit 24), Value.ref (nat_lit 25), Value.ref (nat_lit 26), Value.int 202 0, Value.int 5 0, Value.str (Str.ofString "/claim/cut.py") 203] }) ::
  (nat_lit 28, { cls := Value.type "function", data := Data.func { name := Str.ofString "cmp_to_key", qualname := Str.ofString "cmp_to_key", params := sA (sT 2), body := FuncBody.stmts (sB (sT 2)), scope := sS (sT 2), globals := 3, closure := [], defaults := Value.none, kwdefaults := Value.none, pyModule := Value.str (Str.ofString "cpy313.functools") 194, code := Value.ref (nat_lit 27) } }) ::
  (nat_lit 29, { cls := Value.type "object" }) ::
  (nat_lit 30, { cls := Value.type "tuple", data := Data.seq #[Value.ref (nat_lit 29)] }) ::
  (nat_lit 31, { cls := Value.type "tuple", data := Data.seq #[] }) ::
  (nat_lit 33, { cls := Value.type "tuple", data := Data.seq #[Value.str (Str.ofString "function") 209, Value.str (Str.ofString "sequence") 210, Value.str (Str.ofString "initial") 211, Value.str (Str.ofString "it") 212, Value.str (Str.ofString "value") 213, Value.str (Str.ofString "element") 214] }) ::
  (nat_lit 34, { cls := Value.type "tuple", data := Data.seq #[] }) ::
  (nat_lit 36, { cls := Value.type "code", data := Data.fields #[Value.str (Str.ofString "reduce") 206, Value.str (Str.ofString "reduce") 207, Value.str (Str.ofString "/claim/cut.py") 208, Value.int 31 0, Value.int 3 0, Value.int 0 0, Value.int 0 0, Value.int 3 0, Value.ref (nat_lit 31), Value.bool true, Value.int 181 0, Value.ref (nat_lit 32), Value.none, Value.ref (nat_lit 33), Value.ref (nat_lit 34), Value.ref (nat_lit 35), Value.int 215 0, Value.int 31 0, Value.str (Str.ofString "/claim/cut.py") 216] }) ::
  (nat_lit 37, { cls := Value.type "function", data := Data.func { name := Str.ofString "reduce", qualname := Str.ofString "reduce", params := sA (sT 4), body := FuncBody.stmts (sB (sT 4)), scope := sS (sT 4), globals := 3, closure := [], defaults := Value.ref (nat_lit 30), kwdefaults := Value.none, pyModule := Value.str (Str.ofString "cpy313.functools") 194, code := Value.ref (nat_lit 36) } }) ::
  (nat_lit 45, { cls := Value.type "tuple", data := Data.seq #[Value.str (Str.ofString "node") 238, Value.str (Str.ofString "npredecessors") 239, Value.str (Str.ofString "successors") 240] }) ::
  (nat_lit 46, { cls := Value.type "tuple", data := Data.seq #[] }) ::
  (nat_lit 48, { cls := Value.type "tuple", data := Data.seq #[Value.str (Str.ofString "self") 245, Value.str (Str.ofString "node") 246] }) ::
  (nat_lit 49, { cls := Value.type "tuple", data := Data.seq #[] }) ::
  (nat_lit 51, { cls := Value.type "code", data := Data.fields #[Value.str (Str.ofString "__init__") 242, Value.str (Str.ofString "_NodeInfo.__init__") 243, Value.str (Str.ofString "/claim/cut.py") 244, Value.int 49 0, Value.int 2 0, Value.int 0 0, Value.int 0 0, Value.int 3 0, Value.ref (nat_lit 46), Value.bool true, Value.int 181 0, Value.ref (nat_lit 47), Value.none, Value.ref (nat_lit 48), Value.ref (nat_lit 49), Value.ref (nat_lit 50), Value.int 247 0, Value.int 49 0, Value.str (Str.ofString "/claim/cut.py") 248] }) ::
  (nat_lit 52, { cls := Value.type "function", data := Data.func { name := Str.ofString "__init__", qualname := Str.ofString "_NodeInfo.__init__", params := sA (sM 8 1), body := FuncBody.stmts (sB (sM 8 1)), scope := sS (sM 8 1), globals := 3, closure := [], defaults := Value.none, kwdefaults := Value.none, pyModule := Value.str (Str.ofString "cpy313.graphlib") 218, code := Value.ref (nat_lit 51) } }) ::
  (nat_lit 53, { cls := Value.type "tuple", data := Data.seq #[Value.str (Str.ofString "node") 250, Value.str (Str.ofString "npredecessors") 251, Value.str (Str.ofString "successors") 252] }) ::
  (nat_lit 55, { cls := Value.type "dict", data := Data.dict #[{ hash := PyData.keyHash P (Str.ofString "__module__"), key := Value.str (Str.ofString "__module__") 233, val := Value.str (Str.ofString "cpy313.graphlib") 218 }, { hash := PyData.keyHash P (Str.ofString "__firstlineno__"), key := Value.str (Str.ofString "__firstlineno__") 237, val := Value.int 46 236 }, { hash := PyData.keyHash P (Str.ofString "__slots__"), key := Value.str (Str.ofString "__slots__") 241, val := Value.ref (nat_lit 45) }, { hash := PyData.keyHash P (Str.ofString "__init__"), key := Value.str (Str.ofString "__init__") 249, val := Value.ref (nat_lit 52) }, { hash := PyData.keyHash P (Str.ofString "__static_attributes__"), key := Value.str (Str.ofString "__static_attributes__") 253, val := Value.ref (nat_lit 53) }, { hash := PyData.keyHash P (Str.ofString "node"), key := Value.str (Str.ofString "node") 255, val := Value.ref (nat_lit 57) }, { hash := PyData.keyHash P (Str.ofString "npredecessors"), key := Value.str (Str.ofString "npredecessors") 257, val := Value.ref (nat_lit 58) }, { hash := PyData.keyHash P (Str.ofString "successors"), key := Value.str (Str.ofString "successors") 259, val := Value.ref (nat_lit 59) }, { hash := PyData.keyHash P (Str.ofString "__doc__"), key := Value.str (Str.ofString "__doc__") 260, val := Value.none }] 5 }) ::
  (nat_lit 56, { cls := Value.type "type", data := Data.cls { name := Str.ofString "_NodeInfo", bases := [Value.type "object"], mro := [Value.ref (nat_lit 56), Value.type "object"], ns := 55, qualname := Str.ofString "_NodeInfo", hasDict := false, slotNames := [Str.ofString "node", Str.ofString "npredecessors", Str.ofString "successors"] }, slots := #[none, none, some (Value.str (Str.ofString "_NodeInfo") 226), some (Value.str (Str.ofString "_NodeInfo") 234), some (Value.builtin "object.__new__"), some (Value.bool false)] }) ::
  (nat_lit 57, { cls := Value.type "member_descriptor", data := Data.fields #[Value.str (Str.ofString "node") 254, Value.ref (nat_lit 56), Value.builtin "proto.slot", Value.builtin "proto.slot#set", Value.int 2 0] }) ::
  (nat_lit 58, { cls := Value.type "member_descriptor", data := Data.fields #[Value.str (Str.ofString "npredecessors") 256, Value.ref (nat_lit 56), Value.builtin "proto.slot", Value.builtin "proto.slot#set", Value.int 1 0] }) ::
  (nat_lit 59, { cls := Value.type "member_descriptor", data := Data.fields #[Value.str (Str.ofString "successors") 258, Value.ref (nat_lit 56), Value.builtin "proto.slot", Value.builtin "proto.slot#set", Value.int 0 0] }) ::
  (nat_lit 62, { cls := Value.type "tuple", data := Data.seq #[Value.type "ValueError"] }) ::
  (nat_lit 69, { cls := Value.type "tuple", data := Data.seq #[] }) ::
  (nat_lit 70, { cls := Value.type "dict", data := Data.dict #[{ hash := PyData.keyHash P (Str.ofString "__module__"), key := Value.str (Str.ofString "__module__") 270, val := Value.str (Str.ofString "cpy313.graphlib") 218 }, { hash := PyData.keyHash P (Str.ofString "__firstlineno__"), key := Value.str (Str.ofString "__firstlineno__") 274, val := Value.int 53 273 }, { hash := PyData.keyHash P (Str.ofString "__static_attributes__"), key := Value.str (Str.ofString "__static_attributes__") 275, val := Value.ref (nat_lit 69) }, { hash := PyData.keyHash P (Str.ofString "__weakref__"), key := Value.str (Str.ofString "__weakref__") 277, val := Value.ref (nat_lit 72) }, { hash := PyData.keyHash P (Str.ofString "__doc__"), key := Value.str (Str.ofString "__doc__") 278, val := Value.none }] 3 }) ::
  (nat_lit 71, { cls := Value.type "type", data := Data.cls { name := Str.ofString "CycleError", bases := [Value.type "ValueError"], mro := [Value.ref (nat_lit 71), Value.type "ValueError", Value.type "Exception", Value.type "BaseException", Value.type "object"], ns := 70, qualname := Str.ofString "CycleError" }, slots := #[some (Value.ref (nat_lit 62)), none, some (Value.str (Str.ofString "CycleError") 263), some (Value.str (Str.ofString "CycleError") 271), some (Value.builtin "ValueError.__new__"), some (Value.bool true)] }) ::
  (nat_lit 72, { cls := Value.type "getset_descriptor", data := Data.fields #[Value.str (Str.ofString "__weakref__") 276, Value.ref (nat_lit 71), Value.builtin "ExceptionGroup.__weakref__", Value.none] }) ::
  (nat_lit 82, { cls := Value.type "tuple", data := Data.seq #[Value.none] }) ::
  (nat_lit 83, { cls := Value.type "tuple", data := Data.seq #[] }) ::
  (nat_lit 85, { cls := Value.type "tuple", data := Data.seq #[Value.str (Str.ofString "self") 296, Value.str (Str.ofString "graph") 297, Value.str (Str.ofString "node") 298, Value.str (Str.ofString "predecessors") 299] }) ::
  (nat_lit 86, { cls := Value.type "tuple", data := Data.seq #[] }) ::
  (nat_lit 88, { cls := Value.type "code", data := Data.fields #[Value.str (Str.ofString "__init__") 293, Value.str (Str.ofString "TopologicalSorter.__init__") 294, Value.str (Str.ofString "/claim/cut.py") 295, Value.int 57 0, Value.int 2 0, Value.int 0 0, Value.int 0 0, Value.int 3 0, Value.ref (nat_lit 83), Value.bool true, Value.int 181 0, Value.ref (nat_lit 84), Value.none, Value.ref (nat_lit 85), Value.ref (nat_lit 86), Value.ref (nat_lit 87), Value.int 300 0, Value.int 57 0, Value.str (Str.ofString "/claim/cut.py") 301] }) ::
  (nat_lit 89, { cls := Value.type "function", data := Data.func { name := Str.ofString "__init__", qualname := Str.ofString "TopologicalSorter.__init__", params := sA (sM 10 0), body := FuncBody.stmts (sB (sM 10 0)), scope := sS (sM 10 0), globals := 3, closure := [], defaults := Value.ref (nat_lit 82), kwdefaults := Value.none, pyModule := Value.str (Str.ofString "cpy313.graphlib") 218, code := Value.ref (nat_lit 88) } }) ::
  (nat_lit 90, { cls := Value.type "tuple", data := Data.seq #[] }) ::
  (nat_lit 92, { cls := Value.type "tuple", data := Data.seq #[Value.str (Str.ofString "self") 306, Value.str (Str.ofString "node") 307, Value.str (Str.ofString "result") 308] }) ::
  (nat_lit 93, { cls := Value.type "tuple", data := Data.seq #[] }) ::
  (nat_lit 95, { cls := Value.type "code", data := Data.fields #[Value.str (Str.ofString "_get_nodeinfo") 303, Value.str (Str.ofString "TopologicalSorter._get_nodeinfo") 304, Value.str (Str.ofString "/claim/cut.py") 305, Value.int 66 0, Value.int 2 0, Value.int 0 0, Value.int 0 0, Value.int 3 0, Value.ref (nat_lit 90), Value.bool true, Value.int 181 0, Value.ref (nat_lit 91), Value.none, Value.ref (nat_lit 92), Value.ref (nat_lit 93), Value.ref (nat_lit 94), Value.int 309 0, Value.int 66 0, Value.str (Str.ofString "/claim/cut.py") 310] }) ::
  (nat_lit 96, { cls := Value.type "function", data := Data.func { name := Str.ofString "_get_nodeinfo", qualname := Str.ofString "TopologicalSorter._get_nodeinfo", params := sA (sM 10 1), body := FuncBody.stmts (sB (sM 10 1)), scope := sS (sM 10 1), globals := 3, closure := [], defaults := Value.none, kwdefaults := Value.none, pyModule := Value.str (Str.ofString "cpy313.graphlib") 218, code := Value.ref (nat_lit 95) } }) ::
  (nat_lit 97, { cls := Value.type "tuple", data := Data.seq #[] }) ::
  (nat_lit 99, { cls := Value.type "tuple", data := Data.seq #[Value.str (Str.ofString "self") 315, Value.str (Str.ofString "node") 316, Value.str (Str.ofString "predecessors") 317, Value.str (Str.ofString "nodeinfo") 318, Value.str (Str.ofString "pred") 319, Value.str (Str.ofString "pred_info") 320] }) ::
  (nat_lit 100, { cls := Value.type "tuple", data := Data.seq #[] }) ::
  (nat_lit 102, { cls := Value.type "code", data := Data.fields #[Value.str (Str.ofString "add") 312, Value.str (Str.ofString "TopologicalSorter.add") 313, Value.str (Str.ofString "/claim/cut.py") 314, Value.int 71 0, Value.int 2 0, Value.int 0 0, Value.int 0 0, Value.int 7 0, Value.ref (nat_lit 97), Value.bool true, Value.int 181 0, Value.ref (nat_lit 98), Value.none, Value.ref (nat_lit 99), Value.ref (nat_lit 100), Value.ref (nat_lit 101), Value.int 321 0, Value.int 71 0, Value.str (Str.ofString "/claim/cut.py") 322] }) ::
  (nat_lit 103, { cls := Value.type "function", data := Data.func { name := Str.ofString "add", qualname := Str.ofString "TopologicalSorter.add", params := sA (sM 10 2), body := FuncBody.stmts (sB (sM 10 2)), scope := sS (sM 10 2), globals := 3, closure := [], defaults := Value.none, kwdefaults := Value.none, pyModule := Value.str (Str.ofString "cpy313.graphlib") 218, code := Value.ref (nat_lit 102) } }) ::
  (nat_lit 104, { cls := Value.type "tuple", data := Data.seq #[] }) ::
  (nat_lit 107, { cls := Value.type "code", data := Data.fields #[Value.str (Str.ofString "prepare") 324, Value.str (Str.ofString "TopologicalSorter.prepare") 325, Value.str (Str.ofString "/claim/cut.py") 326, Value.int 80 0, Value.int 1 0, Value.int 0 0, Value.int 0 0, Value.int 3 0, Value.ref (nat_lit 104), Value.bool true, Value.int 181 0, Value.ref (nat_lit 105), Value.none, Value.none, Value.none, Value.ref (nat_lit 106), Value.int 327 0, Value.int 80 0, Value.str (Str.ofString "/claim/cut.py") 328] }) ::
  (nat_lit 108, { cls := Value.type "function", data := Data.func { name := Str.ofString "prepare", qualname := Str.ofString "TopologicalSorter.prepare", params := sA (sM 10 3), body := FuncBody.stmts (sB (sM 10 3)), scope := sS (sM 10 3), globals := 3, closure := [], defaults := Value.none, kwdefaults := Value.none, pyModule := Value.str (Str.ofString "cpy313.graphlib") 218, code := Value.ref (nat_lit 107) } }) ::
  (nat_lit 109, { cls := Value.type "tuple", data := Data.seq #[] }) ::
  (nat_lit 111, { cls := Value.type "tuple", data := Data.seq #[Value.str (Str.ofString "self") 333, Value.str (Str.ofString "result") 334, Value.str (Str.ofString "n2i") 335, Value.str (Str.ofString "node") 336] }) ::
  (nat_lit 112, { cls := Value.type "tuple", data := Data.seq #[] }) ::
  (nat_lit 114, { cls := Value.type "code", data := Data.fields #[Value.str (Str.ofString "get_ready") 330, Value.str (Str.ofString "TopologicalSorter.get_ready") 331, Value.str (Str.ofString "/claim/cut.py") 332, Value.int 88 0, Value.int 1 0, Value.int 0 0, Value.int 0 0, Value.int 3 0, Value.ref (nat_lit 109), Value.bool true, Value.int 181 0, Value.ref (nat_lit 110), Value.none, Value.ref (nat_lit 111), Value.ref (nat_lit 112), Value.ref (nat_lit 113), Value.int 337 0, Value.int 88 0, Value.str (Str.ofString "/claim/cut.py") 338] }) ::
  (nat_lit 115, { cls := Value.type "function", data := Data.func { name := Str.ofString "get_ready", qualname := Str.ofString "TopologicalSorter.get_ready", params := sA (sM 10 4), body := FuncBody.stmts (sB (sM 10 4)), scope := sS (sM 10 4), globals := 3, closure := [], defaults := Value.none, kwdefaults := Value.none, pyModule := Value.str (Str.ofString "cpy313.graphlib") 218, code := Value.ref (nat_lit 114) } }) ::
  (nat_lit 116, { cls := Value.type "tuple", data := Data.seq #[] }) ::
  (nat_lit 118, { cls := Value.type "tuple", data := Data.seq #[Value.str (Str.ofString "self") 343] }) ::
  (nat_lit 119, { cls := Value.type "tuple", data := Data.seq #[] }) ::
  (nat_lit 121, { cls := Value.type "code", data := Data.fields #[Value.str (Str.ofString "is_active") 340, Value.str (Str.ofString "TopologicalSorter.is_active") 341, Value.str (Str.ofString "/claim/cut.py") 342, Value.int 99 0, Value.int 1 0, Value.int 0 0, Value.int 0 0, Value.int 3 0, Value.ref (nat_lit 116), Value.bool true, Value.int 181 0, Value.ref (nat_lit 117), Value.none, Value.ref (nat_lit 118), Value.ref (nat_lit 119), Value.ref (nat_lit 120), Value.int 344 0, Value.int 99 0, Value.str (Str.ofString "/claim/cut.py") 345] }) ::
  (nat_lit 122, { cls := Value.type "function", data := Data.func { name := Str.ofString "is_active", qualname := Str.ofString "TopologicalSorter.is_active", params := sA (sM 10 5), body := FuncBody.stmts (sB (sM 10 5)), scope := sS (sM 10 5), globals := 3, closure := [], defaults := Value.none, kwdefaults := Value.none, pyModule := Value.str (Str.ofString "cpy313.graphlib") 218, code := Value.ref (nat_lit 121) } }) ::
  (nat_lit 123, { cls := Value.type "tuple", data := Data.seq #[] }) ::
  (nat_lit 125, { cls := Value.type "tuple", data := Data.seq #[Value.str (Str.ofString "self") 350] }) ::
  (nat_lit 126, { cls := Value.type "tuple", data := Data.seq #[] }) ::
  (nat_lit 128, { cls := Value.type "code", data := Data.fields #[Value.str (Str.ofString "__bool__") 347, Value.str (Str.ofString "TopologicalSorter.__bool__") 348, Value.str (Str.ofString "/claim/cut.py") 349, Value.int 104 0, Value.int 1 0, Value.int 0 0, Value.int 0 0, Value.int 3 0, Value.ref (nat_lit 123), Value.bool true, Value.int 181 0, Value.ref (nat_lit 124), Value.none, Value.ref (nat_lit 125), Value.ref (nat_lit 126), Value.ref (nat_lit 127), Value.int 351 0, Value.int 104 0, Value.str (Str.ofString "/claim/cut.py") 352] }) ::
  (nat_lit 129, { cls := Value.type "function", data := Data.func { name := Str.ofString "__bool__", qualname := Str.ofString "TopologicalSorter.__bool__", params := sA (sM 10 6), body := FuncBody.stmts (sB (sM 10 6)), scope := sS (sM 10 6), globals := 3, closure := [], defaults := Value.none, kwdefaults := Value.none, pyModule := Value.str (Str.ofString "cpy313.graphlib") 218, code := Value.ref (nat_lit 128) } }) ::
  (nat_lit 130, { cls := Value.type "tuple", data := Data.seq #[] }) ::
  (nat_lit 132, { cls := Value.type "tuple", data := Data.seq #[Value.str (Str.ofString "self") 357, Value.str (Str.ofString "nodes") 358, Value.str (Str.ofString "n2i") 359, Value.str (Str.ofString "node") 360, Value.str (Str.ofString "nodeinfo") 361, Value.str (Str.ofString "stat") 362, Value.str (Str.ofString "successor") 363, Value.str (Str.ofString "successor_info") 364] }) ::
  (nat_lit 133, { cls := Value.type "tuple", data := Data.seq #[] }) ::
  (nat_lit 135, { cls := Value.type "code", data := Data.fields #[Value.str (Str.ofString "done") 354, Value.str (Str.ofString "TopologicalSorter.done") 355, Value.str (Str.ofString "/claim/cut.py") 356, Value.int 107 0, Value.int 1 0, Value.int 0 0, Value.int 0 0, Value.int 7 0, Value.ref (nat_lit 130), Value.bool true, Value.int 181 0, Value.ref (nat_lit 131), Value.none, Value.ref (nat_lit 132), Value.ref (nat_lit 133), Value.ref (nat_lit 134), Value.int 365 0, Value.int 107 0, Value.str (Str.ofString "/claim/cut.py") 366] }) ::
  (nat_lit 136, { cls := Value.type "function", data := Data.func { name := Str.ofString "done", qualname := Str.ofString "TopologicalSorter.done", params := sA (sM 10 7), body := FuncBody.stmts (sB (sM 10 7)), scope := sS (sM 10 7), globals := 3, closure := [], defaults := Value.none, kwdefaults := Value.none, pyModule := Value.str (Str.ofString "cpy313.graphlib") 218, code := Value.ref (nat_lit 135) } }) ::
  (nat_lit 137, { cls := Value.type "tuple", data := Data.seq #[] }) ::
  (nat_lit 139, { cls := Value.type "tuple", data := Data.seq #[Value.str (Str.ofString "self") 371, Value.str (Str.ofString "n2i") 372, Value.str (Str.ofString "stack") 373, Value.str (Str.ofString "itstack") 374, Value.str (Str.ofString "seen") 375, Value.str (Str.ofString "node2stacki") 376, Value.str (Str.ofString "node") 377] }) ::
  (nat_lit 140, { cls := Value.type "tuple", data := Data.seq #[] }) ::
  (nat_lit 142, { cls := Value.type "code", data := Data.fields #[Value.str (Str.ofString "_find_cycle") 368, Value.str (Str.ofString "TopologicalSorter._find_cycle") 369, Value.str (Str.ofString "/claim/cut.py") 370, Value.int 130 0, Value.int 1 0, Value.int 0 0, Value.int 0 0, Value.int 3 0, Value.ref (nat_lit 137), Value.bool true, Value.int 181 0, Value.ref (nat_lit 138), Value.none, Value.ref (nat_lit 139), Value.ref (nat_lit 140), Value.ref (nat_lit 141), Value.int 378 0, Value.int 130 0, Value.str (Str.ofString "/claim/cut.py") 379] }) ::
  (nat_lit 143, { cls := Value.type "function", data := Data.func { name := Str.ofString "_find_cycle", qualname := Str.ofString "TopologicalSorter._find_cycle", params := sA (sM 10 8), body := FuncBody.stmts (sB (sM 10 8)), scope := sS (sM 10 8), globals := 3, closure := [], defaults := Value.none, kwdefaults := Value.none, pyModule := Value.str (Str.ofString "cpy313.graphlib") 218, code := Value.ref (nat_lit 142) } }) ::
  (nat_lit 144, { cls := Value.type "tuple", data := Data.seq #[] }) ::
  (nat_lit 146, { cls := Value.type "tuple", data := Data.seq #[Value.str (Str.ofString "self") 384] }) ::
  (nat_lit 147, { cls := Value.type "tuple", data := Data.seq #[] }) ::
  (nat_lit 149, { cls := Value.type "code", data := Data.fields #[Value.str (Str.ofString "static_order") 381, Value.str (Str.ofString "TopologicalSorter.static_order") 382, Value.str (Str.ofString "/claim/cut.py") 383, Value.int 159 0, Value.int 1 0, Value.int 0 0, Value.int 0 0, Value.int 3 0, Value.ref (nat_lit 144), Value.bool true, Value.int 181 0, Value.ref (nat_lit 145), Value.none, Value.ref (nat_lit 146), Value.ref (nat_lit 147), Value.ref (nat_lit 148), Value.int 385 0, Value.int 159 0, Value.str (Str.ofString "/claim/cut.py") 386] }) ::
  (nat_lit 150, { cls := Value.type "function", data := Data.func { name := Str.ofString "static_order", qualname := Str.ofString "TopologicalSorter.static_order", params := sA (sM 10 9), body := FuncBody.stmts (sB (sM 10 9)), scope := sS (sM 10 9), globals := 3, closure := [], defaults := Value.none, kwdefaults := Value.none, pyModule := Value.str (Str.ofString "cpy313.graphlib") 218, code := Value.ref (nat_lit 149) } }) ::
  (nat_lit 151, { cls := Value.type "tuple", data := Data.seq #[Value.str (Str.ofString "_nfinished") 388, Value.str (Str.ofString "_node2info") 389, Value.str (Str.ofString "_npassedout") 390, Value.str (Str.ofString "_ready_nodes") 391] }) ::
  (nat_lit 152, { cls := Value.type "dict", data := Data.dict #[{ hash := PyData.keyHash P (Str.ofString "__module__"), key := Value.str (Str.ofString "__module__") 288, val := Value.str (Str.ofString "cpy313.graphlib") 218 }, { hash := PyData.keyHash P (Str.ofString "__firstlineno__"), key := Value.str (Str.ofString "__firstlineno__") 292, val := Value.int 55 291 }, { hash := PyData.keyHash P (Str.ofString "__init__"), key := Value.str (Str.ofString "__init__") 302, val := Value.ref (nat_lit 89) }, { hash := PyData.keyHash P (Str.ofString "_get_nodeinfo"), key := Value.str (Str.ofString "_get_nodeinfo") 311, val := Value.ref (nat_lit 96) }, { hash := PyData.keyHash P (Str.ofString "add"), key := Value.str (Str.ofString "add") 323, val := Value.ref (nat_lit 103) }, { hash := PyData.keyHash P (Str.ofString "prepare"), key := Value.str (Str.ofString "prepare") 329, val := Value.ref (nat_lit 108) }, { hash := PyData.keyHash P (Str.ofString "get_ready"), key := Value.str (Str.ofString "get_ready") 339, val := Value.ref (nat_lit 115) }, { hash := PyData.keyHash P (Str.ofString "is_active"), key := Value.str (Str.ofString "is_active") 346, val := Value.ref (nat_lit 122) }, { hash := PyData.keyHash P (Str.ofString "__bool__"), key := Value.str (Str.ofString "__bool__") 353, val := Value.ref (nat_lit 129) }, { hash := PyData.keyHash P (Str.ofString "done"), key := Value.str (Str.ofString "done") 367, val := Value.ref (nat_lit 136) }, { hash := PyData.keyHash P (Str.ofString "_find_cycle"), key := Value.str (Str.ofString "_find_cycle") 380, val := Value.ref (nat_lit 143) }, { hash := PyData.keyHash P (Str.ofString "static_order"), key := Value.str (Str.ofString "static_order") 387, val := Value.ref (nat_lit 150) }, { hash := PyData.keyHash P (Str.ofString "__static_attributes__"), key := Value.str (Str.ofString "__static_attributes__") 392, val := Value.ref (nat_lit 151) }, { hash := PyData.keyHash P (Str.ofString "__dict__"), key := Value.str (Str.ofString "__dict__") 394, val := Value.ref (nat_lit 154) }, { hash := PyData.keyHash P (Str.ofString "__weakref__"), key := Value.str (Str.ofString "__weakref__") 396, val := Value.ref (nat_lit 155) }, { hash := PyData.keyHash P (Str.ofString "__doc__"), key := Value.str (Str.ofString "__doc__") 397, val := Value.none }] 4 }) ::
  (nat_lit 153, { cls := Value.type "type", data := Data.cls { name := Str.ofString "TopologicalSorter", bases := [Value.type "object"], mro := [Value.ref (nat_lit 153), Value.type "object"], ns := 152, qualname := Str.ofString "TopologicalSorter" }, slots := #[none, none, some (Value.str (Str.ofString "TopologicalSorter") 281), some (Value.str (Str.ofString "TopologicalSorter") 289), some (Value.builtin "object.__new__"), some (Value.bool true)] }) ::
  (nat_lit 154, { cls := Value.type "getset_descriptor", data := Data.fields #[Value.str (Str.ofString "__dict__") 393, Value.ref (nat_lit 153), Value.builtin "function.__dict__", Value.builtin "function.__dict__#set"] }) ::
  (nat_lit 155, { cls := Value.type "getset_descriptor", data := Data.fields #[Value.str (Str.ofString "__weakref__") 395, Value.ref (nat_lit 153), Value.builtin "ExceptionGroup.__weakref__", Value.none] }) ::
  (nat_lit 158, { cls := Value.type "tuple", data := Data.seq #[] }) ::
  (nat_lit 160, { cls := Value.type "tuple", data := Data.seq #[Value.str (Str.ofString "x") 405, Value.str (Str.ofString "what") 406, Value.str (Str.ofString "kind") 407] }) ::
  (nat_lit 161, { cls := Value.type "tuple", data := Data.seq #[] }) ::
  (nat_lit 163, { cls := Value.type "code", data := Data.fields #[Value.str (Str.ofString "_plain_name") 402, Value.str (Str.ofString "_plain_name") 403, Value.str (Str.ofString "/claim/cut.py") 404, Value.int 162 0, Value.int 2 0, Value.int 0 0, Value.int 0 0, Value.int 3 0, Value.ref (nat_lit 158), Value.bool true, Value.int 181 0, Value.ref (nat_lit 159), Value.none, Value.ref (nat_lit 160), Value.ref (nat_lit 161), Value.ref (nat_lit 162), Value.int 408 0, Value.int 162 0, Value.str (Str.ofString "/claim/cut.py") 409] }) ::
  (nat_lit 164, { cls := Value.type "function", data := Data.func { name := Str.ofString "_plain_name", qualname := Str.ofString "_plain_name", params := sA (sT 12), body := FuncBody.stmts (sB (sT 12)), scope := sS (sT 12), globals := 3, closure := [], defaults := Value.none, kwdefaults := Value.none, pyModule := Value.str (Str.ofString "os") 400, code := Value.ref (nat_lit 163) } }) ::
  (nat_lit 165, { cls := Value.type "tuple", data := Data.seq #[Value.type "type"] }) ::
  (nat_lit 172, { cls := Value.type "tuple", data := Data.seq #[] }) ::
  (nat_lit 174, { cls := Value.type "tuple", data := Data.seq #[Value.str (Str.ofString "cls") 428, Value.str (Str.ofString "subclass") 429] }) ::
  (nat_lit 175, { cls := Value.type "tuple", data := Data.seq #[] }) ::
  (nat_lit 177, { cls := Value.type "code", data := Data.fields #[Value.str (Str.ofString "register") 425, Value.str (Str.ofString "ABCMeta.register") 426, Value.str (Str.ofString "/claim/cut.py") 427, Value.int 170 0, Value.int 2 0, Value.int 0 0, Value.int 0 0, Value.int 3 0, Value.ref (nat_lit 172), Value.bool true, Value.int 181 0, Value.ref (nat_lit 173), Value.none, Value.ref (nat_lit 174), Value.ref (nat_lit 175), Value.ref (nat_lit 176), Value.int 430 0, Value.int 170 0, Value.str (Str.ofString "/claim/cut.py") 431] }) ::
  (nat_lit 178, { cls := Value.type "function", data := Data.func { name := Str.ofString "register", qualname := Str.ofString "ABCMeta.register", params := sA (sM 14 0), body := FuncBody.stmts (sB (sM 14 0)), scope := sS (sM 14 0), globals := 3, closure := [], defaults := Value.none, kwdefaults := Value.none, pyModule := Value.str (Str.ofString "abc") 411, code := Value.ref (nat_lit 177) } }) ::
  (nat_lit 179, { cls := Value.type "tuple", data := Data.seq #[] }) ::
  (nat_lit 180, { cls := Value.type "dict", data := Data.dict #[{ hash := PyData.keyHash P (Str.ofString "__module__"), key := Value.str (Str.ofString "__module__") 420, val := Value.str (Str.ofString "abc") 411 }, { hash := PyData.keyHash P (Str.ofString "__firstlineno__"), key := Value.str (Str.ofString "__firstlineno__") 424, val := Value.int 168 423 }, { hash := PyData.keyHash P (Str.ofString "register"), key := Value.str (Str.ofString "register") 432, val := Value.ref (nat_lit 178) }, { hash := PyData.keyHash P (Str.ofString "__static_attributes__"), key := Value.str (Str.ofString "__static_attributes__") 433, val := Value.ref (nat_lit 179) }, { hash := PyData.keyHash P (Str.ofString "__doc__"), key := Value.str (Str.ofString "__doc__") 434, val := Value.none }] 2 }) ::
  (nat_lit 181, { cls := Value.type "type", data := Data.cls { name := Str.ofString "ABCMeta", bases := [Value.type "type"], mro := [Value.ref (nat_lit 181), Value.type "type", Value.type "object"], ns := 180, qualname := Str.ofString "ABCMeta", subclasses := [Value.ref (nat_lit 214)] }, slots := #[some (Value.ref (nat_lit 165)), none, some (Value.str (Str.ofString "ABCMeta") 413), some (Value.str (Str.ofString "ABCMeta") 421), some (Value.builtin "type.__new__"), some (Value.bool true)] }) ::
  (nat_lit 184, { cls := Value.type "tuple", data := Data.seq #[Value.ref (nat_lit 181)] }) ::
  (nat_lit 191, { cls := Value.type "tuple", data := Data.seq #[] }) ::
  (nat_lit 193, { cls := Value.type "tuple", data := Data.seq #[Value.str (Str.ofString "cls") 454, Value.str (Str.ofString "instance") 455, Value.str (Str.ofString "C") 456] }) ::
  (nat_lit 194, { cls := Value.type "tuple", data := Data.seq #[] }) ::
  (nat_lit 196, { cls := Value.type "code", data := Data.fields #[Value.str (Str.ofString "__instancecheck__") 451, Value.str (Str.ofString "_ABCLike.__instancecheck__") 452, Value.str (Str.ofString "/claim/cut.py") 453, Value.int 175 0, Value.int 2 0, Value.int 0 0, Value.int 0 0, Value.int 3 0, Value.ref (nat_lit 191), Value.bool true, Value.int 181 0, Value.ref (nat_lit 192), Value.none, Value.ref (nat_lit 193), Value.ref (nat_lit 194), Value.ref (nat_lit 195), Value.int 457 0, Value.int 175 0, Value.str (Str.ofString "/claim/cut.py") 458] }) ::
  (nat_lit 197, { cls := Value.type "function", data := Data.func { name := Str.ofString "__instancecheck__", qualname := Str.ofString "_ABCLike.__instancecheck__", params := sA (sM 16 0), body := FuncBody.stmts (sB (sM 16 0)), scope := sS (sM 16 0), globals := 3, closure := [], defaults := Value.none, kwdefaults := Value.none, pyModule := Value.str (Str.ofString "collections.abc") 437, code := Value.ref (nat_lit 196) } }) ::
  (nat_lit 198, { cls := Value.type "tuple", data := Data.seq #[] }) ::
  (nat_lit 200, { cls := Value.type "tuple", data := Data.seq #[Value.str (Str.ofString "cls") 463, Value.str (Str.ofString "C") 464] }) ::
  (nat_lit 201, { cls := Value.type "tuple", data := Data.seq #[] }) ::
  (nat_lit 203, { cls := Value.type "code", data := Data.fields #[Value.str (Str.ofString "__subclasscheck__") 460, Value.str (Str.ofString "_ABCLike.__subclasscheck__") 461, Value.str (Str.ofString "/claim/cut.py") 462, Value.int 181 0, Value.int 2 0, Value.int 0 0, Value.int 0 0, Value.int 3 0, Value.ref (nat_lit 198), Value.bool true, Value.int 181 0, Value.ref (nat_lit 199), Value.none, Value.ref (nat_lit 200), Value.ref (nat_lit 201), Value.ref (nat_lit 202), Value.int 465 0, Value.int 181 0, Value.str (Str.ofString "/claim/cut.py") 466] }) ::
  (nat_lit 204, { cls := Value.type "function", data := Data.func { name := Str.ofString "__subclasscheck__", qualname := Str.ofString "_ABCLike.__subclasscheck__", params := sA (sM 16 1), body := FuncBody.stmts (sB (sM 16 1)), scope := sS (sM 16 1), globals := 3, closure := [], defaults := Value.none, kwdefaults := Value.none, pyModule := Value.str (Str.ofString "collections.abc") 437, code := Value.ref (nat_lit 203) } }) ::
  (nat_lit 205, { cls := Value.type "tuple", data := Data.seq #[] }) ::
  (nat_lit 207, { cls := Value.type "tuple", data := Data.seq #[Value.str (Str.ofString "cls") 471, Value.str (Str.ofString "subclass") 472] }) ::
  (nat_lit 208, { cls := Value.type "tuple", data := Data.seq #[] }) ::
  (nat_lit 210, { cls := Value.type "code", data := Data.fields #[Value.str (Str.ofString "register") 468, Value.str (Str.ofString "_ABCLike.register") 469, Value.str (Str.ofString "/claim/cut.py") 470, Value.int 186 0, Value.int 2 0, Value.int 0 0, Value.int 0 0, Value.int 3 0, Value.ref (nat_lit 205), Value.bool true, Value.int 181 0, Value.ref (nat_lit 206), Value.none, Value.ref (nat_lit 207), Value.ref (nat_lit 208), Value.ref (nat_lit 209), Value.int 473 0, Value.int 186 0, Value.str (Str.ofString "/claim/cut.py") 474] }) ::
  (nat_lit 211, { cls := Value.type "function", data := Data.func { name := Str.ofString "register", qualname := Str.ofString "_ABCLike.register", params := sA (sM 16 2), body := FuncBody.stmts (sB (sM 16 2)), scope := sS (sM 16 2), globals := 3, closure := [], defaults := Value.none, kwdefaults := Value.none, pyModule := Value.str (Str.ofString "collections.abc") 437, code := Value.ref (nat_lit 210) } }) ::
  (nat_lit 212, { cls := Value.type "tuple", data := Data.seq #[] }) ::
  (nat_lit 213, { cls := Value.type "dict", data := Data.dict #[{ hash := PyData.keyHash P (Str.ofString "__module__"), key := Value.str (Str.ofString "__module__") 446, val := Value.str (Str.ofString "collections.abc") 437 }, { hash := PyData.keyHash P (Str.ofString "__firstlineno__"), key := Value.str (Str.ofString "__firstlineno__") 450, val := Value.int 173 449 }, { hash := PyData.keyHash P (Str.ofString "__instancecheck__"), key := Value.str (Str.ofString "__instancecheck__") 459, val := Value.ref (nat_lit 197) }, { hash := PyData.keyHash P (Str.ofString "__subclasscheck__"), key := Value.str (Str.ofString "__subclasscheck__") 467, val := Value.ref (nat_lit 204) }, { hash := PyData.keyHash P (Str.ofString "register"), key := Value.str (Str.ofString "register") 475, val := Value.ref (nat_lit 211) }, { hash := PyData.keyHash P (Str.ofString "__static_attributes__"), key := Value.str (Str.ofString "__static_attributes__") 476, val := Value.ref (nat_lit 212) }, { hash := PyData.keyHash P (Str.ofString "__doc__"), key := Value.str (Str.ofString "__doc__") 477, val := Value.none }] 2 }) ::
  (nat_lit 214, { cls := Value.type "type", data := Data.cls { name := Str.ofString "_ABCLike", bases := [Value.ref (nat_lit 181)], mro := [Value.ref (nat_lit 214), Value.ref (nat_lit 181), Value.type "type", Value.type "object"], ns := 213, qualname := Str.ofString "_ABCLike" }, slots := #[some (Value.ref (nat_lit 184)), none, some (Value.str (Str.ofString "_ABCLike") 439), some (Value.str (Str.ofString "_ABCLike") 447), some (Value.builtin "type.__new__"), some (Value.bool true)] }) ::
  (nat_lit 217, { cls := Value.type "tuple", data := Data.seq #[] }) ::
  (nat_lit 219, { cls := Value.type "tuple", data := Data.seq #[Value.str (Str.ofString "C") 483] }) ::
  (nat_lit 220, { cls := Value.type "tuple", data := Data.seq #[] }) ::
  (nat_lit 222, { cls := Value.type "code", data := Data.fields #[Value.str (Str.ofString "_abc_plain_meta") 480, Value.str (Str.ofString "_abc_plain_meta") 481, Value.str (Str.ofString "/claim/cut.py") 482, Value.int 188 0, Value.int 1 0, Value.int 0 0, Value.int 0 0, Value.int 3 0, Value.ref (nat_lit 217), Value.bool true, Value.int 181 0, Value.ref (nat_lit 218), Value.none, Value.ref (nat_lit 219), Value.ref (nat_lit 220), Value.ref (nat_lit 221), Value.int 484 0, Value.int 188 0, Value.str (Str.ofString "/claim/cut.py") 485] }) ::
  (nat_lit 223, { cls := Value.type "function", data := Data.func { name := Str.ofString "_abc_plain_meta", qualname := Str.ofString "_abc_plain_meta", params := sA (sT 17), body := FuncBody.stmts (sB (sT 17)), scope := sS (sT 17), globals := 3, closure := [], defaults := Value.none, kwdefaults := Value.none, pyModule := Value.str (Str.ofString "collections.abc") 437, code := Value.ref (nat_lit 222) } }) ::
  (nat_lit 224, { cls := Value.type "tuple", data := Data.seq #[] }) ::
  (nat_lit 226, { cls := Value.type "tuple", data := Data.seq #[Value.str (Str.ofString "path") 492, Value.str (Str.ofString "kind") 493, Value.str (Str.ofString "hook") 494, Value.str (Str.ofString "given") 495] }) ::
  (nat_lit 227, { cls := Value.type "tuple", data := Data.seq #[] }) ::
  (nat_lit 229, { cls := Value.type "code", data := Data.fields #[Value.str (Str.ofString "fspath") 489, Value.str (Str.ofString "fspath") 490, Value.str (Str.ofString "/claim/cut.py") 491, Value.int 192 0, Value.int 1 0, Value.int 0 0, Value.int 0 0, Value.int 3 0, Value.ref (nat_lit 224), Value.bool true, Value.int 181 0, Value.ref (nat_lit 225), Value.none, Value.ref (nat_lit 226), Value.ref (nat_lit 227), Value.ref (nat_lit 228), Value.int 496 0, Value.int 192 0, Value.str (Str.ofString "/claim/cut.py") 497] }) ::
  (nat_lit 230, { cls := Value.type "function", data := Data.func { name := Str.ofString "fspath", qualname := Str.ofString "fspath", params := sA (sT 19), body := FuncBody.stmts (sB (sT 19)), scope := sS (sT 19), globals := 3, closure := [], defaults := Value.none, kwdefaults := Value.none, pyModule := Value.str (Str.ofString "os") 487, code := Value.ref (nat_lit 229) } }) ::
  (nat_lit 231, { cls := Value.type "tuple", data := Data.seq #[] }) ::
  (nat_lit 233, { cls := Value.type "tuple", data := Data.seq #[Value.str (Str.ofString "funcname") 504, Value.str (Str.ofString "args") 505, Value.str (Str.ofString "hasstr") 506, Value.str (Str.ofString "hasbytes") 507, Value.str (Str.ofString "s") 508] }) ::
  (nat_lit 234, { cls := Value.type "tuple", data := Data.seq #[] }) ::
  (nat_lit 236, { cls := Value.type "code", data := Data.fields #[Value.str (Str.ofString "_check_arg_types") 501, Value.str (Str.ofString "_check_arg_types") 502, Value.str (Str.ofString "/claim/cut.py") 503, Value.int 209 0, Value.int 1 0, Value.int 0 0, Value.int 0 0, Value.int 7 0, Value.ref (nat_lit 231), Value.bool true, Value.int 181 0, Value.ref (nat_lit 232), Value.none, Value.ref (nat_lit 233), Value.ref (nat_lit 234), Value.ref (nat_lit 235), Value.int 509 0, Value.int 209 0, Value.str (Str.ofString "/claim/cut.py") 510] }) ::
  (nat_lit 237, { cls := Value.type "function", data := Data.func { name := Str.ofString "_check_arg_types", qualname := Str.ofString "_check_arg_types", params := sA (sT 21), body := FuncBody.stmts (sB (sT 21)), scope := sS (sT 21), globals := 3, closure := [], defaults := Value.none, kwdefaults := Value.none, pyModule := Value.str (Str.ofString "cpy313.genericpath") 499, code := Value.ref (nat_lit 236) } }) ::
  (nat_lit 238, { cls := Value.type "tuple", data := Data.seq #[] }) ::
  (nat_lit 240, { cls := Value.type "tuple", data := Data.seq #[Value.str (Str.ofString "path") 517] }) ::
  (nat_lit 241, { cls := Value.type "tuple", data := Data.seq #[] }) ::
  (nat_lit 243, { cls := Value.type "code", data := Data.fields #[Value.str (Str.ofString "_get_sep") 514, Value.str (Str.ofString "_get_sep") 515, Value.str (Str.ofString "/claim/cut.py") 516, Value.int 221 0, Value.int 1 0, Value.int 0 0, Value.int 0 0, Value.int 3 0, Value.ref (nat_lit 238), Value.bool true, Value.int 181 0, Value.ref (nat_lit 239), Value.none, Value.ref (nat_lit 240), Value.ref (nat_lit 241), Value.ref (nat_lit 242), Value.int 518 0, Value.int 221 0, Value.str (Str.ofString "/claim/cut.py") 519] }) ::
  (nat_lit 244, { cls := Value.type "function", data := Data.func { name := Str.ofString "_get_sep", qualname := Str.ofString "_get_sep", params := sA (sT 23), body := FuncBody.stmts (sB (sT 23)), scope := sS (sT 23), globals := 3, closure := [], defaults := Value.none, kwdefaults := Value.none, pyModule := Value.str (Str.ofString "cpy313.posixpath") 512, code := Value.ref (nat_lit 243) } }) ::
  (nat_lit 245, { cls := Value.type "tuple", data := Data.seq #[] }) ::
  (nat_lit 247, { cls := Value.type "tuple", data := Data.seq #[Value.str (Str.ofString "a") 524, Value.str (Str.ofString "p") 525, Value.str (Str.ofString "sep") 526, Value.str (Str.ofString "path") 527, Value.str (Str.ofString "b") 528] }) ::
  (nat_lit 248, { cls := Value.type "tuple", data := Data.seq #[] }) ::
  (nat_lit 250, { cls := Value.type "code", data := Data.fields #[Value.str (Str.ofString "join") 521, Value.str (Str.ofString "join") 522, Value.str (Str.ofString "/claim/cut.py") 523, Value.int 226 0, Value.int 1 0, Value.int 0 0, Value.int 0 0, Value.int 7 0, Value.ref (nat_lit 245), Value.bool true, Value.int 181 0, Value.ref (nat_lit 246), Value.none, Value.ref (nat_lit 247), Value.ref (nat_lit 248), Value.ref (nat_lit 249), Value.int 529 0, Value.int 226 0, Value.str (Str.ofString "/claim/cut.py") 530] }) ::
  (nat_lit 251, { cls := Value.type "function", data := Data.func { name := Str.ofString "join", qualname := Str.ofString "join", params := sA (sT 24), body := FuncBody.stmts (sB (sT 24)), scope := sS (sT 24), globals := 3, closure := [], defaults := Value.none, kwdefaults := Value.none, pyModule := Value.str (Str.ofString "cpy313.posixpath") 512, code := Value.ref (nat_lit 250) } }) ::
  (nat_lit 252, { cls := Value.type "tuple", data := Data.seq #[] }) ::
  (nat_lit 254, { cls := Value.type "tuple", data := Data.seq #[Value.str (Str.ofString "p") 535, Value.str (Str.ofString "sep") 536, Value.str (Str.ofString "i") 537, Value.str (Str.ofString "head") 538] }) ::
  (nat_lit 255, { cls := Value.type "tuple", data := Data.seq #[] }) ::
  (nat_lit 257, { cls := Value.type "code", data := Data.fields #[Value.str (Str.ofString "dirname") 532, Value.str (Str.ofString "dirname") 533, Value.str (Str.ofString "/claim/cut.py") 534, Value.int 243 0, Value.int 1 0, Value.int 0 0, Value.int 0 0, Value.int 3 0, Value.ref (nat_lit 252), Value.bool true, Value.int 181 0, Value.ref (nat_lit 253), Value.none, Value.ref (nat_lit 254), Value.ref (nat_lit 255), Value.ref (nat_lit 256), Value.int 539 0, Value.int 243 0, Value.str (Str.ofString "/claim/cut.py") 540] }) ::
  (nat_lit 258, { cls := Value.type "function", data := Data.func { name := Str.ofString "dirname", qualname := Str.ofString "dirname", params := sA (sT 25), body := FuncBody.stmts (sB (sT 25)), scope := sS (sT 25), globals := 3, closure := [], defaults := Value.none, kwdefaults := Value.none, pyModule := Value.str (Str.ofString "cpy313.posixpath") 512, code := Value.ref (nat_lit 257) } }) ::
  (nat_lit 259, { cls := Value.type "tuple", data := Data.seq #[] }) ::
  (nat_lit 262, { cls := Value.type "code", data := Data.fields #[Value.str (Str.ofString "commonpath") 542, Value.str (Str.ofString "commonpath") 543, Value.str (Str.ofString "/claim/cut.py") 544, Value.int 251 0, Value.int 1 0, Value.int 0 0, Value.int 0 0, Value.int 3 0, Value.ref (nat_lit 259), Value.bool true, Value.int 181 0, Value.ref (nat_lit 260), Value.none, Value.none, Value.none, Value.ref (nat_lit 261), Value.int 545 0, Value.int 251 0, Value.str (Str.ofString "/claim/cut.py") 546] }) ::
  (nat_lit 263, { cls := Value.type "function", data := Data.func { name := Str.ofString "commonpath", qualname := Str.ofString "commonpath", params := sA (sT 26), body := FuncBody.stmts (sB (sT 26)), scope := sS (sT 26), globals := 3, closure := [], defaults := Value.none, kwdefaults := Value.none, pyModule := Value.str (Str.ofString "cpy313.posixpath") 512, code := Value.ref (nat_lit 262) } }) ::
  (nat_lit 264, { cls := Value.type "tuple", data := Data.seq #[] }) ::
  (nat_lit 267, { cls := Value.type "code", data := Data.fields #[Value.str (Str.ofString "_law_rows") 550, Value.str (Str.ofString "_law_rows") 551, Value.str (Str.ofString "/claim/cut.py") 552, Value.int 281 0, Value.int 1 0, Value.int 0 0, Value.int 0 0, Value.int 3 0, Value.ref (nat_lit 264), Value.bool true, Value.int 181 0, Value.ref (nat_lit 265), Value.none, Value.none, Value.none, Value.ref (nat_lit 266), Value.int 553 0, Value.int 281 0, Value.str (Str.ofString "/claim/cut.py") 554] }) ::
  (nat_lit 268, { cls := Value.type "function", data := Data.func { name := Str.ofString "_law_rows", qualname := Str.ofString "_law_rows", params := sA (sT 28), body := FuncBody.stmts (sB (sT 28)), scope := sS (sT 28), globals := 3, closure := [], defaults := Value.none, kwdefaults := Value.none, pyModule := Value.str (Str.ofString "law_in0152_01") 548, code := Value.ref (nat_lit 267) } }) ::
  (nat_lit 269, { cls := Value.type "tuple", data := Data.seq #[] }) ::
  (nat_lit 272, { cls := Value.type "code", data := Data.fields #[Value.str (Str.ofString "_law_compared") 556, Value.str (Str.ofString "_law_compared") 557, Value.str (Str.ofString "/claim/cut.py") 558, Value.int 289 0, Value.int 2 0, Value.int 0 0, Value.int 0 0, Value.int 3 0, Value.ref (nat_lit 269), Value.bool true, Value.int 181 0, Value.ref (nat_lit 270), Value.none, Value.none, Value.none, Value.ref (nat_lit 271), Value.int 559 0, Value.int 289 0, Value.str (Str.ofString "/claim/cut.py") 560] }) ::
  (nat_lit 273, { cls := Value.type "function", data := Data.func { name := Str.ofString "_law_compared", qualname := Str.ofString "_law_compared", params := sA (sT 29), body := FuncBody.stmts (sB (sT 29)), scope := sS (sT 29), globals := 3, closure := [], defaults := Value.none, kwdefaults := Value.none, pyModule := Value.str (Str.ofString "law_in0152_01") 548, code := Value.ref (nat_lit 272) } }) ::
  (nat_lit 274, { cls := Value.type "tuple", data := Data.seq #[] }) ::
  (nat_lit 277, { cls := Value.type "code", data := Data.fields #[Value.str (Str.ofString "_law_let") 562, Value.str (Str.ofString "_law_let") 563, Value.str (Str.ofString "/claim/cut.py") 564, Value.int 295 0, Value.int 1 0, Value.int 0 0, Value.int 0 0, Value.int 3 0, Value.ref (nat_lit 274), Value.bool true, Value.int 181 0, Value.ref (nat_lit 275), Value.none, Value.none, Value.none, Value.ref (nat_lit 276), Value.int 565 0, Value.int 295 0, Value.str (Str.ofString "/claim/cut.py") 566] }) ::
  (nat_lit 278, { cls := Value.type "function", data := Data.func { name := Str.ofString "_law_let", qualname := Str.ofString "_law_let", params := sA (sT 30), body := FuncBody.stmts (sB (sT 30)), scope := sS (sT 30), globals := 3, closure := [], defaults := Value.none, kwdefaults := Value.none, pyModule := Value.str (Str.ofString "law_in0152_01") 548, code := Value.ref (nat_lit 277) } }) ::
  (nat_lit 279, { cls := Value.type "tuple", data := Data.seq #[] }) ::
  (nat_lit 282, { cls := Value.type "code", data := Data.fields #[Value.str (Str.ofString "law") 568, Value.str (Str.ofString "law") 569, Value.str (Str.ofString "/claim/cut.py") 570, Value.int 308 0, Value.int 1 0, Value.int 0 0, Value.int 0 0, Value.int 3 0, Value.ref (nat_lit 279), Value.bool true, Value.int 181 0, Value.ref (nat_lit 280), Value.none, Value.none, Value.none, Value.ref (nat_lit 281), Value.int 571 0, Value.int 308 0, Value.str (Str.ofString "/claim/cut.py") 572] }) ::
  (nat_lit 283, { cls := Value.type "function", data := Data.func { name := Str.ofString "law", qualname := Str.ofString "law", params := sA (sT 31), body := FuncBody.stmts (sB (sT 31)), scope := sS (sT 31), globals := 3, closure := [], defaults := Value.none, kwdefaults := Value.none, pyModule := Value.str (Str.ofString "law_in0152_01") 548, code := Value.ref (nat_lit 282) } }) ::
  []
end Mine
end

section
open PySem PySem.W PySem.W.X PyProof.Rows
set_option Elab.async false
set_option maxRecDepth 100000
set_option maxHeartbeats 0
namespace Mine
theorem lnH1 : True := by
  k_with_none
  trivial
noncomputable def adrs : List Addr := [2, 3, 15, 17, 18, 20, 21, 22, 24, 25, 27, 28, 29, 30, 31, 33, 34, 36, 37, 45, 46, 48, 49, 51, 52, 53, 55, 56, 57, 58, 59, 62, 69, 70, 71, 72, 82, 83, 85, 86, 88, 89, 90, 92, 93, 95, 96, 97, 99, 100, 102, 103, 104, 107, 108, 109, 111, 112, 114, 115, 116, 118, 119, 121, 122, 123, 125, 126, 128, 129, 130, 132, 133, 135, 136, 137, 139, 140, 142, 143, 144, 146, 147, 149, 150, 151, 152, 153, 154, 155, 158, 160, 161, 163, 164, 165, 172, 174, 175, 177, 178, 179, 180, 181, 184, 191, 193, 194, 196, 197, 198, 200, 201, 203, 204, 205, 207, 208, 210, 211, 212, 213, 214, 217, 219, 220, 222, 223, 224, 226, 227, 229, 230, 231, 233, 234, 236, 237, 238, 240, 241, 243, 244, 245, 247, 248, 250, 251, 252, 254, 255, 257, 258, 259, 262, 263, 264, 267, 268, 269, 272, 273, 274, 277, 278, 279, 282, 283]
theorem adrs_eq (P : Params) : adrs = (frag P).map (·.1) := by kernel_rfl!
noncomputable abbrev hook : Hook := kmHook frag adrs adrs_eq [23]
noncomputable abbrev loose : List Str := [Str.ofString "_initial_missing", Str.ofString "reduce", Str.ofString "_NodeInfo"]
noncomputable abbrev PP : Program := PySem.Challenge.rw_in0152_01.row.toRowW.1
theorem b0 : opening PP = plainProg PP.main.scope.names := by kernel_rfl
theorem b1 (s : Shared) : fenceModules? PP s = some s := by kernel_rfl
theorem left_of {α : Type} {p : Program} {N : Nat} {w : World} {H : Heap} {gs : Array GenState} {d : PySem.Drawn} {k : Nat} {f : Shared → α} {r : α} (b : (fencedOpening treeTable p w N).map (fun s => (s.heap, s.gens, s.drawn, s.toks)) = some (H, gs, d, k))
    (h : (fun os => (topFrom treeTable p w N ⟨H, gs, d, k, os⟩).map f) = fun _ => some r) : (openEnds treeTable p w N).map f = some r := by
  unfold openEnds
  revert b
  generalize fencedOpening treeTable p w N = o
  intro b
  cases o with
  | none => exact nomatch b
  | some s =>
    exact (congrArg (fun s' => (topFrom treeTable p w N s').map f) (congrArg (fun q : Heap × Array GenState × PySem.Drawn × Nat => (⟨q.1, q.2.1, q.2.2.1, q.2.2.2, s.os⟩ : Shared)) (Option.some.inj b))).trans (congrFun h s.os)
theorem left0 (w : World) : (fun os => (topFrom treeTable PP w 4276 ⟨boot_heap w.params, Array.mk [], boot_drawn, boot_toks, os⟩).map (fun s => (openSeen view loose (importedModules PP.main.body) (fun s => xlAt view [] s && recOk PySem.Challenge.rw_in0152_01.row.records s) true s, hook.obs s))) = fun _ => some (openGood view loose, hook.val w) := by
  unfold topFrom
  rw [PySem.W.Fast.te14082659384304107361, PySem.W.Fast.te14364793385576792824, PySem.W.Fast.te4187177175401517315]
  kernel_rfl
theorem left (w : World) : (openEnds treeTable PySem.Challenge.rw_in0152_01.row.toRowW.1 w 4276).map (fun s => (openSeen view loose (importedModules PySem.Challenge.rw_in0152_01.row.toRowW.1.main.body) (fun s => xlAt view [] s && recOk PySem.Challenge.rw_in0152_01.row.records s) true s, hook.obs s)) = some (openGood view loose, hook.val w) := left_of (boot_open (p := PP) (N := 4276) b0 (Eq.refl true) b1 w) (left0 w)
theorem said : OpenLaw.wellSaid PySem.Challenge.rw_in0152_01 = true := by
  rw [PySem.W.Fast.te9446332074065402090]
  kernel_rfl
end Mine
end

section
open PySem PySem.W PySem.W.X PyProof.Rows PySem.Calls
set_option Elab.async false
set_option maxRecDepth 100000
set_option maxHeartbeats 0
namespace Mine
theorem lnDev : True := by
  k_with_none
  trivial
noncomputable abbrev LO : List Str := looseW view [Str.ofString "_initial_missing", Str.ofString "reduce", Str.ofString "_NodeInfo"] ++ List.map (fun x => x.name) (recsOf view) ++ List.map (fun x => x.fst) (litsOf view) ++ List.map (fun x => x.name) (clssOf view (looseW view [Str.ofString "_initial_missing", Str.ofString "reduce", Str.ofString "_NodeInfo"]))
noncomputable def CC (dp un : Nat) (w : World) (mean : ExcName → Option Value) (mg mb : Str → Option Value) (f : Addr) (news : List (Addr × Obj)) (vs : List Value) (Ret : (Value → Shared → Prop) → Heap → Addr → (Str → Option Value) → Shared → Prop) : Prop :=
  ∀ (gd : Option (List Code)) (cn : Str) (nm : List (Str × NameKind)) (ig ic : Bool) (mo : List (Str × Const)) (a : Addr) (ccd : Value) (cl : List (Str × Addr)) (outer : List Env) (A₀ : Around) (base h₀ : Heap) (L : Addr) (m : Str → Option Value) (s : Shared) (Q E : Value → Shared → Prop),
    Below A₀ base outer h₀ → Fr h₀ L s.heap m → (frag w.params).In h₀ → News h₀ L s.heap news → Top topProg LO mean mg mb h₀ → Ret Q h₀ L m s →
      wpAny (model PySem.Challenge.rw_in0152_01.row.prog w) (ktrTop dp un gd cn { kind := .function, names := nm, isGenerator := ig, isCoroutine := ic, more := mo } L a ccd cl outer) (call (.ref f) vs) Q E s
theorem weaken {α : Type} {M : Model} {A : Around} {t : Sem α} {Q : α → Shared → Prop} {E : Value → Shared → Prop} {s : Shared} {d u : Nat} (h : wpAny M { A with depth := d, units := u } t Q E s) (hd : Nat.ble A.depth d = true) (hu : Nat.ble A.units u = true) :
    wpAny M A t Q E s := fun Γ p hΓ => h Γ p ⟨hΓ.1, Nat.le_trans hΓ.2.1 (Nat.le_of_ble_eq_true hd), hΓ.2.2.1, hΓ.2.2.2.1, Nat.le_trans hΓ.2.2.2.2 (Nat.le_of_ble_eq_true hu)⟩
theorem CC.use {dp un : Nat} {w : World} {mean : ExcName → Option Value} {mg mb : Str → Option Value} {f : Addr} {news : List (Addr × Obj)} {vs : List Value} {Ret : (Value → Shared → Prop) → Heap → Addr → (Str → Option Value) → Shared → Prop}
    (c : CC dp un w mean mg mb f news vs Ret) {A A₀ : Around} {cn : Str} {nm : List (Str × NameKind)} {ig ic : Bool} {mo : List (Str × Const)} {a : Addr} {ccd : Value} {cl : List (Str × Addr)} {outer : List Env} {base h₀ : Heap} {L : Addr} {m : Str → Option Value} {s : Shared} {Q E : Value → Shared → Prop}
    (B : Below A₀ base outer h₀) (F : Fr h₀ L s.heap m) (X : (frag w.params).In h₀) (N : News h₀ L s.heap news) (T : Top topProg LO mean mg mb h₀) (hh : A.handled = none)
    (hf : A.frames = some (envX cn { kind := .function, names := nm, isGenerator := ig, isCoroutine := ic, more := mo } L a ccd cl :: outer)) (hd' : Nat.ble A.depth dp = true) (hu : Nat.ble A.units un = true)
    (r : Ret Q h₀ L m s) : wpAny (model PySem.Challenge.rw_in0152_01.row.prog w) A (call (.ref f) vs) Q E s := by
  refine weaken (d := dp) (u := un) ?_ hd' hu
  have e : ({ A with depth := dp, units := un } : Around) = ktrTop dp un A.guards cn { kind := .function, names := nm, isGenerator := ig, isCoroutine := ic, more := mo } L a ccd cl outer := by
    obtain ⟨x1, x2, x3, x4, x5⟩ := A
    dsimp only at hh hf ⊢
    rw [hh, hf]
  rw [e]
  exact c _ _ _ _ _ _ _ _ _ _ _ _ _ _ _ _ _ _ B F X N T r
theorem fa_cons {α : Type} {a : α} {l : List α} {P : α → Prop} (h : P a) (t : ∀ q ∈ l, P q) : ∀ q ∈ a :: l, P q := fun q hq => by
  rcases List.mem_cons.mp hq with rfl | hq
  · exact h
  · exact t q hq
end Mine
end

section
open PySem PySem.W PySem.W.X PyProof.Rows PySem.Calls
set_option Elab.async false
set_option maxRecDepth 100000
set_option maxHeartbeats 0
namespace Mine
theorem lnB1 : True := by
  k_with_none
  trivial
noncomputable def AX (A : Around) : Around := { A with depth := 950, units := 9500, frames := none, guards := none }
theorem in_AX {α : Type} {M : Model} {A : Around} {t : Sem α} {Q : α → Shared → Prop} {E : Value → Shared → Prop} {s : Shared} (h : wpAny M (AX A) t Q E s) (hd : Nat.ble A.depth 950 = true) (hu : Nat.ble A.units 9500 = true) :
    wpAny M A t Q E s := fun Γ p hΓ => h Γ p ⟨hΓ.1, Nat.le_trans hΓ.2.1 (Nat.le_of_ble_eq_true hd), fun _ e => (nomatch e), fun _ e => (nomatch e), Nat.le_trans hΓ.2.2.2.2 (Nat.le_of_ble_eq_true hu)⟩
noncomputable def Grow (h h' : Heap) : Prop := ∀ b o, h.get? b = some o → h'.get? b = some o
noncomputable def Grew (s s' : Shared) : Prop := ∃ h tk, s' = { s with heap := h, toks := tk } ∧ Grow s.heap h
section
variable {prog : Program} {w : World} {A : Around} {E : Value → Shared → Prop} {s : Shared} {h₀ : Heap} {L : Addr} {m : Str → Option Value} {news : List (Addr × Obj)} {Q : Value → Shared → Prop}
theorem by_grew {t : Sem Value} {P : Value → Shared → Prop} (hx : wpAny (model prog w) (AX A) t (fun v s' => P v s' ∧ Grew s s') (fun _ _ => False) s) (F : Fr h₀ L s.heap m) (N : News h₀ L s.heap news)
    (h : ∀ v h' tk', P v { s with heap := h', toks := tk' } → Grow s.heap h' → Fr h₀ L h' m → News h₀ L h' news → Q v { s with heap := h', toks := tk' })
    (hd : Nat.ble A.depth 950 = true) (hu : Nat.ble A.units 9500 = true) : wpAny (model prog w) A t Q E s :=
  in_AX (wpAny_mono hx (fun v s' ⟨hp, h', tk, e, g⟩ => by subst e; exact h v h' tk hp g (F.keeps g) (N.grown g)) fun _ _ f => f.elim) hd hu
end
theorem lnB1_1 : True := by
  k_with_none
  k_with "zf" => (first | (k_here; k_fold; refine letA ?_; intro aX; (with_reducible rename Fr _ _ _ _ => kF); refine letM kF ?_; clear kF; intro mX kF) | (k_here; k_fold; refine letA ?_; intro aX) | (k_here; k_fold) | (k_here; with_reducible first | refine genT1 fun tk => ?_ | refine genT2 fun tk => ?_) | fail)
  k_with "execs cons" => (first | walk_at "zf" | fail)
  k_with "execs" => (first | walk_at "zf" | fail)
  k_with "execs nil" => (first | (k_here; with_reducible first | refine genT1 fun tk => ?_ | refine genT2 fun tk => ?_) | fail)
  k_with "k_ne" => (first | (refine neN ?_; first | (with_reducible first | assumption | exact Ne.symm (by assumption) | exact ca0 (by assumption) | exact cb0 (by assumption) | exact cc0 (by assumption) | exact cd0 (by assumption) | exact ca1 (by assumption) | exact cb1 (by assumption) | exact cc1 (by assumption) | exact cd1 (by assumption) | exact ca2 (by assumption) | exact cb2 (by assumption) | exact cc2 (by assumption) | exact cd2 (by assumption) | exact ca3 (by assumption) | exact cb3 (by assumption) | exact cc3 (by assumption) | exact cd3 (by assumption) | exact ca4 (by assumption) | exact cb4 (by assumption) | exact cc4 (by assumption) | exact cd4 (by assumption) | exact ca5 (by assumption) | exact cb5 (by assumption) | exact cc5 (by assumption) | exact cd5 (by assumption) | exact ca6 (by assumption) | exact cb6 (by assumption) | exact cc6 (by assumption) | exact cd6 (by assumption) | exact ca7 (by assumption) | exact cb7 (by assumption) | exact cc7 (by assumption) | exact cd7 (by assumption) | exact ca8 (by assumption) | exact cb8 (by assumption) | exact cc8 (by assumption) | exact cd8 (by assumption) | exact ca9 (by assumption) | exact cb9 (by assumption) | exact cc9 (by assumption) | exact cd9 (by assumption) | exact ca10 (by assumption) | exact cb10 (by assumption) | exact cc10 (by assumption) | exact cd10 (by assumption) | exact ca11 (by assumption) | exact cb11 (by assumption) | exact cc11 (by assumption) | exact cd11 (by assumption)) | (refine Nat.ne_of_lt (ltm (o := _) (by with_reducible assumption) ?_); k_mem; done) | (refine Nat.ne_of_gt (ltm (o := _) (by with_reducible assumption) ?_); k_mem; done) | ((try dsimp only); omega)) | fail)
  k_with "x_close" => (first | ((refine ⟨rfl, _, _, rfl, ?_⟩; first | exact fun b o e => e | exact fun b o e => Mem.keep (by assumption) b o e (Bool.or_true _))) | fail)
  trivial
theorem issub_s (prog : Program) (w : World) (A : Around) (s : Shared) (k : Value) (dep : Int) (tk : Tok) (Q : Fin → Shared → Prop) (E : Value → Shared → Prop) (hk : k = .int dep tk) (hq : Q (.done (.ret (.bool true))) s) :
   wpAny (model prog w) A (Builtin.«issubclass.nested» ⟨[.type "str", .type "str", k], []⟩) Q E s := by
  subst hk
  have h2 : isSubtype (.type "str") (.type "str") = pure true := by rw [isSubtype_type]; kernel_rfl
  repeat (any_goals (first | assumption | (rw [h2]) | wp_step))
theorem issub_n (prog : Program) (w : World) (A : Around) (s : Shared) (tp : Addr) (k : Value) (tk : Tok) (Q : Fin → Shared → Prop) (E : Value → Shared → Prop) (hk : k = .int 0 tk) (ht : s.heap.get? tp = some ⟨.type "tuple", none, .seq #[.type "str", .type "bytes"] 0, #[]⟩) (hq : Q (.done (.ret (.bool true))) s) :
   wpAny (model prog w) A (Builtin.«issubclass.nested» ⟨[.type "str", .ref tp, k], []⟩) Q E s := by
  subst hk
  have h1 : isSubtype (.type "tuple") (.type "tuple") = pure true := by rw [isSubtype_type]; kernel_rfl
  repeat (any_goals (first | assumption | (rw [h1]) | wp_step))
  refine codeAny_call_builtin (by decide +kernel) F.entry_issubclass_nested ?_
  rw [show ∀ a b c, checkBuiltinCall "issubclass.nested" ⟨[a, b, c], []⟩ = pure () from fun a b c => by kernel_rfl]
  refine wpAny_pure (issub_s _ _ _ _ _ _ _ _ _ rfl ?_)
  dsimp only
  repeat (any_goals (first | assumption | wp_step))
theorem issub_x (prog : Program) (w : World) (A : Around) (s : Shared) (tp : Addr) (ht : s.heap.get? tp = some ⟨.type "tuple", none, .seq #[.type "str", .type "bytes"] 0, #[]⟩) {Q E : Value → Shared → Prop} (h : Q (.bool true) s) :
   wpAny (model prog w) A (call (.builtin "issubclass") [.type "str", .ref tp]) Q E s :=
  call_issubclass (S := fun _ R s => s.heap.get? tp = some ⟨.type "tuple", none, .seq #[.type "str", .type "bytes"] 0, #[]⟩ ∧ R (.ok (.ret (.bool true))) s) (fun _ _ _ _ _ hs => issubclass_outer (issub_n _ _ _ _ tp _ _ _ _ rfl hs.1 hs.2)) ⟨ht, h⟩
theorem issub_K {prog : Program} {w : World} {A : Around} {E : Value → Shared → Prop} {s : Shared} {h₀ : Heap} {L : Addr} {m : Str → Option Value} {news : List (Addr × Obj)} {Q : Value → Shared → Prop} {tp : Addr}
    (F : Fr h₀ L s.heap m) (N : News h₀ L s.heap news) (hm : (tp, ({ cls := .type "tuple", data := .seq #[.type "str", .type "bytes"] } : Obj)) ∈ news)
    (h : ∀ h' tk', Fr h₀ L h' m → News h₀ L h' news → Q (.bool true) { s with heap := h', toks := tk' }) :
    wpAny (model prog w) A (call (.builtin "issubclass") [.type "str", .ref tp]) Q E s := issub_x prog w A s tp (N.get hm) (h s.heap s.toks F N)
theorem lnB1_2 : True := by
  k_with "call builtin:issubclass" => (first | ((k_here; (k_dflt (refine' issub_K ?F ?N ?m ?_; (case F => k_asm); (case N => k_asm); (case m => k_mem); k_whole)); intro _ _ _ _)) | fail)
  trivial
theorem fspath_c (w : World) (mean : ExcName → Option Value) (mg mb : Str → Option Value) (p : Str) (t : Tok) (news : List (Addr × Obj)) :
  CC 900 9000 w mean mg mb 230 news [.str p t] (fun Q h₀ L m s => ∀ h' tk', Fr h₀ L h' m → News h₀ L h' news → Q (.str p t) { s with heap := h', toks := tk' }) := by
  unfold CC
  k_fill
  intro gd cn nm ig ic mo a ccd cl outer A₀ base h₀ L m s Q E B F X N T hret
  k_steps
  all_goals (refine hret _ _ (by k_asm) ?_; first | k_asm | (refine' cb_drop ?cbN ?cbS; (case cbN => assumption); (case cbS => kcj_all)))
end Mine
end

section
open PySem PySem.W PySem.W.X PyProof.Rows PySem.Calls
set_option Elab.async false
set_option maxRecDepth 100000
set_option maxHeartbeats 0
namespace Mine
theorem lnB2 : True := by
  k_with_none
  trivial
theorem lnB2_1 : True := by
  k_with_none
  k_with "zf" => (first | (k_here; k_fold; refine letA ?_; intro aX; (with_reducible rename Fr _ _ _ _ => kF); refine letM kF ?_; clear kF; intro mX kF) | (k_here; k_fold; refine letA ?_; intro aX) | (k_here; k_fold) | (k_here; with_reducible first | refine genT1 fun tk => ?_ | refine genT2 fun tk => ?_) | fail)
  k_with "execs cons" => (first | walk_at "zf" | fail)
  k_with "execs" => (first | walk_at "zf" | fail)
  k_with "execs nil" => (first | (k_here; with_reducible first | refine genT1 fun tk => ?_ | refine genT2 fun tk => ?_) | fail)
  k_with "k_ne" => (first | (refine neN ?_; first | (with_reducible first | assumption | exact Ne.symm (by assumption) | exact ca0 (by assumption) | exact cb0 (by assumption) | exact cc0 (by assumption) | exact cd0 (by assumption) | exact ca1 (by assumption) | exact cb1 (by assumption) | exact cc1 (by assumption) | exact cd1 (by assumption) | exact ca2 (by assumption) | exact cb2 (by assumption) | exact cc2 (by assumption) | exact cd2 (by assumption) | exact ca3 (by assumption) | exact cb3 (by assumption) | exact cc3 (by assumption) | exact cd3 (by assumption) | exact ca4 (by assumption) | exact cb4 (by assumption) | exact cc4 (by assumption) | exact cd4 (by assumption) | exact ca5 (by assumption) | exact cb5 (by assumption) | exact cc5 (by assumption) | exact cd5 (by assumption) | exact ca6 (by assumption) | exact cb6 (by assumption) | exact cc6 (by assumption) | exact cd6 (by assumption) | exact ca7 (by assumption) | exact cb7 (by assumption) | exact cc7 (by assumption) | exact cd7 (by assumption) | exact ca8 (by assumption) | exact cb8 (by assumption) | exact cc8 (by assumption) | exact cd8 (by assumption) | exact ca9 (by assumption) | exact cb9 (by assumption) | exact cc9 (by assumption) | exact cd9 (by assumption) | exact ca10 (by assumption) | exact cb10 (by assumption) | exact cc10 (by assumption) | exact cd10 (by assumption) | exact ca11 (by assumption) | exact cb11 (by assumption) | exact cc11 (by assumption) | exact cd11 (by assumption)) | (refine Nat.ne_of_lt (ltm (o := _) (by with_reducible assumption) ?_); k_mem; done) | (refine Nat.ne_of_gt (ltm (o := _) (by with_reducible assumption) ?_); k_mem; done) | ((try dsimp only); omega)) | fail)
  k_with "call ref" => (first | ((k_here; (with_reducible show wpAny _ _ (call (Value.ref 230) _) _ _ _); (k_dflt (refine' CC.use (fspath_c _ _ _ _ _ _ _) ?k1 ?k2 ?k3 ?k4 ?k5 ?k6 ?k7 ?k8 ?k9 ?_; (case k1 => k_asm); (case k2 => k_asm); (case k3 => k_asm); (case k4 => k_asm); (case k5 => k_asm); (case k6 => exact rfl); (case k7 => exact rfl); (case k8 => exact rfl); (case k9 => exact rfl); k_whole)); intro _ _ _ _)) | fail)
  trivial
noncomputable def dirF (p : Str) : Str := if (Txt.slice p none (some (Txt.rfind p (Str.ofString "/") + 1))).length = 0 then Txt.slice p none (some (Txt.rfind p (Str.ofString "/") + 1)) else
  if (Txt.slice p none (some (Txt.rfind p (Str.ofString "/") + 1)) != Txt.mul (Str.ofString "/") ((Txt.slice p none (some (Txt.rfind p (Str.ofString "/") + 1))).length : Int)) = true then Txt.rstripChars (Txt.slice p none (some (Txt.rfind p (Str.ofString "/") + 1))) (Str.ofString "/")
  else Txt.slice p none (some (Txt.rfind p (Str.ofString "/") + 1))
theorem dir1 {p : Str} (h1 : ((Txt.slice p none (some (Txt.rfind p (Str.ofString "/") + 1))).length : Int) ≠ 0)
    (h2 : (Txt.slice p none (some (Txt.rfind p (Str.ofString "/") + 1)) != Txt.mul (Str.ofString "/") ((Txt.slice p none (some (Txt.rfind p (Str.ofString "/") + 1))).length : Int)) = true) :
    Txt.rstripChars (Txt.slice p none (some (Txt.rfind p (Str.ofString "/") + 1))) (Str.ofString "/") = dirF p := by
  unfold dirF
  rw [if_neg (by (first | lia | omega)), if_pos h2]
theorem dir2 {p : Str} (h1 : ((Txt.slice p none (some (Txt.rfind p (Str.ofString "/") + 1))).length : Int) ≠ 0)
    (h2 : (Txt.slice p none (some (Txt.rfind p (Str.ofString "/") + 1)) != Txt.mul (Str.ofString "/") ((Txt.slice p none (some (Txt.rfind p (Str.ofString "/") + 1))).length : Int)) = false) :
    Txt.slice p none (some (Txt.rfind p (Str.ofString "/") + 1)) = dirF p := by
  unfold dirF
  rw [if_neg (by (first | lia | omega)), if_neg (by rw [h2]; exact Bool.false_ne_true)]
theorem dir3 {p : Str} (h1 : ((Txt.slice p none (some (Txt.rfind p (Str.ofString "/") + 1))).length : Int) = 0) :
    Txt.slice p none (some (Txt.rfind p (Str.ofString "/") + 1)) = dirF p := by
  unfold dirF
  rw [if_pos (by (first | lia | omega))]
theorem dirname_c (w : World) (mean : ExcName → Option Value) (mg mb : Str → Option Value) (p : Str) (t : Tok) (news : List (Addr × Obj)) (hp : p.length ≤ 1048576) :
  CC 850 8500 w mean mg mb 258 news [.str p t] (fun Q h₀ L m s => ∀ t h' tk', Fr h₀ L h' m → News h₀ L h' news → Q (.str (dirF p) t) { s with heap := h', toks := tk' }) := by
  unfold CC
  k_fill
  intro gd cn nm ig ic mo a ccd cl outer A₀ base h₀ L m s Q E B F X N T hret
  k_steps
  all_goals first
    | (rw [dir1 (by assumption) (by assumption)]; exact hret _ _ _ (by k_asm) (by k_asm))
    | (rw [dir2 (by assumption) (by assumption)]; exact hret _ _ _ (by k_asm) (by k_asm))
    | (rw [dir3 (by assumption)]; exact hret _ _ _ (by k_asm) (by k_asm))
end Mine
end

section
open PySem
set_option Elab.async false
namespace Mine
theorem lnDet : True := by
  k_with_none
  trivial
inductive SI0 (M : Model) (Γ : Ctx) (p : Pos) (t : Sem Fin) (F : Frame) (fs' : List Frame) (s : Shared) (e : End) (s' : Shared) : Prop
  | mk (k h g l c₁ p₁ kp r s₁) : (F = .ret k h g l c₁ p₁ kp) → (Runs M (Γ.over (F :: fs')) p t [] s (.ret r) s₁) → (Runs M (Γ.goto c₁) p₁ (k r) fs' s₁ e s') → SI0 M Γ p t F fs' s e s'
inductive SI1 (M : Model) (Γ : Ctx) (p : Pos) (t : Sem Fin) (F : Frame) (fs' : List Frame) (s : Shared) (e : End) (s' : Shared) : Prop
  | mk (g k l c₁ p₁ r s₁) : (F = .gen g k l c₁ p₁) → (Runs M (Γ.over (F :: fs')) p t [] s (.ret r) s₁) → (Runs M (Γ.goto c₁) p₁ (k (End.ret r).result) fs' (s₁.setGen g .finished) e s') → SI1 M Γ p t F fs' s e s'
inductive SI2 (M : Model) (Γ : Ctx) (p : Pos) (t : Sem Fin) (F : Frame) (fs' : List Frame) (s : Shared) (e : End) (s' : Shared) : Prop
  | mk (v g₀ l₀ k₀ c₀ p₀ fs₀) : (splitAtGen (F :: fs') = none) → (Runs M (Γ.over (F :: fs')) p t [] s (.susp v g₀ l₀ k₀ c₀ p₀ fs₀) s') → (e = .susp v g₀ l₀ k₀ c₀ p₀ (fs₀ ++ F :: fs')) → SI2 M Γ p t F fs' s e s'
inductive SI3 (M : Model) (Γ : Ctx) (p : Pos) (t : Sem Fin) (F : Frame) (fs' : List Frame) (s : Shared) (e : End) (s' : Shared) : Prop
  | mk (pre g k c₁ p₁ rest v g₀ l₀ k₀ c₀ p₀ fs₀ s₁) : (splitAtGen (F :: fs') = some (pre, (g, k, c₁, p₁), rest)) → (Runs M (Γ.over (F :: fs')) p t [] s (.susp v g₀ l₀ k₀ c₀ p₀ fs₀) s₁) → (Runs M (Γ.goto c₁) p₁ (k (.yielded v)) rest (s₁.setGen g (End.susp v g₀ l₀ k₀ c₀ p₀ (fs₀ ++ pre)).genState) e s') → SI3 M Γ p t F fs' s e s'
inductive SC0 (M : Model) (Γ : Ctx) (p : Pos) (c : Code) (h : Option Value) (g : Bool) (l : List Value) (k : Result → Sem Fin) (s : Shared) (e : End) (s' : Shared) : Prop
  | mk (r s₁) : (Runs M (Γ.enter c h p) p (M.den c) [] s (.ret r) s₁) → (Runs M Γ p (k r) [] s₁ e s') → SC0 M Γ p c h g l k s e s'
inductive SC1 (M : Model) (Γ : Ctx) (p : Pos) (c : Code) (h : Option Value) (g : Bool) (l : List Value) (k : Result → Sem Fin) (s : Shared) (e : End) (s' : Shared) : Prop
  | mk (v g₀ l₀ k₀ c₀ p₀ fs₀) : (Runs M (Γ.enter c h p) p (M.den c) [] s (.susp v g₀ l₀ k₀ c₀ p₀ fs₀) s') → (e = .susp v g₀ l₀ k₀ c₀ p₀ (fs₀ ++ [.ret k h g l Γ.code p []])) → SC1 M Γ p c h g l k s e s'
noncomputable def Inv (M : Model) (Γ : Ctx) (p : Pos) (t : Sem Fin) (fs : List Frame) (s : Shared) (e : End) (s' : Shared) : Prop :=
  match fs with
  | F :: fs' => SI0 M Γ p t F fs' s e s' ∨ SI1 M Γ p t F fs' s e s' ∨ SI2 M Γ p t F fs' s e s' ∨ SI3 M Γ p t F fs' s e s'
  | [] => match t with
    | .pure (.done f) => e = .ret (.ok f) ∧ s' = s
    | .pure (.again c) => Runs M (Γ.goto c) p (M.den c) [] s e s'
    | .raise x => e = .ret (.error x) ∧ s' = s
    | .rule _ k => Runs M Γ p (k ()) [] s e s'
    | .at p' k => Runs M Γ p' (k ()) [] s e s'
    | .load a _ k => ∃ o, s.heap.get? a = some o ∧ Runs M Γ p (k o) [] s e s'
    | .update a _ f k => Runs M Γ p (k ()) [] { s with heap := s.heap.update a f } e s'
    | .loadIfAlive a k => Runs M Γ p (k (s.heap.get? a)) [] s e s'
    | .point _ k => Runs M Γ p (k ()) [] s e s'
    | .alloc o k => Runs M Γ p (k s.heap.objs.size) [] { s with heap := s.heap.push o } e s'
    | .fresh k => Runs M Γ p (k s.toks) [] { s with toks := s.toks + 1 } e s'
    | .ask k => Runs M Γ p (k ⟨M.prog, M.w.params⟩) [] s e s'
    | .choose src n k => Runs M Γ p (k (M.w.draws src (s.drawn.get src) % n)) [] { s with drawn := s.drawn.bump src } e s'
    | .os q _ k => Runs M Γ p (k (Os.step s.os q).2) [] { s with os := (Os.step s.os q).1 } e s'
    | .handled own k => Runs M Γ p (k (if own then Γ.own else Γ.handled)) [] s e s'
    | .genState g k => ∃ st, s.gens[g]? = some st ∧ Runs M Γ p (k st.seen) [] s e s'
    | .stack k => Runs M Γ p (k ((Γ.code, p) :: Γ.below)) [] s e s'
    | .thread k => Runs M Γ p (k 0) [] s e s'
    | .newGen c k => Runs M Γ p (k s.gens.size) [] { s with gens := s.gens.push (.fresh c) } e s'
    | .call c h g l k => SC0 M Γ p c h g l k s e s' ∨ SC1 M Γ p c h g l k s e s'
    | .yield v g l k => e = .susp v g l k Γ.code p [] ∧ s' = s
    | .resume g r l k => ∃ st, s.gens[g]? = some st ∧ (match st with
        | .fresh c => (match r with
          | .send v => (v = .none ∧ ∃ e₁ s₁, Runs M (Γ.wake c p) p (M.den c) [] (s.setGen g .running) e₁ s₁ ∧ Runs M Γ p (k e₁.result) [] (s₁.setGen g e₁.genState) e s') ∨ (v ≠ .none ∧ Runs M Γ p (k .justStarted) [] s e s')
          | .throw x => Runs M Γ p (k (.raised x)) [] (s.setGen g .finished) e s')
        | .suspended k₀ _ c₀ p₀ fs _ => ∃ e₁ s₁, Runs M (Γ.wake c₀ p) p₀ (k₀ r) fs (s.setGen g .running) e₁ s₁ ∧ Runs M Γ p (k e₁.result) [] (s₁.setGen g e₁.genState) e s'
        | .running => Runs M Γ p (k .running) [] s e s'
        | .finished => Runs M Γ p (k .finished) [] s e s')
    | _ => True
theorem inv {M : Model} {Γ : Ctx} {p : Pos} {t : Sem Fin} {fs : List Frame} {s : Shared} {e : End} {s' : Shared} (h : Runs M Γ p t fs s e s') : Inv M Γ p t fs s e s' := by
  apply Runs.casesOn (motive := fun Γ p t fs s e s' _ => Inv M Γ p t fs s e s') h
  case done =>
    intros
    exact ⟨rfl, rfl⟩
  case raise =>
    intros
    exact ⟨rfl, rfl⟩
  case again =>
    intros
    rename_i _ a
    exact a
  case rule =>
    intros
    rename_i a
    exact a
  case «at» =>
    intros
    rename_i a
    exact a
  case load =>
    intros
    rename_i ho a
    exact ⟨_, ho, a⟩
  case update =>
    intros
    rename_i _ a
    exact a
  case loadIfAlive =>
    intros
    rename_i a
    exact a
  case point =>
    intros
    rename_i a
    exact a
  case alloc =>
    intros
    rename_i a
    exact a
  case fresh =>
    intros
    rename_i a
    exact a
  case ask =>
    intros
    rename_i a
    exact a
  case choose =>
    intros
    rename_i _ a
    exact a
  case os =>
    intros
    rename_i a
    exact a
  case handled =>
    intros
    rename_i a
    exact a
  case genState =>
    intros
    rename_i hs a
    exact ⟨_, hs, a⟩
  case stack =>
    intros
    rename_i a
    exact a
  case thread =>
    intros
    rename_i a
    exact a
  case newGen =>
    intros
    rename_i a
    exact a
  case call =>
    intros
    rename_i a b
    exact .inl ⟨_, _, a, b⟩
  case callSusp =>
    intros
    rename_i a
    exact .inr ⟨_, _, _, _, _, _, _, a, rfl⟩
  case yield =>
    intros
    exact ⟨rfl, rfl⟩
  case resumeFresh =>
    intros
    rename_i hg a _ b
    exact ⟨_, hg, .inl ⟨rfl, _, _, a, b⟩⟩
  case resumeSuspended =>
    intros
    rename_i hg a _ b
    exact ⟨_, hg, _, _, a, b⟩
  case resumeJustStarted =>
    intros
    rename_i hg hv a
    exact ⟨_, hg, .inr ⟨hv, a⟩⟩
  case resumeThrowFresh =>
    intros
    rename_i hg a
    exact ⟨_, hg, a⟩
  case resumeRunning =>
    intros
    rename_i hg a
    exact ⟨_, hg, a⟩
  case resumeFinished =>
    intros
    rename_i hg a
    exact ⟨_, hg, a⟩
  case segRet =>
    intros
    rename_i a b
    exact .inl ⟨_, _, _, _, _, _, _, _, _, rfl, a, b⟩
  case segGen =>
    intros
    rename_i a b
    exact .inr (.inl ⟨_, _, _, _, _, _, _, rfl, a, b⟩)
  case segSuspOut =>
    intros
    rename_i hs a
    exact .inr (.inr (.inl ⟨_, _, _, _, _, _, _, hs, a, rfl⟩))
  case segSuspGen =>
    intros
    rename_i hs a _ b
    exact .inr (.inr (.inr ⟨_, _, _, _, _, _, _, _, _, _, _, _, _, _, hs, a, b⟩))
theorem ret_susp {r : Result} {v : Value} {g₀ : Bool} {P : Prop} {l₀ k₀ c₀ p₀ fs₀} (h : End.ret r = End.susp v g₀ l₀ k₀ c₀ p₀ fs₀) : P := nomatch h
theorem runs_det {M : Model} {Γ : Ctx} {p : Pos} {t : Sem Fin} {fs : List Frame} {s : Shared} {e : End} {s' : Shared} (h₁ : Runs M Γ p t fs s e s') : ∀ {e₂ : End} {s₂ : Shared}, Runs M Γ p t fs s e₂ s₂ → e = e₂ ∧ s' = s₂ := by
  have two : ∀ {α : Type} {o : Option α} {a b : α}, o = some a → o = some b → a = b := fun x y => Option.some.inj (x.symm.trans y)
  induction h₁ with
  | done => intro e₂ s₂ h; have h' := inv h; exact ⟨h'.1.symm, h'.2.symm⟩
  | raise => intro e₂ s₂ h; have h' := inv h; exact ⟨h'.1.symm, h'.2.symm⟩
  | again _ _ ih => intro e₂ s₂ h; exact ih (inv h)
  | rule _ ih => intro e₂ s₂ h; exact ih (inv h)
  | «at» _ ih => intro e₂ s₂ h; exact ih (inv h)
  | load ho _ ih => intro e₂ s₂ h; obtain ⟨o, ho', a⟩ := inv h; obtain rfl := two ho ho'; exact ih a
  | update _ _ ih => intro e₂ s₂ h; exact ih (inv h)
  | loadIfAlive _ ih => intro e₂ s₂ h; exact ih (inv h)
  | point _ ih => intro e₂ s₂ h; exact ih (inv h)
  | alloc _ ih => intro e₂ s₂ h; exact ih (inv h)
  | fresh _ ih => intro e₂ s₂ h; exact ih (inv h)
  | ask _ ih => intro e₂ s₂ h; exact ih (inv h)
  | choose _ _ ih => intro e₂ s₂ h; exact ih (inv h)
  | os _ ih => intro e₂ s₂ h; exact ih (inv h)
  | handled _ ih => intro e₂ s₂ h; exact ih (inv h)
  | genState hs _ ih => intro e₂ s₂ h; obtain ⟨o, ho', a⟩ := inv h; obtain rfl := two hs ho'; exact ih a
  | stack _ ih => intro e₂ s₂ h; exact ih (inv h)
  | thread _ ih => intro e₂ s₂ h; exact ih (inv h)
  | newGen _ ih => intro e₂ s₂ h; exact ih (inv h)
  | call _ _ ih1 ih2 =>
    intro e₂ s₂ h
    rcases inv h with ⟨r, s₁, a, b⟩ | ⟨_, _, _, _, _, _, _, a, b⟩
    · obtain ⟨x, y⟩ := ih1 a
      injection x with x
      subst x y
      exact ih2 b
    · exact ret_susp (ih1 a).1
  | callSusp _ ih =>
    intro e₂ s₂ h
    rcases inv h with ⟨r, s₁, a, b⟩ | ⟨_, _, _, _, _, _, _, a, b⟩
    · exact ret_susp (ih a).1.symm
    · obtain ⟨x, y⟩ := ih a
      injection x with x1 x2 x3 x4 x5 x6 x7
      subst x1 x2 x3 x4 x5 x6 x7
      exact ⟨b.symm, y⟩
  | yield => intro e₂ s₂ h; have h' := inv h; exact ⟨h'.1.symm, h'.2.symm⟩
  | resumeFresh hg _ _ _ ih1 ih2 =>
    intro e₂ s₂ h
    obtain ⟨st, hg', a⟩ := inv h
    obtain rfl := two hg hg'
    rcases a with ⟨_, _, _, a, b⟩ | ⟨hv, _⟩
    · obtain ⟨x, y⟩ := ih1 a
      subst x y
      exact ih2 b
    · exact absurd rfl hv
  | resumeSuspended hg _ _ _ ih1 ih2 =>
    intro e₂ s₂ h
    obtain ⟨st, hg', a⟩ := inv h
    obtain rfl := two hg hg'
    obtain ⟨_, _, a, b⟩ := a
    obtain ⟨x, y⟩ := ih1 a
    subst x y
    exact ih2 b
  | resumeJustStarted hg hv _ ih =>
    intro e₂ s₂ h
    obtain ⟨st, hg', a⟩ := inv h
    obtain rfl := two hg hg'
    rcases a with ⟨hv', _⟩ | ⟨_, a⟩
    · exact absurd hv' hv
    · exact ih a
  | resumeThrowFresh hg _ ih => intro e₂ s₂ h; obtain ⟨st, hg', a⟩ := inv h; obtain rfl := two hg hg'; exact ih a
  | resumeRunning hg _ ih => intro e₂ s₂ h; obtain ⟨st, hg', a⟩ := inv h; obtain rfl := two hg hg'; exact ih a
  | resumeFinished hg _ ih => intro e₂ s₂ h; obtain ⟨st, hg', a⟩ := inv h; obtain rfl := two hg hg'; exact ih a
  | segRet _ _ ih1 ih2 =>
    intro e₂ s₂ h
    rcases inv h with ⟨_, _, _, _, _, _, _, _, _, hF, a, b⟩ | ⟨_, _, _, _, _, _, _, hF, _⟩ | ⟨_, _, _, _, _, _, _, _, a, _⟩ | ⟨_, _, _, _, _, _, _, _, _, _, _, _, _, _, _, a, _⟩
    · injection hF with f1 f2 f3 f4 f5 f6 f7
      subst f1 f2 f3 f4 f5 f6 f7
      obtain ⟨x, y⟩ := ih1 a
      injection x with x
      subst x y
      exact ih2 b
    · cases hF
    · exact ret_susp (ih1 a).1
    · exact ret_susp (ih1 a).1
  | segGen _ _ ih1 ih2 =>
    intro e₂ s₂ h
    rcases inv h with ⟨_, _, _, _, _, _, _, _, _, hF, _⟩ | ⟨_, _, _, _, _, _, _, hF, a, b⟩ | ⟨_, _, _, _, _, _, _, _, a, _⟩ | ⟨_, _, _, _, _, _, _, _, _, _, _, _, _, _, _, a, _⟩
    · cases hF
    · injection hF with f1 f2 f3 f4 f5
      subst f1 f2 f3 f4 f5
      obtain ⟨x, y⟩ := ih1 a
      injection x with x
      subst x y
      exact ih2 b
    · exact ret_susp (ih1 a).1
    · exact ret_susp (ih1 a).1
  | segSuspOut hs _ ih =>
    intro e₂ s₂ h
    rcases inv h with ⟨_, _, _, _, _, _, _, _, _, _, a, _⟩ | ⟨_, _, _, _, _, _, _, _, a, _⟩ | ⟨_, _, _, _, _, _, _, _, a, b⟩ | ⟨_, _, _, _, _, _, _, _, _, _, _, _, _, _, hs', _⟩
    · exact ret_susp (ih a).1.symm
    · exact ret_susp (ih a).1.symm
    · obtain ⟨x, y⟩ := ih a
      injection x with x1 x2 x3 x4 x5 x6 x7
      subst x1 x2 x3 x4 x5 x6 x7
      exact ⟨b.symm, y⟩
    · rw [hs] at hs'; cases hs'
  | segSuspGen hs _ _ _ ih1 ih2 =>
    intro e₂ s₂ h
    rcases inv h with ⟨_, _, _, _, _, _, _, _, _, _, a, _⟩ | ⟨_, _, _, _, _, _, _, _, a, _⟩ | ⟨_, _, _, _, _, _, _, hs', _⟩ | ⟨_, _, _, _, _, _, _, _, _, _, _, _, _, _, hs', a, b⟩
    · exact ret_susp (ih1 a).1.symm
    · exact ret_susp (ih1 a).1.symm
    · rw [hs] at hs'; cases hs'
    · have q := two hs hs'
      injection q with q1 q2
      injection q2 with q2 q3
      injection q2 with q4 q5
      injection q5 with q6 q7
      injection q7 with q8 q9
      subst q1 q3 q4 q6 q8 q9
      obtain ⟨x, y⟩ := ih1 a
      injection x with x1 x2 x3 x4 x5 x6 x7
      subst x1 x2 x3 x4 x5 x6 x7
      subst y
      exact ih2 b
theorem wakes_det {M : Model} {Γ : Ctx} {p : Pos} {g : Nat} {r : Resume} {s : Shared} {a b : GenResult} {s₁ s₂ : Shared} (h₁ : Wakes M Γ p g r s a s₁) (h₂ : Wakes M Γ p g r s b s₂) : a = b ∧ s₁ = s₂ := by
  unfold Wakes at h₁ h₂
  split at h₁
  · exact h₁.elim
  · rename_i c hc
    rw [hc] at h₂
    dsimp only at h₂
    split at h₁
    · obtain ⟨e₁, t₁, r₁, _, rfl, rfl⟩ := h₁
      obtain ⟨e₂, t₂, r₂, _, rfl, rfl⟩ := h₂
      obtain ⟨x, y⟩ := runs_det r₁ r₂
      subst x y
      exact ⟨rfl, rfl⟩
    · rename_i hne
      split at h₂ <;> first
        | exact ⟨h₁.1.trans h₂.1.symm, h₁.2.trans h₂.2.symm⟩
        | (rename_i e; injection e with e; exact (hne e).elim)
        | (rename_i e _; injection e with e; exact (hne e).elim)
        | simp_all
    · exact ⟨h₁.1.trans h₂.1.symm, h₁.2.trans h₂.2.symm⟩
  · rename_i hc
    rw [hc] at h₂
    dsimp only at h₂
    obtain ⟨e₁, t₁, r₁, _, rfl, rfl⟩ := h₁
    obtain ⟨e₂, t₂, r₂, _, rfl, rfl⟩ := h₂
    obtain ⟨x, y⟩ := runs_det r₁ r₂
    subst x y
    exact ⟨rfl, rfl⟩
  · rename_i hc
    rw [hc] at h₂
    exact ⟨h₁.1.trans h₂.1.symm, h₁.2.trans h₂.2.symm⟩
  · rename_i hc
    rw [hc] at h₂
    exact ⟨h₁.1.trans h₂.1.symm, h₁.2.trans h₂.2.symm⟩
theorem wp_conj {ι : Type} (i₀ : ι) {α : Type} {M : Model} {Γ : Ctx} : ∀ (t : Sem α) {Q : ι → α → Pos → Shared → Prop} {E : ι → Value → Pos → Shared → Prop} {p : Pos} {s : Shared}, (∀ i, Sem.wp M Γ t (Q i) (E i) p s) →
    Sem.wp M Γ t (fun a p s => ∀ i, Q i a p s) (fun e p s => ∀ i, E i e p s) p s
  | .pure a, _, _, _, _, h => h
  | .raise e, _, _, _, _, h => h
  | .unsupported _, _, _, _, _, h => h i₀
  | .finish _, _, _, _, _, h => h i₀
  | .rule _ k, _, _, _, _, h => wp_conj i₀ (k ()) h
  | .at _ k, _, _, _, _, h => wp_conj i₀ (k ()) h
  | .load a _ k, _, _, _, s, h => by
    obtain ⟨o, ho, _⟩ := h i₀
    exact ⟨o, ho, wp_conj i₀ (k o) fun i => by
      obtain ⟨o', ho', h'⟩ := h i
      rw [ho] at ho'; cases ho'
      exact h'⟩
  | .update _ _ _ k, _, _, _, _, h => ⟨(h i₀).1, wp_conj i₀ (k ()) fun i => (h i).2⟩
  | .loadIfAlive a k, _, _, _, s, h => wp_conj i₀ (k (s.heap.get? a)) h
  | .point _ k, _, _, _, _, h => wp_conj i₀ (k ()) h
  | .register _ _, _, _, _, _, h => h i₀
  | .alloc o k, _, _, _, s, h => wp_conj i₀ (k s.heap.objs.size) h
  | .fresh k, _, _, _, s, h => wp_conj i₀ (k s.toks) h
  | .ask k, _, _, _, _, h => wp_conj i₀ (k ⟨M.prog, M.w.params⟩) h
  | .choose src n k, _, _, _, s, h => ⟨(h i₀).1, wp_conj i₀ (k (M.w.draws src (s.drawn.get src) % n)) fun i => (h i).2⟩
  | .os q _ k, _, _, _, s, h => wp_conj i₀ (k (Os.step s.os q).2) h
  | .call c hd _ _ k, _, _, p, s, h => by
    obtain ⟨r, s', hr, _⟩ := h i₀
    exact ⟨r, s', hr, wp_conj i₀ (k r) fun i => by
      obtain ⟨r', s'', hr', h'⟩ := h i
      obtain ⟨x, y⟩ := runs_det hr hr'
      cases x; subst y
      exact h'⟩
  | .handled own k, _, _, _, _, h => wp_conj i₀ (k (if own then Γ.own else Γ.handled)) h
  | .genState g k, _, _, _, _, h => by
    obtain ⟨st, hs, _⟩ := h i₀
    exact ⟨st, hs, wp_conj i₀ (k st.seen) fun i => by
      obtain ⟨st', hs', h'⟩ := h i
      rw [hs] at hs'; cases hs'
      exact h'⟩
  | .newGen c k, _, _, _, s, h => wp_conj i₀ (k s.gens.size) h
  | .resume g r _ k, _, _, _, _, h => by
    obtain ⟨a, s', hw, _⟩ := h i₀
    exact ⟨a, s', hw, wp_conj i₀ (k a) fun i => by
      obtain ⟨a', s'', hw', h'⟩ := h i
      obtain ⟨x, y⟩ := wakes_det hw hw'
      subst x y
      exact h'⟩
  | .yield .., _, _, _, _, h => h i₀
  | .stack k, _, _, p, _, h => wp_conj i₀ (k ((Γ.code, p) :: Γ.below)) h
  | .fork .., _, _, _, _, h => h i₀
  | .thread k, _, _, _, _, h => wp_conj i₀ (k 0) h
  | .await .., _, _, _, _, h => h i₀
theorem any_conj {ι : Type} (i₀ : ι) {α : Type} {M : Model} {A : Around} {t : Sem α} {Q : ι → α → Shared → Prop} {E : ι → Value → Shared → Prop} {s : Shared} (h : ∀ i, wpAny M A t (Q i) (E i) s) :
    wpAny M A t (fun a s => ∀ i, Q i a s) (fun e s => ∀ i, E i e s) s := fun Γ p hΓ => wp_conj i₀ t fun i => h i Γ p hΓ
end Mine
end

section
open PySem PySem.W PySem.W.X PyProof.Rows PySem.Calls
set_option Elab.async false
set_option maxRecDepth 100000
set_option maxHeartbeats 0
namespace Mine
theorem lnC1 : True := by
  k_with_none
  trivial
noncomputable def CP (dp un : Nat) (w : World) (mean : ExcName → Option Value) (mg mb : Str → Option Value) (f : Addr) (led : List (Addr × Obj)) (vs : List Value) (P : Value → Prop) : Prop :=
  CC dp un w mean mg mb f led vs (fun Q h₀ L m s => (∃ q, News h₀ L s.heap [q]) ∧ ∀ v h' tk', P v → Fr h₀ L h' m → (∀ news, News h₀ L s.heap news → News h₀ L h' news) → Q v { s with heap := h', toks := tk' })
theorem CP.of {dp un : Nat} {w : World} {mean : ExcName → Option Value} {mg mb : Str → Option Value} {f : Addr} {led : List (Addr × Obj)} {vs : List Value} {P : Value → Prop}
    (c : ∀ b o, CC dp un w mean mg mb f ((b, o) :: led) vs (fun Q h₀ L m s => ∀ v h' tk', P v → Fr h₀ L h' m → News h₀ L h' [(b, o)] → Q v { s with heap := h', toks := tk' })) : CP dp un w mean mg mb f led vs P := by
  intro gd cn nm ig ic mo a ccd cl outer A₀ base h₀ L m s Q E B F X N T ⟨⟨q₀, hq₀⟩, r⟩
  have z := any_conj (ι := { q : Addr × Obj // News h₀ L s.heap [q] }) ⟨q₀, hq₀⟩
    (Q := fun i v s' => ∃ h' tk', s' = { s with heap := h', toks := tk' } ∧ P v ∧ Fr h₀ L h' m ∧ News h₀ L h' [i.1]) (E := fun _ _ _ => False)
    (fun i => c i.1.1 i.1.2 gd cn nm ig ic mo a ccd cl outer A₀ base h₀ L m s _ _ B F X (fun p hp => by
      rcases List.mem_cons.mp hp with rfl | hp
      · exact i.2 _ (.head _)
      · exact N p hp) T fun v h' tk' hP F' N' => ⟨h', tk', rfl, hP, F', N'⟩)
  refine wpAny_mono z (fun v s' h => ?_) fun e _ f => (f ⟨q₀, hq₀⟩).elim
  obtain ⟨h', tk', rfl, hP, F', _⟩ := h ⟨q₀, hq₀⟩
  refine r v h' tk' hP F' fun news Nn p hp => ?_
  obtain ⟨h2, tk2, e, _, _, N2⟩ := h ⟨p, fun q hq => by rw [List.mem_singleton.mp hq]; exact Nn p hp⟩
  have e' : h' = h2 := congrArg Shared.heap e
  subst e'
  exact N2 p (.head _)
theorem CP.use {dp un : Nat} {w : World} {mean : ExcName → Option Value} {mg mb : Str → Option Value} {f : Addr} {led news : List (Addr × Obj)} {vs : List Value} {P : Value → Prop}
    (c : CP dp un w mean mg mb f led vs P) {A A₀ : Around} {cn : Str} {nm : List (Str × NameKind)} {ig ic : Bool} {mo : List (Str × Const)} {a : Addr} {ccd : Value} {cl : List (Str × Addr)} {outer : List Env} {base h₀ : Heap} {L : Addr} {m : Str → Option Value} {s : Shared} {Q E : Value → Shared → Prop}
    (B : Below A₀ base outer h₀) (F : Fr h₀ L s.heap m) (X : (frag w.params).In h₀) (N : News h₀ L s.heap news) (T : Top topProg LO mean mg mb h₀) (hh : A.handled = none)
    (hf : A.frames = some (envX cn { kind := .function, names := nm, isGenerator := ig, isCoroutine := ic, more := mo } L a ccd cl :: outer)) (hd' : Nat.ble A.depth dp = true) (hu : Nat.ble A.units un = true)
    (hn : news ≠ []) (hs : ∀ p ∈ led, p ∈ news)
    (r : ∀ v h' tk', P v → Fr h₀ L h' m → News h₀ L h' news → Q v { s with heap := h', toks := tk' }) : wpAny (model PySem.Challenge.rw_in0152_01.row.prog w) A (call (.ref f) vs) Q E s := by
  refine CC.use c B F X (fun p hp => N p (hs p hp)) T hh hf hd' hu ⟨?_, fun v h' tk' hP F' k => r v h' tk' hP F' (k _ N)⟩
  cases news with
  | nil => exact absurd rfl hn
  | cons q r => exact ⟨q, fun p hp => by rw [List.mem_singleton.mp hp]; exact N _ (.head _)⟩
theorem lnC1_1 : True := by
  k_with_none
  k_with "zf" => (first | (k_here; k_fold; refine letA ?_; intro aX; (with_reducible rename Fr _ _ _ _ => kF); refine letM kF ?_; clear kF; intro mX kF) | (k_here; k_fold; refine letA ?_; intro aX) | (k_here; k_fold) | (k_here; with_reducible first | refine genT1 fun tk => ?_ | refine genT2 fun tk => ?_) | fail)
  k_with "execs cons" => (first | walk_at "zf" | fail)
  k_with "execs" => (first | walk_at "zf" | fail)
  k_with "execs nil" => (first | (k_here; with_reducible first | refine genT1 fun tk => ?_ | refine genT2 fun tk => ?_) | fail)
  k_with "k_ne" => (first | (refine neN ?_; first | (with_reducible first | assumption | exact Ne.symm (by assumption) | exact ca0 (by assumption) | exact cb0 (by assumption) | exact cc0 (by assumption) | exact cd0 (by assumption) | exact ca1 (by assumption) | exact cb1 (by assumption) | exact cc1 (by assumption) | exact cd1 (by assumption) | exact ca2 (by assumption) | exact cb2 (by assumption) | exact cc2 (by assumption) | exact cd2 (by assumption) | exact ca3 (by assumption) | exact cb3 (by assumption) | exact cc3 (by assumption) | exact cd3 (by assumption) | exact ca4 (by assumption) | exact cb4 (by assumption) | exact cc4 (by assumption) | exact cd4 (by assumption) | exact ca5 (by assumption) | exact cb5 (by assumption) | exact cc5 (by assumption) | exact cd5 (by assumption) | exact ca6 (by assumption) | exact cb6 (by assumption) | exact cc6 (by assumption) | exact cd6 (by assumption) | exact ca7 (by assumption) | exact cb7 (by assumption) | exact cc7 (by assumption) | exact cd7 (by assumption) | exact ca8 (by assumption) | exact cb8 (by assumption) | exact cc8 (by assumption) | exact cd8 (by assumption) | exact ca9 (by assumption) | exact cb9 (by assumption) | exact cc9 (by assumption) | exact cd9 (by assumption) | exact ca10 (by assumption) | exact cb10 (by assumption) | exact cc10 (by assumption) | exact cd10 (by assumption) | exact ca11 (by assumption) | exact cb11 (by assumption) | exact cc11 (by assumption) | exact cd11 (by assumption)) | (refine Nat.ne_of_lt (ltm (o := _) (by with_reducible assumption) ?_); k_mem; done) | (refine Nat.ne_of_gt (ltm (o := _) (by with_reducible assumption) ?_); k_mem; done) | ((try dsimp only); omega)) | fail)
  k_with "call ref" => (first | ((k_here; (with_reducible show wpAny _ _ (call (Value.ref 230) _) _ _ _); (k_dflt (refine' CC.use ?c ?k1 ?k2 ?k3 ?k4 ?k5 ?k6 ?k7 ?k8 ?k9 ?_; (case k2 => k_asm); (case k1 => k_asm); (case k3 => k_asm); (case k4 => k_asm); (case k5 => k_asm); (case c => exact fspath_c _ _ _ _ _ _ _); (case k6 => exact rfl); (case k7 => exact rfl); (case k8 => exact rfl); (case k9 => exact rfl); k_whole)); intro _ _ _ _)) | fail)
  trivial
theorem join_c (w : World) (mean : ExcName → Option Value) (mg mb : Str → Option Value) (p q : Str) (t u : Tok) (hp : p.length ≤ 1048576) (hq : q.length ≤ 1048576)
    (h1 : Txt.startswith q (Str.ofString "/") = false) (h2 : (p.length : Int) ≠ 0) (h3 : Txt.endswith p (Str.ofString "/") = false) :
  CP 850 8500 w mean mg mb 251 [] [.str p t, .str q u] (fun v => ∃ tk, v = .str (p ++ (Str.ofString "/" ++ q)) tk) := by
  refine CP.of fun b o => ?_
  unfold CC
  k_fill
  intro gd cn nm ig ic mo a ccd cl outer A₀ base h₀ L m s Q E B F X N T hret
  k_steps
  all_goals first
    | (exfalso; (rename Txt.startswith q _ = true => x1); rw [h1] at x1; cases x1; done)
    | (exfalso; (rename Txt.endswith p _ = true => x1); rw [h3] at x1; cases x1; done)
    | (exfalso; (first | lia | omega))
    | (refine hret _ _ _ ⟨_, rfl⟩ (by k_asm) ?_; first | k_asm | (refine' cb_drop ?cbN ?cbS; (case cbN => assumption); (case cbS => kcj_all)))
noncomputable def itAt (l : Addr) (i : Nat) : Obj := { cls := .type "list_iterator", data := .fields #[.ref l, .int i 0] }
theorem args_iter1 (a : Value) : argsOk "iter" ⟨[a], []⟩ := by unfold argsOk; kernel_rfl
theorem args_next1 (a : Value) : argsOk "next" ⟨[a], []⟩ := by unfold argsOk; kernel_rfl
theorem entry_iter1 : entryFor table "iter" = some Builtin.«iter» := entryFor_of_tree (by kernel_rfl)
theorem entry_next1 : entryFor table "next" = some Builtin.«next» := entryFor_of_tree (by kernel_rfl)
section
variable {prog : Program} {w : World} {A : Around} {E : Value → Shared → Prop} {s : Shared} {h₀ : Heap} {L l it : Addr} {m : Str → Option Value} {news : List (Addr × Obj)} {g : Obj → List (Addr × Obj)} {lo : Obj} {vs : List Value} {n i : Nat}
theorem iter_list {Q : Value → Shared → Prop} (F : Fr h₀ L s.heap m) (N : News h₀ L s.heap news) (hp : (l, lo) ∈ news) (hc : lo.cls = .type "list") (hd : lo.data = .seq vs.toArray n)
    (h : ∀ (I : Addr) h', Fr h₀ L h' m → News h₀ L h' ((I, itAt l 0) :: news) → (∀ p ∈ news, p.1 < I) → Q (.ref I) { s with heap := h' }) :
    wpAny (model prog w) A (call (.builtin "iter") [.ref l]) Q E s := by
  refine call_function_entry (by decide +kernel) (by decide +kernel) entry_iter1 (args_iter1 _) ?_
  unfold Builtin.«iter»
  refine wpAny_bind (m := someArgs "iter" 1 2 _) (wpAny_of_eq (a := [Value.ref l]) (by first | rfl | kernel_rfl!) ?_)
  show wpAny _ _ (pyIter (.ref l) >>= _) _ _ _
  refine wpAny_bind (wpAny_pyIter_list ⟨lo, (N _ hp).1, hc, n, hd⟩ ?_)
  exact wpAny_pure ⟨_, rfl, h _ _ (F.push _) (News.push F N _ rfl) (fun q hq => Heap.lt_size (N q hq).1)⟩
theorem next_list {Q : Value → Shared → Prop} {v : Value} (F : Fr h₀ L s.heap m) (N : News h₀ L s.heap news) (U : UpdF it (itAt l i) news g) (hp : (l, lo) ∈ news) (hc : lo.cls = .type "list") (hd : lo.data = .seq vs.toArray n) (hx : vs[i]? = some v)
    (h : ∀ h', Fr h₀ L h' m → News h₀ L h' (g (itAt l (i + 1))) → Q v { s with heap := h' }) :
    wpAny (model prog w) A (call (.builtin "next") [.ref it]) Q E s := by
  obtain ⟨pre, post, hl, hg, a, b⟩ := U.split
  have hmem : (it, itAt l i) ∈ news := by rw [hl]; exact List.mem_append_right _ (.head _)
  have hm := N _ hmem
  have hit : s.heap.IsListIter it l i := ⟨_, hm.1, rfl, rfl⟩
  have hol := (N _ hp).1
  refine call_function_entry (by decide +kernel) (by decide +kernel) entry_next1 (args_next1 _) ?_
  unfold Builtin.«next»
  refine wpAny_bind (m := someArgs "next" 1 2 _) (wpAny_of_eq (a := [Value.ref it]) (by first | rfl | kernel_rfl!) ?_)
  dsimp only
  refine wpAny_bind (wpAny_specialOf (name := Str.ofString "__next__") hit.typeIs slot_listiter_next.lookup ?_)
  refine wpAny_ite_split (fun hab => absurd hab (by decide)) (fun _ => ?_)
  refine wpAny_bind (wpAny_callSpecial?_slot (name := Str.ofString "__next__") hit.typeIs slot_listiter_next
    (wpAny_call_entry slot_listiter_next hit.typeIs entry_listiter_next ?_ (args_listiter_next _)))
  show wpAny _ _ (field (.ref it) 0 >>= _) _ _ s
  refine wpAny_bind (wpAny_field hm.1 rfl (x := .ref l) rfl ?_)
  show wpAny _ _ (if (Value.ref l == Value.none) = true then _ else _) _ _ s
  rw [if_neg (show ¬ ((Value.ref l == Value.none) = true) from Bool.false_ne_true)]
  show wpAny _ _ (field (.ref it) 1 >>= _) _ _ s
  refine wpAny_bind (wpAny_field hm.1 rfl (x := .int i 0) rfl ?_)
  show wpAny _ _ (seqItems? (.ref l) >>= _) _ _ s
  refine wpAny_bind (wpAny_seqItems hol hd ?_)
  have hx' : (vs.toArray)[i]? = some v := by simpa using hx
  simp only [Int.toNat_natCast, hx']
  refine wpAny_bind (wpAny_setField hm.1 rfl (by simp) (wpAny_pure ⟨v, rfl, wpAny_pure ⟨_, rfl, h _ (F.change (Heap.SameBut.update ..) hm.2.1 hm.2.2) ?_⟩⟩))
  have hn : (s.heap.update it (Obj.mapFields (·.setIfInBounds 1 (rawInt ((i : Int) + 1))))).get? it = some (itAt l (i + 1)) := by
    rw [Heap.get?_update_self _ hm.1 rfl]
    rfl
  rw [hg]
  exact (show News h₀ L s.heap (pre ++ (it, itAt l i) :: post) from hl ▸ N).setIn a b (Heap.SameBut.update ..) hn
end
end Mine
end

section
open PySem PySem.W PySem.W.X PyProof.Rows PySem.Calls PyProof.V PySem.Spec
set_option Elab.async false
set_option maxRecDepth 100000
set_option maxHeartbeats 0
namespace Mine
theorem lnC3 : True := by
  k_with_none
  trivial
section
variable {prog : Program} {w : World} {A : Around} {E : Value → Shared → Prop} {s : Shared} {env : Env} {h₀ : Heap} {x : Str} {body : List Stmt} {Q : Flow → Shared → Prop}
theorem walks_from (hh : A.handled = none) (I ax : Addr) (hne : ax ≠ I) (vs : List Value) (k : Nat) (hk : k ≤ vs.length) :
    Walks prog w A I [I, ax] [I] (vs.length - k) (fun i v => vs[i + k]? = some v) (fun i h => h.IsListIter I ax (i + k) ∧ h.IsList ax vs.toArray) := by
  have W := Walks.list (prog := prog) (w := w) (A := A) hh I ax hne vs.toArray
  have hsz : vs.toArray.size = vs.length := by simp
  rw [hsz] at W
  refine ⟨W.sub, fun i h h' st f => W.frame (i + k) h h' st f, fun i s Q E hi st hQ => W.item (i + k) s Q E (by (first | lia | omega)) st fun v h' tk hP hst hk' => ?_, fun s Q E st hQ => ?_, fun i s Q E st hQ => W.self (i + k) s Q E st hQ⟩
  · refine hQ v h' tk (by simpa using hP) ?_ hk'
    have e : i + 1 + k = i + k + 1 := by (first | lia | omega)
    rw [e]
    exact hst
  · have e : vs.length - k + k = vs.length := by (first | lia | omega)
    rw [e] at st
    exact W.done s Q E st hQ
theorem iter_itUnr {I ax : Addr} {lo : Obj} {vs : List Value} {n k : Nat} {m₀ : Str → Option Value} {news : List (Addr × Obj)}
    (hh : A.handled = none) (F : Fr h₀ env.locals s.heap m₀) (N : News h₀ env.locals s.heap ((I, itAt ax k) :: news)) (hI : ∀ p ∈ news, p.1 ≠ I) (hm : (ax, lo) ∈ news) (hc : lo.cls = .type "list") (hd : lo.data = .seq vs.toArray n) (hk : k ≤ vs.length)
    (rest : ListRest prog w A E h₀ env x body Q s I (ax, lo) (vs.drop k) m₀ news) :
    wpAny (model prog w) A (pyIter (.ref I)) (fun it s₂ => LoopAtV prog w A h₀ env x body Q E it s₂) E s := by
  have hax := N (ax, lo) (.tail _ hm)
  have hIt := N (I, itAt ax k) (.head _)
  have hl : s.heap.IsList ax vs.toArray := ⟨lo, hax.1, hc, n, hd⟩
  have hne : ax ≠ I := hI (ax, lo) hm
  have hit : s.heap.IsListIter I ax k := ⟨_, hIt.1, rfl, rfl⟩
  have W := walks_from (prog := prog) (w := w) (A := A) hh I ax hne vs k hk
  refine wpAny_pyIter_listiter hit ?_
  let J : Nat → (Str → Option Value) → List (Addr × Obj) → Prop := fun i m₁ news₁ => (ax, lo) ∈ news₁ ∧ ListRest prog w A E h₀ env x body Q s I (ax, lo) (vs.drop (i + k)) m₁ news₁
  refine ⟨I, _, _, vs.length - k, _, _, m₀, news, J, rfl, W, ?_, ?_, ?_, ⟨by rw [Nat.zero_add]; exact hit, hl⟩, F, (fun p hp => N p (.tail _ hp)), ⟨hm, by rw [Nat.zero_add]; exact rest⟩, ?_, ?_⟩
  · intro hmm
    rcases List.mem_cons.mp hmm with e | hmm
    · exact hIt.2.1 e.symm
    · exact hax.2.1 (List.mem_singleton.mp hmm).symm
  · intro b hb
    rw [List.mem_singleton.mp hb]
    exact hIt.2.2
  · intro p hp hpI
    exact hI p hp (List.mem_singleton.mp hpI)
  · rintro i v m₁ news₁ s₁ own ⟨hh', tk', rfl⟩ hin hP ⟨hmem₁, hJ⟩ hoff hown hget hall hst F₁ N₁
    obtain ⟨it, hit', hic, hid⟩ := hst.1
    have hmemI := hall I (List.mem_cons_self ..) hIt.2.2 _ hit'
    have hdrop : vs.drop (i + k) = v :: vs.drop (i + 1 + k) := by
      have hlt' : i + k < vs.length := by (first | lia | omega)
      have hv : vs[i + k]? = some v := hP
      rw [List.drop_eq_getElem_cons hlt', show i + 1 + k = i + k + 1 by (first | lia | omega)]
      congr 1
      exact Option.some.inj ((List.getElem?_eq_getElem hlt').symm.trans hv)
    rw [hdrop] at hJ
    have N₂ : News h₀ env.locals hh' ((I, it) :: news₁) := fun p hp => by
      rcases List.mem_cons.mp hp with rfl | hp
      · exact N₁ _ (List.mem_append_left _ hmemI)
      · exact N₁ _ (List.mem_append_right _ hp)
    refine wpAny_mono (hJ it hh' tk' hic F₁ N₂) (fun f s₂ p => ?_) fun _ _ e => e
    have fin : UnrEnd h₀ env.locals { s with heap := hh', toks := tk' } I it (fun m' n' => (ax, lo) ∈ n' ∧ ListRest prog w A E h₀ env x body Q s I (ax, lo) (vs.drop (i + 1 + k)) m' n') s₂ →
        LoopStepU h₀ env.locals [I] own (J (i + 1)) { s with heap := hh', toks := tk' } .next s₂ := by
      rintro ⟨h', tk, m', news', e, F', N', ho, hmm, r⟩
      refine ⟨rfl, h', tk, m', news', e, F', fun p hp => ?_, fun p hp hpI => ho p hp (List.mem_singleton.mp hpI), hmm, r⟩
      rcases List.mem_append.mp hp with hp | hp
      · have h2 : hh'.get? p.1 = some p.2 := hget p hp
        rcases List.mem_cons.mp (hown p hp) with h1 | h1
        · have h3 : p = (I, it) := by
            rw [h1, hit'] at h2
            exact Prod.ext h1 (Option.some.inj h2).symm
          rw [h3]; exact N' _ (List.mem_cons_self ..)
        · have h1' : p.1 = ax := List.mem_singleton.mp h1
          have h3 : p = (ax, lo) := by
            rw [h1', (N₁ _ (List.mem_append_right _ hmem₁)).1] at h2
            exact Prod.ext h1' (Option.some.inj h2).symm
          rw [h3]; exact N' _ (List.mem_cons_of_mem _ hmm)
      · exact N' _ (List.mem_cons_of_mem _ hp)
    cases f with
    | ret v => exact .ret p
    | brk => exact .brk p
    | next => exact .next (fin p)
    | cont => exact .cont (fin p)
  · rintro h' tk m' news' F' N' _ ⟨_, hJ⟩
    have e : vs.length - k + k = vs.length := by (first | lia | omega)
    have z : vs.drop (vs.length - k + k) = [] := by rw [e]; exact List.drop_length
    rw [z] at hJ
    exact hJ h' tk F' N'
end
theorem lnC3_1 : True := by
  k_with_none
  k_with "zf" => (first | (k_here; k_fold; refine letA ?_; intro aX; (with_reducible rename Fr _ _ _ _ => kF); refine letM kF ?_; clear kF; intro mX kF) | (k_here; k_fold; refine letA ?_; intro aX) | (k_here; k_fold) | (k_here; with_reducible first | refine genT1 fun tk => ?_ | refine genT2 fun tk => ?_) | fail)
  k_with "execs cons" => (first | walk_at "zf" | fail)
  k_with "execs" => (first | walk_at "zf" | fail)
  k_with "execs nil" => (first | (k_here; with_reducible first | refine genT1 fun tk => ?_ | refine genT2 fun tk => ?_) | fail)
  k_with "k_ne" => (first | (refine neN ?_; first | (with_reducible first | assumption | exact Ne.symm (by assumption) | exact ca0 (by assumption) | exact cb0 (by assumption) | exact cc0 (by assumption) | exact cd0 (by assumption) | exact ca1 (by assumption) | exact cb1 (by assumption) | exact cc1 (by assumption) | exact cd1 (by assumption) | exact ca2 (by assumption) | exact cb2 (by assumption) | exact cc2 (by assumption) | exact cd2 (by assumption) | exact ca3 (by assumption) | exact cb3 (by assumption) | exact cc3 (by assumption) | exact cd3 (by assumption) | exact ca4 (by assumption) | exact cb4 (by assumption) | exact cc4 (by assumption) | exact cd4 (by assumption) | exact ca5 (by assumption) | exact cb5 (by assumption) | exact cc5 (by assumption) | exact cd5 (by assumption) | exact ca6 (by assumption) | exact cb6 (by assumption) | exact cc6 (by assumption) | exact cd6 (by assumption) | exact ca7 (by assumption) | exact cb7 (by assumption) | exact cc7 (by assumption) | exact cd7 (by assumption) | exact ca8 (by assumption) | exact cb8 (by assumption) | exact cc8 (by assumption) | exact cd8 (by assumption) | exact ca9 (by assumption) | exact cb9 (by assumption) | exact cc9 (by assumption) | exact cd9 (by assumption) | exact ca10 (by assumption) | exact cb10 (by assumption) | exact cc10 (by assumption) | exact cd10 (by assumption) | exact ca11 (by assumption) | exact cb11 (by assumption) | exact cc11 (by assumption) | exact cd11 (by assumption)) | (refine Nat.ne_of_lt (ltm (o := _) (by with_reducible assumption) ?_); k_mem; done) | (refine Nat.ne_of_gt (ltm (o := _) (by with_reducible assumption) ?_); k_mem; done) | ((try dsimp only); omega)) | fail)
  k_with "call builtin:iter" => (first | ((k_here; (with_reducible show wpAny _ _ (call (Value.builtin "iter") [Value.ref _]) _ _ _); k_dflt (refine' iter_list ?F ?N ?m ?c ?d ?_; (case F => k_asm); (case N => k_asm); (case m => k_mem); (case c => exact rfl); (case d => exact rfl); k_whole); intro _ _ _ _ l1; (try k_lt l1))) | fail)
  trivial
theorem lnC3_2 : True := by
  k_with "call builtin:next" => (first | ((k_here; (with_reducible show wpAny _ _ (call (Value.builtin "next") [Value.ref _]) _ _ _); k_dflt (refine' next_list (l := _) (i := 0) ?F ?N ?U ?m ?c ?d ?x ?_; (case F => k_asm); (case N => k_asm); (case U => k_updF); (case m => k_mem); (case c => exact rfl); (case d => exact rfl); (case x => exact rfl); k_whole); intro _ _ N'; (try dsimp only at N'))) | fail)
  trivial
theorem lnC3_3 : True := by
  k_with "pyIter ref" => (first | (((with_reducible show wpAny _ _ (pyIter (Value.ref _)) (fun it s₂ => LoopAtV _ _ _ _ _ _ _ _ _ it s₂) _ _); k_dflt (refine' iter_itUnr (k := 1) ?hh ?F ?N ?hI ?m ?c ?d ?k ?_; (case hh => exact rfl); (case F => k_asm); (case N => k_asm); (case hI => k_all); (case m => k_mem); (case c => exact rfl); (case d => exact rfl); (case k => exact Nat.le_of_ble_eq_true rfl); k_whole); (try dsimp only [List.drop]))) | fail)
  trivial
theorem lnC3_4 : True := by
  k_with "call ref" => (first | ((k_here; (with_reducible show wpAny _ _ (call (Value.ref 251) _) _ _ _); (k_dflt (refine' CP.use ?c ?k1 ?k2 ?k3 ?k4 ?k5 ?k6 ?k7 ?k8 ?k9 ?ka ?kb ?_; (case k2 => k_asm); (case k1 => k_asm); (case k3 => k_asm); (case k4 => k_asm); (case k5 => k_asm); (case c => exact join_c _ _ _ _ _ _ _ _ (by assumption) (by assumption) (by assumption) (by assumption) (by assumption)); (case k6 => exact rfl); (case k7 => exact rfl); (case k8 => exact rfl); (case k9 => exact rfl); (case ka => exact List.cons_ne_nil _ _); (case kb => exact List.forall_mem_nil _); k_whole)); intro _ _ _ hv' _ _; obtain ⟨t', hv'⟩ := hv'; subst hv')) | fail)
  trivial
theorem reduce1_c (w : World) (mean : ExcName → Option Value) (mg mb : Str → Option Value) (x : Addr) (p : Str) (t : Tok) (n : Nat) :
  CP 800 8000 w mean mg mb 37 [(x, listOf #[.str p t] n)] [.ref 251, .ref x] (fun v => ∃ tk, v = .str p tk) := by
  refine CP.of fun b o => ?_
  unfold CC
  k_fill
  intro gd cn nm ig ic mo a ccd cl outer A₀ base h₀ L m s Q E B F X N T hret
  k_steps
  all_goals (refine hret _ _ _ ⟨_, rfl⟩ (by k_asm) ?_; first | k_asm | (refine' cb_drop ?cbN ?cbS; (case cbN => assumption); (case cbS => kcj_all)))
theorem reduce2_c (w : World) (mean : ExcName → Option Value) (mg mb : Str → Option Value) (x : Addr) (p q : Str) (t u : Tok) (n : Nat) (hp : p.length ≤ 1048576) (hq : q.length ≤ 1048576)
    (h1 : Txt.startswith q (Str.ofString "/") = false) (h2 : (p.length : Int) ≠ 0) (h3 : Txt.endswith p (Str.ofString "/") = false) :
  CP 800 8000 w mean mg mb 37 [(x, listOf #[.str p t, .str q u] n)] [.ref 251, .ref x] (fun v => ∃ tk, v = .str (p ++ (Str.ofString "/" ++ q)) tk) := by
  refine CP.of fun b o => ?_
  unfold CC
  k_fill
  intro gd cn nm ig ic mo a ccd cl outer A₀ base h₀ L m s Q E B F X N T hret
  k_steps
  all_goals (refine hret _ _ _ ⟨_, rfl⟩ (by k_asm) ?_; first | k_asm | (refine' cb_drop ?cbN ?cbS; (case cbN => assumption); (case cbS => kcj_all)))
theorem reduce3_c (w : World) (mean : ExcName → Option Value) (mg mb : Str → Option Value) (x : Addr) (p q r : Str) (t u v : Tok) (n : Nat) (hp : p.length ≤ 1048576) (hq : q.length ≤ 1048576) (hr : r.length ≤ 1048576)
    (h1 : Txt.startswith q (Str.ofString "/") = false) (h2 : (p.length : Int) ≠ 0) (h3 : Txt.endswith p (Str.ofString "/") = false)
    (hpq : (p ++ (Str.ofString "/" ++ q)).length ≤ 1048576) (h4 : Txt.startswith r (Str.ofString "/") = false) (h5 : ((p ++ (Str.ofString "/" ++ q)).length : Int) ≠ 0) (h6 : Txt.endswith (p ++ (Str.ofString "/" ++ q)) (Str.ofString "/") = false) :
  CP 800 8000 w mean mg mb 37 [(x, listOf #[.str p t, .str q u, .str r v] n)] [.ref 251, .ref x] (fun v => ∃ tk, v = .str (p ++ (Str.ofString "/" ++ q) ++ (Str.ofString "/" ++ r)) tk) := by
  refine CP.of fun b o => ?_
  unfold CC
  k_fill
  intro gd cn nm ig ic mo a ccd cl outer A₀ base h₀ L m s Q E B F X N T hret
  k_steps
  all_goals (refine hret _ _ _ ⟨_, rfl⟩ (by k_asm) ?_; first | k_asm | (refine' cb_drop ?cbN ?cbS; (case cbN => assumption); (case cbS => kcj_all)))
end Mine
end

section
open PySem PySem.W PySem.W.X PyProof.Rows PySem.Calls PyProof.V PySem.Spec
set_option Elab.async false
set_option maxRecDepth 100000
set_option maxHeartbeats 0
namespace Mine
theorem lnM2 : True := by
  k_with_none
  trivial
noncomputable abbrev PR := PySem.Challenge.rw_in0152_01.row.prog
noncomputable def mapOf (f : Value) (T : Addr) : Obj := { cls := .type "map", data := .fields #[.ref T, f] }
noncomputable def tupOf (xs : Array Value) : Obj := { cls := .type "tuple", data := .seq xs }
theorem slot_map_next : Slot "map" "__next__" "map.__next__" :=
  .of (owner := "map") (n := "__next__") (by rw [typeLookup_type, builtinLookup_eq_fast]; kernel_rfl) (by decide +kernel) (by decide +kernel) (by decide +kernel)
    (by first | exact .inl (by decide +kernel) | exact .inr (by decide +kernel)) (by rw [isSubtype_type]; kernel_rfl)
theorem entry_map_next : entryFor table "map.__next__" = some Builtin.«map.__next__» := entryFor_of_tree (by kernel_rfl)
theorem args_map_next (a : Value) : argsOk "map.__next__" ⟨[a], []⟩ := by unfold argsOk; kernel_rfl
section
variable {prog : Program} {w : World} {A : Around} {E : Value → Shared → Prop} {s : Shared} {M T I l : Addr} {f : Value} {vs : List Value} {i n : Nat} {lo : Obj}
theorem nextOf_map {Q : Value → Shared → Prop} {v : Value} (hh : A.handled = none) (hM : s.heap.get? M = some (mapOf f T)) (hT : s.heap.get? T = some (tupOf #[.ref I])) (hI : s.heap.IsListIter I l i)
    (hl : s.heap.IsList l vs.toArray) (hx : vs[i]? = some v) (a1 : M ≠ I)  (a3 : l ≠ I)
    (h : ∀ h', h'.IsListIter I l (i + 1) → Heap.SameBut I s.heap h' → wpAny (model prog w) A.in1 (call f [v]) (fun r s' => Q r s') E { s with heap := h' }) :
    wpAny (model prog w) A (callSpecial? (.ref M) "__next__") (fun r s' => ∃ v, r = some v ∧ Q v s') E s := by
  have tM : s.TypeIs (.ref M) "map" := ⟨_, hM, rfl⟩
  refine wpAny_callSpecial?_slot (name := Str.ofString "__next__") tM slot_map_next
    (wpAny_call_entry slot_map_next tM entry_map_next ?_ (args_map_next _))
  show wpAny _ _ (field (.ref M) 0 >>= _) _ _ s
  refine wpAny_bind (wpAny_field hM rfl (x := .ref T) rfl ?_)
  refine wpAny_bind (wpAny_seqItems hT rfl ?_)
  dsimp only
  simp only [List.forIn_toArray, List.forIn_cons, List.forIn_nil, bind_assoc, pure_bind]
  have D := Draws.list (prog := prog) (w := w) (A := A.in1) hh I l a3 vs.toArray
  have hi : i < vs.toArray.size := by
    have := (List.getElem?_eq_some_iff.mp hx).1
    simpa using this
  refine wpAny_bind (wpAny_holding (wpAny_nextOf_list_item (i := i) (l := l) (x := v) hI hl (by simpa using hx) fun h' hit' hs' => ?_))
  refine wpAny_bind (wpAny_field ((hs'.2 M a1).trans hM) rfl (x := f) rfl ?_)
  refine wpAny_bind (wpAny_holding (wpAny_mono (h h' hit' hs') (fun r s' hr => ?_) fun _ _ e => e))
  exact wpAny_bind (wpAny_letGo (wpAny_pure ⟨r, rfl, r, rfl, hr⟩))
theorem nextOf_map_end {Q' : Option Value → Shared → Prop} (hh : A.handled = none) (hM : s.heap.get? M = some (mapOf f T)) (hT : s.heap.get? T = some (tupOf #[.ref I])) (hI : s.heap.IsListIter I l i)
    (hl : s.heap.IsList l vs.toArray) (hx : vs.length ≤ i) (a3 : l ≠ I) (hQ : ∀ h', Heap.ExtBut I s.heap h' → Q' none { s with heap := h' }) :
    wpAny (model prog w) A (pyNext (.ref M)) Q' E s := by
  have tM : s.TypeIs (.ref M) "map" := ⟨_, hM, rfl⟩
  unfold pyNext
  refine wpAny_bind (wpAny_attempt (wpAny_callSpecial?_slot (name := Str.ofString "__next__") tM slot_map_next
    (wpAny_call_entry slot_map_next tM entry_map_next ?_ (args_map_next _))))
  show wpAny _ _ (field (.ref M) 0 >>= _) _ _ s
  refine wpAny_bind (wpAny_field hM rfl (x := .ref T) rfl ?_)
  refine wpAny_bind (wpAny_seqItems hT rfl ?_)
  dsimp only
  simp only [List.forIn_toArray, List.forIn_cons, List.forIn_nil, bind_assoc, pure_bind]
  have D := Draws.list (prog := prog) (w := w) (A := A.in1) hh I l a3 vs.toArray
  refine wpAny_bind (wpAny_holding (wpAny_nextOf_list_end hh (i := i) (l := l) hI hl (by simpa using hx) fun h' e he hs' => ?_))
  refine wpAny_bind (wpAny_isInstance (T := "StopIteration") (b := true) (let ⟨o, ho, hc⟩ := hs'; ⟨o, ho, hc⟩) isSubtype_stop ?_)
  rw [if_pos rfl]
  exact wpAny_pure (hQ _ he)
theorem slot_map_iter : Slot "map" "__iter__" "map.__iter__" :=
  .of (owner := "map") (n := "__iter__") (by rw [typeLookup_type, builtinLookup_eq_fast]; kernel_rfl) (by decide +kernel) (by decide +kernel) (by decide +kernel)
    (by first | exact .inl (by decide +kernel) | exact .inr (by decide +kernel)) (by rw [isSubtype_type]; kernel_rfl)
theorem entry_map_iter : entryFor table "map.__iter__" = some Builtin.«dict_keyiterator.__iter__» :=
  entryFor_alias (id' := "dict_keyiterator.__iter__") (by kernel_rfl) (by first | rfl | decide +kernel | (unfold String.splitOn; simp +decide [String.splitOnAux])) (by decide +kernel) (by kernel_rfl)
theorem args_map_iter (a : Value) : argsOk "map.__iter__" ⟨[a], []⟩ := by unfold argsOk; kernel_rfl
theorem iter_map {Q : Value → Shared → Prop} (hM : s.heap.get? M = some (mapOf f T)) (h : Q (.ref M) s) : wpAny (model prog w) A (pyIter (.ref M)) Q E s := by
  have tM : s.TypeIs (.ref M) "map" := ⟨_, hM, rfl⟩
  refine wpAny_pyIter_slot tM slot_map_iter (wpAny_call_entry slot_map_iter tM entry_map_iter ?_ (args_map_iter _))
  show wpAny _ _ (ret (.ref M)) _ _ s
  exact wpAny_pure ⟨_, rfl, "map", _, tM, slot_map_next.lookup, h⟩
theorem nolen_map : typeLookup (.type "map") "__len__" = pure none := by rw [typeLookup_type, builtinLookup_eq_fast]; kernel_rfl
theorem nohint_map : typeLookup (.type "map") "__length_hint__" = pure none := by rw [typeLookup_type, builtinLookup_eq_fast]; kernel_rfl
open AutoSeq1 (wpAny_loadPart') in
theorem tuple_new_in (M : Addr) : MeetsIn prog w (Builtin.«tuple.__new__» ⟨[.type "tuple", .ref M], []⟩) (fun A R s => (∃ T, s.heap.get? M = some (mapOf f T)) ∧
    codeAny (model prog w) A.in1 (.builtin "proto.collect" ⟨[.ref M], []⟩) (fun r s' => ∃ S xs c, r = .ok (.ret (.ref S)) ∧ s'.heap.get? S = some { cls := .type "list", data := .seq xs c } ∧ xs.size ≤ sizeLine ∧ R (.ok (.ret (.ref s'.heap.objs.size))) { s' with heap := s'.heap.push (tupOf xs) }) s) :=
  .of_wp fun A R s h => by
    obtain ⟨hp, g, d, tk, os⟩ := s; obtain ⟨⟨T, ht⟩, h⟩ := h
    have hsub := sub_tuple_self
    have hinit := init_tuple_lookup
    have hmh := madeHere_tuple
    have hT : Shared.TypeIs ⟨hp, g, d, tk, os⟩ (.ref M) "map" := ⟨_, ht, rfl⟩
    wp_walk using wpAny_loadPart' ht, wpAny_typeOf hT
    refine codeAny_mono h fun r s' hr => ?_
    obtain ⟨S, xs, c, rfl, hS, hz, hr⟩ := hr
    refine wpAny_bind (wpAny_load hS (wpAny_pure ?_))
    refine wpAny_bind (wpAny_pure ?_)
    show wpAny _ _ (Builtin.Tuple.tupleExact xs.toList.toArray >>= fun v => ret v) _ _ _
    unfold Builtin.Tuple.tupleExact
    refine wpAny_bind (wpAny_newObj_type ?_ (by show xs.toList.toArray.size ≤ sizeLine; simpa using hz))
    refine wpAny_pure ⟨_, rfl, ?_⟩
    have e : xs.toList.toArray = xs := by simp
    rw [e]
    exact hr
end
section
variable {w : World} {A A₀ : Around} {E : Value → Shared → Prop} {s : Shared} {h₀ base : Heap} {L M T I l : Addr} {m : Str → Option Value} {news : List (Addr × Obj)} {lo : Obj} {n : Nat} {mean : ExcName → Option Value} {mg mb : Str → Option Value} {outer : List Env}
  {cn : Str} {nm : List (Str × NameKind)} {ig ic : Bool} {mo : List (Str × Const)} {a : Addr} {ccd : Value} {cl : List (Str × Addr)}
theorem fr_but {h' : Heap} (Fh : Fr h₀ L s.heap m) (hIL : I ≠ L) (hI0 : h₀.get? I = none) (he : ∀ b o, b ≠ I → s.heap.get? b = some o → h'.get? b = some o) : Fr h₀ L h' m :=
  ⟨Fh.ns.at' fun o e => he L o (Ne.symm hIL) e, fun b o e => he b o (fun hb => by subst hb; rw [hI0] at e; cases e) (Fh.keep b o e), Fh.above⟩
theorem news_but {h' : Heap} {news' : List (Addr × Obj)} (N : News h₀ L s.heap news') (hI : ∀ p ∈ news', p.1 ≠ I) (he : ∀ b o, b ≠ I → s.heap.get? b = some o → h'.get? b = some o) : News h₀ L h' news' :=
  fun p hp => ⟨he _ _ (hI p hp) (N p hp).1, (N p hp).2⟩
theorem ext_map_loop (B : Below A₀ base outer h₀) (X : (frag w.params).In h₀) (T0 : Top topProg LO mean mg mb h₀) (hh : A.handled = none)
    (hf : A.frames = some (envX cn { kind := .function, names := nm, isGenerator := ig, isCoroutine := ic, more := mo } L a ccd cl :: outer)) (hd' : A.depth ≤ 890) (hu : A.units ≤ 8900)
    (vs : List Value) (hv : ∀ v ∈ vs, ∃ p t, v = .str p t) (hz : vs.length ≤ sizeLine) (hl : (l, lo) ∈ news) (hlc : lo.cls = .type "list") (hld : lo.data = .seq vs.toArray n) (S : Addr) (hS : ∀ p ∈ news, p.1 ≠ S)
    (q1 : S ≠ I) (q2 : S ≠ M) (q3 : S ≠ T) (q4 : I ≠ M) (q5 : I ≠ T) (hI : ∀ p ∈ news, p.1 ≠ I) (R : Result → Shared → Prop) :
    ∀ (k i : Nat) (s : Shared) (acc : Array Value) (c : Nat) (ito : Obj), vs.length - i = k → i ≤ vs.length → Fr h₀ L s.heap m →
    News h₀ L s.heap ((S, { cls := .type "list", data := .seq acc c }) :: (I, ito) :: (M, mapOf (.ref 230) T) :: (T, tupOf #[.ref I]) :: news) → ito.cls = .type "list_iterator" → ito.data = .fields #[.ref l, .int i 0] → acc.toList = vs.take i →
    (∀ h' tk' c', Fr h₀ L h' m → News h₀ L h' ((S, { cls := .type "list", data := .seq vs.toArray c' }) :: news) → R (.ok (.ret (.ref S))) { s with heap := h', toks := tk' }) →
    codeAny (model PR w) A (.builtin "list.extend.loop" ⟨[.ref S, .ref M, .ref S], []⟩) R s := by
  intro k
  induction k with
  | zero =>
    intro i s acc c ito hk hi Fh N hic hid hacc hR
    have hin : i = vs.length := by (first | lia | omega)
    subst hin
    have hM := (N _ (.tail _ (.tail _ (.head _)))).1
    have hT := (N _ (.tail _ (.tail _ (.tail _ (.head _))))).1
    have hIo := N _ (.tail _ (.head _))
    have hlo := N _ (.tail _ (.tail _ (.tail _ (.tail _ hl))))
    have hSo := N _ (.head _)
    refine codeAny_builtin F.entry_extend_loop ?_
    rw [Around.under_plainId F.plain_extend_loop _]
    show wpAny _ A.in1 (pyNext (.ref M) >>= _) _ _ s
    refine wpAny_bind (nextOf_map_end (i := vs.length) (l := l) (vs := vs) hh hM hT ⟨_, hIo.1, hic, hid⟩ ⟨_, hlo.1, hlc, _, hld⟩ (Nat.le_refl _) (hI _ hl) fun h' he => ?_)
    have he' : ∀ b o, b ≠ I → s.heap.get? b = some o → h'.get? b = some o := he
    have hac : acc = vs.toArray := by
      have e : acc.toList = vs := by rw [hacc, List.take_length]
      rw [← e]
    refine wpAny_pure (hR h' s.toks c (fr_but Fh hIo.2.1 hIo.2.2 he') ?_)
    rw [← hac]
    exact news_but (fun p hp => by
      rcases List.mem_cons.mp hp with rfl | hp
      · exact N _ (.head _)
      · exact N _ (.tail _ (.tail _ (.tail _ (.tail _ hp))))) (fun p hp => by
      rcases List.mem_cons.mp hp with rfl | hp
      · exact q1
      · exact hI p hp) he'
  | succ k ih =>
    intro i s acc c ito hk hi Fh N hic hid hacc hR
    have hlt : i < vs.length := by (first | lia | omega)
    have hM := (N _ (.tail _ (.tail _ (.head _)))).1
    have hT := (N _ (.tail _ (.tail _ (.tail _ (.head _))))).1
    have hIo := N _ (.tail _ (.head _))
    have hlo := N _ (.tail _ (.tail _ (.tail _ (.tail _ hl))))
    obtain ⟨p, t, hpt⟩ := hv _ (List.getElem_mem hlt)
    refine codeAny_builtin F.entry_extend_loop ?_
    rw [Around.under_plainId F.plain_extend_loop _]
    show wpAny _ A.in1 (pyNext (.ref M) >>= _) _ _ s
    unfold pyNext
    refine wpAny_bind (wpAny_bind (wpAny_attempt (wpAny_mono (nextOf_map (A := A.in1) (E := fun _ _ => False) (i := i) (l := l) (vs := vs) (v := vs[i]) (M := M) (T := T) (I := I) (f := .ref 230)
      (Q := fun r s' => ∃ h' tk' ito', s' = { s with heap := h', toks := tk' } ∧ r = vs[i] ∧ Fr h₀ L h' m ∧ ito'.cls = .type "list_iterator" ∧ ito'.data = .fields #[.ref l, .int ((i + 1 : Nat) : Int) 0] ∧ News h₀ L h' ((S, { cls := .type "list", data := .seq acc c }) :: (I, ito') :: (M, mapOf (.ref 230) T) :: (T, tupOf #[.ref I]) :: news))
      hh hM hT ⟨_, hIo.1, hic, hid⟩ ⟨_, hlo.1, hlc, _, hld⟩ (List.getElem?_eq_getElem hlt) q4.symm (hI _ hl) fun h' hit hs => ?_) (fun r s' hr => ?_) (fun _ _ e => e.elim))))
    · obtain ⟨ito', hit1, hit2, hit3⟩ := hit
      rw [hpt]
      have F1 : Fr h₀ L h' m := fr_but Fh hIo.2.1 hIo.2.2 fun b o hb e => (hs.2 b hb).trans e
      have N1 : News h₀ L h' ((S, { cls := .type "list", data := .seq acc c }) :: (I, ito') :: (M, mapOf (.ref 230) T) :: (T, tupOf #[.ref I]) :: news) := fun p hp => by
        revert p
        refine fa_cons (⟨(hs.2 _ q1).trans (N _ (.head _)).1, (N _ (.head _)).2⟩) ?_
        refine fa_cons (⟨hit1, (N _ (.tail _ (.head _))).2⟩) ?_
        refine fa_cons (⟨(hs.2 _ q4.symm).trans (N _ (.tail _ (.tail _ (.head _)))).1, (N _ (.tail _ (.tail _ (.head _)))).2⟩) ?_
        refine fa_cons (⟨(hs.2 _ q5.symm).trans (N _ (.tail _ (.tail _ (.tail _ (.head _))))).1, (N _ (.tail _ (.tail _ (.tail _ (.head _))))).2⟩) ?_
        intro p hp
        · exact ⟨(hs.2 _ (hI _ hp)).trans (N _ (.tail _ (.tail _ (.tail _ (.tail _ hp))))).1, (N _ (.tail _ (.tail _ (.tail _ (.tail _ hp))))).2⟩
      refine CC.use (A := A.in1.in1) (L := L) (m := m) (s := { s with heap := h' }) (fspath_c w mean mg mb p t _) B F1 X N1 T0 hh hf ?_ ?_ fun h2 tk2 F2 N2 => ⟨h2, tk2, ito', rfl, rfl, F2, hit2, hit3, N2⟩
      · exact Nat.ble_eq.mpr (by show A.depth ≤ 900; (first | lia | omega))
      · exact Nat.ble_eq.mpr (by show A.units + 1 + 1 ≤ 9000; (first | lia | omega))
    · obtain ⟨v, rfl, h2, tk2, ito', rfl, rfl, F2, hic2, hid2, N2⟩ := hr
      refine wpAny_pure ?_
      show wpAny _ A.in1 (updateSeq S (·.push vs[i]) >>= _) _ _ _
      refine wpAny_bind ?_
      have hSo := (N2 _ (.head _)).1
      have hsz : acc.size = i := by rw [← Array.length_toList, hacc, List.length_take]; (first | lia | omega)
      refine wpAny_updateSeq hSo rfl (wpAny_pure ⟨plainId_quiet F.plain_extend_loop _, ?_⟩)
        (by rw [hsz]; (first | lia | omega)) (by show (acc.push vs[i]).size ≤ sizeLine + 1; rw [Array.size_push, hsz]; (first | lia | omega))
      have hSL := (N2 _ (.head _)).2
      have hupd : ∀ b o, b ≠ S → h2.get? b = some o → (h2.update S (Obj.mapSeq (·.push vs[i]))).get? b = some o := fun b o hb e => (Heap.get?_update_other _ _ (Ne.symm hb)).trans e
      have F3 := fr_but (s := { s with heap := h2, toks := tk2 }) F2 hSL.1 hSL.2 hupd
      refine ih (i + 1) _ (acc.push vs[i]) (if (acc.push vs[i]).size == acc.size then c else c + 1) ito' (by (first | lia | omega)) hlt F3 (fun p hp => ?_) hic2 hid2 ?_ ?_
      · rcases List.mem_cons.mp hp with rfl | hp
        · exact ⟨Heap.get?_update_self _ hSo rfl, hSL⟩
        · refine ⟨hupd _ _ ?_ (N2 _ (.tail _ hp)).1, (N2 _ (.tail _ hp)).2⟩
          rcases List.mem_cons.mp hp with rfl | hp
          · exact q1.symm
          rcases List.mem_cons.mp hp with rfl | hp
          · exact q2.symm
          rcases List.mem_cons.mp hp with rfl | hp
          · exact q3.symm
          · exact hS _ hp
      · rw [Array.toList_push, hacc, List.take_succ_eq_append_getElem hlt]
      · exact fun h' tk' c' F' N' => hR h' tk' c' F' N'
noncomputable def MapMade (M T I : Addr) (news : List (Addr × Obj)) : Prop := I < T ∧ T < M ∧ ∀ p ∈ news, p.1 ≠ I
theorem fr_push (Fh : Fr h₀ L s.heap m) (o : Obj) : Fr h₀ L (s.heap.push o) m := Fh.push o
theorem tuple_map (B : Below A₀ base outer h₀) (X : (frag w.params).In h₀) (T0 : Top topProg LO mean mg mb h₀) (hh : A.handled = none)
    (hf : A.frames = some (envX cn { kind := .function, names := nm, isGenerator := ig, isCoroutine := ic, more := mo } L a ccd cl :: outer)) (hd' : Nat.ble A.depth 880 = true) (hu : Nat.ble A.units 8800 = true)
    (mm : MapMade M T I news) (vs : List Value) (hv : ∀ v ∈ vs, ∃ p t, v = .str p t) (hz : Nat.ble vs.length 1000 = true) (Fh : Fr h₀ L s.heap m) (N : News h₀ L s.heap ((M, mapOf (.ref 230) T) :: (T, tupOf #[.ref I]) :: (I, itAt l 0) :: news))
    (hl : (l, lo) ∈ news) (hlc : lo.cls = .type "list") (hld : lo.data = .seq vs.toArray n) {Q : Value → Shared → Prop}
    (h : ∀ D h' tk', Fr h₀ L h' m → News h₀ L h' ((D, tupOf vs.toArray) :: news) → (∀ p ∈ news, p.1 < D) → Q (.ref D) { s with heap := h', toks := tk' }) :
    wpAny (model PR w) A (call (.type "tuple") [.ref M]) Q E s := by
  obtain ⟨mm1, mm2, mm3⟩ := mm
  have hd2 : A.depth ≤ 880 := Nat.ble_eq.mp hd'
  have hu2 : A.units ≤ 8800 := Nat.ble_eq.mp hu
  have hz2 : vs.length ≤ 1000 := Nat.ble_eq.mp hz
  have hz3 : vs.length ≤ sizeLine := Nat.le_trans hz2 (by size_fits)
  have hMo := N _ (.head _)
  have hTo := N _ (.tail _ (.head _))
  have hIo := N _ (.tail _ (.tail _ (.head _)))
  refine callType_newIn F.called_tuple (by decide) (F.typeCall_tuple_1 _) (F.newCall_tuple_1 _) (fun obj => F.args_object_init_2 obj _) F.entry_tuple_new
    (tuple_new_in (f := .ref 230) M) ⟨⟨T, hMo.1⟩, ?_⟩
  refine codeAny_builtin F.entry_proto_collect ?_
  rw [Around.under_plainId F.plain_proto_collect _]
  show wpAny _ A.in1.in1.in1 (newList [] >>= fun l => again (.builtin "list.__iadd__" ⟨[l, .ref M], []⟩)) _ _ s
  refine wpAny_bind (wpAny_newObj_type ?_)
  refine wpAny_pure ⟨plainId_quiet F.plain_list_iadd _, codeAny_builtin F.entry_list_iadd ?_⟩
  rw [Around.under_plainId F.plain_list_iadd _]
  have hlt : ∀ p ∈ ((M, mapOf (.ref 230) T) :: (T, tupOf #[.ref I]) :: (I, itAt l 0) :: news), p.1 < s.heap.objs.size := fun p hp => Heap.lt_size (N p hp).1
  generalize hSd : s.heap.objs.size = S at hlt
  have hS₁ : (s.heap.push { cls := .type "list", data := .seq ([] : List Value).toArray }).get? S = some { cls := .type "list", data := .seq ([] : List Value).toArray } := by rw [← hSd]; exact Heap.get?_push_size _ rfl
  have hM₁ : (s.heap.push { cls := .type "list", data := .seq ([] : List Value).toArray }).get? M = some (mapOf (.ref 230) T) := Heap.get?_push_of_some _ hMo.1
  have hTy : Shared.TypeIs { s with heap := s.heap.push { cls := .type "list", data := .seq ([] : List Value).toArray } } (.ref M) "map" := ⟨_, hM₁, rfl⟩
  show wpAny _ A.in1.in1.in1 (Builtin.List.listExtendWith (.ref S) (.ref M) (.ref S)) _ _ _
  unfold Builtin.List.listExtendWith
  refine wpAny_bind (wpAny_typeOf hTy ?_)
  have hSM : S ≠ M := (Nat.ne_of_lt (hlt _ (.head _))).symm
  have h1 : Builtin.List.listSameRef (.ref S) (.ref M) = false := by simp [Builtin.List.listSameRef, hSM]
  have h2 : (Value.type "map" == Value.type "list") = false := by decide
  have h3 : (Value.type "map" == Value.type "tuple") = false := by decide
  simp only [h1, h2, h3, Bool.or_false, Bool.false_eq_true, if_false]
  refine wpAny_bind (iter_map hM₁ ?_)
  refine wpAny_bind (wpAny_holding ?_)
  unfold Builtin.List.listLengthHint
  refine wpAny_bind (wpAny_specialOf hTy nolen_map ?_)
  show wpAny _ _ (specialOf (Value.ref M) (Str.ofString "__length_hint__") >>= _) _ _ _
  refine wpAny_bind (wpAny_specialOf hTy nohint_map ?_)
  refine wpAny_pure ?_
  show wpAny _ _ (rule "list.extend.makes-room" >>= fun _ => Builtin.List.listTouch (.ref S) >>= fun _ =>
    again (.builtin "list.extend.loop" ⟨[.ref S, .ref M, .ref S], []⟩)) _ _ _
  refine wpAny_bind (wpAny_rule ?_)
  refine wpAny_bind ?_
  show wpAny _ _ (updateSeq S (·.push .none) >>= fun _ => updateSeq S (·.pop)) _ _ _
  refine wpAny_bind (wpAny_updateSeq hS₁ rfl ?_)
  have hS₂ := Heap.get?_update_self (Obj.mapSeq (·.push Value.none)) hS₁ rfl
  refine wpAny_updateSeq hS₂ rfl ?_
  have hS₃ := Heap.get?_update_self (Obj.mapSeq (·.pop)) hS₂ rfl
  have oth : ∀ b o, b ≠ S → s.heap.get? b = some o →
      (((s.heap.push { cls := .type "list", data := .seq ([] : List Value).toArray }).update S (Obj.mapSeq (·.push Value.none))).update S (Obj.mapSeq (·.pop))).get? b = some o :=
    fun b o hb e => (Heap.get?_update_other _ _ (Ne.symm hb)).trans ((Heap.get?_update_other _ _ (Ne.symm hb)).trans (Heap.get?_push_of_some _ e))
  have hSL : S ≠ L ∧ h₀.get? S = none := by
    have hh1 : L < s.heap.objs.size := by
      obtain ⟨o, _, _, x, _⟩ := Fh.ns
      exact Heap.lt_size x
    refine ⟨Nat.ne_of_gt (hSd ▸ hh1), ?_⟩
    cases hq : h₀.get? S with
    | none => rfl
    | some o => exact absurd (Heap.lt_size (Fh.keep _ _ hq)) (by rw [hSd]; exact Nat.lt_irrefl _)
  have F3 : Fr h₀ L _ m := fr_but (s := s) Fh hSL.1 hSL.2 oth
  have N3 : News h₀ L _ ((M, mapOf (.ref 230) T) :: (T, tupOf #[.ref I]) :: (I, itAt l 0) :: news) := news_but (s := s) N (fun p hp => Nat.ne_of_lt (hlt p hp)) oth
  refine wpAny_pure ⟨plainId_quiet F.plain_extend_loop _, ext_map_loop (A := A.in1.in1) (M := M) (T := T) (I := I) (l := l) (lo := lo) (n := n) B X T0 hh hf ?_ ?_ vs hv hz3 hl hlc hld S (fun p hp => Nat.ne_of_lt (hlt p (.tail _ (.tail _ (.tail _ hp))))) (Nat.ne_of_gt (hlt _ (.tail _ (.tail _ (.head _))))) hSM (Nat.ne_of_gt (hlt _ (.tail _ (.head _)))) (Nat.ne_of_lt (Nat.lt_trans mm1 mm2)) (Nat.ne_of_lt mm1) mm3 _ vs.length 0 _ #[] 2 (itAt l 0) (by (first | lia | omega)) (by (first | lia | omega)) F3 (fun p hp => ?_) rfl rfl rfl ?_⟩
  · show A.depth ≤ 890; (first | lia | omega)
  · show A.units + 1 + 1 ≤ 8900; (first | lia | omega)
  · revert p
    refine fa_cons (⟨hS₃, hSL⟩) ?_
    refine fa_cons (N3 _ (.tail _ (.tail _ (.head _)))) ?_
    refine fa_cons (N3 _ (.head _)) ?_
    refine fa_cons (N3 _ (.tail _ (.head _))) ?_
    intro p hp
    · exact N3 _ (.tail _ (.tail _ (.tail _ hp)))
  · intro h' tk' c' F' N'
    refine ⟨S, vs.toArray, c', rfl, (N' _ (.head _)).1, by simpa using hz3, ?_⟩
    refine ⟨⟨_, Heap.get?_push_size _ rfl, rfl⟩, h _ _ tk' (F'.push _) (News.push F' (fun p hp => N' p (.tail _ hp)) _ rfl) fun p hp => Heap.lt_size (N' p (.tail _ hp)).1⟩
end
theorem lnM2_1 : True := by
  k_with_none
  k_with "x_close" => (first | (exact ⟨_, _, _, _, rfl, rfl, by assumption⟩) | fail)
  trivial
theorem map_x (prog : Program) (w : World) (A : Around) (s : Shared) (f l : Addr) (p q : Str) (t u : Tok) (n : Nat) (hl : s.heap.get? l = some ⟨.type "list", none, .seq #[.str p t, .str q u] n, #[]⟩) :
   wpAny (model prog w) (AX A) (call (.type "map") [.ref f, .ref l]) (fun v s' => ∃ M T I h', v = .ref M ∧ s' = { s with heap := h' } ∧ Mem s.heap h' [] [(M, mapOf (.ref f) T), (T, tupOf #[.ref I]), (I, itAt l 0)]) (fun _ _ => False) s := by
  x_run
section
variable {h₀ h h' : Heap} {L : Addr} {m : Str → Option Value} {news new : List (Addr × Obj)}
theorem mem_keep (D : Mem h h' [] new) : ∀ b o, h.get? b = some o → h'.get? b = some o := fun b o e => D.keep b o e (Bool.or_true _)
theorem mem_fr (F : Fr h₀ L h m) (D : Mem h h' [] new) : Fr h₀ L h' m := F.keeps (mem_keep D)
theorem mem_news (F : Fr h₀ L h m) (N : News h₀ L h news) (D : Mem h h' [] new) : News h₀ L h' (new ++ news) := fun p hp => by
  rcases List.mem_append.mp hp with hp | hp
  · obtain ⟨a, b⟩ := D.nw p hp
    refine ⟨a, ?_, ?_⟩
    · intro e
      obtain ⟨o, _, _, x, _⟩ := F.ns
      rw [e, x] at b
      cases b
    · cases hq : h₀.get? p.1 with
      | none => rfl
      | some o => rw [F.keep _ _ hq] at b; cases b
  · exact ⟨mem_keep D _ _ (N p hp).1, (N p hp).2⟩
theorem mem_ne (N : News h₀ L h news) (D : Mem h h' [] new) {q : Addr × Obj} (hq : q ∈ new) : ∀ p ∈ news, p.1 ≠ q.1 := fun p hp e => by
  have := (N p hp).1
  rw [e, (D.nw q hq).2] at this
  cases this
theorem map_c {prog : Program} {w : World} {A : Around} {E : Value → Shared → Prop} {s : Shared} {f l : Addr} {p q : Str} {t u : Tok} {n : Nat} {Q : Value → Shared → Prop} (F : Fr h₀ L s.heap m) (N : News h₀ L s.heap news)
    (hl : (l, ({ cls := .type "list", data := .seq #[.str p t, .str q u] n } : Obj)) ∈ news) (hd : Nat.ble A.depth 950 = true) (hu : Nat.ble A.units 9500 = true)
    (r : ∀ M T I h', MapMade M T I news → Fr h₀ L h' m → News h₀ L h' ((M, mapOf (.ref f) T) :: (T, tupOf #[.ref I]) :: (I, itAt l 0) :: news) → Q (.ref M) { s with heap := h' }) :
    wpAny (model prog w) A (call (.type "map") [.ref f, .ref l]) Q E s :=
  in_AX (wpAny_mono (map_x prog w A s f l p q t u n (N.get hl)) (fun v s' hx => by
    obtain ⟨M, T, I, h', rfl, rfl, D⟩ := hx
    have o := D.ord
    simp only [List.map_cons, List.map_nil, List.pairwise_cons, List.mem_cons, List.not_mem_nil, or_false, forall_eq_or_imp, forall_eq] at o
    exact r M T I h' ⟨o.2.1, o.1.1, mem_ne N D (.tail _ (.tail _ (.head _)))⟩ (mem_fr F D) (mem_news F N D)) fun _ _ e => e.elim) hd hu
end
end Mine
end

section
open PySem PySem.W PySem.W.X PyProof.Rows PySem.Calls PyProof.V PySem.Spec
set_option Elab.async false
set_option maxRecDepth 100000
set_option maxHeartbeats 0
namespace Mine
theorem lnL1 : True := by
  k_with_none
  trivial


noncomputable def ltP : List Str → List Str → Bool
  | [], [] => false
  | [], _ :: _ => true
  | _ :: _, [] => false
  | x :: xs, y :: ys => if x = y then ltP xs ys else decide (x.cps.toList < y.cps.toList)
noncomputable def sFst (a : List (Str × Tok)) : List Str := a.map (·.1)
theorem sv_get {xs : List (Str × Tok)} {i : Nat} {x : Str × Tok} {r : List (Str × Tok)} (h : xs.drop i = x :: r) : (strValues xs).toArray[((i : Nat) : Int).toNat]? = some (.str x.1 x.2) ∧ xs.drop (i + 1) = r ∧ i + 1 ≤ xs.length := by
  have hlt : i < xs.length := by
    rcases Nat.lt_or_ge i xs.length with q | q
    · exact q
    · rw [List.drop_eq_nil_of_le q] at h; cases h
  rw [List.drop_eq_getElem_cons hlt] at h
  injection h with h1 h2
  refine ⟨?_, h2, hlt⟩
  simp [strValues, List.getElem?_map, List.getElem?_eq_getElem hlt, h1]
theorem sv_none {xs : List (Str × Tok)} {i : Nat} (h : xs.drop i = []) : (strValues xs).toArray[((i : Nat) : Int).toNat]? = none := by
  have := List.drop_eq_nil_iff.mp h
  simp only [Int.toNat_natCast, List.getElem?_toArray, List.getElem?_eq_none_iff, strValues, List.length_map]
  exact this
theorem gt_str {prog : Program} {w : World} {A : Around} {E : Value → Shared → Prop} {s : Shared} {x y : Str} {t u : Tok} {Q : Value → Shared → Prop} (h : Q (.bool (y.cps.toList < x.cps.toList)) s) : wpAny (model prog w) A (richCompare .Gt (.str x t) (.str y u)) Q E s :=
  wpAny_richCompare_same (op := .Gt) (T := "str") (typeIs_str s x t) (typeIs_str s y u) F.slot_str_gt
    (wpAny_call_entry F.slot_str_gt (typeIs_str s x t) F.entry_str_gt (show wpAny _ _ (ret (.bool (y.cps.toList < x.cps.toList))) _ _ s from wpAny_pure ⟨_, rfl, by simp, h⟩) (F.args_str_gt_2 _ _))
theorem sv_size (xs : List (Str × Tok)) : (strValues xs).toArray.size = xs.length := by simp [strValues]
open PySem.MeetsSeq3 AutoSeq1 in
theorem lt_loop (l b : Addr) (xs ys : List (Str × Tok)) (n n2 : Nat) :
    ∀ (r q : List (Str × Tok)) (i : Nat), xs.drop i = r → ys.drop i = q → i ≤ xs.length → i ≤ ys.length → Meets (Builtin.«list.__eq__.loop» ⟨[.ref l, .ref b, rawInt i, rawInt 0], []⟩)
      (fun A R s => s.heap.get? l = some { cls := .type "list", dict := none, data := .seq (strValues xs).toArray n, slots := #[] } ∧ s.heap.get? b = some { cls := .type "list", dict := none, data := .seq (strValues ys).toArray n2, slots := #[] } ∧
        R (.ok (.ret (.bool (ltP (sFst r) (sFst q))))) s) := by
  intro r
  induction r with
  | nil =>
    intro q i hr hq hi hi2 prog w A R s h
    obtain ⟨hp, g, d, tk, os⟩ := s; obtain ⟨hl, hb, h⟩ := h
    wp_walk using wpAny_loadPart' hl, wpAny_loadPart' hb
    rw [sv_none hr]
    have e1 : xs.length = i := Nat.le_antisymm (List.drop_eq_nil_iff.mp hr) hi
    cases q with
    | nil =>
      rw [sv_none hq]
      have e2 : ys.length = i := Nat.le_antisymm (List.drop_eq_nil_iff.mp hq) hi2
      wp_walk using wpAny_loadPart' hl, wpAny_loadPart' hb
      show R (.ok (.ret (.bool (decide ((strValues xs).toArray.size < (strValues ys).toArray.size))))) _
      rw [sv_size, sv_size, e1, e2]
      simpa [sFst, ltP] using h
    | cons y q =>
      have z := sv_get hq
      rw [z.1]
      wp_walk using wpAny_loadPart' hl, wpAny_loadPart' hb
      show R (.ok (.ret (.bool (decide ((strValues xs).toArray.size < (strValues ys).toArray.size))))) _
      rw [sv_size, sv_size, e1]
      have hlt : i < ys.length := z.2.2
      have hle : ¬ ys.length < i := by (first | lia | omega)
      simpa [sFst, ltP, hlt, hle] using h
  | cons x r ih =>
    intro q i hr hq hi hi2 prog w A R s h
    obtain ⟨hp, g, d, tk, os⟩ := s; obtain ⟨hl, hb, h⟩ := h
    have z1 := sv_get hr
    wp_walk using wpAny_loadPart' hl, wpAny_loadPart' hb
    rw [z1.1]
    cases q with
    | nil =>
      rw [sv_none hq]
      have e2 : ys.length = i := Nat.le_antisymm (List.drop_eq_nil_iff.mp hq) hi2
      wp_walk using wpAny_loadPart' hl, wpAny_loadPart' hb
      show R (.ok (.ret (.bool (decide ((strValues xs).toArray.size < (strValues ys).toArray.size))))) _
      rw [sv_size, sv_size, e2]
      have hlt : i < xs.length := z1.2.2
      have hle : ¬ xs.length < i := by (first | lia | omega)
      simpa [sFst, ltP, hlt, hle] using h
    | cons y q =>
      have z2 := sv_get hq
      rw [z2.1]
      refine wpAny_bind (wpAny_eqBool_str ?_)
      have hc : ((i : Int) + 1) = ((i + 1 : Nat) : Int) := by push_cast; rfl
      by_cases hxy : x.1 = y.1
      · rw [decide_eq_true hxy]
        wp_walk
        rw [hc]
        exact ⟨plainId_quiet plain_eq_loop _, codeAny_builtin entry_eq_loop (by
          rw [Around.under_plainId plain_eq_loop _]
          exact ih q (i + 1) z1.2.1 z2.2.1 z1.2.2 z2.2.2 prog w A R _ ⟨hl, hb, by simpa [sFst, ltP, hxy] using h⟩)⟩
      · rw [decide_eq_false hxy]
        wp_walk using wpAny_loadPart' hl, wpAny_loadPart' hb
        rw [z1.1, z2.1]
        refine wpAny_bind (lt_str (wpAny_pure ?_))
        simpa [sFst, ltP, hxy] using h
open PySem.MeetsSeq3 AutoSeq1 in
theorem list_lt (l b : Addr) (xs ys : List (Str × Tok)) (n n2 : Nat) : Meets (Builtin.«list.__lt__» ⟨[.ref l, .ref b], []⟩)
      (fun A R s => s.heap.get? l = some { cls := .type "list", dict := none, data := .seq (strValues xs).toArray n, slots := #[] } ∧ s.heap.get? b = some { cls := .type "list", dict := none, data := .seq (strValues ys).toArray n2, slots := #[] } ∧
        R (.ok (.ret (.bool (ltP (sFst xs) (sFst ys))))) s) := by
  intro prog w A R s h
  obtain ⟨hp, g, d, tk, os⟩ := s; obtain ⟨hl, hb, h⟩ := h
  have f3 := AutoSeq1.sub_list_list
  wp_walk using wpAny_loadPart' hl, wpAny_loadPart' hb
  exact ⟨plainId_quiet plain_eq_loop _, codeAny_builtin entry_eq_loop (by
    rw [Around.under_plainId plain_eq_loop _]
    exact lt_loop l b xs ys n n2 xs ys 0 rfl rfl (Nat.zero_le _) (Nat.zero_le _) prog w A R _ ⟨hl, hb, h⟩)⟩
theorem cmp_lt {prog : Program} {w : World} {A : Around} {E : Value → Shared → Prop} {s : Shared} {l b : Addr} {xs ys : List (Str × Tok)} {n n2 : Nat} {Q : Value → Shared → Prop} (hu : A.units < cLine)
    (hl : s.heap.get? l = some { cls := .type "list", dict := none, data := .seq (strValues xs).toArray n, slots := #[] }) (hb : s.heap.get? b = some { cls := .type "list", dict := none, data := .seq (strValues ys).toArray n2, slots := #[] })
    (h : Q (.bool (ltP (sFst xs) (sFst ys))) s) : wpAny (model prog w) A (richCompare .Lt (.ref l) (.ref b)) Q E s := by
  refine wpAny_richCompare_same_room (op := .Lt) (T := "list") ⟨_, hl, rfl⟩ ⟨_, hb, rfl⟩ F.slot_list_lt ?_ hu
  refine wpAny_call (codeAny_call_builtin F.slot_list_lt.plain F.entry_list_lt (F.slot_list_lt.check _ _ _ _ _ _ _ _ ⟨_, hl, rfl⟩ (F.args_list_lt_2 _ _) (list_lt l b xs ys n n2 prog w A (fun r s' => match r with | .ok (.ret v) => v ≠ .notImplemented ∧ Q v s' | .ok _ => False | .error e => E e s') _ ⟨hl, hb, by simp, h⟩)))
open PySem.MeetsSeq3 AutoSeq1 in
theorem gt_loop (l b : Addr) (xs ys : List (Str × Tok)) (n n2 : Nat) :
    ∀ (r q : List (Str × Tok)) (i : Nat), xs.drop i = r → ys.drop i = q → i ≤ xs.length → i ≤ ys.length → Meets (Builtin.«list.__eq__.loop» ⟨[.ref l, .ref b, rawInt i, rawInt 4], []⟩)
      (fun A R s => s.heap.get? l = some { cls := .type "list", dict := none, data := .seq (strValues xs).toArray n, slots := #[] } ∧ s.heap.get? b = some { cls := .type "list", dict := none, data := .seq (strValues ys).toArray n2, slots := #[] } ∧
        R (.ok (.ret (.bool (ltP (sFst q) (sFst r))))) s) := by
  intro r
  induction r with
  | nil =>
    intro q i hr hq hi hi2 prog w A R s h
    obtain ⟨hp, g, d, tk, os⟩ := s; obtain ⟨hl, hb, h⟩ := h
    wp_walk using wpAny_loadPart' hl, wpAny_loadPart' hb
    rw [sv_none hr]
    have e1 : xs.length = i := Nat.le_antisymm (List.drop_eq_nil_iff.mp hr) hi
    cases q with
    | nil =>
      rw [sv_none hq]
      have e2 : ys.length = i := Nat.le_antisymm (List.drop_eq_nil_iff.mp hq) hi2
      wp_walk using wpAny_loadPart' hl, wpAny_loadPart' hb
      show R (.ok (.ret (.bool (decide ((strValues xs).toArray.size > (strValues ys).toArray.size))))) _
      rw [sv_size, sv_size, e1, e2]
      simpa [sFst, ltP] using h
    | cons y q =>
      have z := sv_get hq
      rw [z.1]
      wp_walk using wpAny_loadPart' hl, wpAny_loadPart' hb
      show R (.ok (.ret (.bool (decide ((strValues xs).toArray.size > (strValues ys).toArray.size))))) _
      rw [sv_size, sv_size, e1]
      have hlt : i < ys.length := z.2.2
      have hle : ¬ ys.length < i := by (first | lia | omega)
      simpa [sFst, ltP, hlt, hle] using h
  | cons x r ih =>
    intro q i hr hq hi hi2 prog w A R s h
    obtain ⟨hp, g, d, tk, os⟩ := s; obtain ⟨hl, hb, h⟩ := h
    have z1 := sv_get hr
    wp_walk using wpAny_loadPart' hl, wpAny_loadPart' hb
    rw [z1.1]
    cases q with
    | nil =>
      rw [sv_none hq]
      have e2 : ys.length = i := Nat.le_antisymm (List.drop_eq_nil_iff.mp hq) hi2
      wp_walk using wpAny_loadPart' hl, wpAny_loadPart' hb
      show R (.ok (.ret (.bool (decide ((strValues xs).toArray.size > (strValues ys).toArray.size))))) _
      rw [sv_size, sv_size, e2]
      have hlt : i < xs.length := z1.2.2
      have hle : ¬ xs.length < i := by (first | lia | omega)
      simpa [sFst, ltP, hlt, hle] using h
    | cons y q =>
      have z2 := sv_get hq
      rw [z2.1]
      refine wpAny_bind (wpAny_eqBool_str ?_)
      have hc : ((i : Int) + 1) = ((i + 1 : Nat) : Int) := by push_cast; rfl
      by_cases hxy : x.1 = y.1
      · rw [decide_eq_true hxy]
        wp_walk
        rw [hc]
        exact ⟨plainId_quiet plain_eq_loop _, codeAny_builtin entry_eq_loop (by
          rw [Around.under_plainId plain_eq_loop _]
          exact ih q (i + 1) z1.2.1 z2.2.1 z1.2.2 z2.2.2 prog w A R _ ⟨hl, hb, by simpa [sFst, ltP, hxy] using h⟩)⟩
      · rw [decide_eq_false hxy]
        wp_walk using wpAny_loadPart' hl, wpAny_loadPart' hb
        rw [z1.1, z2.1]
        refine wpAny_bind (gt_str (wpAny_pure ?_))
        have hyx : ¬ y.1 = x.1 := fun e => hxy e.symm
        simpa [sFst, ltP, hyx] using h
open PySem.MeetsSeq3 AutoSeq1 in
theorem list_gt (l b : Addr) (xs ys : List (Str × Tok)) (n n2 : Nat) : Meets (Builtin.«list.__gt__» ⟨[.ref l, .ref b], []⟩)
      (fun A R s => s.heap.get? l = some { cls := .type "list", dict := none, data := .seq (strValues xs).toArray n, slots := #[] } ∧ s.heap.get? b = some { cls := .type "list", dict := none, data := .seq (strValues ys).toArray n2, slots := #[] } ∧
        R (.ok (.ret (.bool (ltP (sFst ys) (sFst xs))))) s) := by
  intro prog w A R s h
  obtain ⟨hp, g, d, tk, os⟩ := s; obtain ⟨hl, hb, h⟩ := h
  have f3 := AutoSeq1.sub_list_list
  wp_walk using wpAny_loadPart' hl, wpAny_loadPart' hb
  exact ⟨plainId_quiet plain_eq_loop _, codeAny_builtin entry_eq_loop (by
    rw [Around.under_plainId plain_eq_loop _]
    exact gt_loop l b xs ys n n2 xs ys 0 rfl rfl (Nat.zero_le _) (Nat.zero_le _) prog w A R _ ⟨hl, hb, h⟩)⟩
theorem cmp_gt {prog : Program} {w : World} {A : Around} {E : Value → Shared → Prop} {s : Shared} {l b : Addr} {xs ys : List (Str × Tok)} {n n2 : Nat} {Q : Value → Shared → Prop} (hu : A.units < cLine)
    (hl : s.heap.get? l = some { cls := .type "list", dict := none, data := .seq (strValues xs).toArray n, slots := #[] }) (hb : s.heap.get? b = some { cls := .type "list", dict := none, data := .seq (strValues ys).toArray n2, slots := #[] })
    (h : Q (.bool (ltP (sFst ys) (sFst xs))) s) : wpAny (model prog w) A (richCompare .Gt (.ref l) (.ref b)) Q E s := by
  refine wpAny_richCompare_same_room (op := .Gt) (T := "list") ⟨_, hl, rfl⟩ ⟨_, hb, rfl⟩ F.slot_list_gt ?_ hu
  refine wpAny_call (codeAny_call_builtin F.slot_list_gt.plain F.entry_list_gt (F.slot_list_gt.check _ _ _ _ _ _ _ _ ⟨_, hl, rfl⟩ (F.args_list_gt_2 _ _) (list_gt l b xs ys n n2 prog w A (fun r s' => match r with | .ok (.ret v) => v ≠ .notImplemented ∧ Q v s' | .ok _ => False | .error e => E e s') _ ⟨hl, hb, by simp, h⟩)))
end Mine
end

section
open PySem PySem.W PySem.W.X PyProof.Rows PySem.Calls PyProof.V PySem.Spec
set_option Elab.async false
set_option maxRecDepth 100000
set_option maxHeartbeats 0
namespace Mine
theorem lnL2 : True := by
  k_with_none
  trivial
noncomputable abbrev sList (xs : List (Str × Tok)) (n : Nat) : Obj := { cls := .type "list", data := .seq (strValues xs).toArray n }
section
variable {prog : Program} {w : World} {A : Around} {E : Value → Shared → Prop} {s : Shared} {l x y : Addr} {xs ys : List (Str × Tok)} {n n1 n2 : Nat} {Q : Value → Shared → Prop}
theorem min_two (hh : A.handled = none) (hu : A.units < 9000) (hl : s.heap.IsList l #[.ref x, .ref y]) (hx : s.heap.get? x = some (sList xs n1)) (hy : s.heap.get? y = some (sList ys n2))
    (h : ∀ h', (∀ b o, s.heap.get? b = some o → h'.get? b = some o) → Q (if ltP (sFst ys) (sFst xs) then .ref y else .ref x) { s with heap := h' }) :
    wpAny (model prog w) A (call (.builtin "min") [.ref l]) Q E s := by
  have hname : (toString "min" ++ toString ".loop" : String) = "min.loop" := by decide
  have hu1 : A.in1.units < cLine := Nat.lt_of_lt_of_le (show A.units + 1 < 9900 by (first | lia | omega)) (Nat.le_of_ble_eq_true rfl)
  refine call_function_tree F.kind_min F.plain_min F.entry_min (F.args_min1 _) ?_
  show wpAny _ A.in1 (Builtin.Builtins.bindParams "min" ["key", "default"] 0 ⟨[], []⟩ >>= _) _ _ s
  refine wpAny_bind (wpAny_of_eq (show Builtin.Builtins.bindParams "min" ["key", "default"] 0 ⟨[], []⟩ = pure [none, none] from rfl) ?_)
  refine wpAny_bind (wpAny_pure ?_)
  refine wpAny_bind (wpAny_pyIter_list hl ?_)
  refine wpAny_bind (wpAny_newObj_type ?_)
  have hlt : ∀ b o, s.heap.get? b = some o → b < s.heap.objs.size := fun b o e => Heap.lt_size e
  obtain ⟨lo, hlo, hlr⟩ := id hl
  have hl1 := hlt _ _ hlo
  generalize hI : s.heap.objs.size = I at hlt hl1
  have up0 : ∀ b o, s.heap.get? b = some o → (s.heap.push { cls := .type "list_iterator", data := .fields #[.ref l, .int 0 0] }).get? b = some o := fun b o e => Heap.get?_push_of_some _ e
  have it0 : (s.heap.push { cls := .type "list_iterator", data := .fields #[.ref l, .int 0 0] }).IsListIter I l 0 := ⟨_, by rw [← hI]; exact Heap.get?_push_size _ rfl, rfl, rfl⟩
  have sz0 : (s.heap.push { cls := .type "list_iterator", data := .fields #[.ref l, .int 0 0] }).objs.size = I + 1 := by rw [Heap.size_push, hI]
  generalize (s.heap.push { cls := .type "list_iterator", data := .fields #[.ref l, .int 0 0] }) = H0 at up0 it0 sz0
  have up1 : ∀ b o, H0.get? b = some o → (H0.push { cls := .type "list", data := .seq ([] : List Value).toArray }).get? b = some o := fun b o e => Heap.get?_push_of_some _ e
  have hS1 : (H0.push { cls := .type "list", data := .seq ([] : List Value).toArray }).get? (I + 1) = some { cls := .type "list", data := .seq ([] : List Value).toArray } := by rw [← sz0]; exact Heap.get?_push_size _ rfl
  rw [show ({ s with heap := H0 } : Shared).heap.objs.size = I + 1 from sz0]
  show wpAny _ _ (again (.builtin (toString "min" ++ toString ".loop" : String) _)) _ _ _
  rw [hname]
  generalize hH1 : (H0.push { cls := .type "list", data := .seq ([] : List Value).toArray }) = H1 at up1 hS1
  have it1 : H1.IsListIter I l 0 := it0.at fun o e => up1 _ _ e
  have un1 : ∀ b o, s.heap.get? b = some o → H1.get? b = some o := fun b o e => up1 b o (up0 b o e)
  have hSI : I + 1 ≠ I := Nat.succ_ne_self I
  clear up0 it0 sz0 up1
  refine wpAny_pure ⟨plainId_quiet F.plain_min_loop _, ?_⟩
  -- first turn
  refine codeAny_builtin F.entry_min_loop ?_
  rw [Around.under_plainId F.plain_min_loop _]
  show wpAny _ A.in1 (seqItems? (.ref (I + 1)) >>= _) _ _ _
  refine wpAny_bind (wpAny_seqItems hS1 rfl ?_)
  show wpAny _ A.in1 (tryCatch (pyNext (.ref I)) _ >>= _) _ _ _
  refine wpAny_bind (wpAny_tryCatch (wpAny_pyNext_list_item (x := .ref x) it1 (hl.at fun o e => un1 _ _ e) rfl fun H2 it2 sb2 => ?_))
  have un2 : ∀ b o, s.heap.get? b = some o → H2.get? b = some o := fun b o e => (sb2.2 b (Nat.ne_of_lt (hlt _ _ e))).trans (un1 b o e)
  have hS2 := (sb2.2 _ hSI).trans hS1
  show wpAny _ A.in1 (updateSeq (I + 1) (fun _ => #[.ref x, .ref x]) >>= _) _ _ _
  refine wpAny_bind ?_
  refine wpAny_updateSeq hS2 rfl ?_
  rw [hname]
  have hS3 := Heap.get?_update_self (Obj.mapSeq (fun _ => #[Value.ref x, .ref x])) hS2 rfl
  have un3 : ∀ b o, b ≠ I + 1 → H2.get? b = some o → (H2.update (I + 1) (Obj.mapSeq (fun _ => #[Value.ref x, .ref x]))).get? b = some o := fun b o hb e => (Heap.get?_update_other _ _ (Ne.symm hb)).trans e
  have nS : ∀ b o, s.heap.get? b = some o → b ≠ I + 1 := fun b o e => Nat.ne_of_lt (Nat.lt_succ_of_lt (hlt _ _ e))
  have it3 := it2.at fun o e => un3 _ _ hSI.symm e
  show wpAny _ _ _ _ _ { s with heap := (H2.update (I + 1) (Obj.mapSeq (fun _ => #[Value.ref x, .ref x]))) }
  generalize (H2.update (I + 1) (Obj.mapSeq (fun _ => #[Value.ref x, .ref x]))) = H3 at hS3 un3 it3
  have un4 : ∀ b o, s.heap.get? b = some o → H3.get? b = some o := fun b o e => un3 b o (nS _ _ e) (un2 b o e)
  refine wpAny_pure ⟨plainId_quiet F.plain_min_loop _, ?_⟩
  -- second turn
  refine codeAny_builtin F.entry_min_loop ?_
  rw [Around.under_plainId F.plain_min_loop _]
  show wpAny _ A.in1 (seqItems? (.ref (I + 1)) >>= _) _ _ _
  refine wpAny_bind (wpAny_seqItems hS3 rfl ?_)
  show wpAny _ A.in1 (tryCatch (pyNext (.ref I)) _ >>= _) _ _ _
  refine wpAny_bind (wpAny_tryCatch (wpAny_pyNext_list_item (x := .ref y) it3 (hl.at fun o e => un4 _ _ e) rfl fun H4 it4 sb4 => ?_))
  have un5 : ∀ b o, s.heap.get? b = some o → H4.get? b = some o := fun b o e => (sb4.2 b (Nat.ne_of_lt (hlt _ _ e))).trans (un4 b o e)
  have hS4 := (sb4.2 _ hSI).trans hS3
  show wpAny _ A.in1 (tryCatch (holding [.ref y, .ref y] (richCompare .Lt (.ref y) (.ref x) >>= _)) _ >>= _) _ _ _
  refine wpAny_bind (wpAny_tryCatch (wpAny_holding (wpAny_bind (cmp_lt hu1 (un5 _ _ hy) (un5 _ _ hx) ?_))))
  refine wpAny_bind (wpAny_holding (wpAny_truthy_bool ?_))
  refine wpAny_bind (wpAny_letGo (wpAny_pure ?_))
  -- last turn
  have last : ∀ (v : Value) (H : Heap) (c : Nat), (∀ b o, s.heap.get? b = some o → H.get? b = some o) → H.IsListIter I l 2 → H.get? (I + 1) = some { cls := .type "list", dict := none, data := .seq #[v, v] c, slots := #[] } →
      (∀ h', (∀ b o, s.heap.get? b = some o → h'.get? b = some o) → Q v { s with heap := h' }) →
      codeAny (model prog w) A (.builtin "min.loop" ⟨[.ref I, .none, .ref (I + 1)], []⟩) (fun r s' => match r with | .ok (.ret v) => Q v s' | .ok _ => False | .error e => E e s') { s with heap := H } := by
    intro v H c un it hS hq
    refine codeAny_builtin F.entry_min_loop ?_
    rw [Around.under_plainId F.plain_min_loop _]
    show wpAny _ A.in1 (seqItems? (.ref (I + 1)) >>= _) _ _ _
    refine wpAny_bind (wpAny_seqItems hS rfl ?_)
    show wpAny _ A.in1 (tryCatch (pyNext (.ref I)) _ >>= _) _ _ _
    refine wpAny_bind (wpAny_tryCatch (wpAny_pyNext_list_end hh it (hl.at fun o e => un _ _ e) rfl fun h' he => ?_))
    have hS' := he _ _ hSI hS
    show wpAny _ A.in1 (updateSeq (I + 1) (fun _ => #[]) >>= _) _ _ _
    refine wpAny_bind ?_
    refine wpAny_updateSeq hS' rfl (wpAny_bind (wpAny_letGo (wpAny_pure ?_)))
    exact hq _ fun b o e => (Heap.get?_update_other _ _ (Ne.symm (nS _ _ e))).trans (he _ _ (Nat.ne_of_lt (hlt _ _ e)) (un _ _ e))
  cases hb : ltP (sFst ys) (sFst xs) with
  | true =>
    rw [hb, if_pos rfl] at h
    simp only [if_true]
    refine wpAny_bind ?_
    refine wpAny_updateSeq hS4 rfl (wpAny_bind (wpAny_letGo ?_))
    rw [hname]
    refine wpAny_pure ⟨plainId_quiet F.plain_min_loop _, last (.ref y) _ _ (fun b o e => (Heap.get?_update_other _ _ (Ne.symm (nS _ _ e))).trans (un5 _ _ e)) (it4.at fun o e => (Heap.get?_update_other _ _ hSI).trans e) (Heap.get?_update_self _ hS4 rfl) h⟩
  | false =>
    rw [hb, if_neg Bool.false_ne_true] at h
    simp only [Bool.false_eq_true, if_false]
    refine wpAny_bind (wpAny_letGo ?_)
    rw [hname]
    exact wpAny_pure ⟨plainId_quiet F.plain_min_loop _, last (.ref x) _ _ un5 it4 hS4 h⟩
theorem max_two (hh : A.handled = none) (hu : A.units < 9000) (hl : s.heap.IsList l #[.ref x, .ref y]) (hx : s.heap.get? x = some (sList xs n1)) (hy : s.heap.get? y = some (sList ys n2))
    (h : ∀ h', (∀ b o, s.heap.get? b = some o → h'.get? b = some o) → Q (if ltP (sFst xs) (sFst ys) then .ref y else .ref x) { s with heap := h' }) :
    wpAny (model prog w) A (call (.builtin "max") [.ref l]) Q E s := by
  have hname : (toString "max" ++ toString ".loop" : String) = "max.loop" := by decide
  have hu1 : A.in1.units < cLine := Nat.lt_of_lt_of_le (show A.units + 1 < 9900 by (first | lia | omega)) (Nat.le_of_ble_eq_true rfl)
  refine call_function_tree F.kind_max F.plain_max F.entry_max (F.args_max1 _) ?_
  show wpAny _ A.in1 (Builtin.Builtins.bindParams "max" ["key", "default"] 0 ⟨[], []⟩ >>= _) _ _ s
  refine wpAny_bind (wpAny_of_eq (show Builtin.Builtins.bindParams "max" ["key", "default"] 0 ⟨[], []⟩ = pure [none, none] from rfl) ?_)
  refine wpAny_bind (wpAny_pure ?_)
  refine wpAny_bind (wpAny_pyIter_list hl ?_)
  refine wpAny_bind (wpAny_newObj_type ?_)
  have hlt : ∀ b o, s.heap.get? b = some o → b < s.heap.objs.size := fun b o e => Heap.lt_size e
  obtain ⟨lo, hlo, hlr⟩ := id hl
  have hl1 := hlt _ _ hlo
  generalize hI : s.heap.objs.size = I at hlt hl1
  have up0 : ∀ b o, s.heap.get? b = some o → (s.heap.push { cls := .type "list_iterator", data := .fields #[.ref l, .int 0 0] }).get? b = some o := fun b o e => Heap.get?_push_of_some _ e
  have it0 : (s.heap.push { cls := .type "list_iterator", data := .fields #[.ref l, .int 0 0] }).IsListIter I l 0 := ⟨_, by rw [← hI]; exact Heap.get?_push_size _ rfl, rfl, rfl⟩
  have sz0 : (s.heap.push { cls := .type "list_iterator", data := .fields #[.ref l, .int 0 0] }).objs.size = I + 1 := by rw [Heap.size_push, hI]
  generalize (s.heap.push { cls := .type "list_iterator", data := .fields #[.ref l, .int 0 0] }) = H0 at up0 it0 sz0
  have up1 : ∀ b o, H0.get? b = some o → (H0.push { cls := .type "list", data := .seq ([] : List Value).toArray }).get? b = some o := fun b o e => Heap.get?_push_of_some _ e
  have hS1 : (H0.push { cls := .type "list", data := .seq ([] : List Value).toArray }).get? (I + 1) = some { cls := .type "list", data := .seq ([] : List Value).toArray } := by rw [← sz0]; exact Heap.get?_push_size _ rfl
  rw [show ({ s with heap := H0 } : Shared).heap.objs.size = I + 1 from sz0]
  show wpAny _ _ (again (.builtin (toString "max" ++ toString ".loop" : String) _)) _ _ _
  rw [hname]
  generalize hH1 : (H0.push { cls := .type "list", data := .seq ([] : List Value).toArray }) = H1 at up1 hS1
  have it1 : H1.IsListIter I l 0 := it0.at fun o e => up1 _ _ e
  have un1 : ∀ b o, s.heap.get? b = some o → H1.get? b = some o := fun b o e => up1 b o (up0 b o e)
  have hSI : I + 1 ≠ I := Nat.succ_ne_self I
  clear up0 it0 sz0 up1
  refine wpAny_pure ⟨plainId_quiet F.plain_max_loop _, ?_⟩
  -- first turn
  refine codeAny_builtin F.entry_max_loop ?_
  rw [Around.under_plainId F.plain_max_loop _]
  show wpAny _ A.in1 (seqItems? (.ref (I + 1)) >>= _) _ _ _
  refine wpAny_bind (wpAny_seqItems hS1 rfl ?_)
  show wpAny _ A.in1 (tryCatch (pyNext (.ref I)) _ >>= _) _ _ _
  refine wpAny_bind (wpAny_tryCatch (wpAny_pyNext_list_item (x := .ref x) it1 (hl.at fun o e => un1 _ _ e) rfl fun H2 it2 sb2 => ?_))
  have un2 : ∀ b o, s.heap.get? b = some o → H2.get? b = some o := fun b o e => (sb2.2 b (Nat.ne_of_lt (hlt _ _ e))).trans (un1 b o e)
  have hS2 := (sb2.2 _ hSI).trans hS1
  show wpAny _ A.in1 (updateSeq (I + 1) (fun _ => #[.ref x, .ref x]) >>= _) _ _ _
  refine wpAny_bind ?_
  refine wpAny_updateSeq hS2 rfl ?_
  rw [hname]
  have hS3 := Heap.get?_update_self (Obj.mapSeq (fun _ => #[Value.ref x, .ref x])) hS2 rfl
  have un3 : ∀ b o, b ≠ I + 1 → H2.get? b = some o → (H2.update (I + 1) (Obj.mapSeq (fun _ => #[Value.ref x, .ref x]))).get? b = some o := fun b o hb e => (Heap.get?_update_other _ _ (Ne.symm hb)).trans e
  have nS : ∀ b o, s.heap.get? b = some o → b ≠ I + 1 := fun b o e => Nat.ne_of_lt (Nat.lt_succ_of_lt (hlt _ _ e))
  have it3 := it2.at fun o e => un3 _ _ hSI.symm e
  show wpAny _ _ _ _ _ { s with heap := (H2.update (I + 1) (Obj.mapSeq (fun _ => #[Value.ref x, .ref x]))) }
  generalize (H2.update (I + 1) (Obj.mapSeq (fun _ => #[Value.ref x, .ref x]))) = H3 at hS3 un3 it3
  have un4 : ∀ b o, s.heap.get? b = some o → H3.get? b = some o := fun b o e => un3 b o (nS _ _ e) (un2 b o e)
  refine wpAny_pure ⟨plainId_quiet F.plain_max_loop _, ?_⟩
  -- second turn
  refine codeAny_builtin F.entry_max_loop ?_
  rw [Around.under_plainId F.plain_max_loop _]
  show wpAny _ A.in1 (seqItems? (.ref (I + 1)) >>= _) _ _ _
  refine wpAny_bind (wpAny_seqItems hS3 rfl ?_)
  show wpAny _ A.in1 (tryCatch (pyNext (.ref I)) _ >>= _) _ _ _
  refine wpAny_bind (wpAny_tryCatch (wpAny_pyNext_list_item (x := .ref y) it3 (hl.at fun o e => un4 _ _ e) rfl fun H4 it4 sb4 => ?_))
  have un5 : ∀ b o, s.heap.get? b = some o → H4.get? b = some o := fun b o e => (sb4.2 b (Nat.ne_of_lt (hlt _ _ e))).trans (un4 b o e)
  have hS4 := (sb4.2 _ hSI).trans hS3
  show wpAny _ A.in1 (tryCatch (holding [.ref y, .ref y] (richCompare .Gt (.ref y) (.ref x) >>= _)) _ >>= _) _ _ _
  refine wpAny_bind (wpAny_tryCatch (wpAny_holding (wpAny_bind (cmp_gt hu1 (un5 _ _ hy) (un5 _ _ hx) ?_))))
  refine wpAny_bind (wpAny_holding (wpAny_truthy_bool ?_))
  refine wpAny_bind (wpAny_letGo (wpAny_pure ?_))
  -- last turn
  have last : ∀ (v : Value) (H : Heap) (c : Nat), (∀ b o, s.heap.get? b = some o → H.get? b = some o) → H.IsListIter I l 2 → H.get? (I + 1) = some { cls := .type "list", dict := none, data := .seq #[v, v] c, slots := #[] } →
      (∀ h', (∀ b o, s.heap.get? b = some o → h'.get? b = some o) → Q v { s with heap := h' }) →
      codeAny (model prog w) A (.builtin "max.loop" ⟨[.ref I, .none, .ref (I + 1)], []⟩) (fun r s' => match r with | .ok (.ret v) => Q v s' | .ok _ => False | .error e => E e s') { s with heap := H } := by
    intro v H c un it hS hq
    refine codeAny_builtin F.entry_max_loop ?_
    rw [Around.under_plainId F.plain_max_loop _]
    show wpAny _ A.in1 (seqItems? (.ref (I + 1)) >>= _) _ _ _
    refine wpAny_bind (wpAny_seqItems hS rfl ?_)
    show wpAny _ A.in1 (tryCatch (pyNext (.ref I)) _ >>= _) _ _ _
    refine wpAny_bind (wpAny_tryCatch (wpAny_pyNext_list_end hh it (hl.at fun o e => un _ _ e) rfl fun h' he => ?_))
    have hS' := he _ _ hSI hS
    show wpAny _ A.in1 (updateSeq (I + 1) (fun _ => #[]) >>= _) _ _ _
    refine wpAny_bind ?_
    refine wpAny_updateSeq hS' rfl (wpAny_bind (wpAny_letGo (wpAny_pure ?_)))
    exact hq _ fun b o e => (Heap.get?_update_other _ _ (Ne.symm (nS _ _ e))).trans (he _ _ (Nat.ne_of_lt (hlt _ _ e)) (un _ _ e))
  cases hb : ltP (sFst xs) (sFst ys) with
  | true =>
    rw [hb, if_pos rfl] at h
    simp only [if_true]
    refine wpAny_bind ?_
    refine wpAny_updateSeq hS4 rfl (wpAny_bind (wpAny_letGo ?_))
    rw [hname]
    refine wpAny_pure ⟨plainId_quiet F.plain_max_loop _, last (.ref y) _ _ (fun b o e => (Heap.get?_update_other _ _ (Ne.symm (nS _ _ e))).trans (un5 _ _ e)) (it4.at fun o e => (Heap.get?_update_other _ _ hSI).trans e) (Heap.get?_update_self _ hS4 rfl) h⟩
  | false =>
    rw [hb, if_neg Bool.false_ne_true] at h
    simp only [Bool.false_eq_true, if_false]
    refine wpAny_bind (wpAny_letGo ?_)
    rw [hname]
    exact wpAny_pure ⟨plainId_quiet F.plain_max_loop _, last (.ref x) _ _ un5 it4 hS4 h⟩
end
end Mine
end

section
open PySem PySem.W PySem.W.X PyProof.Rows PySem.Calls PyProof.V PySem.Spec
set_option Elab.async false
set_option maxRecDepth 100000
set_option maxHeartbeats 0
namespace Mine
theorem lnL3 : True := by
  k_with_none
  trivial
open PyProof.Rows.LCg
noncomputable def TupAt (ax : Addr) (its : Array Value) (news : List (Addr × Obj)) : Prop := (ax, tupOf its) ∈ news
section
variable {prog : Program} {w : World} {A : Around} {E : Value → Shared → Prop} {s : Shared} {h₀ : Heap} {L : Addr} {m : Str → Option Value} {env : Env}
theorem tup_st {ax I : Addr} {its : Array Value} : ∀ i (h h' : Heap) (o : Obj) (nw : List (Addr × Obj)), (h.IsTupleIter I ax i ∧ h.IsTuple ax its) → h.get? I = some o → h'.get? I = some o → (∀ b o, h₀.get? b = some o → h'.get? b = some o) → News h₀ L h' nw → TupAt ax its nw → (h'.IsTupleIter I ax i ∧ h'.IsTuple ax its) :=
  fun i h h' o nw st e e' k N S => ⟨by obtain ⟨o', q, r⟩ := st.1; rw [e] at q; cases q; exact ⟨o, e', r⟩, ⟨_, (N _ S).1, rfl, _, rfl⟩⟩
theorem Assign_ListComp_tup {elt : Expr} {x y z : Str} {px py pz : Pos} {scope : Scope} {cl : List (Str × Addr)} {pos spos : Pos} {Q : Flow → Shared → Prop} {ax : Addr} {its : Array Value} {news : List (Addr × Obj)} (hLe : env.locals = L)
    (hsw : swapsWith (.ListComp elt [⟨.Name x px, .Name z pz, [], 0⟩] scope pos) (some (.Name y py)) spos.line env = pure true)
    (hclos : closureFor scope env = pure cl) (hcell : ∀ z ∈ scope.names, z.2 ≠ .cell) (hkind : scope.kind = .function)
    (hnames : ∀ z ∈ scope.names, z.2 = .local → scope.names.lookup z.1 = some .local) (hx : scope.names.lookup x = some .local)
    (hy : env.kindOf y = some .local) (hp : (env.scope.kind == .class || (env.scope.kind == .module && env.locals != env.globals)) = false)
    (hh : A.handled = none) (F : Fr h₀ L s.heap m) (N : News h₀ L s.heap news) (S : TupAt ax its news) (hsz : Nat.ble its.size 1000 = true)
    (hz : ∀ (Q : Value → Shared → Prop) E, Q (.ref ax) s → wpAny (model prog w) A (eval (.Name z pz) env) Q E s)
    (R : ∀ g, CompRest prog w A h₀ L m env elt x scope cl { s with heap := g } (TupAt ax its) (fun i v => its[i]? = some v) (FinA h₀ L m { s with heap := g } y Q) its.size 0 [] news)
    (hs : ∀ x, foldedSetIterable (.Name z pz) env x = pure x := by intro _; rfl) :
    wpAny (model prog w) A (exec (.Assign [.Name y py] (.ListComp elt [⟨.Name x px, .Name z pz, [], 0⟩] scope pos) spos) env) Q E s := by
  subst hLe
  have hsz' : its.size ≤ sizeLine := Nat.le_trans (Nat.ble_eq.mp hsz) (by size_fits)
  rw [exec_Assign_Name_used _ _ _ _ hsw]
  refine wpAny_bind (wpAny_standAt (wpAny_bind ?_))
  show wpAny _ A (do let _ ← comprehension (.ListComp elt [⟨.Name x px, .Name z pz, [], 0⟩] scope pos) scope env _ (newList []) false (eval (.Name z pz) env) (some (assign (.Name y py) env))) _ _ s
  refine wpAny_bind (wpAny_mono (wpAny_comprehension_free (use := some (assign (.Name y py) env)) (Q := fun _ s' => Q .next s') rfl hs hclos hkind hnames
    (hz _ _ ?_)) (fun _ s' hq => wpAny_pure (wpAny_pure hq)) fun _ _ e => e)
  have hl : s.heap.IsTuple ax its := ⟨_, (N _ S).1, rfl, _, rfl⟩
  have hlt : ax < s.heap.objs.size := Heap.lt_size (N _ S).1
  refine wpAny_pyIter_tuple hl ?_
  have up : ∀ b o, s.heap.get? b = some o → (s.heap.push { cls := .type "tuple_iterator", data := .fields #[.ref ax, .int 0 0] }).get? b = some o := fun b o e => Heap.get?_push_of_some _ e
  refine block_U (Walks.tuple hh s.heap.objs.size ax (Nat.ne_of_lt hlt) its) hsz' (fun i h st => by obtain ⟨o, e, _⟩ := st.1; exact ⟨o, e⟩) tup_st hcell hkind hx ⟨⟨_, Heap.get?_push_size _ rfl, rfl, rfl⟩, hl.push _⟩ (fun b hb => ?_)
    (F.keeps up) (N.grown up) (Nat.ne_of_lt F.ns.lt) (next_is_new F) (fun p hp => Nat.ne_of_lt (Heap.lt_size (N p hp).1)) S (R _) ?_
  · show b < (s.heap.push _).objs.size
    rw [Heap.size_push]
    rcases List.mem_cons.mp hb with rfl | hb
    · exact Nat.lt_succ_self _
    · rw [List.mem_singleton.mp hb]; exact Nat.lt_succ_of_lt hlt
  · intro D C h' tk m' ys news' F' N' o1 hn hC₀ hD₀ hCL hDL hCD offC fin
    show wpAny _ A (assign (.Name y py) env (.ref D)) _ _ _
    refine wpAny_assign_Name (wpAny_storeName_local hy F'.ns (fun h₂ hn₂ hs₂ => ?_) hp)
    have hL₀ : h₀.get? env.locals = none := Heap.get?_none_of_le F'.above
    have F₂ : Fr h₀ env.locals h₂ (fun z => if z = y then some (.ref D) else m z) := ⟨hn₂, fun b o e => hs₂.extBut b o (fun q => by rw [q, hL₀] at e; cases e) (F'.keep b o e), F'.above⟩
    refine ⟨m', hn.sameBut hs₂ hCL, fun h'' hs'' => fin D h'' _ (F₂.change hs'' hCL hC₀) (fun p hp => ?_) o1⟩
    have z : h₂.get? p.1 = some p.2 := hs₂.extBut _ _ (N' p hp).2.1 (N' p hp).1
    refine ⟨hs''.extBut _ _ ?_ z, (N' p hp).2⟩
    rcases List.mem_cons.mp hp with rfl | hp
    · exact Ne.symm hCD
    · exact offC p hp
end
end Mine
end

section
open PySem PySem.W PySem.W.X PyProof.Rows PySem.Calls PyProof.V PySem.Spec
set_option Elab.async false
set_option maxRecDepth 100000
set_option maxHeartbeats 0
namespace Mine
theorem lnS1 : True := by
  k_with_none
  trivial
section
variable {prog : Program} {w : World} {A : Around} {E : Value → Shared → Prop} {s : Shared} {D it : Addr}
noncomputable def setTab (led : Bool) : SetTable := { mask := 7, place := #[0], dummies := #[], finger := 0, led, moves := 0, plain := true }
noncomputable def set0 (led : Bool) : Obj := { cls := .type "set", dict := none, data := .set #[] 0 (.fresh 0 0 led) }
noncomputable def set1 (led : Bool) : Obj := { cls := .type "set", dict := none, data := .set #[(0, .bool false)] 1 (setTab led) }
theorem hash_false {Q : Int → Shared → Prop} (h : Q 0 { s with toks := s.toks + 1 }) : wpAny (model prog w) A (pyHash (.bool false)) Q E s := by
  unfold pyHash pyHashByItsType
  have tB : s.TypeIs (.bool false) "bool" := rfl
  have hv : [Value.bool false].any Value.onHeap = false := rfl
  refine wpAny_bind ?_
  rw [cRoomFor, if_neg (by rw [hv]; exact Bool.false_ne_true)]; refine wpAny_pure ?_
  refine wpAny_bind (wpAny_specialOf tB F.slot_bool_hash.lookup ?_)
  show wpAny _ _ (if (some (Value.builtin "int.__hash__") == some Value.none) = true then _ else _) Q E s
  rw [if_neg (by rw [beq_builtin_none]; exact Bool.false_ne_true)]
  refine wpAny_bind (wpAny_specialOf tB F.slot_bool_hash.lookup ?_)
  show wpAny _ _ (callSpecialIfBoundUnlessNone? (.bool false) "__hash__" _ >>= _) Q E s
  refine wpAny_bind (wpAny_callSpecialIfBoundUnlessNone?_slot tB F.slot_bool_hash
    (wpAny_call_entry F.slot_bool_hash tB entry_int_hash
      (show wpAny _ _ (do ret (← mkInt (rawHash 0))) _ _ s from wpAny_ret_mkInt ?_) (args_int_hash _)))
  have hr := rawHash_range 0
  show wpAny _ _ (if (decide (-(2 : Int) ^ 63 ≤ rawHash 0) && decide (rawHash 0 < 2 ^ 63)) = true then _ else _) Q E _
  rw [if_pos (by rw [decide_eq_true hr.1, decide_eq_true hr.2]; rfl)]
  exact wpAny_pure h
theorem lay1 (led : Bool) : layNew (.fresh 0 0 led) #[] 0 (.bool false) = (#[(0, .bool false)], setTab led, false, false) := by cases led <;> decide +kernel
theorem add_new {Q : Value → Shared → Prop} (led : Bool) (ho : s.heap.get? D = some (set0 led)) (h : ∀ h', Heap.SameBut D s.heap h' → h'.get? D = some (set1 led) → Q .none { s with heap := h', toks := s.toks + 1 }) :
    wpAny (model prog w) A (call (.builtin "set.add") [.ref D, .bool false]) Q E s := by
  refine wpAny_call_entry F.slot_set_add ⟨_, ho, rfl⟩ F.entry_set_add ?_ (F.args_set_add_2 _ _)
  unfold Builtin.«set.add» Builtin.Frozenset.oneOther
  simp only [List.isEmpty_nil, bind_assoc]
  unfold Builtin.Frozenset.addrOf setAdd
  refine wpAny_bind (wpAny_pure ?_)
  try dsimp only
  refine wpAny_bind (wpAny_pure ?_)
  try dsimp only
  refine wpAny_bind ?_
  refine wpAny_holding ?_
  refine wpAny_bind (hash_false ?_)
  unfold setAddHashed setAddHashedIn
  refine wpAny_holding (wpAny_bind (wpAny_setState_of (s := { s with toks := s.toks + 1 }) ho rfl rfl ?_))
  dsimp only
  rw [show byScan (.bool false) #[] = true from by decide +kernel]
  simp only [↓reduceIte]
  unfold setAddByScan
  refine wpAny_bind ?_
  refine wpAny_bind (wpAny_rule ?_)
  unfold setScan
  dsimp only
  unfold setScanFrom
  refine wpAny_bind (wpAny_pure ?_)
  dsimp only
  rw [lay1]
  dsimp only
  refine wpAny_bind (wpAny_pure ?_)
  rw [if_pos (show (setTab led).plain = true from rfl), hashByValue_scannable 8 rfl]
  refine wpAny_bind (wpAny_pure ?_)
  rw [if_pos (show plainKind (.bool false) = true from rfl)]
  refine wpAny_bind (wpAny_storeSet_of (s := { s with toks := s.toks + 1 }) ho rfl ?_ (by size_fits))
  rw [if_neg (show ¬ (!false && (setTab led).tooFull) = true from by cases led <;> decide +kernel)]
  refine wpAny_pure ?_
  dsimp only
  refine wpAny_pure ?_
  show wpAny _ _ (ret Value.none) _ _ _
  exact wpAny_pure ⟨_, rfl, h _ (Heap.SameBut.update ..) (Heap.get?_update_self _ ho rfl)⟩
theorem eqb_ff {Q : Bool → Shared → Prop} (h : Q true s) : wpAny (model prog w) A (eqBool (.bool false) (.bool false)) Q E s := by
  unfold eqBool
  rw [if_pos (by decide)]
  exact wpAny_holding (wpAny_bind (wpAny_rule (wpAny_pure h)))
theorem add_old {Q : Value → Shared → Prop} (led : Bool) (ho : s.heap.get? D = some (set1 led)) (h : Q .none { s with toks := s.toks + 1 }) :
    wpAny (model prog w) A (call (.builtin "set.add") [.ref D, .bool false]) Q E s := by
  refine wpAny_call_entry F.slot_set_add ⟨_, ho, rfl⟩ F.entry_set_add ?_ (F.args_set_add_2 _ _)
  unfold Builtin.«set.add» Builtin.Frozenset.oneOther
  simp only [List.isEmpty_nil, bind_assoc]
  unfold Builtin.Frozenset.addrOf setAdd
  refine wpAny_bind (wpAny_pure ?_)
  try dsimp only
  refine wpAny_bind (wpAny_pure ?_)
  try dsimp only
  refine wpAny_bind ?_
  refine wpAny_holding ?_
  refine wpAny_bind (hash_false ?_)
  have hf : (setTab led).fits 1 = true := by cases led <;> decide +kernel
  unfold setAddHashed setAddHashedIn
  refine wpAny_holding (wpAny_bind (wpAny_setState_of (s := { s with toks := s.toks + 1 }) ho rfl hf ?_))
  dsimp only
  rw [show byScan (.bool false) #[(0, .bool false)] = true from by decide +kernel]
  simp only [↓reduceIte]
  unfold setAddByScan
  refine wpAny_bind ?_
  refine wpAny_bind (wpAny_rule ?_)
  unfold setScan
  dsimp only
  unfold setScanFrom
  rw [if_pos (by decide)]
  refine wpAny_bind ?_
  refine wpAny_bind (wpAny_setEpoch_of (s := { s with toks := s.toks + 1 }) ho rfl hf ?_)
  refine wpAny_bind (eqb_ff ?_)
  rw [if_pos (by decide)]
  refine wpAny_pure ?_
  dsimp only
  refine wpAny_pure ?_
  dsimp only
  refine wpAny_pure ?_
  show wpAny _ _ (ret Value.none) _ _ _
  exact wpAny_pure ⟨_, rfl, h⟩
theorem entry_set_iter : entryFor table "set.__iter__" = some Builtin.«frozenset.__iter__» :=
  entryFor_alias (id' := "frozenset.__iter__") (by kernel_rfl) (by first | rfl | decide +kernel | (unfold String.splitOn; simp +decide [String.splitOnAux])) (by decide +kernel) (by kernel_rfl)
theorem slot_setiter_next : Slot "set_iterator" "__next__" "set_iterator.__next__" :=
  .of (owner := "set_iterator") (n := "__next__") (by rw [typeLookup_type, builtinLookup_eq_fast]; kernel_rfl) (by decide +kernel) (by decide +kernel) (by decide +kernel)
    (by first | exact .inl (by decide +kernel) | exact .inr (by decide +kernel)) (by rw [isSubtype_type]; kernel_rfl)
theorem entry_setiter_next : entryFor table "set_iterator.__next__" = some Builtin.«set_iterator.__next__» := entryFor_of_tree (by kernel_rfl)
theorem args_setiter_next (a : Value) : argsOk "set_iterator.__next__" ⟨[a], []⟩ := by unfold argsOk; kernel_rfl
noncomputable def sit (D : Addr) (slot i : Nat) : Obj := { cls := .type "set_iterator", data := .fields #[.int slot 0, .int i 0, .ref D, .int 1 0, .int 1 0] }
theorem iter_set {Q : Value → Shared → Prop} (led : Bool) (ho : s.heap.get? D = some (set1 led)) (h : Q (.ref s.heap.objs.size) { s with heap := s.heap.push (sit D 0 0) }) : wpAny (model prog w) A (pyIter (.ref D)) Q E s := by
  have tD : s.TypeIs (.ref D) "set" := ⟨_, ho, rfl⟩
  have hf : (setTab led).fits 1 = true := by cases led <;> decide +kernel
  refine wpAny_pyIter_slot tD F.slot_set_iter (wpAny_call_entry F.slot_set_iter tD entry_set_iter ?_ (F.args_set_iter_1 _))
  unfold Builtin.«frozenset.__iter__» Builtin.Frozenset.slot0 Builtin.Frozenset.sizeOf
  refine wpAny_bind (wpAny_of_eq (a := D) rfl ?_)
  refine wpAny_bind (wpAny_bind (wpAny_setEntries_of ho rfl hf (wpAny_pure ?_)))
  unfold setDrawn
  refine wpAny_bind (wpAny_bind (wpAny_setState_of ho rfl hf ?_))
  dsimp only
  unfold setsByText
  refine wpAny_bind (wpAny_bind (wpAny_askSetting (wpAny_pure ?_)))
  refine wpAny_pure ?_
  refine wpAny_ite_split (fun e => absurd (Bool.and_eq_true_iff.mp e).2 Bool.false_ne_true) (fun _ => ?_)
  refine wpAny_bind (wpAny_pure ?_)
  refine wpAny_bind (wpAny_setEpoch_of ho rfl hf ?_)
  refine wpAny_bind (wpAny_newObj_type ?_)
  exact wpAny_pure ⟨_, rfl, "set_iterator", _, ⟨_, Heap.get?_push_size _ rfl, rfl⟩, slot_setiter_next.lookup, h⟩
noncomputable def LedOk (w : World) (led : Bool) : Prop := led = !w.params.followText "set-order"
theorem below0 : SetTable.below #[0] 0 = 0 := by decide +kernel
theorem below1 : SetTable.below #[0] 1 = 1 := by decide +kernel
theorem pick1 {α : Type} (f : Nat → Nat) (x : α) : pickOrder f #[x] = #[x] := by
  simp [pickOrder, pickOrder.go, Nat.mod_one]
theorem setWalk1 {Q : Array (Int × Value) → Shared → Prop} (led : Bool) (hb : w.params.followText "set-order" = true) (ho : s.heap.get? D = some (set1 led)) (h : Q #[(0, .bool false)] s) : wpAny (model prog w) A (setWalk D) Q E s := by
  have hf : (setTab led).fits 1 = true := by cases led <;> decide +kernel
  unfold setWalk
  refine wpAny_bind (wpAny_setState_of ho rfl hf ?_)
  dsimp only
  unfold setsByText
  refine wpAny_bind (wpAny_bind (wpAny_askSetting (wpAny_pure ?_)))
  refine wpAny_ite_split (fun _ => ?_) (fun e => absurd hb e)
  refine wpAny_bind (wpAny_askSetting (wpAny_pure ?_))
  rw [pick1]
  exact h
theorem setNext_first {Q : Option (Value × Nat) → Shared → Prop} (led : Bool) (hled : LedOk w led) (ho : s.heap.get? D = some (set1 led)) (h : ∀ k, (led = true → k = 1) → Q (some (.bool false, k)) s) :
    wpAny (model prog w) A (setNext D 0 0 1) Q E s := by
  have hf : (setTab led).fits 1 = true := by cases led <;> decide +kernel
  unfold setNext
  refine wpAny_bind (wpAny_setState_of ho rfl hf ?_)
  dsimp only
  unfold setsByText
  refine wpAny_bind (wpAny_bind (wpAny_askSetting (wpAny_pure ?_)))
  refine wpAny_ite_split (fun hb => ?_) (fun hb => ?_)
  · refine wpAny_ite_split (fun e => absurd e (by decide)) (fun _ => ?_)
    have hl : led = false := by rw [hled, show w.params.followText "set-order" = true from hb]; rfl
    subst hl
    refine wpAny_bind (setWalk1 false hb ho ?_)
    exact wpAny_pure (h 0 (fun e => nomatch e))
  · have hl : led = true := by rw [hled, show w.params.followText "set-order" = false from Bool.eq_false_iff.mpr hb]; rfl
    subst hl
    refine wpAny_ite_split (fun e => absurd e Bool.false_ne_true) (fun _ => ?_)
    refine wpAny_bind (wpAny_pure ?_)
    exact wpAny_pure (h 1 (fun _ => rfl))
theorem setNext_second {Q : Option (Value × Nat) → Shared → Prop} (led : Bool) (hled : LedOk w led) (ho : s.heap.get? D = some (set1 led)) (k : Nat) (hk : led = true → k = 1) (h : Q none s) :
    wpAny (model prog w) A (setNext D k 1 1) Q E s := by
  have hf : (setTab led).fits 1 = true := by cases led <;> decide +kernel
  unfold setNext
  refine wpAny_bind (wpAny_setState_of ho rfl hf ?_)
  dsimp only
  unfold setsByText
  refine wpAny_bind (wpAny_bind (wpAny_askSetting (wpAny_pure ?_)))
  refine wpAny_ite_split (fun hb => ?_) (fun hb => ?_)
  · refine wpAny_ite_split (fun e => absurd e (by decide)) (fun _ => ?_)
    have hl : led = false := by rw [hled, show w.params.followText "set-order" = true from hb]; rfl
    subst hl
    refine wpAny_bind (setWalk1 false hb ho ?_)
    exact wpAny_pure h
  · have hl : led = true := by rw [hled, show w.params.followText "set-order" = false from Bool.eq_false_iff.mpr hb]; rfl
    subst hl
    have hk1 := hk rfl
    subst hk1
    refine wpAny_ite_split (fun e => absurd e Bool.false_ne_true) (fun _ => ?_)
    refine wpAny_bind (wpAny_pure ?_)
    exact wpAny_pure h
theorem next_set1 {Q : Option Value → Shared → Prop} (led : Bool) (hled : LedOk w led) (hne : D ≠ it) (ho : s.heap.get? D = some (set1 led)) (hi : s.heap.get? it = some (sit D 0 0))
    (h : ∀ k h', (led = true → k = 1) → h'.get? it = some (sit D k 1) → Heap.SameBut it s.heap h' → Q (some (.bool false)) { s with heap := h' }) : wpAny (model prog w) A (pyNext (.ref it)) Q E s := by
  have tI : s.TypeIs (.ref it) "set_iterator" := ⟨_, hi, rfl⟩
  have hf : (setTab led).fits 1 = true := by cases led <;> decide +kernel
  unfold pyNext
  refine wpAny_bind (wpAny_attempt (wpAny_callSpecial?_slot (name := Str.ofString "__next__") tI slot_setiter_next
    (wpAny_call_entry slot_setiter_next tI entry_setiter_next ?_ (args_setiter_next _))))
  unfold Builtin.«set_iterator.__next__»
  refine wpAny_bind (wpAny_of_eq (a := (Value.ref it, ([] : List Value))) rfl ?_)
  dsimp only
  refine wpAny_bind (wpAny_fieldsOf hi rfl ?_)
  refine wpAny_bind (wpAny_setEntries_of ho rfl hf ?_)
  refine wpAny_ite_split (fun e => absurd e (by decide)) (fun _ => ?_)
  refine wpAny_bind (setNext_first led hled ho fun k hk => ?_)
  refine wpAny_bind (wpAny_setField hi rfl (by simp) ?_)
  have h1 : (s.heap.update it (Obj.mapFields (·.setIfInBounds 0 (rawInt (k : Int))))).get? it = some { cls := .type "set_iterator", data := .fields #[.int k 0, .int 0 0, .ref D, .int 1 0, .int 1 0] } := Heap.get?_update_self _ hi rfl
  refine wpAny_bind (wpAny_setField h1 rfl (by simp) ?_)
  refine wpAny_pure ⟨_, rfl, wpAny_pure (h k _ hk (Heap.get?_update_self _ h1 rfl) ((Heap.SameBut.update ..).trans (Heap.SameBut.update ..)))⟩
theorem next_set2 {Q : Option Value → Shared → Prop} (led : Bool) (k : Nat) (hh : A.handled = none) (hled : LedOk w led) (hk : led = true → k = 1) (ho : s.heap.get? D = some (set1 led)) (hi : s.heap.get? it = some (sit D k 1))
    (h : ∀ h', Heap.ExtBut it s.heap h' → Q none { s with heap := h' }) : wpAny (model prog w) A (pyNext (.ref it)) Q E s := by
  have tI : s.TypeIs (.ref it) "set_iterator" := ⟨_, hi, rfl⟩
  have hf : (setTab led).fits 1 = true := by cases led <;> decide +kernel
  unfold pyNext
  refine wpAny_bind (wpAny_attempt (wpAny_callSpecial?_slot (name := Str.ofString "__next__") tI slot_setiter_next
    (wpAny_call_entry slot_setiter_next tI entry_setiter_next ?_ (args_setiter_next _))))
  unfold Builtin.«set_iterator.__next__»
  refine wpAny_bind (wpAny_of_eq (a := (Value.ref it, ([] : List Value))) rfl ?_)
  dsimp only
  refine wpAny_bind (wpAny_fieldsOf hi rfl ?_)
  refine wpAny_bind (wpAny_setEntries_of ho rfl hf ?_)
  refine wpAny_ite_split (fun e => absurd e (by decide)) (fun _ => ?_)
  refine wpAny_bind (setNext_second led hled ho k hk ?_)
  refine wpAny_bind (wpAny_setField hi rfl (by simp) ?_)
  show wpAny _ _ (newExc (.type "StopIteration") [] >>= _) _ _ _
  refine wpAny_bind ?_
  simp only [newExc, newTuple]
  refine wpAny_bind (wpAny_newObj_type ?_ (by size_fits))
  refine wpAny_bind (m := firstArgMember _ _) (wpAny_of_eq (a := Value.none) (by first | rfl | (simp only [firstArgMember]; rfl)) ?_)
  refine wpAny_newObj_type ?_ (by size_fits)
  simp only [raiseNew]
  refine wpAny_bind (wpAny_handled ?_)
  first | rw [show A.in1.handled = none from hh] | rw [hh]
  refine wpAny_bind (wpAny_pure (wpAny_throw ?_))
  refine wpAny_bind (wpAny_isInstance (T := "StopIteration") (b := true) ⟨_, Heap.get?_push_size _ rfl, rfl⟩ isSubtype_stop ?_)
  exact wpAny_pure (h _ (((Heap.SameBut.update ..).extBut.push _).push _))
theorem unpack_set1 {targets : List (Bool × (Value → Sem Unit))} {Q : Unit → Shared → Prop} (led : Bool) (hh : A.handled = none) (hled : LedOk w led) (ho : s.heap.get? D = some (set1 led)) (hn : targets.length = 1) (hstar : targets.findIdx? (·.1) = none)
    (h : ∀ h', (∀ b o, s.heap.get? b = some o → h'.get? b = some o) → wpAny (model prog w) A (assignInOrder (targets.map (·.2)) [.bool false]) Q E { s with heap := h' }) :
    wpAny (model prog w) A (unpack (.ref D) targets) Q E s := by
  have tD : s.TypeIs (.ref D) "set" := ⟨_, ho, rfl⟩
  unfold unpack
  rw [hn, hstar]
  refine wpAny_bind (wpAny_holding ?_)
  unfold unpackItems
  refine wpAny_bind ?_
  unfold notIterableAtAll
  refine wpAny_bind (wpAny_specialOf tD F.slot_set_iter.lookup ?_)
  refine wpAny_pure ?_
  simp only [Bool.false_eq_true, if_false]
  refine wpAny_bind (wpAny_holding (iter_set led ho ?_))
  have hlt : D < s.heap.objs.size := Heap.lt_size ho
  refine wpAny_bind (wpAny_holding ?_)
  show wpAny _ _ (pyNext (.ref s.heap.objs.size) >>= _) _ _ _
  refine wpAny_bind (next_set1 led hled (Nat.ne_of_lt hlt) (Heap.get?_push_of_some _ ho) (Heap.get?_push_size _ rfl) fun k h1 hk hi1 hs1 => ?_)
  refine wpAny_bind (wpAny_holding (wpAny_pure ?_))
  refine wpAny_pure ?_
  dsimp only
  refine wpAny_ite_split (fun e => absurd e (by decide)) (fun _ => ?_)
  have ho1 : h1.get? D = some (set1 led) := (hs1.2 _ (Nat.ne_of_lt hlt)).trans (Heap.get?_push_of_some _ ho)
  refine wpAny_bind (wpAny_holding (next_set2 led k hh hled hk ho1 hi1 fun h2 he2 => ?_))
  refine wpAny_ite_split (fun e => absurd e (by decide)) (fun _ => ?_)
  refine wpAny_pure ?_
  exact h h2 fun b o e => he2 b o (Nat.ne_of_lt (Heap.lt_size e)) ((hs1.2 _ (Nat.ne_of_lt (Heap.lt_size e))).trans (Heap.get?_push_of_some _ e))
end
end Mine
end

section
open PySem PySem.W PySem.W.X PyProof.Rows PySem.Calls PyProof.V PySem.Spec
set_option Elab.async false
set_option maxRecDepth 100000
set_option maxHeartbeats 0
namespace Mine
theorem lnS2 : True := by
  k_with_none
  trivial
open PyProof.Rows.LCg
section
variable {prog : Program} {w : World} {A : Around} {R : Result → Shared → Prop} {s : Shared}
theorem compTurn_set1 (elt target iter : Expr) (scope : Scope) (pos : Pos) (it acc : Value) (env : Env) :
    compTurn (.SetComp elt [⟨target, iter, [], 0⟩] scope pos) 0 it acc env = (standAt iter.pos >>= fun _ => pyNext it >>= fun r => match r with
      | none => pure (.done .next)
      | some v => letOwnedTupleGo target it v >>= fun _ => assign target env v >>= fun _ =>
        (eval elt env >>= fun x => standAt elt.pos >>= fun _ => call (.builtin "set.add") [acc, x] >>= fun _ => pure ()) >>= fun _ =>
          again (.compLoop (.SetComp elt [⟨target, iter, [], 0⟩] scope pos) 0 it acc env)) := by rfl
theorem codeAny_compLoop_set {elt target iter : Expr} {scope : Scope} {pos : Pos} {it acc : Value} {env : Env} (I : Nat → Shared → Prop)
    (turn : ∀ n s, I n s → wpAny (model prog w) A (pyNext it) (fun r s₁ => match r with
      | none => R (.ok .next) s₁
      | some v => wpAny (model prog w) A (assign target env v) (fun _ s₂ => wpAny (model prog w) A (eval elt env) (fun x s₃ =>
          wpAny (model prog w) A (call (.builtin "set.add") [acc, x]) (fun _ s₄ => ∃ m, m < n ∧ I m s₄) (notedBy (model prog w) A env fun e s' => R (.error e) s') s₃)
          (notedBy (model prog w) A env fun e s' => R (.error e) s') s₂) (notedBy (model prog w) A env fun e s' => R (.error e) s') s₁) (notedBy (model prog w) A env fun e s' => R (.error e) s') s)
    (n : Nat) (h : I n s) (ht : ∀ v, letOwnedTupleGo target it v = pure () := by intro _; rfl) :
    codeAny (model prog w) A (.compLoop (.SetComp elt [⟨target, iter, [], 0⟩] scope pos) 0 it acc env) R s := by
  refine codeAny_loop rfl I (fun n s hI => ?_) n h
  show wpAny _ A ((compTurn (.SetComp elt [⟨target, iter, [], 0⟩] scope pos) 0 it acc env).onRaise (fun x => do noteFrame x env; theTreesLotGoes x)) _ _ s
  refine wpAny_noted ?_
  rw [compTurn_set1]
  refine wpAny_bind (wpAny_standAt (wpAny_bind (wpAny_mono (turn n s hI) (fun r s₁ h₁ => ?_) fun _ _ h' => h')))
  cases r with
  | none => exact wpAny_pure h₁
  | some v =>
    refine wpAny_bind (wpAny_of_eq (ht v) ?_)
    exact wpAny_bind (wpAny_mono h₁ (fun _ s₂ h₂ => wpAny_bind (wpAny_bind (wpAny_mono h₂ (fun x s₃ h₃ => wpAny_bind (wpAny_standAt (wpAny_bind (wpAny_mono h₃ (fun _ s₄ h₄ => wpAny_pure (wpAny_pure ⟨rfl, h₄⟩)) fun _ _ h' => h')))) fun _ _ h' => h'))) fun _ _ h' => h')
theorem codeAny_compStart_set {elt target iter scope pos it acc env}
    (h0 : codeAny (model prog w) A (.compLoop (.SetComp elt [⟨target, iter, [], 0⟩] scope pos) 0 it acc env) R s)
    (h : wpAny (model prog w) A (pyIter it) (fun it' s' => codeAny (model prog w) A (.compLoop (.SetComp elt [⟨target, iter, [], 0⟩] scope pos) 0 it' acc env) R s')
      (notedBy (model prog w) A env fun x s' => R (.error x) s') s) :
    codeAny (model prog w) A (.compStart (.SetComp elt [⟨target, iter, [], 0⟩] scope pos) 0 it acc env) R s := by
  refine codeAny_of_tree ?_
  show wpAny _ _ ((compStart (.SetComp elt [⟨target, iter, [], 0⟩] scope pos) 0 it acc env).onRaise (fun x => do noteFrame x env; standAt theWindowsPlace)) _ _ s
  refine wpAny_notedAt ?_
  unfold compStart
  show wpAny _ _ (ask >>= _) _ _ s
  refine wpAny_bind (wpAny_askSetting (wpAny_ite ?_))
  split
  · first
      | exact wpAny_bind (wpAny_pure (wpAny_pure (And.intro rfl h0)))
      | exact wpAny_pure (And.intro rfl h0)
  · first
      | exact wpAny_bind (wpAny_rule (wpAny_bind (wpAny_standAt (wpAny_bind (wpAny_mono h (fun it' s' h' => wpAny_pure (And.intro rfl h')) fun _ _ x => x)))))
      | (refine wpAny_bind (wpAny_rule ?_); show wpAny _ _ (standAt iter.pos >>= _) _ _ s; exact wpAny_bind (wpAny_standAt (wpAny_bind (wpAny_mono h (fun it' s' h' => wpAny_pure (And.intro rfl h')) fun _ _ x => x))))
end
noncomputable def SetRest (prog : Program) (w : World) (A : Around) (h₀ : Heap) (L : Addr) (m : Str → Option Value) (env : Env) (elt : Expr) (x : Str) (scope : Scope) (cl : List (Str × Addr)) (s : Shared) (S : List (Addr × Obj) → Prop) (its : Array Value)
    (Fin : List (Addr × Obj) → Prop) : Nat → Nat → List (Addr × Obj) → Prop
  | 0, _, news => Fin news
  | k + 1, i, news => ∀ v I oI C oC D oD m₂ h tk (E' : Value → Shared → Prop), its[i]? = some v → NsObj oC m₂ → m₂ x = some v → Fr h₀ L h m → News h₀ L h ((I, oI) :: (C, oC) :: (D, oD) :: news) → Off3 I C D news → ((@Ne Nat I C) ∧ (@Ne Nat I D) ∧ (@Ne Nat C D)) →
      wpAny (model prog w) A (eval elt (compEnvC scope cl C env)) (CompEnd h₀ L m { s with heap := h, toks := tk } I oI C oC D oD S (fun y news' => y = .bool false ∧ SetRest prog w A h₀ L m env elt x scope cl s S its Fin k (i + 1) news')) E' { s with heap := h, toks := tk }
section
variable {prog : Program} {w : World} {A : Around} {E : Value → Shared → Prop} {s : Shared} {h₀ : Heap} {L : Addr} {m : Str → Option Value} {env : Env}
theorem SetRest.succ {elt : Expr} {x : Str} {scope : Scope} {cl : List (Str × Addr)} {S : List (Addr × Obj) → Prop} {its : Array Value} {Fin : List (Addr × Obj) → Prop} {k i : Nat} {news : List (Addr × Obj)}
    (h : ∀ v I oI C oC D oD m₂ h tk (E' : Value → Shared → Prop), its[i]? = some v → NsObj oC m₂ → m₂ x = some v → Fr h₀ L h m → News h₀ L h ((I, oI) :: (C, oC) :: (D, oD) :: news) → Off3 I C D news → ((@Ne Nat I C) ∧ (@Ne Nat I D) ∧ (@Ne Nat C D)) →
      wpAny (model prog w) A (eval elt (compEnvC scope cl C env)) (CompEnd h₀ L m { s with heap := h, toks := tk } I oI C oC D oD S (fun y news' => y = .bool false ∧ SetRest prog w A h₀ L m env elt x scope cl s S its Fin k (i + 1) news')) E' { s with heap := h, toks := tk }) :
    SetRest prog w A h₀ L m env elt x scope cl s S its Fin (k + 1) i news := h
theorem SetRest.zero {elt : Expr} {x : Str} {scope : Scope} {cl : List (Str × Addr)} {S : List (Addr × Obj) → Prop} {its : Array Value} {Fin : List (Addr × Obj) → Prop} {i : Nat} {news : List (Addr × Obj)} (h : Fin news) :
    SetRest prog w A h₀ L m env elt x scope cl s S its Fin 0 i news := h
noncomputable def accO (led : Bool) (i : Nat) : Obj := if i = 0 then set0 led else set1 led
theorem add_any {D : Addr} {Q : Value → Shared → Prop} (led : Bool) (i : Nat) (ho : s.heap.get? D = some (accO led i)) (h : ∀ h' tk, Heap.SameBut D s.heap h' → h'.get? D = some (accO led (i + 1)) → Q .none { s with heap := h', toks := tk }) :
    wpAny (model prog w) A (call (.builtin "set.add") [.ref D, .bool false]) Q E s := by
  by_cases hi : i = 0
  · subst hi
    exact add_new led ho fun h' hs hd => h h' _ hs hd
  · rw [accO, if_neg hi] at ho
    exact add_old led ho (h s.heap _ (Heap.SameBut.refl ..) (by rw [accO, if_neg (Nat.succ_ne_zero i)]; exact ho))
theorem SetComp_tup {elt : Expr} {x z : Str} {px pz : Pos} {scope : Scope} {cl : List (Str × Addr)} {pos : Pos} {Q : Value → Shared → Prop} {ax : Addr} {its : Array Value} {news : List (Addr × Obj)}
    (hclos : closureFor scope env = pure cl) (hcell : ∀ z ∈ scope.names, z.2 ≠ .cell) (hkind : scope.kind = .function)
    (hnames : ∀ z ∈ scope.names, z.2 = .local → scope.names.lookup z.1 = some .local) (hx : scope.names.lookup x = some .local)
    (hh : A.handled = none) (F : Fr h₀ L s.heap m) (N : News h₀ L s.heap news) (S : TupAt ax its news) (hsz : Nat.ble its.size 1000 = true) (hpos : its.size ≠ 0)
    (hz : ∀ (Q : Value → Shared → Prop) E, Q (.ref ax) s → wpAny (model prog w) A (eval (.Name z pz) env) Q E s)
    (R : ∀ g, SetRest prog w A h₀ L m env elt x scope cl { s with heap := g } (TupAt ax its) its (fun news' => ∀ D led h tk, LedOk w led → Fr h₀ L h m → News h₀ L h ((D, set1 led) :: news') → Off1 D news' → Q (.ref D) { s with heap := h, toks := tk }) its.size 0 news)
    (hs : ∀ x, foldedSetIterable (.Name z pz) env x = pure x := by intro _; rfl) :
    wpAny (model prog w) A (eval (.SetComp elt [⟨.Name x px, .Name z pz, [], 0⟩] scope pos) env) Q E s := by
  have hsz' : its.size ≤ sizeLine := Nat.le_trans (Nat.ble_eq.mp hsz) (by size_fits)
  rw [arm_eval_SetComp]
  refine wpAny_comprehension_free (use := none) rfl hs hclos hkind hnames (hz _ _ ?_)
  have hl : s.heap.IsTuple ax its := ⟨_, (N _ S).1, rfl, _, rfl⟩
  have hlt : ax < s.heap.objs.size := Heap.lt_size (N _ S).1
  refine wpAny_pyIter_tuple hl ?_
  have up : ∀ b o, s.heap.get? b = some o → (s.heap.push { cls := .type "tuple_iterator", data := .fields #[.ref ax, .int 0 0] }).get? b = some o := fun b o e => Heap.get?_push_of_some _ e
  have hI0 : (s.heap.push { cls := .type "tuple_iterator", data := .fields #[.ref ax, .int 0 0] }).IsTupleIter s.heap.objs.size ax 0 := ⟨_, Heap.get?_push_size _ rfl, rfl, rfl⟩
  have hIsz : (s.heap.push { cls := .type "tuple_iterator", data := .fields #[.ref ax, .int 0 0] }).objs.size = s.heap.objs.size + 1 := Heap.size_push ..
  have hIL : L ≠ s.heap.objs.size := Nat.ne_of_lt F.ns.lt
  have hI₀ : h₀.get? s.heap.objs.size = none := next_is_new F
  have off : ∀ p ∈ news, p.1 ≠ s.heap.objs.size := fun p hp => Nat.ne_of_lt (Heap.lt_size (N p hp).1)
  have F1 : Fr h₀ L _ m := F.keeps up
  have N1 : News h₀ L _ news := N.grown up
  have hax1 : ax < s.heap.objs.size + 1 := Nat.lt_succ_of_lt hlt
  generalize hI : s.heap.objs.size = I at hI0 hIsz hIL hI₀ off hlt hax1 ⊢
  generalize (s.heap.push { cls := .type "tuple_iterator", data := .fields #[.ref ax, .int 0 0] }) = H1 at hI0 hIsz F1 N1 ⊢
  clear up F N
  -- the set
  unfold newSet setsByText
  refine wpAny_bind (wpAny_bind (wpAny_askSetting (wpAny_pure ?_)))
  dsimp only
  simp only [newObj]
  obtain ⟨led, hled⟩ : ∃ led, led = !w.params.followText "set-order" := ⟨_, rfl⟩
  refine wpAny_bind (wpAny_alloc (wpAny_pure ?_))
  show wpAny _ _ _ _ _ { s with heap := H1.push (set0 (!w.params.followText "set-order")) }
  rw [← hled]
  refine wpAny_newFunctionEnv hcell (by intro y hy; simp at hy) (fun h₁ hns₁ hsb₁ => ?_) hkind
  have hHC : (H1.push (set0 led)).objs.size = I + 2 := by rw [Heap.size_push, hIsz]
  show codeAny (model prog w) A (.compStart (.SetComp elt [⟨.Name x px, .Name z pz, [], 0⟩] scope pos) 0 (.ref I) (.ref H1.objs.size) (compEnvC scope cl (H1.push (set0 led)).objs.size env)) (compPost (model prog w) A E none Q (.ref H1.objs.size) (H1.push (set0 led)).objs.size) { s with heap := h₁, toks := s.toks + ([] : List (Str × Value)).length }
  change h₁.Ns (H1.push (set0 led)).objs.size _ at hns₁
  change Heap.SameBut (H1.push (set0 led)).objs.size ((H1.push (set0 led)).push _) h₁ at hsb₁
  have acc0 : (H1.push (set0 led)).get? (I + 1) = some (set0 led) := by rw [← hIsz]; exact Heap.get?_push_size _ rfl
  rw [hHC] at hns₁ hsb₁ ⊢
  rw [hIsz]
  have hC : ∃ C, C = I + 2 := ⟨_, rfl⟩
  obtain ⟨C, hC⟩ := hC
  have hD : ∃ D, D = I + 1 := ⟨_, rfl⟩
  obtain ⟨D, hD⟩ := hD
  rw [← hC] at hns₁ hsb₁ ⊢
  rw [← hD] at acc0 ⊢
  have hDC : D ≠ C := by rw [hC, hD]; exact Nat.ne_of_lt (Nat.lt_succ_self _)
  have hID : I ≠ D := by rw [hD]; exact Nat.ne_of_lt (Nat.lt_succ_self _)
  have hIC : I ≠ C := by rw [hC]; exact Nat.ne_of_lt (Nat.lt_succ_of_lt (Nat.lt_succ_self _))
  have below : ∀ b, b < I + 1 → b ≠ C ∧ b ≠ D := fun b hb => ⟨by rw [hC]; exact Nat.ne_of_lt (Nat.lt_succ_of_lt hb), by rw [hD]; exact Nat.ne_of_lt hb⟩
  have old : ∀ b o, H1.get? b = some o → h₁.get? b = some o := fun b o e => hsb₁.extBut b o (below b (hIsz ▸ Heap.lt_size e)).1 (Heap.get?_push_of_some _ (Heap.get?_push_of_some _ e))
  have hacc : h₁.get? D = some (accO led 0) := hsb₁.extBut _ _ hDC (Heap.get?_push_of_some _ acc0)
  have fresh₀ : ∀ a, I + 1 ≤ a → h₀.get? a = none := fun a ha => by
    cases e : h₀.get? a with
    | none => rfl
    | some o' => exact absurd (Heap.lt_size (F1.keep a o' e)) (by rw [hIsz]; exact Nat.not_lt.mpr ha)
  have hD₀ : h₀.get? D = none := fresh₀ _ (by rw [hD]; exact Nat.le_refl _)
  have hC₀ : h₀.get? C = none := fresh₀ _ (by rw [hC]; exact Nat.le_succ _)
  have hLlt : L < I + 1 := hIsz ▸ F1.ns.lt
  have hDL : D ≠ L := Ne.symm (below L hLlt).2
  have hCL : C ≠ L := Ne.symm (below L hLlt).1
  have off₀ : Off3 I C D news := Off3.of fun p hp => ⟨off p hp, (below _ (hIsz ▸ Heap.lt_size (N1 p hp).1)).1, (below _ (hIsz ▸ Heap.lt_size (N1 p hp).1)).2⟩
  have tupA : ∀ (h : Heap) nw, News h₀ L h nw → TupAt ax its nw → h.IsTuple ax its := fun h nw N S => ⟨_, (N _ S).1, rfl, _, rfl⟩
  have loop : ∀ s₃ : Shared, s₃ = { s with heap := h₁, toks := s.toks + ([] : List (Str × Value)).length } →
      codeAny (model prog w) A (.compLoop (.SetComp elt [⟨.Name x px, .Name z pz, [], 0⟩] scope pos) 0 (.ref I) (.ref D) (compEnvC scope cl C env)) (compPost (model prog w) A E none Q (.ref D) C) s₃ := by
    rintro s₃ rfl
    refine codeAny_compLoop_set
      (fun k s' => ∃ h' tk i m' news', s' = { s with heap := h', toks := tk } ∧ i ≤ its.size ∧ k = its.size + 1 - i ∧ h'.IsTupleIter I ax i ∧ Fr h₀ L h' m ∧ h'.Ns C m' ∧ News h₀ L h' ((D, accO led i) :: news') ∧
        Off3 I C D news' ∧ TupAt ax its news' ∧ SetRest prog w A h₀ L m env elt x scope cl { s with heap := H1 } (TupAt ax its) its (fun news' => ∀ D led h tk, LedOk w led → Fr h₀ L h m → News h₀ L h ((D, set1 led) :: news') → Off1 D news' → Q (.ref D) { s with heap := h, toks := tk }) (its.size - i) i news') ?_ (its.size + 1)
      ⟨h₁, _, 0, _, news, rfl, Nat.zero_le _, rfl, hI0.at (fun o e => old _ _ e), F1.keeps old, hns₁, fun p hp => ?_, off₀, S, R H1⟩
    · rintro k s' ⟨h', tk, i, m', news', rfl, hi, rfl, hit', F', hn', N', off', hS', R'⟩
      have off3 := off'.mem
      by_cases hlt : i < its.size
      · obtain ⟨j, hj⟩ : ∃ j, its.size - i = j + 1 := ⟨its.size - i - 1, by (first | lia | omega)⟩
        rw [hj] at R'
        refine wpAny_pyNext_tuple_item hit' (tupA _ _ (fun p hp => N' p (.tail _ hp)) hS') (x := its[i]) (by simp [hlt]) fun h₂ hit₂ hs₂ => ?_
        have hk₂ : ∀ b o, b ≠ I → h'.get? b = some o → h₂.get? b = some o := fun b o hb e => (hs₂.2 b hb).trans e
        refine wpAny_assign_Name (wpAny_storeName_local (lookup_relabel_local hx) (hn'.at' fun o e => hk₂ _ o hIC.symm e) (fun h₃ hn₃ hs₃ => ?_) (by simp [compEnvC, relabel, hkind]))
        have hit₃ : h₃.IsTupleIter I ax (i + 1) := hit₂.at fun o e => hs₃.extBut _ _ hIC e
        obtain ⟨oI, heI, hIr⟩ := id hit₃
        obtain ⟨oC, heC, hoC⟩ := ns_obj hn₃
        have F₃ : Fr h₀ L h₃ m := (fr_but (s := { s with heap := h' }) F' (Ne.symm hIL) hI₀ hk₂).change hs₃ hCL hC₀
        have N₂ : News h₀ L h₂ ((D, accO led i) :: news') := news_but (s := { s with heap := h' }) N' (fun p hp => by
          rcases List.mem_cons.mp hp with rfl | hp
          · exact Ne.symm hID
          · exact (off3 p hp).1) hk₂
        have N₃ : News h₀ L h₃ ((I, oI) :: (C, oC) :: (D, accO led i) :: news') := fun p hp => by
          rcases List.mem_cons.mp hp with rfl | hp
          · exact ⟨heI, Ne.symm hIL, hI₀⟩
          · rcases List.mem_cons.mp hp with rfl | hp
            · exact ⟨heC, hCL, hC₀⟩
            · have z := N₂ p hp
              refine ⟨hs₃.extBut _ _ ?_ z.1, z.2⟩
              rcases List.mem_cons.mp hp with rfl | hp
              · exact hDC
              · exact (off3 p hp).2.1
        refine wpAny_mono (R' its[i] I oI C oC D _ _ h₃ _ _ (by simp [hlt]) hoC (by simp) F₃ N₃ off' ⟨hIC, hID, Ne.symm hDC⟩) (fun y s₄ h₄ => ?_) fun _ _ e => e
        obtain ⟨h₄, tk₄, news₄, rfl, F₄, N₄, off₄, hS₄, rfl, R₄⟩ := h₄
        have zI := (N₄ (I, oI) List.mem_cons_self).1
        have zC := (N₄ (C, oC) (List.mem_cons_of_mem _ List.mem_cons_self)).1
        have zD := (N₄ (D, accO led i) (List.mem_cons_of_mem _ (List.mem_cons_of_mem _ List.mem_cons_self))).1
        have N₄' : News h₀ L h₄ news₄ := fun p hp => N₄ p (List.mem_cons_of_mem _ (List.mem_cons_of_mem _ (List.mem_cons_of_mem _ hp)))
        have off4 := off₄.mem
        refine add_any led i zD fun h₅ tk₅ hs₅ hD₅ => ?_
        refine ⟨its.size + 1 - (i + 1), by (first | lia | omega), h₅, tk₅, i + 1, _, news₄, rfl, hlt, rfl, ⟨oI, hs₅.extBut _ _ hID zI, hIr⟩, F₄.change hs₅ hDL hD₀,
          (hoC.ns zC).sameBut hs₅ (Ne.symm hDC), fun p hp => ?_, off₄, hS₄, ?_⟩
        · rcases List.mem_cons.mp hp with rfl | hp
          · exact ⟨hD₅, hDL, hD₀⟩
          · exact ⟨hs₅.extBut _ _ (off4 p hp).2.2 (N₄' p hp).1, (N₄' p hp).2⟩
        · rw [show its.size - (i + 1) = j by (first | lia | omega)]
          exact R₄
      · obtain rfl : i = its.size := Nat.le_antisymm hi (Nat.not_lt.mp hlt)
        rw [Nat.sub_self] at R'
        refine wpAny_pyNext_tuple_end hh hit' (tupA _ _ (fun p hp => N' p (.tail _ hp)) hS') (by simp) fun h₂ hk₂ => ?_
        have hk₂' : ∀ b o, b ≠ I → h'.get? b = some o → h₂.get? b = some o := hk₂
        have hacc : accO led its.size = set1 led := if_neg hpos
        refine ⟨m', hn'.at' fun o e => hk₂' _ o hIC.symm e, fun h₆ hs₆ => R' D led h₆ tk hled ((fr_but (s := { s with heap := h' }) F' (Ne.symm hIL) hI₀ hk₂').change hs₆ hCL hC₀) (fun p hp => ?_) off'.one⟩
        rw [hacc] at N'
        have z := N' p hp
        refine ⟨hs₆.extBut _ _ ?_ (hk₂' _ _ ?_ z.1), z.2⟩
        · rcases List.mem_cons.mp hp with rfl | hp
          · exact hDC
          · exact (off3 p hp).2.1
        · rcases List.mem_cons.mp hp with rfl | hp
          · exact Ne.symm hID
          · exact (off3 p hp).1
    · rcases List.mem_cons.mp hp with rfl | hp
      · exact ⟨hacc, hDL, hD₀⟩
      · exact ⟨old _ _ (N1 p hp).1, (N1 p hp).2⟩
  refine codeAny_compStart_set (loop _ rfl) ?_
  exact wpAny_pyIter_tupleiter (hI0.at fun o e => old _ _ e) (loop _ rfl)
end
end Mine
end

section
open PySem PySem.W PySem.W.X PyProof.Rows PySem.Calls PyProof.V PySem.Spec
set_option Elab.async false
set_option maxRecDepth 100000
set_option maxHeartbeats 0
namespace Mine
theorem lnS3 : True := by
  k_with_none
  trivial
open PyProof.Rows.LCg PyProof.Rows.LCt
section
variable {prog : Program} {w : World} {A : Around} {E : Value → Shared → Prop} {s : Shared} {h₀ : Heap} {L : Addr} {m : Str → Option Value} {env : Env}
theorem filt_comp {c sn cd : Str} {p1 p2 p3 p4 p5 p6 px ps : Pos} {scope : Scope} {cl : List (Str × Addr)} {pos : Pos} {Q : Value → Shared → Prop} {ax : Addr} {l : List (Str × Tok)} {n : Nat} {dot : Str} {td : Tok} {news : List (Addr × Obj)}
    (hclos : closureFor scope env = pure cl) (hcell : ∀ y ∈ scope.names, y.2 ≠ .cell) (hkind : scope.kind = .function)
    (hnames : ∀ y ∈ scope.names, y.2 = .local → scope.names.lookup y.1 = some .local) (hx : scope.names.lookup c = some .local) (hdb : (c == ("__debug__" : Str)) = false)
    (hh : A.handled = none) (F : Fr h₀ L s.heap m) (N : News h₀ L s.heap news) (hm : (ax, sList l n) ∈ news) (hz : Nat.ble l.length 1048578 = true) (hne : ∀ p ∈ l, (p.1.length ≠ 0 ∧ p.1 ≠ dot) ∧ p.1.length ≤ 16777216)
    (hs : ∀ (Q : Value → Shared → Prop) E, Q (.ref ax) s → wpAny (model prog w) A (eval (.Name sn ps) env) Q E s)
    (hcur : ∀ C (s₂ : Shared) (Q : Value → Shared → Prop) E' nw, News h₀ L s₂.heap (nw ++ news) → Q (.str dot td) s₂ → wpAny (model prog w) A (eval (.Name cd p5) (compEnvC scope cl C env)) Q E' s₂)
    (h : ∀ D h' tk, Fr h₀ L h' m → News h₀ L h' ((D, lst (strValues l)) :: news) → Off1 D news → Q (.ref D) { s with heap := h', toks := tk }) :
    wpAny (model prog w) A (eval (.ListComp (.Name c p1) [⟨.Name c px, .Name sn ps, [.BoolOp .And [.Name c p2, .Compare (.Name c p3) [.NotEq] [.Name cd p5] p4] p6], 0⟩] scope pos) env) Q E s := by
  have hz' : (strValues l).toArray.size ≤ sizeLine := by
    rw [sv_size]
    exact Nat.le_trans (Nat.ble_eq.mp hz) (by size_fits)
  refine ListComp_T F hclos hcell hkind hnames hx (hs _ _ ?_)
  refine CompSrcT.ledger hh F N hm hz' fun g => ?_
  have go : ∀ k i, k + i = (strValues l).toArray.size → CompRestT prog w A h₀ L m env (.BoolOp .And [.Name c p2, .Compare (.Name c p3) [.NotEq] [.Name cd p5] p4] p6) (.Name c p1) c scope cl { s with heap := g } (SrcAt h₀ ax (strValues l).toArray)
      (fun i v => (strValues l).toArray[i]? = some v) (FinE h₀ L m { s with heap := g } Q) k i ((strValues l).take i) news := by
    intro k
    induction k with
    | zero =>
      intro i hi
      refine CompRestT.zero ?_
      have e : (strValues l).take i = strValues l := List.take_of_length_le (by rw [List.size_toArray] at hi; (first | lia | omega))
      rw [e]
      exact h
    | succ k ih =>
      intro i hi
      refine CompRestT.succ ?_
      intro v I oI C oC D m₂ h1 tk E' hP hC hxv F1 N1 off ne
      rw [List.size_toArray] at hi
      have hlt : i < l.length := by simp only [strValues, List.length_map] at hi; (first | lia | omega)
      have hv : v = .str l[i].1 l[i].2 := by
        simp only [strValues, List.getElem?_toArray, List.getElem?_map, List.getElem?_eq_getElem hlt, Option.map_some] at hP
        exact (Option.some.inj hP).symm
      subst hv
      obtain ⟨hn, hlen⟩ := hne _ (List.getElem_mem hlt)
      have hloc : (compEnvC scope cl C env).kindOf c = some .local := lookup_relabel_local hx
      have nm : ∀ (p : Pos) (Q' : Value → Shared → Prop) tk, Q' (.str l[i].1 l[i].2) { s with heap := h1, toks := tk } → wpAny (model prog w) A (eval (.Name c p) (compEnvC scope cl C env)) Q' E' { s with heap := h1, toks := tk } := fun p Q' tk hq =>
        LCgL.ld_own (s := { s with heap := h1, toks := tk }) N1 (.tail _ (.head _)) hC hxv hq hkind hloc hdb
      have step : ∀ (Q' : Bool → Shared → Prop), (∀ tk', Q' true { s with heap := h1, toks := tk' }) → wpAny (model prog w) A (isTrue (.BoolOp .And [.Name c p2, .Compare (.Name c p3) [.NotEq] [.Name cd p5] p4] p6) (compEnvC scope cl C env) (eval (.BoolOp .And [.Name c p2, .Compare (.Name c p3) [.NotEq] [.Name cd p5] p4] p6) (compEnvC scope cl C env))) Q' E' { s with heap := h1, toks := tk } := by
        intro Q' hq
        refine isTrue_and (isTrue_plain (nm _ _ _ (KXt.truthy_pos (s := { s with heap := h1, toks := tk }) (Nat.pos_of_ne_zero hn.1) hlen (Nat.le_refl _) fun tk2 => ?_)))
        rw [if_pos rfl]
        refine isTrue_and ?_
        refine wpAny_isTrue_Compare1 (nm _ _ _ ?_)
        refine hcur C _ _ _ [(I, oI), (C, oC), (D, lst (List.take i (strValues l)))] N1 ?_
        refine ne_str ?_
        refine wpAny_truthy_bool ?_
        rw [if_pos (by simpa using hn.2)]
        exact isTrue_and_nil (hq _)
      refine step _ fun tk2 => ?_
      rw [if_pos rfl]
      refine nm _ _ _ ?_
      refine CompEnd.intro F1 N1 news (fun p hp => hp) off (Or.inr ⟨_, hm, rfl, _, rfl⟩) ?_
      have e : List.take i (strValues l) ++ [.str l[i].1 l[i].2] = (strValues l).take (i + 1) := by
        have hlt' : i < (strValues l).length := by simpa [strValues] using hlt
        rw [List.take_succ_eq_append_getElem hlt']
        simp [strValues]
      rw [e]
      exact ih (i + 1) (by rw [List.size_toArray]; (first | lia | omega))
  have z := go _ 0 (Nat.add_zero _)
  exact z
noncomputable def Clean (x : Str) : Prop := (∀ c ∈ Txt.split x (Str.ofString "/"), (c.length ≠ 0 ∧ c ≠ Str.ofString ".") ∧ c.length ≤ 16777216) ∧ Nat.ble (Txt.split x (Str.ofString "/")).length 1048578 = true
theorem filt_clean {c sn cd : Str} {p1 p2 p3 p4 p5 p6 px ps : Pos} {scope : Scope} {cl : List (Str × Addr)} {pos : Pos} {Q : Value → Shared → Prop} {ax : Addr} {l : List (Str × Tok)} {n : Nat} {td : Tok} {news : List (Addr × Obj)} {x : Str}
    (hclos : closureFor scope env = pure cl) (hcell : ∀ y ∈ scope.names, y.2 ≠ .cell) (hkind : scope.kind = .function)
    (hnames : ∀ y ∈ scope.names, y.2 = .local → scope.names.lookup y.1 = some .local) (hx : scope.names.lookup c = some .local) (hdb : (c == ("__debug__" : Str)) = false)
    (hh : A.handled = none) (F : Fr h₀ L s.heap m) (N : News h₀ L s.heap news) (hm : (ax, sList l n) ∈ news) (he : sFst l = Txt.split x (Str.ofString "/")) (hc : Clean x)
    (hs : ∀ (Q : Value → Shared → Prop) E, Q (.ref ax) s → wpAny (model prog w) A (eval (.Name sn ps) env) Q E s)
    (hcur : ∀ C (s₂ : Shared) (Q : Value → Shared → Prop) E' nw, News h₀ L s₂.heap (nw ++ news) → Q (.str (Str.ofString ".") td) s₂ → wpAny (model prog w) A (eval (.Name cd p5) (compEnvC scope cl C env)) Q E' s₂)
    (h : ∀ D h' tk, Fr h₀ L h' m → News h₀ L h' ((D, sList l (strValues l).length) :: news) → Off1 D news → Q (.ref D) { s with heap := h', toks := tk }) :
    wpAny (model prog w) A (eval (.ListComp (.Name c p1) [⟨.Name c px, .Name sn ps, [.BoolOp .And [.Name c p2, .Compare (.Name c p3) [.NotEq] [.Name cd p5] p4] p6], 0⟩] scope pos) env) Q E s :=
  filt_comp hclos hcell hkind hnames hx hdb hh F N hm (by
    have e : l.length = (sFst l).length := by simp [sFst]
    rw [e, he]; exact hc.2) (fun p hp => hc.1 p.1 (by rw [← he]; exact List.mem_map_of_mem hp)) hs hcur h
noncomputable def minL (a b : List Str) : List Str := if ltP b a then b else a
noncomputable def maxL (a b : List Str) : List Str := if ltP a b then b else a
theorem min_c {l x y : Addr} {xs ys : List (Str × Tok)} {k n1 n2 : Nat} {Q : Value → Shared → Prop} {news : List (Addr × Obj)} (hh : A.handled = none) (hu : Nat.ble A.units 8990 = true) (F : Fr h₀ L s.heap m) (N : News h₀ L s.heap news)
    (hl : (l, ({ cls := .type "list", data := .seq #[.ref x, .ref y] k } : Obj)) ∈ news) (hx : (x, sList xs n1) ∈ news) (hy : (y, sList ys n2) ∈ news)
    (h : ∀ M lm nm h', sFst lm = minL (sFst xs) (sFst ys) → Fr h₀ L h' m → News h₀ L h' ((M, sList lm nm) :: news) → Q (.ref M) { s with heap := h' }) :
    wpAny (model prog w) A (call (.builtin "min") [.ref l]) Q E s := by
  refine min_two hh (Nat.lt_succ_of_le (Nat.le_trans (Nat.ble_eq.mp hu) (Nat.le_of_ble_eq_true rfl))) ⟨_, (N _ hl).1, rfl, _, rfl⟩ (N _ hx).1 (N _ hy).1 fun h' hk => ?_
  have F' := F.keeps hk
  have N' : News h₀ L h' news := N.grown hk
  by_cases hb : ltP (sFst ys) (sFst xs) = true
  · rw [if_pos hb]
    exact h y ys n2 h' (by rw [minL, if_pos hb]) F' fun p hp => by
      rcases List.mem_cons.mp hp with rfl | hp
      · exact N' _ hy
      · exact N' _ hp
  · rw [if_neg hb]
    exact h x xs n1 h' (by rw [minL, if_neg hb]) F' fun p hp => by
      rcases List.mem_cons.mp hp with rfl | hp
      · exact N' _ hx
      · exact N' _ hp
theorem max_c {l x y : Addr} {xs ys : List (Str × Tok)} {k n1 n2 : Nat} {Q : Value → Shared → Prop} {news : List (Addr × Obj)} (hh : A.handled = none) (hu : Nat.ble A.units 8990 = true) (F : Fr h₀ L s.heap m) (N : News h₀ L s.heap news)
    (hl : (l, ({ cls := .type "list", data := .seq #[.ref x, .ref y] k } : Obj)) ∈ news) (hx : (x, sList xs n1) ∈ news) (hy : (y, sList ys n2) ∈ news)
    (h : ∀ M lm nm h', sFst lm = maxL (sFst xs) (sFst ys) → Fr h₀ L h' m → News h₀ L h' ((M, sList lm nm) :: news) → Q (.ref M) { s with heap := h' }) :
    wpAny (model prog w) A (call (.builtin "max") [.ref l]) Q E s := by
  refine max_two hh (Nat.lt_succ_of_le (Nat.le_trans (Nat.ble_eq.mp hu) (Nat.le_of_ble_eq_true rfl))) ⟨_, (N _ hl).1, rfl, _, rfl⟩ (N _ hx).1 (N _ hy).1 fun h' hk => ?_
  have F' := F.keeps hk
  have N' : News h₀ L h' news := N.grown hk
  by_cases hb : ltP (sFst xs) (sFst ys) = true
  · rw [if_pos hb]
    exact h y ys n2 h' (by rw [maxL, if_pos hb]) F' fun p hp => by
      rcases List.mem_cons.mp hp with rfl | hp
      · exact N' _ hy
      · exact N' _ hp
  · rw [if_neg hb]
    exact h x xs n1 h' (by rw [maxL, if_neg hb]) F' fun p hp => by
      rcases List.mem_cons.mp hp with rfl | hp
      · exact N' _ hx
      · exact N' _ hp
end
end Mine
end

section
open PySem PySem.W PySem.W.X PyProof.Rows PySem.Calls PyProof.V PySem.Spec
set_option Elab.async false
set_option maxRecDepth 100000
set_option maxHeartbeats 0
namespace Mine
theorem lnM4 : True := by
  k_with_none
  trivial
section
variable {prog : Program} {w : World} {A : Around} {E : Value → Shared → Prop} {s : Shared} {env : Env} {h₀ : Heap} {m : Str → Option Value} {news : List (Addr × Obj)}
theorem enum_leave {xi xc : Str} {Q : Flow → Shared → Prop} {test : Expr} {suite : List Stmt} {ipos : Pos} {ax : Addr} {l : List (Str × Tok)} {n : Nat} {pz : Nat → Bool}
    (hh : A.handled = none) (F : Fr h₀ env.locals s.heap m) (N : News h₀ env.locals s.heap news) (hm : (ax, sList l n) ∈ news)
    (g1 : ∀ i c tc ti h tk, l[i]? = some (c, tc) → (∀ j, j < i → pz j = false) → Fr h₀ env.locals h (bindM (bindM m xi (some (.int i ti))) xc (some (.str c tc))) → News h₀ env.locals h news →
      wpAny (model prog w) A (isTrue test env (eval test env)) (fun b s₄ => b = pz i ∧ Keeps { s with heap := h, toks := tk } s₄) E { s with heap := h, toks := tk })
    (g2 : ∀ i c tc ti h tk, l[i]? = some (c, tc) → pz i = true → (∀ j, j < i → pz j = false) → Fr h₀ env.locals h (bindM (bindM m xi (some (.int i ti))) xc (some (.str c tc))) → News h₀ env.locals h news →
      wpAny (model prog w) A (execs suite env) (LeaveOnly Q) E { s with heap := h, toks := tk })
    (g3 : ∀ h tk vi vl, (∀ j, j < l.length → pz j = false) → Fr h₀ env.locals h (bindM (bindM m xi vi) xc vl) → News h₀ env.locals h news → Q .next { s with heap := h, toks := tk }) :
    wpAny (model prog w) A (call (.type "enumerate") [.ref ax]) (fun xv s₁ => wpAny (model prog w) A (pyIter xv) (fun it s₂ => PairAt3 prog w A h₀ env xi xc [.If test suite [] ipos] Q E it s₂) E s₁) E s := by
  have hax := N _ hm
  have hls : s.heap.IsList ax (strValues l).toArray := ⟨_, hax.1, rfl, _, rfl⟩
  have hLs : env.locals < s.heap.objs.size := F.ns.lt
  have hlt : ax < s.heap.objs.size := Heap.lt_size hax.1
  have hab : h₀.objs.size ≤ env.locals := F.above
  refine call_enumerate_list hls fun h' he hit hsz hk => ?_
  have F' : Fr h₀ env.locals h' m := ⟨F.ns.keeps hk, fun b o e => hk b o (F.keep b o e), F.above⟩
  have N' : News h₀ env.locals h' news := fun p hp => ⟨hk _ _ (N p hp).1, (N p hp).2⟩
  refine wpAny_pyIter_enum he ?_
  have D := Draws.list (prog := prog) (w := w) (A := A.in1) hh s.heap.objs.size ax (Nat.ne_of_lt hlt) (strValues l).toArray
  have hsz' : (strValues l).toArray.size = l.length := by simp [strValues]
  have tk_of : ∀ i, (∀ a ∈ l.zipIdx.take i, pz a.2 = false) ↔ (∀ j, j < i → j < l.length → pz j = false) := by
    intro i
    constructor
    · intro h j hj hjl
      have : (l[j], j) ∈ l.zipIdx.take i := by
        rw [List.mem_take_iff_getElem]
        exact ⟨j, by simp; (first | lia | omega), by simp⟩
      exact h _ this
    · intro h a ha
      rw [List.mem_take_iff_getElem] at ha
      obtain ⟨j, hj, e⟩ := ha
      simp at e
      have hj' := Nat.lt_min.mp hj
      rw [← e]
      exact h j hj'.1 (by simpa using hj'.2)
  refine ⟨s.heap.objs.size + 1, _, [s.heap.objs.size + 1, s.heap.objs.size], _, _, _, _, (fun i v0 v1 => ∃ t, v0 = .int i t ∧ (strValues l).toArray[i]? = some v1), m, news, PairJ (fun mb => FindJ mb news xc l.zipIdx (fun p => pz p.2)) m xi, rfl,
    WalksT.enumerateD D (s.heap.objs.size + 1) (Nat.succ_ne_self _) ?_ (by simp), ?_, ?_, ?_, ?_, ⟨⟨_, by simpa using he⟩, hit, hls.at fun o e => hk ax o e⟩, F', N', ?_, ?_, ?_⟩
  · intro hm
    rcases List.mem_cons.mp hm with e | hm
    · exact Nat.succ_ne_self _ e
    · exact Nat.ne_of_gt (Nat.lt_succ_of_lt hlt) (List.mem_singleton.mp hm)
  · rintro i vals ⟨t, x, hPx, rfl⟩
    exact ⟨_, _, rfl, t, rfl, hPx⟩
  · intro hm
    rcases List.mem_cons.mp hm with e | hm
    · exact Nat.ne_of_lt (Nat.lt_succ_of_lt hLs) e
    · rcases List.mem_cons.mp hm with e | hm
      · exact Nat.ne_of_lt hLs e
      · exact hax.2.1 (List.mem_singleton.mp hm).symm
  · intro b hb
    rcases List.mem_cons.mp hb with rfl | hb
    · exact Heap.get?_none_of_le (Nat.le_trans hab (Nat.le_of_lt (Nat.lt_succ_of_lt hLs)))
    · rw [List.mem_singleton.mp hb]
      exact Heap.get?_none_of_le (Nat.le_trans hab (Nat.le_of_lt hLs))
  · intro p hp hb
    have hp1 := Heap.lt_size (N p hp).1
    rcases List.mem_cons.mp hb with e | hb
    · exact Nat.ne_of_lt (Nat.lt_succ_of_lt hp1) e
    · exact Nat.ne_of_lt hp1 (List.mem_singleton.mp hb)
  · exact ⟨m xi, m xc, by rw [← bindM_start m xi]; exact bindM_start m xc, rfl, by simp⟩
  · rintro i v0 v1 m₁ news₁ s₁ own hs₁ hi ⟨t, rfl, hPx⟩ hJ ha hsub F₁ N₁
    obtain ⟨vi, vl, rfl, rfl, hn⟩ := hJ
    obtain ⟨hh₁, tk₁, rfl⟩ := hs₁
    have hil : i < l.length := by rw [hsz'] at hi; exact hi
    have hv : v1 = .str l[i].1 l[i].2 := by
      simp only [strValues, List.getElem?_toArray, List.getElem?_map, List.getElem?_eq_getElem hil, Option.map_some] at hPx
      exact (Option.some.inj hPx).symm
    subst hv
    have hgi : l[i]? = some (l[i].1, l[i].2) := List.getElem?_eq_getElem hil
    have hn' : ∀ j, j < i → pz j = false := fun j hj => (tk_of i).mp hn j hj (by (first | lia | omega))
    rw [bind2_find] at F₁
    have hzi : l.zipIdx[i]? = some (l[i], i) := by simp [List.getElem?_zipIdx, hil]
    exact wpAny_mono (turn_leave (pz := fun p => pz p.2) (m := bindM m xi (some (.int i t))) hzi hn F₁ N₁ (g1 i _ _ _ _ _ hgi hn' F₁ N₁.right) fun hp h₄ tk₄ F₄ N₄ => g2 i _ _ _ _ _ hgi hp hn' F₄ N₄.right)
      (fun f s₂ h => LoopStep3.mono (fun _ _ hj => ⟨_, hj⟩) h) fun _ _ e => e
  · rintro h₅ tk₅ m' news' F₅ N₅ ha₅ ⟨vi, vl, rfl, rfl, hn⟩
    exact g3 h₅ tk₅ vi vl (fun j hj => (tk_of _).mp hn j (by rw [hsz']; exact hj) hj) F₅ N₅
theorem ne_sub {c sn xi : Str} {p1 p2 p3 p4 p5 : Pos} {cx : Str} {tc ti : Tok} {i : Nat} {bx : Addr} {l2 : List (Str × Tok)} {n2 : Nat} {L : Addr}
    (hL : env.locals = L) (hkind : env.scope.kind = .function) (hkc : env.kindOf c = some .local) (hks : env.kindOf sn = some .local) (hki : env.kindOf xi = some .local)
    (hdc : (c == ("__debug__" : Str)) = false) (hds : (sn == ("__debug__" : Str)) = false) (hdi : (xi == ("__debug__" : Str)) = false)
    (F : Fr h₀ L s.heap m) (N : News h₀ L s.heap news) (mc : m c = some (.str cx tc)) (mi : m xi = some (.int i ti)) (ms : m sn = some (.ref bx)) (hb : (bx, sList l2 n2) ∈ news) (hi : i < l2.length) (hz : i < 2 ^ 63) :
    wpAny (model prog w) A (isTrue (.Compare (.Name c p1) [.NotEq] [.Subscript (.Name sn p2) (.Name xi p3) p4] p5) env (eval (.Compare (.Name c p1) [.NotEq] [.Subscript (.Name sn p2) (.Name xi p3) p4] p5) env))
      (fun b s₄ => b = decide (some cx ≠ (sFst l2)[i]?) ∧ Keeps s s₄) E s := by
  subst hL
  have hbx := N _ hb
  have hls : s.heap.IsList bx (strValues l2).toArray := ⟨_, hbx.1, rfl, _, rfl⟩
  refine wpAny_isTrue_Compare1 (wpAny_Name (wpAny_loadName_local hkind hkc F.ns mc ?_) hdc)
  refine wpAny_Subscript_Name slot_list_getitem.lookup (wpAny_Name (wpAny_loadName_local hkind hks F.ns ms ?_) hds)
  refine wpAny_Name (wpAny_loadName_local hkind hki F.ns mi ⟨hls.typeIs, ?_⟩) hdi
  refine wpAny_getItem_list (x := .str l2[i].1 l2[i].2) hls (Int.natCast_nonneg _) (by (first | lia | omega)) (by simp [strValues, hi]) ?_
  refine ne_str ?_
  refine wpAny_truthy_bool ⟨?_, _, _, rfl, fun _ _ e => e⟩
  by_cases hc : cx = l2[i].1 <;> simp [sFst, hi, hc]
end
end Mine
end

section
open PySem PySem.W PySem.W.X PyProof.Rows PySem.Calls PyProof.V PySem.Spec
set_option Elab.async false
set_option maxRecDepth 100000
set_option maxHeartbeats 0
namespace Mine
theorem lnM5 : True := by
  k_with_none
  trivial

noncomputable def comL : List Str → List Str → List Str
  | x :: xs, y :: ys => if x = y then x :: comL xs ys else []
  | _, _ => []
theorem comL_at : ∀ (i : Nat) (a b : List Str), i < a.length → (∀ j, j < i → a[j]? = b[j]?) → a[i]? ≠ b[i]? → comL a b = a.take i
  | 0, [], _, h, _, _ => absurd h (Nat.not_lt_zero _)
  | 0, x :: xs, [], _, _, _ => rfl
  | 0, x :: xs, y :: ys, _, _, h => by
    have : x ≠ y := fun e => h (by simp [e])
    simp [comL, this]
  | i + 1, [], _, h, _, _ => absurd h (Nat.not_lt_zero _)
  | i + 1, x :: xs, [], _, h, _ => by have := h 0 (Nat.succ_pos _); simp at this
  | i + 1, x :: xs, y :: ys, hl, h, hn => by
    have hxy : x = y := by have := h 0 (Nat.succ_pos _); simpa using this
    have z := comL_at i xs ys (Nat.lt_of_succ_lt_succ hl) (fun j hj => by have := h (j + 1) (Nat.succ_lt_succ hj); simpa using this) (by simpa using hn)
    simp [comL, hxy, z]
theorem comL_all : ∀ (a b : List Str), (∀ j, j < a.length → a[j]? = b[j]?) → comL a b = a
  | [], b, _ => by cases b <;> rfl
  | x :: xs, [], h => by have := h 0 (Nat.succ_pos _); simp at this
  | x :: xs, y :: ys, h => by
    have hxy : x = y := by have := h 0 (Nat.succ_pos _); simpa using this
    have z := comL_all xs ys fun j hj => by have := h (j + 1) (Nat.succ_lt_succ hj); simpa using this
    simp [comL, hxy, z]
theorem ltP_short : ∀ (i : Nat) (a b : List Str), ltP b a = false → i < a.length → (∀ j, j < i → a[j]? = b[j]?) → i < b.length
  | 0, [], _, _, h, _ => absurd h (Nat.not_lt_zero _)
  | 0, x :: xs, [], h, _, _ => by simp [ltP] at h
  | 0, x :: xs, y :: ys, _, _, _ => Nat.succ_pos _
  | i + 1, [], _, _, h, _ => absurd h (Nat.not_lt_zero _)
  | i + 1, x :: xs, [], h, _, _ => by simp [ltP] at h
  | i + 1, x :: xs, y :: ys, h, hl, he => by
    have hxy : x = y := by have := he 0 (Nat.succ_pos _); simpa using this
    subst hxy
    exact Nat.succ_lt_succ (ltP_short i xs ys (by simpa [ltP] using h) (Nat.lt_of_succ_lt_succ hl) fun j hj => by have := he (j + 1) (Nat.succ_lt_succ hj); simpa using this)
theorem ltP_irrefl : ∀ a : List Str, ltP a a = false
  | [] => rfl
  | x :: xs => by simp [ltP, ltP_irrefl xs]
theorem ltP_asymm : ∀ a b : List Str, ltP a b = true → ltP b a = false
  | [], [], h => by simp [ltP] at h
  | [], y :: ys, _ => rfl
  | x :: xs, [], h => by simp [ltP] at h
  | x :: xs, y :: ys, h => by
    by_cases hxy : x = y
    · subst hxy
      simp only [ltP, if_true] at h ⊢
      exact ltP_asymm xs ys h
    · simp only [ltP, if_neg hxy, if_neg (Ne.symm hxy), decide_eq_true_eq, decide_eq_false_iff_not] at h ⊢
      exact fun h2 => List.lt_irrefl _ (List.lt_trans h h2)
theorem minmax (a b : List Str) : ltP (maxL a b) (minL a b) = false := by
  unfold maxL minL
  by_cases h1 : ltP b a = true
  · have := ltP_asymm _ _ h1
    simp [h1, this]
  · have h1' := Bool.eq_false_iff.mpr h1
    by_cases h2 : ltP a b = true
    · simp [h1', h2]
    · simp [h1', h2, ltP_irrefl]
noncomputable def pzF (a b : List Str) (i : Nat) : Bool := decide (a[i]? ≠ b[i]?)
theorem pz_short {a b : List Str} {i : Nat} (h : ltP b a = false) (hi : i < a.length) (hp : ∀ j, j < i → pzF a b j = false) : i < b.length :=
  ltP_short i a b h hi fun j hj => by have := hp j hj; simpa [pzF] using this
theorem com_at {a b : List Str} {i : Nat} (hi : i < a.length) (hp : ∀ j, j < i → pzF a b j = false) (h : pzF a b i = true) : comL a b = a.take i :=
  comL_at i a b hi (fun j hj => by have := hp j hj; simpa [pzF] using this) (by simpa [pzF] using h)
theorem com_all {a b : List Str} (hp : ∀ j, j < a.length → pzF a b j = false) : comL a b = a :=
  comL_all a b fun j hj => by have := hp j hj; simpa [pzF] using this
end Mine
end

section
open PySem PySem.W PySem.W.X PyProof.Rows PySem.Calls PyProof.V PySem.Spec
set_option Elab.async false
set_option maxRecDepth 100000
set_option maxHeartbeats 0
namespace Mine
theorem lnM6a : True := by
  k_with_none
  trivial
noncomputable def wt (l : List Str) : Nat := (l.map (·.length)).sum + l.length
theorem wt_take : ∀ (i : Nat) (l : List Str), wt (l.take i) ≤ wt l
  | 0, l => Nat.zero_le _
  | i + 1, [] => Nat.le_refl _
  | i + 1, x :: l => by
    have := wt_take i l
    simp only [wt, List.take_succ_cons, List.map_cons, List.sum_cons, List.length_cons] at this ⊢
    (first | lia | omega)
section
variable {prog : Program} {w : World} {A : Around} {E : Value → Shared → Prop} {s : Shared} {env : Env} {h₀ : Heap} {m : Str → Option Value} {news : List (Addr × Obj)}
theorem slice_s {value slice : PySem.Expr} {L ax : Addr} {l : List (Str × Tok)} {n i : Nat} {t : Tok} {Q : Value → Shared → Prop} (F : Fr h₀ L s.heap m) (N : News h₀ L s.heap news) (hm : (ax, sList l n) ∈ news) (hz : wt (sFst (l.take i)) ≤ 1048576) (hi : i < l.length) (h63 : l.length ≤ 16777216)
    (h : ∀ D h', Fr h₀ L h' m → News h₀ L h' ((D, sList (l.take i) 0) :: news) → AllLt D news → Q (.ref D) { s with heap := h' })
    (hs : subscripted slice false (.ref ax) (.ref s.heap.objs.size) = operate [.ref s.heap.objs.size, .ref ax] (getItem (.ref ax) (.ref s.heap.objs.size))) (ht : ∀ r, letTemporaryGo value (.ref ax) r = pure ()) :
    wpAny (model prog w) A (subscriptTail value slice (.ref ax) (.ref s.heap.objs.size)) Q E { s with heap := s.heap.push { cls := .type "slice", data := .fields #[.none, .int (i : Nat) t, .none] } } := by
  have hls : s.heap.IsList ax (strValues l).toArray := ⟨_, (N _ hm).1, rfl, _, rfl⟩
  have hsz : (strValues l).toArray.size = l.length := by simp [strValues]
  have e : sliceBounds none (some (i : Int)) none (strValues l).toArray.size = (((0 : Nat) : Int), ((min i (strValues l).toArray.size : Nat) : Int), 1) := by
    simp only [sliceBounds, Option.getD_none, show (1 : Int) > 0 by decide, if_true, if_neg (show ¬ ((i : Int) < 0) by (first | lia | omega))]
    congr 1
    congr 1
    (first | lia | omega)
  refine kmk_slice (lo := none) (hi := some (i : Int)) F N hls IsPart.none (IsPart.int _ _) (fun D h' F' N' l1 => h D h' F' ?_ (allLt_of l1)) hs ht (by rw [hsz]; exact Nat.le_trans h63 (by size_fits))
  have q : slicePick (strValues l).toArray none (some (i : Int)) none = (strValues (l.take i)).toArray := by
    rw [kmk_pick_nat _ e]
    show ((((strValues l).drop 0).take (min i (strValues l).toArray.size - 0))).toArray = _
    rw [List.drop_zero, Nat.sub_zero, List.size_toArray, kmk_take_min]
    simp [strValues, List.map_take]
  rw [q] at N'
  exact N'
theorem join_s {L ax : Addr} {l : List (Str × Tok)} {n : Nat} {x : Str} {t : Tok} {Q : Value → Shared → Prop} (N : News h₀ L s.heap news) (hm : (ax, sList l n) ∈ news) (hw : wt (sFst l) ≤ 1048576) (hx : x.length ≤ 4)
    (h : ∀ t' k, (Txt.join x (sFst l)).length ≤ 5242880 → Q (.str (Txt.join x (sFst l)) t') { s with toks := k }) : wpAny (model prog w) A (call (.builtin "str.join") [.str x t, .ref ax]) Q E s :=
  join_listW ⟨_, (N _ hm).1, rfl, _, rfl⟩ (strsAre_of_values l) (Nat.le_trans hx (by decide)) hw fun t' k => h t' k (by
    show (Builtin.Str.glued x (sFst l)).length ≤ _
    rw [PySem.size_glued]
    have h1 : ((sFst l).length - 1) * x.length ≤ (sFst l).length * 4 := Nat.mul_le_mul (Nat.sub_le _ _) hx
    unfold wt at hw
    (first | lia | omega))
theorem add_s {x y : Str} {t u : Tok} {Q : Value → Shared → Prop} (hx : x.length ≤ 16) (hy : y.length ≤ 5242880) (h : ∀ t' k, Q (.str (x ++ y) t') { s with toks := k }) :
    wpAny (model prog w) A (binaryOp .Add (.str x t) (.str y u)) Q E s := add_str h (by rw [sizeLine_eq]; (first | lia | omega))
theorem enum_min {xi xc sn : Str} {Q : Flow → Shared → Prop} {suite : List Stmt} {ipos p1 p2 p3 p4 p5 : Pos} {ax bx : Addr} {l l2 : List (Str × Tok)} {n n2 : Nat} {a b : List Str} {L : Addr}
    (hL : env.locals = L) (hh : A.handled = none) (F : Fr h₀ L s.heap m) (N : News h₀ L s.heap news) (hm : (ax, sList l n) ∈ news) (hb : (bx, sList l2 n2) ∈ news) (ms : m sn = some (.ref bx))
    (n1 : sn ≠ xi) (n2' : sn ≠ xc) (n3 : xi ≠ xc) (hkind : env.scope.kind = .function) (hkc : env.kindOf xc = some .local) (hks : env.kindOf sn = some .local) (hki : env.kindOf xi = some .local)
    (hdc : (xc == ("__debug__" : Str)) = false) (hds : (sn == ("__debug__" : Str)) = false) (hdi : (xi == ("__debug__" : Str)) = false)
    (e1 : sFst l = minL a b) (e2 : sFst l2 = maxL a b) (za : wt a ≤ 1048576) (zb : wt b ≤ 1048576)
    (g2 : ∀ i c tc ti h tk, i < l.length → l.length ≤ 16777216 → sFst (l.take i) = comL (minL a b) (maxL a b) → wt (sFst (l.take i)) ≤ 1048576 → Fr h₀ L h (bindM (bindM m xi (some (.int (i : Nat) ti))) xc (some (.str c tc))) → News h₀ L h news →
      wpAny (model prog w) A (execs suite env) (LeaveOnly Q) E { s with heap := h, toks := tk })
    (g3 : ∀ h tk vi vl, sFst l = comL (minL a b) (maxL a b) → wt (sFst l) ≤ 1048576 → Fr h₀ L h (bindM (bindM m xi vi) xc vl) → News h₀ L h news → Q .next { s with heap := h, toks := tk }) :
    wpAny (model prog w) A (call (.type "enumerate") [.ref ax]) (fun xv s₁ => wpAny (model prog w) A (pyIter xv) (fun it s₂ => PairAt3 prog w A h₀ env xi xc [.If (.Compare (.Name xc p1) [.NotEq] [.Subscript (.Name sn p2) (.Name xi p3) p4] p5) suite [] ipos] Q E it s₂) E s₁) E s := by
  subst hL
  have hwl : wt (sFst l) ≤ 1048576 := by
    rw [e1]
    unfold minL
    split <;> assumption
  have hl : l.length ≤ 1048576 := by
    have q : (sFst l).length = l.length := by simp [sFst]
    unfold wt at hwl
    (first | lia | omega)
  have hlt : ltP (sFst l2) (sFst l) = false := by rw [e1, e2]; exact minmax a b
  refine enum_leave (pz := pzF (sFst l) (sFst l2)) hh F N hm ?_ ?_ ?_
  · intro i c tc ti h tk hgi hp F1 N1
    have hil : i < l.length := (List.getElem?_eq_some_iff.mp hgi).1
    have hi : i < l2.length := by
      have := pz_short hlt (i := i) (by simpa [sFst] using hil) hp
      simpa [sFst] using this
    have hc : (sFst l)[i]? = some c := by simp [sFst, hgi]
    refine wpAny_mono (ne_sub (s := { s with heap := h, toks := tk }) rfl hkind hkc hks hki hdc hds hdi F1 N1 (i := i) (l2 := l2) (bx := bx) (cx := c) (tc := tc) (ti := ti) (by simp [bindM]) (by simp [bindM, n3]) (by simp [bindM, n1, n2', ms]) hb hi (by (first | lia | omega))) (fun b s4 h4 => ?_) fun _ _ e => e
    exact ⟨by rw [h4.1, ← hc]; rfl, h4.2⟩
  · intro i c tc ti h tk hgi hz hp F1 N1
    have hil : i < l.length := (List.getElem?_eq_some_iff.mp hgi).1
    refine g2 i c tc ti h tk hil (by (first | lia | omega)) ?_ (Nat.le_trans (by simpa [sFst, List.map_take] using wt_take i (sFst l)) hwl) F1 N1
    rw [← e1, ← e2, com_at (by simpa [sFst] using hil) hp hz]
    simp [sFst, List.map_take]
  · intro h tk vi vl hp F1 N1
    refine g3 h tk vi vl ?_ hwl F1 N1
    rw [← e1, ← e2, com_all (by simpa [sFst] using hp)]
end
theorem wt_of {x : Str} {l : List (Str × Tok)} (e : sFst l = Txt.split x (Str.ofString "/")) (h : wt (Txt.split x (Str.ofString "/")) ≤ 1048576) : wt (sFst l) ≤ 1048576 := e ▸ h
theorem slash4 : (Str.ofString "/").length ≤ 4 := by decide +kernel
theorem pref16 : (Txt.slice (Str.ofString "/") none (some 0)).length ≤ 16 := by decide +kernel
end Mine
end

section
open PySem PySem.W PySem.W.X PyProof.Rows PySem.Calls PyProof.V PySem.Spec
set_option Elab.async false
set_option maxRecDepth 100000
set_option maxHeartbeats 0
namespace Mine
theorem lnM6 : True := by
  k_with_none
  trivial
theorem lnM6_1 : True := by
  k_with_none
  k_with "zf" => (first | (k_here; k_fold; refine letA ?_; intro aX; (with_reducible rename Fr _ _ _ _ => kF); refine letM kF ?_; clear kF; intro mX kF) | (k_here; k_fold; refine letA ?_; intro aX) | (k_here; k_fold) | (k_here; with_reducible first | refine genT1 fun tk => ?_ | refine genT2 fun tk => ?_) | fail)
  k_with "execs cons" => (first | walk_at "zf" | fail)
  k_with "execs" => (first | walk_at "zf" | fail)
  k_with "execs nil" => (first | (k_here; with_reducible first | refine genT1 fun tk => ?_ | refine genT2 fun tk => ?_) | fail)
  k_with "k_ne" => (first | (refine neN ?_; first | (with_reducible first | assumption | exact Ne.symm (by assumption) | exact ca0 (by assumption) | exact cb0 (by assumption) | exact cc0 (by assumption) | exact cd0 (by assumption) | exact ca1 (by assumption) | exact cb1 (by assumption) | exact cc1 (by assumption) | exact cd1 (by assumption) | exact ca2 (by assumption) | exact cb2 (by assumption) | exact cc2 (by assumption) | exact cd2 (by assumption) | exact ca3 (by assumption) | exact cb3 (by assumption) | exact cc3 (by assumption) | exact cd3 (by assumption) | exact ca4 (by assumption) | exact cb4 (by assumption) | exact cc4 (by assumption) | exact cd4 (by assumption) | exact ca5 (by assumption) | exact cb5 (by assumption) | exact cc5 (by assumption) | exact cd5 (by assumption) | exact ca6 (by assumption) | exact cb6 (by assumption) | exact cc6 (by assumption) | exact cd6 (by assumption) | exact ca7 (by assumption) | exact cb7 (by assumption) | exact cc7 (by assumption) | exact cd7 (by assumption) | exact ca8 (by assumption) | exact cb8 (by assumption) | exact cc8 (by assumption) | exact cd8 (by assumption) | exact ca9 (by assumption) | exact cb9 (by assumption) | exact cc9 (by assumption) | exact cd9 (by assumption) | exact ca10 (by assumption) | exact cb10 (by assumption) | exact cc10 (by assumption) | exact cd10 (by assumption) | exact ca11 (by assumption) | exact cb11 (by assumption) | exact cc11 (by assumption) | exact cd11 (by assumption)) | (refine Nat.ne_of_lt (ltm (o := _) (by with_reducible assumption) ?_); k_mem; done) | (refine Nat.ne_of_gt (ltm (o := _) (by with_reducible assumption) ?_); k_mem; done) | ((try dsimp only); omega)) | fail)
  k_with "call type:map" => (first
    | ((k_here; (with_reducible show wpAny _ _ (call (Value.type "map") [Value.ref _, Value.ref _]) _ _ _); k_dflt (refine' map_c ?zqF ?zqN ?zqm ?zqd ?zqu ?_; (case zqF => k_asm); (case zqN => k_asm); (case zqm => k_mem); (case zqd => exact rfl); (case zqu => exact rfl); k_whole); intro _ _ _ _ _ _ _))
    | fail)
  trivial
theorem lnM6_2 : True := by
  k_with "call type:tuple" => (first
    | ((k_here; (with_reducible show wpAny _ _ (call (Value.type "tuple") [Value.ref _]) _ _ _); k_dflt (refine' tuple_map (vs := [Value.str _ _, Value.str _ _]) ?zqB ?zqX ?zqT ?zqhh ?zqhf ?zqd ?zqu ?zqmm ?zqv ?zqz ?zqF ?zqN ?zql ?zqlc ?zqld ?_; (case zqF => k_asm); (case zqmm => assumption); (case zqN => assumption); (case zqB => k_asm); (case zqX => k_asm); (case zqT => k_asm); (case zqhh => exact rfl); (case zqhf => exact rfl); (case zqd => exact rfl); (case zqu => exact rfl); (case zql => k_mem); (case zqlc => exact rfl); (case zqld => exact rfl); (case zqv => (intro _ hv; rcases List.mem_cons.mp hv with rfl | hv; exact ⟨_, _, rfl⟩; rcases List.mem_cons.mp hv with rfl | hv; exact ⟨_, _, rfl⟩; cases hv)); (case zqz => exact rfl); k_whole); intro _ _ _ _ _ l1; (try k_lt l1)))
    | fail)
  trivial
theorem lnM6_3 : True := by
  k_with "exec Try" => (first
    | ((k_here; k_dflt (refine wpAny_Try_except ?_)))
    | fail)
  trivial
theorem lnM6_4 : True := by
  k_with "exec Assign cons ListComp" => (first
    | ((k_here; k_dflt (refine' Assign_ListComp_tup ?zqe ?zqsw ?zqcl ?zqce ?zqki ?zqnm ?zqx ?zqy ?zqp ?zqhh ?zqF ?zqN ?zqS ?zqsz ?zqhz ?_ ?zqhs; (case zqF => k_asm); (case zqe => exact rfl); (case zqsw => with_unfolding_all rfl); (case zqcl => with_unfolding_all rfl); (case zqce => decide); (case zqki => rfl); (case zqnm => decide); (case zqx => rfl); (case zqy => rfl); (case zqp => rfl); (case zqhh => rfl); (case zqN => k_asm); (case zqhs => (intro _; rfl)); (case zqhz => (intro _ _ hq; walk1; exact hq)); (case zqS => (unfold TupAt; k_mem)); (case zqsz => exact rfl); k_whole); intro _; lcg_lit))
    | fail)
  trivial
theorem room_len {p : Str} (h : p.length ≤ 1048576) : p.length + 2 ≤ sizeLine := Nat.le_trans (Nat.add_le_add_right h 2) (by size_fits)
noncomputable def Off1Raw (D : Addr) (l : List (Addr × Obj)) : Prop := LCg.Off1 D l
theorem off1_lt {B : Addr} : ∀ {l : List (Addr × Obj)}, AllLt B l → Off1Raw B l
  | [], _ => trivial
  | _ :: _, h => ⟨Nat.ne_of_lt h.1, off1_lt h.2⟩
theorem split_c {prog : Program} {w : World} {A : Around} {E : Value → Shared → Prop} {s : Shared} {h₀ : Heap} {L : Addr} {m : Str → Option Value} {news : List (Addr × Obj)} {x y : Str} {t u : Tok} {Q : Value → Shared → Prop} (hF : Fr h₀ L s.heap m) (hN : News h₀ L s.heap news) (hy : (y.length == 0) = false)
    (h : ∀ D l h' k, sFst l = Txt.split x y → Fr h₀ L h' m → News h₀ L h' ((D, sList l 0) :: news) → Off1Raw D news → AllLt D news → Q (.ref D) { s with heap := h', toks := k }) (hsz : x.length + 2 ≤ sizeLine) :
    wpAny (model prog w) A (call (.builtin "str.split") [.str x t, .str y u]) Q E s :=
  KSpl.split1 hF hN hy (fun D l h' k e _ F N l1 => h D l h' k e F N (off1_lt (allLt_of l1)) (allLt_of l1)) hsz
theorem lnM6_5 : True := by
  k_with "call builtin:str.split" => (first
    | ((k_here; (with_reducible show wpAny _ _ (call (Value.builtin "str.split") [_, _]) _ _ _); k_dflt (refine' split_c ?zqF ?zqN ?zqy ?_ ?zqz; (case zqF => k_asm); (case zqN => k_asm); (case zqy => decide); (case zqz => exact room_len (by assumption)); k_whole); intro _ _ _ _ _ _ _ _ l1; (try simp only [AllLt, and_true] at l1)))
    | fail)
  trivial
theorem lnM6_6 : True := by
  k_with "lcg_src" => (first
    | ((unfold TupAt; k_mem))
    | fail)
  trivial
theorem assign_set1 {prog : Program} {w : World} {A : Around} {E : Value → Shared → Prop} {s : Shared} {h₀ : Heap} {L D : Addr} {m : Str → Option Value} {env : Env} {news : List (Addr × Obj)} {y : Str} {py pos : Pos} {k} {led : Bool} {Q : Unit → Shared → Prop}
    (hh : A.handled = none) (hled : LedOk w led) (F : Fr h₀ L s.heap m) (N : News h₀ L s.heap news) (hm : (D, set1 led) ∈ news)
    (h : ∀ h', Fr h₀ L h' m → News h₀ L h' news → wpAny (model prog w) A (assign (.Name y py) env (.bool false)) Q E { s with heap := h' }) :
    wpAny (model prog w) A (assign (.Tuple [.Name y py] k pos) env (.ref D)) Q E s := by
  show wpAny _ _ (standAt _ >>= fun _ => unpack _ _) _ _ _
  refine wpAny_bind (wpAny_standAt ?_)
  refine unpack_set1 led hh hled (N _ hm).1 rfl rfl fun h' hk => ?_
  show wpAny _ _ (holding [] (assign (.Name y py) env (.bool false)) >>= fun _ => pure ()) _ _ _
  exact wpAny_bind (wpAny_holding (wpAny_mono (h h' (F.keeps hk) (N.grown hk)) (fun _ _ q => wpAny_pure q) fun _ _ e => e))
theorem lnM6_7 : True := by
  k_with "eval SetComp" => (first
    | ((k_here; k_dflt (refine' SetComp_tup ?zqcl ?zqce ?zqki ?zqnm ?zqx ?zqhh ?zqF ?zqN ?zqS ?zqsz ?zqpo ?zqhz ?_ ?zqhs; (case zqF => k_asm); (case zqcl => with_unfolding_all rfl); (case zqce => decide); (case zqki => rfl); (case zqnm => decide); (case zqx => rfl); (case zqhh => rfl); (case zqN => k_asm); (case zqhs => (intro _; rfl)); (case zqhz => (intro _ _ hq; walk1; exact hq)); (case zqS => (unfold TupAt; k_mem)); (case zqsz => exact rfl); (case zqpo => exact Nat.succ_ne_zero 1); k_whole); intro _; (with_unfolding_all (show SetRest _ _ _ _ _ _ _ _ _ _ _ _ _ _ _ 2 0 _))))
    | fail)
  trivial
noncomputable def OffRaw (I C D : Addr) (l : List (Addr × Obj)) : Prop := LCg.Off3 I C D l
theorem OffRaw.go {I C D : Addr} {l : List (Addr × Obj)} (h : OffRaw I C D l) : LCg.Off3 I C D l := h
open LCg in
theorem SetRest.succ2 {prog : Program} {w : World} {A : Around} {s : Shared} {h₀ : Heap} {L : Addr} {m : Str → Option Value} {env : Env} {elt : Expr} {x : Str} {scope : Scope} {cl : List (Str × Addr)} {S : List (Addr × Obj) → Prop} {its : Array Value} {Fin : List (Addr × Obj) → Prop} {k i : Nat} {news : List (Addr × Obj)}
    (h : ∀ v I oI C oC D oD m₂ h tk (E' : Value → Shared → Prop), its[i]? = some v → NsObj oC m₂ → m₂ x = some v → Fr h₀ L h m → News h₀ L h ((I, oI) :: (C, oC) :: (D, oD) :: news) → OffRaw I C D news → Off3 I C D news → ((@Ne Nat I C) ∧ (@Ne Nat I D) ∧ (@Ne Nat C D)) →
      wpAny (model prog w) A (eval elt (compEnvC scope cl C env)) (CompEnd h₀ L m { s with heap := h, toks := tk } I oI C oC D oD S (fun y news' => y = .bool false ∧ SetRest prog w A h₀ L m env elt x scope cl s S its Fin k (i + 1) news')) E' { s with heap := h, toks := tk }) :
    SetRest prog w A h₀ L m env elt x scope cl s S its Fin (k + 1) i news := fun v I oI C oC D oD m₂ h' tk E' a b c d e f g => h v I oI C oC D oD m₂ h' tk E' a b c d e f f g
open LCg in
theorem end1 {h₀ : Heap} {L I C D B : Addr} {m : Str → Option Value} {s₁ : Shared} {oI oC oD oB : Obj} {S : List (Addr × Obj) → Prop} {rest : Value → List (Addr × Obj) → Prop} {y : Value} {h' : Heap} {tk : Nat} {news : List (Addr × Obj)}
    (F : Fr h₀ L h' m) (N : News h₀ L h' ((B, oB) :: (I, oI) :: (C, oC) :: (D, oD) :: news)) (off : OffRaw I C D news) (o1 : Off1Raw B ((I, oI) :: (C, oC) :: (D, oD) :: news)) (hS : S ((B, oB) :: news)) (r : rest y ((B, oB) :: news)) :
    CompEnd h₀ L m s₁ I oI C oC D oD S rest y { s₁ with heap := h', toks := tk } :=
  CompEnd.intro F N ((B, oB) :: news) (fun p hp => by
    simp only [List.mem_cons] at hp ⊢
    rcases hp with h | h | h | h | h
    · exact .inr (.inl h)
    · exact .inr (.inr (.inl h))
    · exact .inr (.inr (.inr (.inl h)))
    · exact .inl h
    · exact .inr (.inr (.inr (.inr h)))) ⟨⟨Ne.symm o1.1, Ne.symm o1.2.1, Ne.symm o1.2.2.1⟩, off⟩ hS r
open LCg in
theorem CompRest.succ2 {prog : Program} {w : World} {A : Around} {s : Shared} {h₀ : Heap} {L : Addr} {m : Str → Option Value} {env : Env} {elt : Expr} {x : Str} {scope : Scope} {cl : List (Str × Addr)} {S : List (Addr × Obj) → Prop} {P : Nat → Value → Prop} {Fin : List Value → List (Addr × Obj) → Prop} {k i : Nat} {ys : List Value} {news : List (Addr × Obj)}
    (h : ∀ v I oI C oC D m₂ h tk (E' : Value → Shared → Prop), P i v → NsObj oC m₂ → m₂ x = some v → Fr h₀ L h m → News h₀ L h ((I, oI) :: (C, oC) :: (D, lst ys) :: news) → OffRaw I C D news → Off3 I C D news → ((@Ne Nat I C) ∧ (@Ne Nat I D) ∧ (@Ne Nat C D)) →
      wpAny (model prog w) A (eval elt (compEnvC scope cl C env)) (CompEnd h₀ L m { s with heap := h, toks := tk } I oI C oC D (lst ys) S (fun y news' => CompRest prog w A h₀ L m env elt x scope cl s S P Fin k (i + 1) (ys ++ [y]) news')) E' { s with heap := h, toks := tk }) :
    CompRest prog w A h₀ L m env elt x scope cl s S P Fin (k + 1) i ys news := fun v I oI C oC D m₂ h' tk E' a b c d e f g => h v I oI C oC D m₂ h' tk E' a b c d e f f g
theorem lnM6_8 : True := by
  k_with "CompRest" => (first
    | ((with_unfolding_all (refine CompRest.succ2 ?_; intro _ _ _ _ _ _ _ _ _ _ hv' _ _ _ _ _ off' _; (lcg_open hv'); (try simp only [LCg.Off3, and_true] at off'))))
    | fail)
  trivial
theorem lnM6_9 : True := by
  k_with "CompEnd" => (first
    | ((k_dflt (refine LCg.CompEnd.intro (by with_reducible assumption) (by with_reducible assumption) _ (fun p hp => hp) (OffRaw.go (by with_reducible assumption)) (by lcg_src) ?_)))
    | fail)
  trivial
theorem lnM6_10 : True := by
  k_with "CompEnd" => (first
    | ((k_dflt (refine end1 (by with_reducible assumption) (by with_reducible assumption) (by with_reducible assumption) (by first | with_reducible assumption | exact off1_lt (by with_reducible assumption)) (by lcg_src) ?_)))
    | fail)
  trivial
theorem lnM6_11 : True := by
  k_with "SetRest" => (first
    | ((with_unfolding_all first
  | (refine SetRest.succ2 ?_; intro _ _ _ _ _ _ _ _ _ _ _ hv' _ _ _ _ _ off' _; (lcg_open hv'); (try simp only [LCg.Off3, and_true] at off'))
  | (refine SetRest.zero ?_; intro _ _ _ _ _ _ _ o1'; (try simp only [LCg.Off1, and_true] at o1'))))
    | fail)
  trivial
theorem lnM6_12 : True := by
  k_with "And" => (first
    | (((with_reducible show (Value.bool _ = Value.bool false) ∧ SetRest _ _ _ _ _ _ _ _ _ _ _ _ _ _ _ _ _ _); refine ⟨congrArg Value.bool (by with_reducible assumption), ?_⟩))
    | fail)
  trivial
theorem lnM6_13 : True := by
  k_with "assign Tuple" => (first
    | ((k_here; (with_reducible show wpAny _ _ (assign (Expr.Tuple [Expr.Name _ _] _ _) _ (Value.ref _)) _ _ _); k_dflt (refine' assign_set1 ?zqhh ?zql ?zqF ?zqN ?zqm ?_; (case zqhh => rfl); (case zql => assumption); (case zqF => k_asm); (case zqN => k_asm); (case zqm => k_mem); k_whole); intro _ _ _))
    | fail)
  trivial
theorem filt_clean2 {prog : Program} {w : World} {A : Around} {E : Value → Shared → Prop} {s : Shared} {h₀ : Heap} {L : Addr} {m : Str → Option Value} {env : Env} {c sn cd : Str} {p1 p2 p3 p4 p5 p6 px ps : Pos} {scope : Scope} {cl : List (Str × Addr)} {pos : Pos} {Q : Value → Shared → Prop} {ax : Addr} {l : List (Str × Tok)} {n : Nat} {td : Tok} {news : List (Addr × Obj)} {x : Str}
    (hclos : closureFor scope env = pure cl) (hcell : ∀ y ∈ scope.names, y.2 ≠ .cell) (hkind : scope.kind = .function)
    (hnames : ∀ y ∈ scope.names, y.2 = .local → scope.names.lookup y.1 = some .local) (hx : scope.names.lookup c = some .local) (hdb : (c == ("__debug__" : Str)) = false)
    (hh : A.handled = none) (F : Fr h₀ L s.heap m) (N : News h₀ L s.heap news) (hm : (ax, sList l n) ∈ news) (he : sFst l = Txt.split x (Str.ofString "/")) (hc : Clean x)
    (hs : ∀ (Q : Value → Shared → Prop) E, Q (.ref ax) s → wpAny (model prog w) A (eval (.Name sn ps) env) Q E s)
    (hcur : ∀ C (s₂ : Shared) (Q : Value → Shared → Prop) E' nw, News h₀ L s₂.heap (nw ++ news) → Q (.str (Str.ofString ".") td) s₂ → wpAny (model prog w) A (eval (.Name cd p5) (compEnvC scope cl C env)) Q E' s₂)
    (h : ∀ D h' tk, Fr h₀ L h' m → News h₀ L h' ((D, sList l (strValues l).length) :: news) → Off1Raw D news → LCg.Off1 D news → Q (.ref D) { s with heap := h', toks := tk }) :
    wpAny (model prog w) A (eval (.ListComp (.Name c p1) [⟨.Name c px, .Name sn ps, [.BoolOp .And [.Name c p2, .Compare (.Name c p3) [.NotEq] [.Name cd p5] p4] p6], 0⟩] scope pos) env) Q E s :=
  filt_clean hclos hcell hkind hnames hx hdb hh F N hm he hc hs hcur fun D h' tk a b o => h D h' tk a b o o
theorem lnM6_14 : True := by
  k_with "eval ListComp" => (first
    | ((k_here; k_dflt (refine' filt_clean2 ?zqcl ?zqce ?zqki ?zqnm ?zqx ?zqdb ?zqhh ?zqF ?zqN ?zqm ?zqe ?zqcn ?zqhs ?zqhcur ?_; (case zqF => k_asm); (case zqcl => with_unfolding_all rfl); (case zqce => decide); (case zqki => rfl); (case zqnm => decide); (case zqx => rfl); (case zqdb => decide); (case zqhh => rfl); (case zqN => k_asm); (case zqhs => (intro Q _ hq; walk1; exact hq)); (case zqm => k_mem); (case zqe => with_reducible assumption); (case zqcn => with_reducible assumption); (case zqhcur => (intro _ _ _ _ _ N9 hq; refine' lcf_cell N9 ?zqc ?zqm ?zqd hq ?zqa ?zqb; (case zqa => rfl); (case zqb => rfl); (case zqc => rfl); (case zqm => refine List.mem_append_right _ ?_; k_mem); (case zqd => with_reducible assumption))); k_whole); intro _ _ _ _ _ _ o1'; (try simp only [LCg.Off1, and_true] at o1')))
    | fail)
  trivial
theorem lnM6_15 : True := by
  k_with "call builtin:min" => (first
    | ((k_here; (with_reducible show wpAny _ _ (call (Value.builtin "min") [Value.ref _]) _ _ _); k_dflt (refine' min_c ?zqhh ?zqu ?zqF ?zqN ?zql ?zqx ?zqy ?_; (case zqF => k_asm); (case zqN => k_asm); (case zqhh => rfl); (case zqu => exact rfl); (case zql => k_mem); (case zqx => k_mem); (case zqy => k_mem); k_whole); intro _ _ _ _ _ _ _))
    | fail)
  trivial
theorem lnM6_16 : True := by
  k_with "call builtin:max" => (first
    | ((k_here; (with_reducible show wpAny _ _ (call (Value.builtin "max") [Value.ref _]) _ _ _); k_dflt (refine' max_c ?zqhh ?zqu ?zqF ?zqN ?zql ?zqx ?zqy ?_; (case zqF => k_asm); (case zqN => k_asm); (case zqhh => rfl); (case zqu => exact rfl); (case zql => k_mem); (case zqx => k_mem); (case zqy => k_mem); k_whole); intro _ _ _ _ _ _ _))
    | fail)
  trivial

theorem lnM6_17 : True := by
  k_with "call type:enumerate" => (first
    | ((k_here; (with_reducible show wpAny _ _ (call (Value.type "enumerate") [Value.ref _]) _ _ _); k_dflt (refine' enum_min ?zqhL ?zqhh ?zqF ?zqN ?zqm ?zqb ?zqms ?zqn1 ?zqn2 ?zqn3 ?zqhk ?zqhc ?zqhs ?zqhi ?zqdc ?zqds ?zqdi ?zqe1 ?zqe2 ?zqza ?zqzb ?_ ?_; (case zqF => k_asm); (case zqhL => rfl); (case zqN => k_asm); (case zqhh => rfl); (case zqm => k_mem); (case zqms => rfl); (case zqb => k_mem); (case zqn1 => decide); (case zqn2 => decide); (case zqn3 => decide); (case zqhk => rfl); (case zqhc => rfl); (case zqhs => rfl); (case zqhi => rfl); (case zqdc => decide); (case zqds => decide); (case zqdi => decide); (case zqe1 => with_reducible assumption); (case zqe2 => with_reducible assumption); (case zqza => exact wt_of (by with_reducible assumption) (by with_reducible assumption)); (case zqzb => exact wt_of (by with_reducible assumption) (by with_reducible assumption)); k_whole); first | (intro _ _ _ _ h' tk' _ _ he' hw' F' N') | (intro _ _ _ _ _ _ _ _)))
    | fail)
  trivial
theorem lnM6_18 : True := by
  k_with "subscriptTail Name Slice ref ref" => (first
    | ((k_here; (with_reducible show wpAny _ _ (subscriptTail _ (PySem.Expr.Slice none _ none _) (Value.ref _) (Value.ref _)) _ _ _); k_dflt (refine' slice_s ?zqF ?zqN ?zqm ?zqz ?zqi ?zqx ?_ ?zqs ?zqt; (case zqF => k_asm); (case zqN => k_asm); (case zqm => k_mem); (case zqz => with_reducible assumption); (case zqi => with_reducible assumption); (case zqx => with_reducible assumption); (case zqs => with_unfolding_all rfl); (case zqt => (intro _; with_unfolding_all rfl))); intro _ _ _ _ l1; (try simp only [AllLt, and_true] at l1)))
    | fail)
  trivial
theorem lnM6_19 : True := by
  k_with "call builtin:str.join" => (first
    | ((k_here; (with_reducible show wpAny _ _ (call (Value.builtin "str.join") [_, Value.ref _]) _ _ _); k_dflt (refine' join_s ?zqN ?zqm ?zqw ?zqx ?_; (case zqN => k_asm); (case zqm => k_mem); (case zqw => with_reducible assumption); (case zqx => exact slash4)); intro _ _ _))
    | fail)
  trivial
theorem lnM6_20 : True := by
  k_with "binaryOp Add str str" => (first
    | ((k_here; (with_reducible show wpAny _ _ (binaryOp Operator.Add (Value.str (Txt.slice _ _ _) _) (Value.str (Txt.join _ _) _)) _ _ _); k_dflt (refine' add_s ?zqx ?zqy ?_; (case zqx => with_reducible exact pref16); (case zqy => with_reducible assumption)); intro _ _))
    | fail)
  trivial
noncomputable def cpF (p q : Str) : Str := Txt.join (Str.ofString "/") (comL (minL (Txt.split p (Str.ofString "/")) (Txt.split q (Str.ofString "/"))) (maxL (Txt.split p (Str.ofString "/")) (Txt.split q (Str.ofString "/"))))
theorem cp_end {p q : Str} {lm l1 l2 : List Str} (he : lm = comL (minL l1 l2) (maxL l1 l2)) (e1 : l1 = Txt.split p (Str.ofString "/")) (e2 : l2 = Txt.split q (Str.ofString "/")) :
    Str.ofString "" ++ Txt.join (Str.ofString "/") lm = cpF p q := by
  have e0 : Str.ofString "" = Str.empty := by decide +kernel
  rw [he, e1, e2, e0, Str.empty_append]
  rfl
theorem commonpath_c (w : World) (mean : ExcName → Option Value) (mg mb : Str → Option Value) (x : Addr) (p q : Str) (t u : Tok) (n : Nat) (hp : p.length ≤ 1048576) (hq : q.length ≤ 1048576)
    (hp1 : Txt.startswith p (Str.ofString "/") = false) (hq1 : Txt.startswith q (Str.ofString "/") = false) (hpc : Clean p) (hqc : Clean q) (hpw : wt (Txt.split p (Str.ofString "/")) ≤ 1048576) (hqw : wt (Txt.split q (Str.ofString "/")) ≤ 1048576) :
  CP 800 8000 w mean mg mb 263 [(x, listOf #[.str p t, .str q u] n)] [.ref x] (fun v => ∃ tk, v = .str (cpF p q) tk) := by
  refine CP.of fun b o => ?_
  unfold CC
  k_fill
  intro gd cn nm ig ic mo a ccd cl outer A₀ base h₀ L m s Q E B F X N T hret
  k_steps
  all_goals (refine hret _ _ _ ⟨_, congrArg (fun z => Value.str z _) (cp_end (by with_reducible assumption) (by with_reducible assumption) (by with_reducible assumption))⟩ (by k_asm) ?_; first | k_asm | (refine' cb_drop ?cbN ?cbS; (case cbN => assumption); (case cbS => kcj_all)))
end Mine
end

section
open PySem PySem.W PySem.W.X PyProof.Rows PySem.Calls PyProof.V PySem.Spec
set_option Elab.async false
set_option maxRecDepth 100000
set_option maxHeartbeats 0
namespace Mine
theorem lnM7 : True := by
  k_with_none
  trivial
structure Good (p : Str) : Prop where
  len : p.length ≤ 1048576
  rel : Txt.startswith p (Str.ofString "/") = false
  cln : Clean p
  wts : wt (Txt.split p (Str.ofString "/")) ≤ 1048576
theorem common_g (w : World) (mean : ExcName → Option Value) (mg mb : Str → Option Value) (x : Addr) (p q : Str) (t u : Tok) (n : Nat) (hp : Good p) (hq : Good q) :
  CP 800 8000 w mean mg mb 263 [(x, listOf #[.str p t, .str q u] n)] [.ref x] (fun v => ∃ tk, v = .str (cpF p q) tk) :=
  commonpath_c w mean mg mb x p q t u n hp.len hq.len hp.rel hq.rel hp.cln hq.cln hp.wts hq.wts
theorem common_use {w : World} {mean : ExcName → Option Value} {mg mb : Str → Option Value} {x : Addr} {p q : Str} {t u : Tok} {n : Nat} {news : List (Addr × Obj)}
    {A A₀ : Around} {cn : Str} {nm : List (Str × NameKind)} {ig ic : Bool} {mo : List (Str × Const)} {a : Addr} {ccd : Value} {cl : List (Str × Addr)} {outer : List Env} {base h₀ : Heap} {L : Addr} {m : Str → Option Value} {s : Shared} {Q E : Value → Shared → Prop}
    (B : Below A₀ base outer h₀) (F : Fr h₀ L s.heap m) (X : (frag w.params).In h₀) (N : News h₀ L s.heap news) (T : Top topProg LO mean mg mb h₀) (hh : A.handled = none)
    (hf : A.frames = some (envX cn { kind := .function, names := nm, isGenerator := ig, isCoroutine := ic, more := mo } L a ccd cl :: outer)) (hd' : Nat.ble A.depth 800 = true) (hu : Nat.ble A.units 8000 = true)
    (hm : (x, listOf #[.str p t, .str q u] n) ∈ news) (hp : Good p) (hq : Good q)
    (r : ∀ tk h' tk', Fr h₀ L h' m → News h₀ L h' news → Q (.str (cpF p q) tk) { s with heap := h', toks := tk' }) : wpAny (model PySem.Challenge.rw_in0152_01.row.prog w) A (call (.ref 263) [.ref x]) Q E s :=
  CP.use (common_g w mean mg mb x p q t u n hp hq) B F X N T hh hf hd' hu (List.ne_nil_of_mem hm) (fun p hp => by rw [List.mem_singleton.mp hp]; exact hm) fun v h' tk' ⟨tk, e⟩ F' N' => by
    subst e
    exact r tk h' tk' F' N'
theorem lnM7_1 : True := by
  k_with_none
  k_with "zf" => (first | (k_here; k_fold; refine letA ?_; intro aX; (with_reducible rename Fr _ _ _ _ => kF); refine letM kF ?_; clear kF; intro mX kF) | (k_here; k_fold; refine letA ?_; intro aX) | (k_here; k_fold) | (k_here; with_reducible first | refine genT1 fun tk => ?_ | refine genT2 fun tk => ?_) | fail)
  k_with "execs cons" => (first | walk_at "zf" | fail)
  k_with "execs" => (first | walk_at "zf" | fail)
  k_with "execs nil" => (first | (k_here; with_reducible first | refine genT1 fun tk => ?_ | refine genT2 fun tk => ?_) | fail)
  k_with "k_ne" => (first | (refine neN ?_; first | (with_reducible first | assumption | exact Ne.symm (by assumption) | exact ca0 (by assumption) | exact cb0 (by assumption) | exact cc0 (by assumption) | exact cd0 (by assumption) | exact ca1 (by assumption) | exact cb1 (by assumption) | exact cc1 (by assumption) | exact cd1 (by assumption) | exact ca2 (by assumption) | exact cb2 (by assumption) | exact cc2 (by assumption) | exact cd2 (by assumption) | exact ca3 (by assumption) | exact cb3 (by assumption) | exact cc3 (by assumption) | exact cd3 (by assumption) | exact ca4 (by assumption) | exact cb4 (by assumption) | exact cc4 (by assumption) | exact cd4 (by assumption) | exact ca5 (by assumption) | exact cb5 (by assumption) | exact cc5 (by assumption) | exact cd5 (by assumption) | exact ca6 (by assumption) | exact cb6 (by assumption) | exact cc6 (by assumption) | exact cd6 (by assumption) | exact ca7 (by assumption) | exact cb7 (by assumption) | exact cc7 (by assumption) | exact cd7 (by assumption) | exact ca8 (by assumption) | exact cb8 (by assumption) | exact cc8 (by assumption) | exact cd8 (by assumption) | exact ca9 (by assumption) | exact cb9 (by assumption) | exact cc9 (by assumption) | exact cd9 (by assumption) | exact ca10 (by assumption) | exact cb10 (by assumption) | exact cc10 (by assumption) | exact cd10 (by assumption) | exact ca11 (by assumption) | exact cb11 (by assumption) | exact cc11 (by assumption) | exact cd11 (by assumption)) | (refine Nat.ne_of_lt (ltm (o := _) (by with_reducible assumption) ?_); k_mem; done) | (refine Nat.ne_of_gt (ltm (o := _) (by with_reducible assumption) ?_); k_mem; done) | ((try dsimp only); omega)) | fail)
  k_with "call ref" => (first
    | ((k_here; (with_reducible show wpAny _ _ (call (Value.ref 263) _) _ _ _); (k_dflt (refine' common_use ?zqk1 ?zqk2 ?zqk3 ?zqk4 ?zqk5 ?zqk6 ?zqk7 ?zqk8 ?zqk9 ?zqkm ?zqka ?zqkb ?_; (case zqk2 => k_asm); (case zqk1 => k_asm); (case zqk3 => k_asm); (case zqk4 => k_asm); (case zqk5 => k_asm); (case zqkm => k_mem); (case zqk6 => exact rfl); (case zqk7 => exact rfl); (case zqk8 => exact rfl); (case zqk9 => exact rfl); (case zqka => with_reducible assumption); (case zqkb => with_reducible assumption); k_whole)); intro _ _ _ _ _))
    | fail)
  trivial
theorem strip_len {x y : Str} (h : x.length ≤ 1048576) : (Txt.stripChars x y).length ≤ 1048576 := Nat.le_trans (len_stripChars x y) h
theorem slice_len {x : Str} {i j : Option Int} (h : x.length ≤ 1048576) : (Txt.slice x i j).length ≤ 1048576 := Nat.le_trans (Txt.slice_le x i j) h
theorem cp_len {p q : Str} (hp : Good p) (hq : Good q) : (cpF p q).length ≤ 5242880 := by
  have hm : wt (minL (Txt.split p (Str.ofString "/")) (Txt.split q (Str.ofString "/"))) ≤ 1048576 := by
    unfold minL
    split
    · exact hq.wts
    · exact hp.wts
  have hc : ∀ a b : List Str, wt (comL a b) ≤ wt a := by
    intro a
    induction a with
    | nil => intro b; cases b <;> exact Nat.le_refl _
    | cons x xs ih =>
      intro b
      cases b with
      | nil => exact Nat.zero_le _
      | cons y ys =>
        have := ih ys
        simp only [comL]
        split
        · simp only [wt, List.map_cons, List.sum_cons, List.length_cons] at this ⊢; (first | lia | omega)
        · exact Nat.zero_le _
  have hw := Nat.le_trans (hc _ (maxL (Txt.split p (Str.ofString "/")) (Txt.split q (Str.ofString "/")))) hm
  show (Builtin.Str.glued _ _).length ≤ _
  rw [PySem.size_glued]
  generalize comL _ _ = z at hw
  have h1 : (z.length - 1) * (Str.ofString "/").length ≤ z.length * 4 := Nat.mul_le_mul (Nat.sub_le _ _) slash4
  unfold wt at hw
  (first | lia | omega)
theorem Good.len5 {p : Str} (hp : Good p) : p.length ≤ 5242880 := Nat.le_trans hp.len (by decide)
section
variable {prog : Program} {w : World} {A : Around} {E : Value → Shared → Prop} {s : Shared}
theorem item0_s {h₀ : Heap} {L ax : Addr} {news : List (Addr × Obj)} {l : List (Str × Tok)} {n : Nat} {x y : Str} {u : Tok} {value slice : PySem.Expr} {Q : Value → Shared → Prop} (N : News h₀ L s.heap news) (hm : (ax, sList l n) ∈ news) (e : sFst l = Txt.split x y)
    (h : ∀ t', Q (.str ((Txt.split x y).headD Str.empty) t') s)
    (hs : subscripted slice false (.ref ax) (.int 0 u) = operate [.ref ax, .int 0 u] (getItem (.ref ax) (.int 0 u))) :
    wpAny (model prog w) A (subscriptTail value slice (.ref ax) (.int 0 u)) Q E s := by
  have e' : l.map (·.1) = Txt.split x y := e
  refine item_strsT ⟨_, (N _ hm).1, rfl, _, rfl⟩ (Int.le_refl _) (by have := len_of_split e'; (first | lia | omega)) (by decide) (fun c t' hc => ?_) hs
  have : (Txt.split x y).headD Str.empty = c := by
    rw [e'] at hc
    cases hz : Txt.split x y with
    | nil => rw [hz] at hc; cases hc
    | cons a b => rw [hz] at hc; exact Option.some.inj hc
  rw [← this]
  exact h t'
theorem len_b {x : Str} {t : Tok} {Q : Value → Shared → Prop} (hx : x.length ≤ 5242880) (h : ∀ t' k, Q (.int x.length t') { s with toks := k }) : wpAny (model prog w) A (call (.builtin "len") [.str x t]) Q E s :=
  PyProof.Rows.len_str (by (first | lia | omega)) (h _ _)
end
theorem lnM7_2 : True := by
  k_with "call builtin:len" => (first
    | ((k_here; (with_reducible show wpAny _ _ (call (Value.builtin "len") [Value.str _ _]) _ _ _); k_dflt (refine' len_b ?zqx ?_; (case zqx => first | exact Good.len5 (by with_reducible assumption) | exact cp_len (by with_reducible assumption) (by with_reducible assumption))); intro _ _))
    | fail)
  trivial
theorem lnM7_3 : True := by
  k_with "call builtin:str.split" => (first
    | ((k_here; (with_reducible show wpAny _ _ (call (Value.builtin "str.split") [_, _]) _ _ _); k_dflt (refine' split_c ?zqF ?zqN ?zqy ?_ ?zqz; (case zqF => k_asm); (case zqN => k_asm); (case zqy => decide); (case zqz => exact room_len (by first | with_reducible assumption | exact strip_len (slice_len (by with_reducible assumption)))); k_whole); intro _ _ _ _ _ _ _ _ l1; (try simp only [AllLt, and_true] at l1)))
    | fail)
  trivial
theorem lnM7_4 : True := by
  k_with "CompRest" => (first
    | ((with_unfolding_all (refine CompRest.succ2 ?_; intro _ _ _ _ _ _ _ _ _ _ hv' _ _ _ _ _ off' _; (lcg_open hv'); (try simp only [LCg.Off3, and_true] at off'))))
    | fail)
  trivial
theorem lnM7_5 : True := by
  k_with "CompEnd" => (first
    | ((k_dflt (refine LCg.CompEnd.intro (by with_reducible assumption) (by with_reducible assumption) _ (fun p hp => hp) (OffRaw.go (by with_reducible assumption)) (by lcg_src) ?_)))
    | fail)
  trivial
theorem lnM7_6 : True := by
  k_with "CompEnd" => (first
    | ((k_dflt (refine end1 (by with_reducible assumption) (by with_reducible assumption) (by with_reducible assumption) (by first | with_reducible assumption | exact off1_lt (by with_reducible assumption)) (by lcg_src) ?_)))
    | fail)
  trivial
theorem lnM7_7 : True := by
  k_with "subscriptTail" => (first
    | ((k_here; (with_reducible show wpAny _ _ (subscriptTail (Expr.Call _ _ _ _) _ (Value.ref _) (Value.int 0 _)) _ _ _); k_dflt (refine' item0_s ?zqN ?zqm ?zqe ?_ ?zqs; (case zqe => with_reducible assumption); (case zqN => k_asm); (case zqm => k_mem); (case zqs => with_unfolding_all rfl); skip); intro _))
    | fail)
  trivial
noncomputable abbrev nmF (c x : Str) : Str := (Txt.split (Txt.stripChars (Txt.slice x (some (c.length : Int)) none) (Str.ofString "/")) (Str.ofString "/")).headD Str.empty
noncomputable def cmpF (p q : Str) : Int := if ([p, q].any fun x => x == cpF p q) = true then (p.length : Int) - (q.length : Int) else if (nmF (cpF p q) p).cps.toList < (nmF (cpF p q) q).cps.toList then -1 else 1
theorem cmp1 {p q : Str} (h : ([p, q].any fun x => x == cpF p q) = true) : (p.length : Int) - (q.length : Int) = cmpF p q := by
  unfold cmpF
  rw [if_pos h]
theorem cmp2 {p q : Str} (h : ([p, q].any fun x => x == cpF p q) = false) (h2 : (nmF (cpF p q) p).cps.toList < (nmF (cpF p q) q).cps.toList) : -1 = cmpF p q := by
  unfold cmpF
  rw [if_neg (by rw [h]; exact Bool.false_ne_true), if_pos h2]
theorem cmp3 {p q : Str} (h : ([p, q].any fun x => x == cpF p q) = false) (h2 : ¬ (nmF (cpF p q) p).cps.toList < (nmF (cpF p q) q).cps.toList) : 1 = cmpF p q := by
  unfold cmpF
  rw [if_neg (by rw [h]; exact Bool.false_ne_true), if_neg h2]
theorem compared_c (w : World) (mean : ExcName → Option Value) (mg mb : Str → Option Value) (p q : Str) (t u : Tok) (hp : Good p) (hq : Good q) :
  CP 750 7500 w mean mg mb 273 [] [.str p t, .str q u] (fun v => ∃ tk, v = .int (cmpF p q) tk) := by
  refine CP.of fun b o => ?_
  have hpl := hp.len
  have hql := hq.len
  unfold CC
  k_fill
  intro gd cn nm ig ic mo a ccd cl outer A₀ base h₀ L m s Q E B F X N T hret
  k_steps
  · exact hret _ _ _ ⟨_, congrArg (fun z => Value.int z _) (cmp1 (by with_reducible assumption))⟩ (by k_asm) (by first | k_asm | (refine' cb_drop ?cbN ?cbS; (case cbN => assumption); (case cbS => kcj_all)))
  · exact hret _ _ _ ⟨_, congrArg (fun z => Value.int z _) (cmp2 (by with_reducible assumption) (by with_reducible assumption))⟩ (by k_asm) (by first | k_asm | (refine' cb_drop ?cbN ?cbS; (case cbN => assumption); (case cbS => kcj_all)))
  · exact hret _ _ _ ⟨_, congrArg (fun z => Value.int z _) (cmp3 (by with_reducible assumption) (by with_reducible assumption))⟩ (by k_asm) (by first | k_asm | (refine' cb_drop ?cbN ?cbS; (case cbN => assumption); (case cbS => kcj_all)))
end Mine
end

section
open PySem PySem.W PySem.W.X PyProof.Rows PySem.Calls
set_option Elab.async false
set_option maxRecDepth 100000
set_option maxHeartbeats 0
namespace Mine
theorem lnN1 : True := by
  k_with_none
  trivial
section
variable {M : Model} {A : Around} {E : Value → Shared → Prop} {h₀ h : Heap} {g : Array GenState} {d : Drawn} {t : Nat} {os : OsState} {chg news : List (Addr × Obj)}
theorem m_alloc {o : Obj} {Q : Addr → Shared → Prop} (D : Mem h₀ h chg news) (hf : o.isFreed = false) (hq : ∀ a h', Mem h₀ h' chg ((a, o) :: news) → Q a ⟨h', g, d, t, os⟩) : wpAny M A (alloc o) Q E ⟨h, g, d, t, os⟩ :=
  wpAny_alloc (hq _ _ (D.alloc hf))
theorem m_loadP {a : Addr} {q : Option Value} {o : Obj} {Q : Obj → Shared → Prop} (ho : h.get? a = some o) (hq : Q o ⟨h, g, d, t, os⟩) : wpAny M A (loadPart a q) Q E ⟨h, g, d, t, os⟩ :=
  wpAny_loadPart ho hq
theorem m_updP {a : Addr} {q : Option Value} {f : Obj → Obj} {o o' : Obj} {i : Nat} {Q : Unit → Shared → Prop} (D : Mem h₀ h chg news) (hi : news[i]? = some (a, o)) (e : f o = o') (hf : o'.isFreed = false)
    (hq : ∀ h', Mem h₀ h' chg (news.set i (a, o')) → Q () ⟨h', g, d, t, os⟩) : wpAny M A (updatePart a q f) Q E ⟨h, g, d, t, os⟩ := by
  subst e
  exact wpAny_updatePart (D.at i a o hi) (hq _ (D.update hi hf))
theorem mem_grow (D : Mem h₀ h chg news) {h' : Heap} (k : Grow h h') : Mem h₀ h' chg news :=
  ⟨fun b o e q => k _ _ (D.keep b o e q), fun p hp => ⟨k _ _ (D.ch p hp).1, (D.ch p hp).2⟩, D.cd, fun p hp => ⟨k _ _ (D.nw p hp).1, (D.nw p hp).2⟩, D.ord⟩
end
theorem lnN1_1 : True := by
  k_with_none
  k_with "x_close" => (first | ((refine ⟨_, _, rfl, Mem.at (by assumption) 0 _ _ rfl, _, _, rfl, ?_⟩; first | exact fun b o e => e | exact fun b o e => Mem.keep (by assumption) b o e (Bool.or_true _))) | fail)
  trivial
theorem collect_m {prog : Program} {w : World} {A : Around} {E : Value → Shared → Prop} {h₀ h : Heap} {g : Array GenState} {d : Drawn} {t : Nat} {os : OsState} {chg news : List (Addr × Obj)} {sl : Addr} {u v : Value} {k : Nat} {Q : List Value → Shared → Prop}
    (D : Mem h₀ h chg news) (hu : u = .ref sl) (hs : h.get? sl = some ⟨.type "list", none, .seq #[v] k, #[]⟩) (hd : Nat.ble A.depth 950 = true) (hn : Nat.ble A.units 9500 = true)
    (hq : ∀ h' t', Mem h₀ h' chg news → Q [v] ⟨h', g, d, t', os⟩) : wpAny (model prog w) A (collect u) Q E ⟨h, g, d, t, os⟩ := by
  subst hu
  refine collect_list (vs := [v]) ⟨_, hs, rfl, _, rfl⟩ (hq _ t (mem_grow D fun b o e => ?_)) (Nat.succ_le_of_lt (by rw [sizeLine_eq]; decide))
  rw [Heap.get?_update_other _ _ (Nat.ne_of_gt (Heap.lt_size e))]
  exact Heap.get?_push_of_some _ e
end Mine
end

section
open PySem PySem.W PySem.W.X PyProof.Rows PySem.Calls
set_option Elab.async false
set_option maxRecDepth 100000
set_option maxHeartbeats 0
namespace Mine
theorem lnN2a : True := by
  k_with_none
  trivial
structure KP where
  i : Nat → Int
  k : Nat → Tok
  f : Nat → Addr
  fd : Nat → FuncData
  fs : Nat → Array (Option Value)
  sl : Addr
  st : Addr
  bt : Addr
  tn : Tok
noncomputable abbrev kEnt (P : KP) (j : Nat) (n : String) (v : Value) : DictEntry := ⟨P.i j, .str (Str.ofString n) (P.k j), v⟩
noncomputable abbrev kFns (P : KP) : List DictEntry := [kEnt P 5 "__init__" (.ref (P.f 1)), kEnt P 6 "__lt__" (.ref (P.f 2)), kEnt P 7 "__gt__" (.ref (P.f 3)), kEnt P 8 "__eq__" (.ref (P.f 4)), kEnt P 9 "__le__" (.ref (P.f 5)), kEnt P 10 "__ge__" (.ref (P.f 6)), kEnt P 11 "__hash__" .none, kEnt P 12 "__static_attributes__" (.ref P.st)]
noncomputable abbrev kE0 (P : KP) : Array DictEntry := #[kEnt P 1 "__module__" (.str (Str.ofString "cpy313.functools") (P.k 21)), kEnt P 2 "__qualname__" (.str (Str.ofString "cmp_to_key.<locals>.K") (P.k 22)), kEnt P 3 "__firstlineno__" (.int 7 (P.k 23)), kEnt P 4 "__slots__" (.ref P.sl),
  kEnt P 5 "__init__" (.ref (P.f 1)), kEnt P 6 "__lt__" (.ref (P.f 2)), kEnt P 7 "__gt__" (.ref (P.f 3)), kEnt P 8 "__eq__" (.ref (P.f 4)), kEnt P 9 "__le__" (.ref (P.f 5)), kEnt P 10 "__ge__" (.ref (P.f 6)), kEnt P 11 "__hash__" .none, kEnt P 12 "__static_attributes__" (.ref P.st)]
noncomputable abbrev kE1 (P : KP) : Array DictEntry := #[kEnt P 1 "__module__" (.str (Str.ofString "cpy313.functools") (P.k 21)), kEnt P 3 "__firstlineno__" (.int 7 (P.k 23)), kEnt P 4 "__slots__" (.ref P.sl),
  kEnt P 5 "__init__" (.ref (P.f 1)), kEnt P 6 "__lt__" (.ref (P.f 2)), kEnt P 7 "__gt__" (.ref (P.f 3)), kEnt P 8 "__eq__" (.ref (P.f 4)), kEnt P 9 "__le__" (.ref (P.f 5)), kEnt P 10 "__ge__" (.ref (P.f 6)), kEnt P 11 "__hash__" .none, kEnt P 12 "__static_attributes__" (.ref P.st)]
noncomputable abbrev kDict (es : Array DictEntry) (n : Nat) : Obj := ⟨.type "dict", none, .dict es n, #[]⟩
noncomputable abbrev kCls (P : KP) (ns : Addr) (mro : List Value) (hd : Bool) (sn : List Str) (sl : Array (Option Value)) : Obj := ⟨.type "type", none, .cls { name := Str.ofString "K", bases := [.type "object"], mro := mro, ns := ns, qualname := Str.ofString "cmp_to_key.<locals>.K", hasDict := hd, slotNames := sn }, sl⟩
theorem id_obj : Builtin.Slots.isIdentifier (Str.ofString "obj") = some true := by kernel_rfl!
theorem lnN2a_1 : True := by
  k_with_none
  k_with "tb_rel" => (first
    | ((first | assumption | (exact Mem.old (by assumption) _ _ (by assumption) rfl) | (exact Mem.at (by assumption) 0 _ _ rfl) | (exact Mem.at (by assumption) 1 _ _ rfl) | (exact Mem.at (by assumption) 2 _ _ rfl) | (exact Mem.at (by assumption) 3 _ _ rfl) | (exact Mem.at (by assumption) 4 _ _ rfl) | (exact Mem.at (by assumption) 5 _ _ rfl) | (exact Mem.at (by assumption) 6 _ _ rfl) | (exact Mem.at (by assumption) 7 _ _ rfl)))
    | fail)
  trivial
theorem lnN2a_2 : True := by
  k_with "tb_start" => (first
    | ((first
  | with_reducible (first | refine wpAny_bind ?_ | refine wpAny_pure ?_ | refine wpAny_holding ?_)
  | ((with_reducible refine m_alloc (by assumption) ?f ?_); (case f => rfl); intro _ h' D')
  | ((with_reducible apply m_loadP); focus (tb_rel; done))
  | ((with_reducible apply wpAny_load'); focus (tb_rel; done))
  | ((with_reducible refine' collect_m (by assumption) ?cu1 ?cs1 (by assumption) (by assumption) ?_); (case cs1 => tb_rel); (case cu1 => kernel_rfl!); intro _ _ _)
  | (with_reducible refine wpAny_of_eq (t := Builtin.extendedBase _) (a := .type "object") (by kernel_rfl!) ?_)
  | (with_reducible refine wpAny_of_eq (t := Builtin.notOverATurnedClass _) (a := ()) (by kernel_rfl!) ?_)
  | (with_reducible refine wpAny_of_eq (t := Builtin.linearize _ _) (a := [.type "object"]) (by kernel_rfl!) ?_)
  | (with_reducible refine wpAny_of_eq (t := Builtin.Slots.bestBase _) (a := .type "object") (by kernel_rfl!) ?_)
  | (with_reducible refine wpAny_of_eq (t := Builtin.Slots.slotNamesOf (.type _)) (a := []) (by kernel_rfl!) ?_)
  | (with_reducible refine wpAny_of_eq (t := Builtin.Slots.givesDict (.type _)) (a := false) (by kernel_rfl!) ?_)
  | (with_reducible refine wpAny_of_eq (t := Builtin.Slots.givesWeak (.type _)) (a := false) (by kernel_rfl!) ?_)
  | (with_reducible refine wpAny_of_eq (t := Builtin.Slots.varSize (.type _)) (a := false) (by kernel_rfl!) ?_)
  | (with_reducible refine wpAny_of_eq (t := Builtin.mroHook? _) (a := none) (by kernel_rfl!) ?_)
  | (with_reducible refine wpAny_of_eq (t := Bind.madeBy (.type _)) (a := some "object.__new__") (by kernel_rfl!) ?_)
  | (with_reducible refine wpAny_of_eq (t := isSubtype (.type _) (.type _)) (a := true) (by kernel_rfl!) ?_)
  | (with_reducible refine wpAny_of_eq (t := isSubtype (.type _) (.type _)) (a := false) (by kernel_rfl!) ?_)
  | (with_reducible refine wpAny_of_eq (t := isType (.type _)) (a := true) (by kernel_rfl!) ?_)
  | (with_reducible refine wpAny_of_eq (t := typeLookup (.type _) _) (a := none) (by kernel_rfl!) ?_)
  | (with_reducible refine wpAny_of_eq (t := typeLookup (.type "dict") _) (a := some (.builtin "dict.__iter__")) (by kernel_rfl!) ?_)
  | ((with_reducible refine wpAny_ite_false ?cc1 ?_); (case cc1 => kernel_rfl!))
  | ((with_reducible refine wpAny_ite_true ?cc1 ?_); (case cc1 => kernel_rfl!))
  | (with_reducible refine wpAny_askSetting ?_)
  | wp_step
  | (rw [id_obj])))
    | fail)
  trivial
theorem tl_obj {M : Model} {A : Around} {E : Value → Shared → Prop} {h : Heap} {g : Array GenState} {d : Drawn} {t : Nat} {os : OsState} {P : KP} {a N : Addr} {name : Str} {hd : Bool} {sn : List Str} {sl : Array (Option Value)} {es : Array DictEntry} {n : Nat} {r : Option Value} {Q : Option Value → Shared → Prop}
    (hK : h.get? a = some (kCls P N [.ref a, .type "object"] hd sn sl)) (hN : h.get? N = some (kDict es n)) (e : nsLook name (kDict es n) = pure none) (e2 : builtinOwn "object" name = r) (hq : Q r ⟨h, g, d, t, os⟩) :
    wpAny M A (typeLookup (.ref a) name) Q E ⟨h, g, d, t, os⟩ := by
  unfold typeLookup
  refine wpAny_bind ?_
  show wpAny M A (do return (← classData a).mro) _ _ _
  unfold classData
  refine wpAny_bind (wpAny_bind (wpAny_load' hK (wpAny_pure (wpAny_pure ?_))))
  repeat tb_start
  subst e2
  cases hb : builtinOwn "object" name with
  | none => rw [hb] at hq; repeat tb_start
            exact hq
  | some v => rw [hb] at hq; repeat tb_start
              exact hq
theorem to_eq {α : Type} {Q : α → Shared → Prop} {p q : α} {s : Shared} (e : p = q) (h : Q q s) : Q p s := e ▸ h
theorem read_k {prog : Program} {w : World} {A : Around} {E : Value → Shared → Prop} {h₀ h : Heap} {g : Array GenState} {d : Drawn} {t : Nat} {os : OsState} {news : List (Addr × Obj)} {P : KP} {bases : List Value} {ln : Nat} {Q : Builtin.Slots.Plan → Shared → Prop}
    (D : Mem h₀ h [] news) (hb : bases = [.type "object"]) (hdep : Nat.ble A.depth 950 = true) (hun : Nat.ble A.units 9500 = true)
    (hsl : h₀.get? P.sl = some ⟨.type "list", none, .seq #[.str (Str.ofString "obj") (P.k 24)] ln, #[]⟩)
    (hq : ∀ h' t', Mem h₀ h' [] news → Q ⟨[Str.ofString "obj"], false, false, []⟩ ⟨h', g, d, t', os⟩) :
    wpAny (model prog w) A (Builtin.Slots.read (Str.ofString "K") bases (kE0 P)) Q E ⟨h, g, d, t, os⟩ := by
  subst hb
  repeat tb_start
  refine to_eq (q := ⟨[Str.ofString "obj"], false, false, []⟩) ?_ (hq _ _ (by assumption))
  kernel_rfl!
end Mine
end

section
open PySem PySem.W PySem.W.X PyProof.Rows PySem.Calls
set_option Elab.async false
set_option maxRecDepth 100000
set_option maxHeartbeats 0
namespace Mine
theorem lnN2b : True := by
  k_with_none
  trivial
theorem lnN2b_1 : True := by
  k_with_none
  k_with "tb_rel" => (first
    | ((first | assumption | (exact Mem.old (by assumption) _ _ (by assumption) rfl) | (exact Mem.at (by assumption) 0 _ _ rfl) | (exact Mem.at (by assumption) 1 _ _ rfl) | (exact Mem.at (by assumption) 2 _ _ rfl) | (exact Mem.at (by assumption) 3 _ _ rfl) | (exact Mem.at (by assumption) 4 _ _ rfl) | (exact Mem.at (by assumption) 5 _ _ rfl) | (exact Mem.at (by assumption) 6 _ _ rfl) | (exact Mem.at (by assumption) 7 _ _ rfl)))
    | fail)
  trivial
theorem lnN2b_2 : True := by
  k_with "tb_start" => (first
    | ((first
  | with_reducible (first | refine wpAny_bind ?_ | refine wpAny_pure ?_ | refine wpAny_holding ?_)
  | ((with_reducible refine m_alloc (by assumption) ?f ?_); (case f => rfl); intro _ _ _)
  | ((with_reducible apply m_loadP); focus (tb_rel; done))
  | ((with_reducible apply wpAny_load'); focus (tb_rel; done))
  | ((with_reducible refine' collect_m (by assumption) ?cu1 ?cs1 (by assumption) (by assumption) ?_); (case cs1 => tb_rel); (case cu1 => kernel_rfl!); intro _ _ _)
  | (with_reducible refine wpAny_of_eq (t := Builtin.extendedBase _) (a := .type "object") (by kernel_rfl!) ?_)
  | (with_reducible refine wpAny_of_eq (t := Builtin.notOverATurnedClass _) (a := ()) (by kernel_rfl!) ?_)
  | (with_reducible refine wpAny_of_eq (t := Builtin.linearize _ _) (a := [.type "object"]) (by kernel_rfl!) ?_)
  | (with_reducible refine wpAny_of_eq (t := Builtin.Slots.bestBase _) (a := .type "object") (by kernel_rfl!) ?_)
  | (with_reducible refine wpAny_of_eq (t := Builtin.Slots.slotNamesOf (.type _)) (a := []) (by kernel_rfl!) ?_)
  | (with_reducible refine wpAny_of_eq (t := Builtin.Slots.givesDict (.type _)) (a := false) (by kernel_rfl!) ?_)
  | (with_reducible refine wpAny_of_eq (t := Builtin.Slots.givesWeak (.type _)) (a := false) (by kernel_rfl!) ?_)
  | (with_reducible refine wpAny_of_eq (t := Builtin.Slots.varSize (.type _)) (a := false) (by kernel_rfl!) ?_)
  | (with_reducible refine wpAny_of_eq (t := Builtin.mroHook? _) (a := none) (by kernel_rfl!) ?_)
  | (with_reducible refine wpAny_of_eq (t := Bind.madeBy (.type _)) (a := some "object.__new__") (by kernel_rfl!) ?_)
  | (with_reducible refine wpAny_of_eq (t := isSubtype (.type _) (.type _)) (a := true) (by kernel_rfl!) ?_)
  | (with_reducible refine wpAny_of_eq (t := isSubtype (.type _) (.type _)) (a := false) (by kernel_rfl!) ?_)
  | (with_reducible refine wpAny_of_eq (t := isType (.type _)) (a := true) (by kernel_rfl!) ?_)
  | (with_reducible refine wpAny_of_eq (t := typeLookup (.type _) _) (a := none) (by kernel_rfl!) ?_)
  | (with_reducible refine wpAny_of_eq (t := typeLookup (.type "dict") _) (a := some (.builtin "dict.__iter__")) (by kernel_rfl!) ?_)
  | ((with_reducible refine wpAny_ite_false ?cc1 ?_); (case cc1 => kernel_rfl!))
  | ((with_reducible refine wpAny_ite_true ?cc1 ?_); (case cc1 => kernel_rfl!))
  | (with_reducible refine wpAny_askSetting ?_)
  | wp_delta
  | wp_step
  | (rw [id_obj])))
    | fail)
  trivial
theorem m_put {M : Model} {A : Around} {E : Value → Shared → Prop} {h₀ h : Heap} {g : Array GenState} {d : Drawn} {t : Nat} {os : OsState} {chg news : List (Addr × Obj)} {ns : Addr} {name : Str} {hsh : Int} {key v : Value} {q : Option Value} {es : Array DictEntry} {n i : Nat} {Q : Unit → Shared → Prop} (D : Mem h₀ h chg news) (hi : news[i]? = some (ns, kDict es n))
    (e : Obj.putName name hsh key v (kDict es n) = kDict (es.push ⟨hsh, key, v⟩) (n + 1)) (hq : ∀ h', Mem h₀ h' chg (news.set i (ns, kDict (es.push ⟨hsh, key, v⟩) (n + 1))) → Q () ⟨h', g, d, t, os⟩) :
    wpAny M A (updatePart ns q (Obj.putName name hsh key v)) Q E ⟨h, g, d, t, os⟩ := m_updP D hi e rfl hq
theorem install_m {prog : Program} {w : World} {A : Around} {E : Value → Shared → Prop} {h₀ h : Heap} {g : Array GenState} {d : Drawn} {t : Nat} {os : OsState} {P : KP} {aK aN : Addr} {bases : List Value} {p : Builtin.Slots.Plan} {SL : Array (Option Value)} {Q : Unit → Shared → Prop}
    (D : Mem h₀ h [] [(aK, kCls P aN [.ref aK, .type "object"] true [] SL), (aN, kDict (kE1 P) 1)]) (hb : bases = [.type "object"]) (hp : p = ⟨[Str.ofString "obj"], false, false, []⟩)
    (hq : ∀ md h' t' i tk tk', Mem h₀ h' [] [(md, ⟨.type "member_descriptor", none, .fields #[.str (Str.ofString "obj") tk, .ref aK, .builtin "proto.slot", .builtin "proto.slot#set", .int 0 0], #[]⟩), (aK, kCls P aN [.ref aK, .type "object"] false [Str.ofString "obj"] SL), (aN, kDict ((kE1 P).push ⟨i, .str (Str.ofString "obj") tk', .ref md⟩) 2)] → Q () ⟨h', g, d, t', os⟩) :
    wpAny (model prog w) A (Builtin.Slots.install (.ref aK) aN bases p) Q E ⟨h, g, d, t, os⟩ := by
  subst hb hp
  repeat tb_start
  rename_i md h2 D2
  refine' m_put D2 (i := 2) rfl ?eu1 ?_
  case eu1 => kernel_rfl!
  intro h3 D3
  dsimp only [List.set] at D3
  repeat tb_start
  refine' m_updP D3 (i := 1) rfl (o' := kCls P aN [.ref aK, .type "object"] false [Str.ofString "obj"] SL) ?eu2 rfl ?_
  case eu2 => kernel_rfl!
  intro h4 D4
  dsimp only [List.set] at D4
  clear D3 D2
  repeat tb_start
  exact hq _ _ _ _ _ _ D4
end Mine
end

section
open PySem PySem.W PySem.W.X PyProof.Rows PySem.Calls
set_option Elab.async false
set_option maxRecDepth 100000
set_option maxHeartbeats 0
set_option linter.unusedVariables false
namespace Mine
theorem lnN2c : True := by
  k_with_none
  trivial
theorem lnN2c_1 : True := by
  k_with_none
  k_with "x_close" => (first | ((refine ⟨_, rfl, Mem.at (by assumption) 0 _ _ rfl, _, _, rfl, ?_⟩; first | exact fun b o e => e | exact fun b o e => Mem.keep (by assumption) b o e (Bool.or_true _))) | fail)
  trivial
theorem super_x (prog : Program) (w : World) (A : Around) (s : Shared) (K N : Addr) (P : KP) (SL : Array (Option Value)) (X : (frag w.params).In s.heap)
   (hK : s.heap.get? K = some ⟨.type "type", none, .cls { name := Str.ofString "K", bases := [.type "object"], mro := [.ref K, .type "object"], ns := N, qualname := Str.ofString "cmp_to_key.<locals>.K", hasDict := false, slotNames := [Str.ofString "obj"] }, SL⟩) :
   wpAny (model prog w) (AX A) (call (.type "super") [.ref K, .ref K]) (fun v s' => ∃ a, v = .ref a ∧ s'.heap.get? a = some ⟨.type "super", none, .fields #[.ref K, .ref K, .ref K], #[]⟩ ∧ Grew s s') (fun _ _ => False) s := by
  x_run
theorem lnN2c_2 : True := by
  k_with "x_close" => (first | ((refine ⟨_, rfl, Mem.at (by assumption) 0 _ _ rfl, _, _, rfl, ?_⟩; first | exact fun b o e => e | exact fun b o e => Mem.keep (by assumption) b o e (Bool.or_true _))) | fail)
  trivial
theorem isub_x (prog : Program) (w : World) (A : Around) (s : Shared) (K N f : Addr) (P : KP) (SL : Array (Option Value)) (X : (frag w.params).In s.heap)
   (hK : s.heap.get? K = some ⟨.type "type", none, .cls { name := Str.ofString "K", bases := [.type "object"], mro := [.ref K, .type "object"], ns := N, qualname := Str.ofString "cmp_to_key.<locals>.K", hasDict := false, slotNames := [Str.ofString "obj"] }, SL⟩) :
   wpAny (model prog w) (AX A) (call (.builtin "classmethod_descriptor.__get__") [.builtin "object.__init_subclass__", .none, .ref K]) (fun v s' => ∃ a, v = .ref a ∧ s'.heap.get? a = some ⟨.type "builtin_function_or_method", none, .fields #[.builtin "object.__init_subclass__", .ref K], #[]⟩ ∧ Grew s s') (fun _ _ => False) s := by
  x_run
theorem lnN2c_3 : True := by
  k_with "x_close" => (first | ((refine ⟨rfl, _, _, rfl, ?_⟩; first | exact fun b o e => e | exact fun b o e => Mem.keep (by assumption) b o e (Bool.or_true _))) | fail)
  trivial
theorem icall_x (prog : Program) (w : World) (A : Around) (s : Shared) (K N f : Addr) (q q2 : Option Value) (tq : Tok) (X : (frag w.params).In s.heap)
   (hK : s.heap.get? K = some ⟨.type "type", none, .cls { name := Str.ofString "K", bases := [.type "object"], mro := [.ref K, .type "object"], ns := N, qualname := Str.ofString "cmp_to_key.<locals>.K", hasDict := false, slotNames := [Str.ofString "obj"] }, #[q, none, q2, some (.str (Str.ofString "cmp_to_key.<locals>.K") tq), some (.builtin "object.__new__"), some (.bool false)]⟩)
   (hf : s.heap.get? f = some ⟨.type "builtin_function_or_method", none, .fields #[.builtin "object.__init_subclass__", .ref K], #[]⟩) :
   wpAny (model prog w) (AX A) (call (.ref f) []) (fun v s' => v = .none ∧ Grew s s') (fun _ _ => False) s := by
  x_run
end Mine
end

section
open PySem PySem.W PySem.W.X PyProof.Rows PySem.Calls
set_option Elab.async false
set_option maxRecDepth 100000
set_option maxHeartbeats 0
set_option linter.unusedVariables false
namespace Mine
theorem lnN2d : True := by
  k_with_none
  trivial
theorem slot_super : Slot "super" "__getattribute__" "super.__getattribute__" :=
  .of (owner := "super") (n := "__getattribute__") (by rw [typeLookup_type, builtinLookup_eq_fast]; kernel_rfl) (by decide +kernel) (by decide +kernel) (by decide +kernel)
    (by first | exact .inl (by decide +kernel) | exact .inr (by decide +kernel)) (by rw [isSubtype_type]; kernel_rfl)
theorem entry_super : entryFor table "super.__getattribute__" = some Builtin.«super.__getattribute__» := entryFor_of_tree (by kernel_rfl)
theorem args_super (a b : Value) : argsOk "super.__getattribute__" ⟨[a, b], []⟩ := by unfold argsOk; kernel_rfl
theorem opq_m {prog : Program} {w : World} {A : Around} {E : Value → Shared → Prop} {h : Heap} {g : Array GenState} {d : Drawn} {t : Nat} {os : OsState} {C : Addr} {v : Value} {Q : Option Str → Shared → Prop} (hv : v = .ref C) (X : (frag w.params).In h) (hq : Q none ⟨h, g, d, t, os⟩) :
   wpAny (model prog w) A (opaqueClassAbove v) Q E ⟨h, g, d, t, os⟩ := by subst hv; exact (looks_opaque X (by kernel_rfl!)).at hq
theorem after_m {β : Type} {M : Model} {A : Around} {K : Addr} {v : Value} {m : List Value} {b : β} {f : Value → β → Sem (ForInStep β)} {Q : β → Shared → Prop} {E : Value → Shared → Prop} {s : Shared} (ev : v = .ref K) (em : m = [.ref K, .type "object"])
    (h : wpAny M A (forIn [Value.type "object"] b f) Q E s) : wpAny M A (forIn (List.drop 1 (List.dropWhile (fun x => x != v) m)) b f) Q E s := by
  subst ev em
  have e1 : (Value.ref K != Value.ref K) = false := by simp
  rw [List.dropWhile_cons, e1]
  exact h
theorem in_in1 {A : Around} (hd' : Nat.ble A.depth 940 = true) (hu' : Nat.ble A.units 9400 = true) : Nat.ble A.in1.depth 950 = true ∧ Nat.ble A.in1.units 9500 = true := by
  have h1 := Nat.le_of_ble_eq_true hd'
  have h2 := Nat.le_of_ble_eq_true hu'
  exact ⟨Nat.ble_eq.mpr (by unfold Around.in1; dsimp only; (first | lia | omega)), Nat.ble_eq.mpr (by unfold Around.in1; dsimp only; (first | lia | omega))⟩
theorem isub_m {prog : Program} {w : World} {A : Around} {E : Value → Shared → Prop} {h : Heap} {g : Array GenState} {d : Drawn} {t : Nat} {os : OsState} {K N : Addr} {SL : Array (Option Value)} {P : KP} {a b c : Value} {Q : Value → Shared → Prop} (X : (frag w.params).In h)
   (hK : h.get? K = some (kCls P N [.ref K, .type "object"] false [Str.ofString "obj"] SL)) (ea : a = .builtin "object.__init_subclass__") (eb : b = .none) (ec : c = .ref K)
   (hd' : Nat.ble A.depth 950 = true) (hu' : Nat.ble A.units 9500 = true)
   (hq : ∀ f h' t', h'.get? f = some ⟨.type "builtin_function_or_method", none, .fields #[.builtin "object.__init_subclass__", .ref K], #[]⟩ → Grow h h' → Q (.ref f) ⟨h', g, d, t', os⟩) :
   wpAny (model prog w) A (call (.builtin "classmethod_descriptor.__get__") [a, b, c]) Q E ⟨h, g, d, t, os⟩ := by
  subst ea eb ec
  refine in_AX (wpAny_mono (isub_x prog w A ⟨h, g, d, t, os⟩ K N 0 P SL X hK) (fun r s' ⟨f, e, hf, h', tk, es, gr⟩ => ?_) fun _ _ f => f.elim) hd' hu'
  subst e es
  exact hq _ _ _ hf gr
theorem lnN2d_1 : True := by
  k_with_none
  k_with "tb_rel" => (first
    | ((first | assumption | (exact Mem.old (by assumption) _ _ (by assumption) rfl) | (exact Mem.at (by assumption) 0 _ _ rfl) | (exact Mem.at (by assumption) 1 _ _ rfl) | (exact Mem.at (by assumption) 2 _ _ rfl) | (exact Mem.at (by assumption) 3 _ _ rfl) | (exact Mem.at (by assumption) 4 _ _ rfl) | (exact Mem.at (by assumption) 5 _ _ rfl) | (exact Mem.at (by assumption) 6 _ _ rfl) | (exact Mem.at (by assumption) 7 _ _ rfl)))
    | fail)
  trivial
theorem lnN2d_2 : True := by
  k_with "tb_start" => (first
    | ((first
  | with_reducible (first | refine wpAny_bind ?_ | refine wpAny_pure ?_ | refine wpAny_holding ?_)
  | ((with_reducible refine m_alloc (by assumption) ?f ?_); (case f => rfl); intro _ h' D')
  | ((with_reducible apply m_loadP); focus (tb_rel; done))
  | ((with_reducible apply wpAny_load'); focus (tb_rel; done))
  | ((with_reducible refine' collect_m (by assumption) ?cu1 ?cs1 (by assumption) (by assumption) ?_); (case cs1 => tb_rel); (case cu1 => kernel_rfl!); intro _ _ _)
  | (with_reducible refine wpAny_of_eq (t := Builtin.extendedBase _) (a := .type "object") (by kernel_rfl!) ?_)
  | (with_reducible refine wpAny_of_eq (t := Builtin.notOverATurnedClass _) (a := ()) (by kernel_rfl!) ?_)
  | (with_reducible refine wpAny_of_eq (t := Builtin.linearize _ _) (a := [.type "object"]) (by kernel_rfl!) ?_)
  | (with_reducible refine wpAny_of_eq (t := Builtin.Slots.bestBase _) (a := .type "object") (by kernel_rfl!) ?_)
  | (with_reducible refine wpAny_of_eq (t := Builtin.Slots.slotNamesOf (.type _)) (a := []) (by kernel_rfl!) ?_)
  | (with_reducible refine wpAny_of_eq (t := Builtin.Slots.givesDict (.type _)) (a := false) (by kernel_rfl!) ?_)
  | (with_reducible refine wpAny_of_eq (t := Builtin.Slots.givesWeak (.type _)) (a := false) (by kernel_rfl!) ?_)
  | (with_reducible refine wpAny_of_eq (t := Builtin.Slots.varSize (.type _)) (a := false) (by kernel_rfl!) ?_)
  | (with_reducible refine wpAny_of_eq (t := Builtin.mroHook? _) (a := none) (by kernel_rfl!) ?_)
  | (with_reducible refine wpAny_of_eq (t := Bind.madeBy (.type _)) (a := some "object.__new__") (by kernel_rfl!) ?_)
  | (with_reducible refine wpAny_of_eq (t := isSubtype (.type _) (.type _)) (a := true) (by kernel_rfl!) ?_)
  | (with_reducible refine wpAny_of_eq (t := isSubtype (.type _) (.type _)) (a := false) (by kernel_rfl!) ?_)
  | (with_reducible refine wpAny_of_eq (t := isType (.type _)) (a := true) (by kernel_rfl!) ?_)
  | (with_reducible refine wpAny_of_eq (t := typeLookup (.type _) _) (a := none) (by kernel_rfl!) ?_)
  | (with_reducible refine wpAny_of_eq (t := typeLookup (.type "dict") _) (a := some (.builtin "dict.__iter__")) (by kernel_rfl!) ?_)
  | ((with_reducible refine wpAny_ite_false ?cc1 ?_); (case cc1 => kernel_rfl!))
  | ((with_reducible refine wpAny_ite_true ?cc1 ?_); (case cc1 => kernel_rfl!))
  | (with_reducible refine wpAny_askSetting ?_)
  | ((with_reducible refine' after_m ?aq1 ?aq2 ?_); (case aq1 => rfl); (case aq2 => rfl))
  | ((with_reducible refine' opq_m ?oq1 (by assumption) ?_); (case oq1 => rfl))
  | (with_reducible refine wpAny_tryCatch ?_)
  | wp_delta
  | wp_step
  | (rw [id_obj])))
    | fail)
  trivial

theorem super_get {prog : Program} {w : World} {A : Around} {E : Value → Shared → Prop} {h : Heap} {g : Array GenState} {d : Drawn} {t : Nat} {os : OsState} {K N sup : Addr} {SL : Array (Option Value)} {tk : Tok} {P : KP} {Q : Value → Shared → Prop} (X : (frag w.params).In h)
   (hK : h.get? K = some (kCls P N [.ref K, .type "object"] false [Str.ofString "obj"] SL)) (hs : h.get? sup = some ⟨.type "super", none, .fields #[.ref K, .ref K, .ref K], #[]⟩)
   (hd' : Nat.ble A.depth 940 = true) (hu' : Nat.ble A.units 9400 = true)
   (hq : ∀ f h' t', h'.get? f = some ⟨.type "builtin_function_or_method", none, .fields #[.builtin "object.__init_subclass__", .ref K], #[]⟩ → Grow h h' → Q (.ref f) ⟨h', g, d, t', os⟩) :
   wpAny (model prog w) A (call (.builtin "super.__getattribute__") [.ref sup, .str (Str.ofString "__init_subclass__") tk]) Q E ⟨h, g, d, t, os⟩ := by
  have hT : Shared.TypeIs ⟨h, g, d, t, os⟩ (.ref sup) "super" := ⟨_, hs, rfl⟩
  refine wpAny_call_entry slot_super hT entry_super ?_ (args_super _ _)
  unfold Builtin.«super.__getattribute__»
  repeat tb_start
  refine wpAny_of_eq (a := some (.builtin "classmethod_descriptor.__get__")) (by kernel_rfl!) ?_
  refine wpAny_bind (wpAny_holding ?_)
  refine isub_m X hK (by kernel_rfl!) ?_ rfl (in_in1 hd' hu').1 (in_in1 hd' hu').2 fun f h' t' hf gr => ?_
  · show (if (Value.ref K == Value.ref K) = true then Value.none else _) = _
    rw [if_pos (by simp)]
  repeat tb_start
  exact ⟨_, rfl, hq f h' t' hf gr⟩
end Mine
end

section
open PySem PySem.W PySem.W.X PyProof.Rows PySem.Calls
set_option Elab.async false
set_option maxRecDepth 100000
set_option maxHeartbeats 0
set_option linter.unusedVariables false
namespace Mine
theorem lnN2e : True := by
  k_with_none
  trivial
theorem type_superga : typeOf (.builtin "super.__getattribute__") = pure (.type "wrapper_descriptor") := by show builtinType _ = _; rw [builtinType_eq_fast]; kernel_rfl
theorem lnN2e_1 : True := by
  k_with_none
  k_with "tb_rel" => (first
    | ((first | assumption | (exact Mem.old (by assumption) _ _ (by assumption) rfl) | (exact Mem.at (by assumption) 0 _ _ rfl) | (exact Mem.at (by assumption) 1 _ _ rfl) | (exact Mem.at (by assumption) 2 _ _ rfl) | (exact Mem.at (by assumption) 3 _ _ rfl) | (exact Mem.at (by assumption) 4 _ _ rfl) | (exact Mem.at (by assumption) 5 _ _ rfl) | (exact Mem.at (by assumption) 6 _ _ rfl) | (exact Mem.at (by assumption) 7 _ _ rfl)))
    | fail)
  trivial
theorem lnN2e_2 : True := by
  k_with "tb_start" => (first
    | ((first
  | with_reducible (first | refine wpAny_bind ?_ | refine wpAny_pure ?_ | refine wpAny_holding ?_)
  | ((with_reducible refine m_alloc (by assumption) ?f ?_); (case f => rfl); intro _ h' D')
  | ((with_reducible apply m_loadP); focus (tb_rel; done))
  | ((with_reducible apply wpAny_load'); focus (tb_rel; done))
  | ((with_reducible refine' collect_m (by assumption) ?cu1 ?cs1 (by assumption) (by assumption) ?_); (case cs1 => tb_rel); (case cu1 => kernel_rfl!); intro _ _ _)
  | (with_reducible refine wpAny_of_eq (t := Builtin.extendedBase _) (a := .type "object") (by kernel_rfl!) ?_)
  | (with_reducible refine wpAny_of_eq (t := Builtin.notOverATurnedClass _) (a := ()) (by kernel_rfl!) ?_)
  | (with_reducible refine wpAny_of_eq (t := Builtin.linearize _ _) (a := [.type "object"]) (by kernel_rfl!) ?_)
  | (with_reducible refine wpAny_of_eq (t := Builtin.Slots.bestBase _) (a := .type "object") (by kernel_rfl!) ?_)
  | (with_reducible refine wpAny_of_eq (t := Builtin.Slots.slotNamesOf (.type _)) (a := []) (by kernel_rfl!) ?_)
  | (with_reducible refine wpAny_of_eq (t := Builtin.Slots.givesDict (.type _)) (a := false) (by kernel_rfl!) ?_)
  | (with_reducible refine wpAny_of_eq (t := Builtin.Slots.givesWeak (.type _)) (a := false) (by kernel_rfl!) ?_)
  | (with_reducible refine wpAny_of_eq (t := Builtin.Slots.varSize (.type _)) (a := false) (by kernel_rfl!) ?_)
  | (with_reducible refine wpAny_of_eq (t := Builtin.mroHook? _) (a := none) (by kernel_rfl!) ?_)
  | (with_reducible refine wpAny_of_eq (t := Bind.madeBy (.type _)) (a := some "object.__new__") (by kernel_rfl!) ?_)
  | (with_reducible refine wpAny_of_eq (t := isSubtype (.type _) (.type _)) (a := true) (by kernel_rfl!) ?_)
  | (with_reducible refine wpAny_of_eq (t := isSubtype (.type _) (.type _)) (a := false) (by kernel_rfl!) ?_)
  | (with_reducible refine wpAny_of_eq (t := isType (.type _)) (a := true) (by kernel_rfl!) ?_)
  | (with_reducible refine wpAny_of_eq (t := typeLookup (.type _) _) (a := none) (by kernel_rfl!) ?_)
  | (with_reducible refine wpAny_of_eq (t := typeLookup (.type "dict") _) (a := some (.builtin "dict.__iter__")) (by kernel_rfl!) ?_)
  | ((with_reducible refine wpAny_ite_false ?cc1 ?_); (case cc1 => kernel_rfl!))
  | ((with_reducible refine wpAny_ite_true ?cc1 ?_); (case cc1 => kernel_rfl!))
  | (with_reducible refine wpAny_askSetting ?_)
  | (with_reducible refine wpAny_of_eq type_superga ?_)
  | (with_reducible refine wpAny_tryCatch ?_)
  | wp_step
  | (rw [id_obj])))
    | fail)
  trivial

theorem super_attr {prog : Program} {w : World} {A : Around} {E : Value → Shared → Prop} {h : Heap} {g : Array GenState} {d : Drawn} {t : Nat} {os : OsState} {K N sup : Addr} {SL : Array (Option Value)} {P : KP} {Q : Value → Shared → Prop} (X : (frag w.params).In h)
   (hK : h.get? K = some (kCls P N [.ref K, .type "object"] false [Str.ofString "obj"] SL)) (hs : h.get? sup = some ⟨.type "super", none, .fields #[.ref K, .ref K, .ref K], #[]⟩)
   (hd' : Nat.ble A.depth 940 = true) (hu' : Nat.ble A.units 9400 = true)
   (hq : ∀ f h' t', h'.get? f = some ⟨.type "builtin_function_or_method", none, .fields #[.builtin "object.__init_subclass__", .ref K], #[]⟩ → Grow h h' → Q (.ref f) ⟨h', g, d, t', os⟩) :
   wpAny (model prog w) A (getAttr (.ref sup) (Str.ofString "__init_subclass__")) Q E ⟨h, g, d, t, os⟩ := by
  unfold getAttr
  repeat tb_start
  refine wpAny_of_eq (a := some (.builtin "super.__getattribute__")) (by kernel_rfl!) ?_
  repeat tb_start
  unfold bindSpecial
  refine wpAny_bind (wpAny_of_eq type_superga ?_)
  refine wpAny_ite_true (by kernel_rfl!) (wpAny_pure ?_)
  show wpAny _ _ (call (.builtin "super.__getattribute__") [.ref sup, .str _ _]) _ _ _
  refine super_get X hK hs hd' hu' fun f h' t' hf gr => ?_
  repeat tb_start
  exact hq f h' t' hf gr
theorem super_m {prog : Program} {w : World} {A : Around} {E : Value → Shared → Prop} {h : Heap} {g : Array GenState} {d : Drawn} {t : Nat} {os : OsState} {K N : Addr} {SL : Array (Option Value)} {P : KP} {Q : Value → Shared → Prop} (X : (frag w.params).In h)
   (hK : h.get? K = some (kCls P N [.ref K, .type "object"] false [Str.ofString "obj"] SL)) (hd' : Nat.ble A.depth 950 = true) (hu' : Nat.ble A.units 9500 = true)
   (hq : ∀ a h' t', h'.get? a = some ⟨.type "super", none, .fields #[.ref K, .ref K, .ref K], #[]⟩ → Grow h h' → Q (.ref a) ⟨h', g, d, t', os⟩) :
   wpAny (model prog w) A (call (.type "super") [.ref K, .ref K]) Q E ⟨h, g, d, t, os⟩ := by
  refine in_AX (wpAny_mono (super_x prog w A ⟨h, g, d, t, os⟩ K N P SL X hK) (fun r s' ⟨f, e, hf, h', tk, es, gr⟩ => ?_) fun _ _ f => f.elim) hd' hu'
  subst e es
  exact hq _ _ _ hf gr
theorem icall_m {prog : Program} {w : World} {A : Around} {E : Value → Shared → Prop} {h : Heap} {g : Array GenState} {d : Drawn} {t : Nat} {os : OsState} {K N f : Addr} {P : KP} {q1 q2 : Option Value} {tq : Tok} {Q : Value → Shared → Prop} (X : (frag w.params).In h)
   (hK : h.get? K = some (kCls P N [.ref K, .type "object"] false [Str.ofString "obj"] #[q1, none, q2, some (.str (Str.ofString "cmp_to_key.<locals>.K") tq), some (.builtin "object.__new__"), some (.bool false)]))
   (hf : h.get? f = some ⟨.type "builtin_function_or_method", none, .fields #[.builtin "object.__init_subclass__", .ref K], #[]⟩) (hd' : Nat.ble A.depth 950 = true) (hu' : Nat.ble A.units 9500 = true)
   (hq : ∀ h' t', Grow h h' → Q .none ⟨h', g, d, t', os⟩) :
   wpAny (model prog w) A (call (.ref f) []) Q E ⟨h, g, d, t, os⟩ := by
  refine in_AX (wpAny_mono (icall_x prog w A ⟨h, g, d, t, os⟩ K N f q1 q2 tq X hK hf) (fun r s' ⟨e, h', tk, es, gr⟩ => ?_) fun _ _ f => f.elim) hd' hu'
  subst e es
  exact hq _ _ gr
end Mine
end

section
open PySem PySem.W PySem.W.X PyProof.Rows PySem.Calls
set_option Elab.async false
set_option maxRecDepth 100000
set_option maxHeartbeats 0
namespace Mine
theorem lnN2f : True := by
  k_with_none
  trivial
theorem sn_str : typeLookup (.type "str") (Str.ofString "__set_name__") = pure none := by rw [typeLookup_type, builtinLookup_eq_fast]; kernel_rfl
theorem sn_int : typeLookup (.type "int") (Str.ofString "__set_name__") = pure none := by rw [typeLookup_type, builtinLookup_eq_fast]; kernel_rfl
theorem sn_list : typeLookup (.type "list") (Str.ofString "__set_name__") = pure none := by rw [typeLookup_type, builtinLookup_eq_fast]; kernel_rfl
theorem sn_tuple : typeLookup (.type "tuple") (Str.ofString "__set_name__") = pure none := by rw [typeLookup_type, builtinLookup_eq_fast]; kernel_rfl
theorem sn_function : typeLookup (.type "function") (Str.ofString "__set_name__") = pure none := by rw [typeLookup_type, builtinLookup_eq_fast]; kernel_rfl
theorem sn_none : typeLookup (.type "NoneType") (Str.ofString "__set_name__") = pure none := by rw [typeLookup_type, builtinLookup_eq_fast]; kernel_rfl
theorem sn_member : typeLookup (.type "member_descriptor") (Str.ofString "__set_name__") = pure none := by rw [typeLookup_type, builtinLookup_eq_fast]; kernel_rfl
end Mine
end

section
open PySem PySem.W PySem.W.X PyProof.Rows PySem.Calls
set_option Elab.async false
set_option maxRecDepth 100000
set_option maxHeartbeats 0
namespace Mine
theorem lnN2 : True := by
  k_with_none
  trivial
noncomputable abbrev kE3 (P : KP) (md : Addr) (i i2 : Int) (tk tk2 : Tok) : Array DictEntry := #[kEnt P 1 "__module__" (.str (Str.ofString "cpy313.functools") (P.k 21)), kEnt P 3 "__firstlineno__" (.int 7 (P.k 23)), kEnt P 4 "__slots__" (.ref P.sl),
  kEnt P 5 "__init__" (.ref (P.f 1)), kEnt P 6 "__lt__" (.ref (P.f 2)), kEnt P 7 "__gt__" (.ref (P.f 3)), kEnt P 8 "__eq__" (.ref (P.f 4)), kEnt P 9 "__le__" (.ref (P.f 5)), kEnt P 10 "__ge__" (.ref (P.f 6)), kEnt P 11 "__hash__" .none, kEnt P 12 "__static_attributes__" (.ref P.st), ⟨i, .str (Str.ofString "obj") tk, .ref md⟩, ⟨i2, .str (Str.ofString "__doc__") tk2, .none⟩]
noncomputable def Ev {α : Type} (p : α → Prop) : List α → Prop
  | [] => True
  | x :: xs => p x ∧ Ev p xs
theorem list_same {α β : Type} {M : Model} {A : Around} {f : α → β → Sem (ForInStep β)} {b : β} {E : Value → Shared → Prop} {s : Shared} : ∀ {xs : List α} {Q : β → Shared → Prop}, Q b s → Ev (fun e => ∀ (Q' : ForInStep β → Shared → Prop) E', Q' (.yield b) s → wpAny M A (f e b) Q' E' s) xs → wpAny M A (forIn xs b f) Q E s
  | [], Q, hq, _ => by rw [List.forIn_nil]; exact wpAny_pure hq
  | x :: xs, Q, hq, h => by
    rw [List.forIn_cons]
    exact wpAny_bind (h.1 _ _ (list_same hq h.2))
theorem arr_same {α β : Type} {M : Model} {A : Around} {xs : Array α} {b : β} {f : α → β → Sem (ForInStep β)} {Q : β → Shared → Prop} {E : Value → Shared → Prop} {s : Shared} (hq : Q b s) (h : Ev (fun e => ∀ (Q' : ForInStep β → Shared → Prop) E', Q' (.yield b) s → wpAny M A (f e b) Q' E' s) xs.toList) : wpAny M A (forIn xs b f) Q E s := by
  rw [← Array.forIn_toList]; exact list_same hq h
theorem tc_sem {α : Type} {M : Model} {A : Around} {m : Sem α} {k : Value → Sem α} {Q : α → Shared → Prop} {E : Value → Shared → Prop} {s : Shared} (h : wpAny M A m Q (fun e s' => wpAny M A (k e) Q E s') s) : wpAny M A (Sem.tryCatch m k) Q E s := wpAny_tryCatch h
theorem lnN2_1 : True := by
  k_with_none
  k_with "tb_rel" => (first
    | ((first | assumption | (exact Mem.old (by assumption) _ _ (by assumption) rfl) | (exact Mem.at (by assumption) 0 _ _ rfl) | (exact Mem.at (by assumption) 1 _ _ rfl) | (exact Mem.at (by assumption) 2 _ _ rfl) | (exact Mem.at (by assumption) 3 _ _ rfl) | (exact Mem.at (by assumption) 4 _ _ rfl) | (exact Mem.at (by assumption) 5 _ _ rfl) | (exact Mem.at (by assumption) 6 _ _ rfl) | (exact Mem.at (by assumption) 7 _ _ rfl)))
    | fail)
  trivial
theorem lnN2_2 : True := by
  k_with "tb_start" => (first
    | ((first
  | with_reducible (first | refine wpAny_bind ?_ | refine wpAny_pure ?_ | refine wpAny_holding ?_)
  | ((with_reducible refine m_alloc (by assumption) ?f ?_); (case f => rfl); intro _ _ _)
  | ((with_reducible apply m_loadP); focus (tb_rel; done))
  | ((with_reducible apply wpAny_load'); focus (tb_rel; done))
  | ((with_reducible refine' read_k (by assumption) ?rb1 ?rb2 ?rb3 ?rb4 ?_); (case rb1 => kernel_rfl!); (case rb2 => assumption); (case rb3 => assumption); (case rb4 => assumption); intro _ _ _)
  | ((with_reducible refine' install_m (by assumption) ?rb1 ?rb2 ?_); (case rb1 => kernel_rfl!); (case rb2 => kernel_rfl!); intro _ _ _ _ _ _ _)
  | ((with_reducible refine' collect_m (by assumption) ?cu1 ?cs1 (by assumption) (by assumption) ?_); (case cs1 => tb_rel); (case cu1 => kernel_rfl!); intro _ _ _)
  | (with_reducible refine wpAny_of_eq (t := Builtin.extendedBase _) (a := .type "object") (by kernel_rfl!) ?_)
  | (with_reducible refine wpAny_of_eq (t := Builtin.notOverATurnedClass _) (a := ()) (by kernel_rfl!) ?_)
  | (with_reducible refine wpAny_of_eq (t := Builtin.linearize _ _) (a := [.type "object"]) (by kernel_rfl!) ?_)
  | (with_reducible refine wpAny_of_eq (t := Builtin.Slots.bestBase _) (a := .type "object") (by kernel_rfl!) ?_)
  | (with_reducible refine wpAny_of_eq (t := Builtin.Slots.slotNamesOf (.type _)) (a := []) (by kernel_rfl!) ?_)
  | (with_reducible refine wpAny_of_eq (t := Builtin.Slots.givesDict (.type _)) (a := false) (by kernel_rfl!) ?_)
  | (with_reducible refine wpAny_of_eq (t := Builtin.Slots.givesWeak (.type _)) (a := false) (by kernel_rfl!) ?_)
  | (with_reducible refine wpAny_of_eq (t := Builtin.Slots.varSize (.type _)) (a := false) (by kernel_rfl!) ?_)
  | (with_reducible refine wpAny_of_eq (t := Builtin.mroHook? _) (a := none) (by kernel_rfl!) ?_)
  | (with_reducible refine wpAny_of_eq (t := Bind.madeBy (.type _)) (a := some "object.__new__") (by kernel_rfl!) ?_)
  | (with_reducible refine wpAny_of_eq (t := isSubtype (.type _) (.type _)) (a := true) (by kernel_rfl!) ?_)
  | (with_reducible refine wpAny_of_eq (t := isSubtype (.type _) (.type _)) (a := false) (by kernel_rfl!) ?_)
  | (with_reducible refine wpAny_of_eq (t := isType (.type _)) (a := true) (by kernel_rfl!) ?_)
  | (with_reducible refine wpAny_of_eq (t := typeLookup (.type _) _) (a := none) (by kernel_rfl!) ?_)
  | (with_reducible refine wpAny_of_eq (t := typeLookup (.type "dict") _) (a := some (.builtin "dict.__iter__")) (by kernel_rfl!) ?_)
  | ((with_reducible refine wpAny_ite_false ?cc1 ?_); (case cc1 => kernel_rfl!))
  | ((with_reducible refine wpAny_ite_true ?cc1 ?_); (case cc1 => kernel_rfl!))
  | (with_reducible refine wpAny_askSetting ?_)
  | (with_reducible refine tc_sem ?_)
  | ((with_reducible refine' super_m ?sx1 ?sx2 (by assumption) (by assumption) ?_); (case sx1 => exact Frag.In.keeps (by assumption) (fun b o e => Mem.keep (by assumption) b o e (Bool.or_true _))); (case sx2 => tb_rel); (rename Mem _ _ _ _ => D0); intro _ _ _ _ gr'; have D' := mem_grow D0 gr'; clear gr' D0)
  | ((with_reducible refine' super_attr ?sx1 ?sx2 ?sx3 (by assumption) (by assumption) ?_); (case sx3 => assumption); (case sx1 => exact Frag.In.keeps (by assumption) (fun b o e => Mem.keep (by assumption) b o e (Bool.or_true _))); (case sx2 => tb_rel); (rename Mem _ _ _ _ => D0); intro _ _ _ _ gr'; have D' := mem_grow D0 gr'; clear gr' D0)
  | ((with_reducible show wpAny _ _ (call (Value.ref _) [] _) _ _ _); (refine' icall_m ?sx1 ?sx2 ?sx3 (by assumption) (by assumption) ?_); (case sx3 => assumption); (case sx1 => exact Frag.In.keeps (by assumption) (fun b o e => Mem.keep (by assumption) b o e (Bool.or_true _))); (case sx2 => tb_rel); (rename Mem _ _ _ _ => D0); intro _ _ gr'; have D' := mem_grow D0 gr'; clear gr' D0)
  | (with_reducible refine arr_same ?_ ?_)
  | (with_reducible refine wpAny_tryCatch ?_)
  | wp_delta
  | wp_step
  | (rw [id_obj])))
    | fail)
  trivial
theorem filt_self (a : Addr) : List.filter (fun x => x != Value.ref a) [Value.ref a, .type "object"] = [.type "object"] := by
  have e1 : (Value.ref a != Value.ref a) = false := by simp
  have e2 : (Value.type "object" != Value.ref a) = true := by simp
  rw [List.filter_cons, e1, if_neg (by simp), List.filter_cons, e2, if_pos rfl]
  rfl
theorem new_w (prog : Program) (w : World) (A : Around) (E : Value → Shared → Prop) (Q : Fin → Shared → Prop) (h₀ h : Heap) (g : Array GenState) (d : Drawn) (t : Nat) (os : OsState) (P : KP) (ns : Addr) (n ln tn : Nat) (news₀ : List (Addr × Obj))
   (hdep' : Nat.ble A.depth 940 = true) (hun' : Nat.ble A.units 9400 = true) (hsm : (ns == sysModules) = false) (X : (frag w.params).In h₀) (D : Mem h₀ h [] [])
   (hbt : h₀.get? P.bt = some ⟨.type "tuple", none, .seq #[.type "object"] tn, #[]⟩)
   (hsl : h₀.get? P.sl = some ⟨.type "list", none, .seq #[.str (Str.ofString "obj") (P.k 24)] ln, #[]⟩)
   (hst : h₀.get? P.st = some ⟨.type "tuple", none, .seq #[.str (Str.ofString "obj") (P.k 25)] tn, #[]⟩)
   (h1 : h₀.get? (P.f 1) = some ⟨.type "function", none, .func (P.fd 1), P.fs 1⟩)
   (h2 : h₀.get? (P.f 2) = some ⟨.type "function", none, .func (P.fd 2), P.fs 2⟩)
   (h3 : h₀.get? (P.f 3) = some ⟨.type "function", none, .func (P.fd 3), P.fs 3⟩)
   (h4 : h₀.get? (P.f 4) = some ⟨.type "function", none, .func (P.fd 4), P.fs 4⟩)
   (h5 : h₀.get? (P.f 5) = some ⟨.type "function", none, .func (P.fd 5), P.fs 5⟩)
   (h6 : h₀.get? (P.f 6) = some ⟨.type "function", none, .func (P.fd 6), P.fs 6⟩)
   (hns : h₀.get? ns = some (kDict (kE0 P) n))
   (hq : ∀ aK aN md h' t' i i2 tk tk1 tk2, Mem h₀ h' [] [(md, ⟨.type "member_descriptor", none, .fields #[.str (Str.ofString "obj") tk, .ref aK, .builtin "proto.slot", .builtin "proto.slot#set", .int 0 0], #[]⟩), (aK, kCls P aN [.ref aK, .type "object"] false [Str.ofString "obj"] #[some (.ref P.bt), none, some (.str (Str.ofString "K") P.tn), some (.str (Str.ofString "cmp_to_key.<locals>.K") (P.k 22)), some (.builtin "object.__new__"), some (.bool false)]), (aN, kDict (kE3 P md i i2 tk1 tk2) 3)] → Q (.done (.ret (.ref aK))) ⟨h', g, d, t', os⟩) :
   wpAny (model prog w) A (Builtin.«type.__new__» ⟨[.type "type", .str (Str.ofString "K") P.tn, .ref P.bt, .ref ns], []⟩) Q E ⟨h, g, d, t, os⟩ := by
  have hdep : Nat.ble A.depth 950 = true := Nat.ble_eq.mpr (Nat.le_trans (Nat.ble_eq.mp hdep') (by decide))
  have hun : Nat.ble A.units 9500 = true := Nat.ble_eq.mpr (Nat.le_trans (Nat.ble_eq.mp hun') (by decide))
  repeat tb_start
  rename_i h0' t0' D0' aN h1 D1 aK h2 D2
  clear D D0' D1
  replace D2 : Mem h₀ h2 [] [(aK, kCls P aN [] true [] #[]), (aN, kDict (kE0 P) 0)] := D2
  refine' m_updP D2 (i := 0) rfl (o' := kCls P aN [] true [] #[some (.ref P.bt)]) ?e1 rfl ?_
  case e1 => kernel_rfl!
  clear D2
  intro h3 D3
  replace D3 : Mem h₀ h3 [] [(aK, kCls P aN [] true [] #[some (.ref P.bt)]), (aN, kDict (kE0 P) 0)] := D3
  repeat tb_start
  refine' m_updP D3 (i := 0) rfl (o' := kCls P aN [] true [] #[some (.ref P.bt), none, some (.str (Str.ofString "K") P.tn)]) ?eu3 rfl ?_
  case eu3 => kernel_rfl!
  clear D3
  intro h4 D4
  replace D4 : Mem h₀ h4 [] [(aK, kCls P aN [] true [] #[some (.ref P.bt), none, some (.str (Str.ofString "K") P.tn)]), (aN, kDict (kE0 P) 0)] := D4
  repeat tb_start
  refine' m_updP D4 (i := 0) rfl (o' := kCls P aN [] true [] #[some (.ref P.bt), none, some (.str (Str.ofString "K") P.tn), some (.str (Str.ofString "cmp_to_key.<locals>.K") (P.k 22))]) ?eu4 rfl ?_
  case eu4 => kernel_rfl!
  clear D4
  intro h5 D5
  replace D5 : Mem h₀ h5 [] [(aK, kCls P aN [] true [] #[some (.ref P.bt), none, some (.str (Str.ofString "K") P.tn), some (.str (Str.ofString "cmp_to_key.<locals>.K") (P.k 22))]), (aN, kDict (kE0 P) 0)] := D5
  repeat tb_start
  refine' m_updP D5 (i := 1) rfl (o' := kDict (kE1 P) 1) ?eu5 rfl ?_
  case eu5 => kernel_rfl!
  clear D5
  intro h6 D6
  replace D6 : Mem h₀ h6 [] [(aK, kCls P aN [] true [] #[some (.ref P.bt), none, some (.str (Str.ofString "K") P.tn), some (.str (Str.ofString "cmp_to_key.<locals>.K") (P.k 22))]), (aN, kDict (kE1 P) 1)] := D6
  repeat tb_start
  rw [filt_self]
  refine wpAny_of_eq (a := false) (by kernel_rfl!) ?_
  repeat tb_start
  refine' m_updP D6 (i := 0) rfl (o' := kCls P aN [.ref aK, .type "object"] true [] #[some (.ref P.bt), none, some (.str (Str.ofString "K") P.tn), some (.str (Str.ofString "cmp_to_key.<locals>.K") (P.k 22))]) ?eu6 rfl ?_
  case eu6 => kernel_rfl!
  clear D6
  intro h7 D7
  replace D7 : Mem h₀ h7 [] [(aK, kCls P aN [.ref aK, .type "object"] true [] #[some (.ref P.bt), none, some (.str (Str.ofString "K") P.tn), some (.str (Str.ofString "cmp_to_key.<locals>.K") (P.k 22))]), (aN, kDict (kE1 P) 1)] := D7
  repeat tb_start
  refine' m_updP D7 (i := 0) rfl (o' := kCls P aN [.ref aK, .type "object"] true [] #[some (.ref P.bt), none, some (.str (Str.ofString "K") P.tn), some (.str (Str.ofString "cmp_to_key.<locals>.K") (P.k 22)), some (.builtin "object.__new__")]) ?eu7 rfl ?_
  case eu7 => kernel_rfl!
  clear D7
  intro h8 D8
  replace D8 : Mem h₀ h8 [] [(aK, kCls P aN [.ref aK, .type "object"] true [] #[some (.ref P.bt), none, some (.str (Str.ofString "K") P.tn), some (.str (Str.ofString "cmp_to_key.<locals>.K") (P.k 22)), some (.builtin "object.__new__")]), (aN, kDict (kE1 P) 1)] := D8
  repeat tb_start
  refine' tl_obj (by tb_rel) (by tb_rel) ?el1 rfl ?_
  case el1 => kernel_rfl!
  rw [show builtinOwn "object" (Str.ofString "__new__") = some (.builtin "object.__new__") from by kernel_rfl!]
  repeat tb_start
  rename_i md hI tI iI tkI tlI DI
  refine' m_updP DI (i := 1) rfl (o' := kCls P aN [.ref aK, .type "object"] false [Str.ofString "obj"] #[some (.ref P.bt), none, some (.str (Str.ofString "K") P.tn), some (.str (Str.ofString "cmp_to_key.<locals>.K") (P.k 22)), some (.builtin "object.__new__"), some (.bool false)]) ?eu20 rfl ?_
  case eu20 => kernel_rfl!
  intro h20 D20
  dsimp only [List.set] at D20
  clear DI
  repeat tb_start
  refine' m_put D20 (i := 2) rfl ?eu21 ?_
  case eu21 => kernel_rfl!
  intro h21 D21
  dsimp only [List.set] at D21
  clear D20
  repeat tb_start
  rename Mem _ _ _ _ => Dz
  exact hq _ _ _ _ _ _ _ _ _ _ Dz
  all_goals (repeat' (first | exact True.intro | apply And.intro))
  all_goals intro Q' E' hQ'
  all_goals first
    | (refine wpAny_ite_false (by kernel_rfl!) (wpAny_bind ?_)
       unfold specialOf
       refine wpAny_bind ?_
       first
         | (refine wpAny_of_eq (a := .type "str") (by rfl) (wpAny_of_eq sn_str (wpAny_pure hQ')); done)
         | (refine wpAny_of_eq (a := .type "int") (by rfl) (wpAny_of_eq sn_int (wpAny_pure hQ')); done)
         | (refine wpAny_of_eq (a := .type "NoneType") (by rfl) (wpAny_of_eq sn_none (wpAny_pure hQ')); done)
         | (refine wpAny_bind (m_loadP (by tb_rel) (wpAny_pure ?_))
            first
              | exact wpAny_of_eq sn_function (wpAny_pure hQ')
              | exact wpAny_of_eq sn_list (wpAny_pure hQ')
              | exact wpAny_of_eq sn_tuple (wpAny_pure hQ')
              | exact wpAny_of_eq sn_member (wpAny_pure hQ')))
    | (refine wpAny_bind ?_
       show wpAny _ _ (pure (some _)) _ _ _
       refine wpAny_pure ?_
       exact wpAny_ite_false (by kernel_rfl!) (wpAny_pure hQ'))
end Mine
end

section
open PySem PySem.W PySem.W.X PyProof.Rows PySem.Calls
set_option Elab.async false
set_option maxRecDepth 100000
set_option maxHeartbeats 0
set_option linter.unusedVariables false
namespace Mine
theorem lnN3 : True := by
  k_with_none
  trivial
theorem entry_typenew : entryFor table "type.__new__" = some Builtin.«type.__new__» := entryFor_of_tree (by kernel_rfl)
theorem entry_typeinit : entryFor table "type.__init__" = some Builtin.«type.__init__» := entryFor_of_tree (by kernel_rfl)
theorem slot_typeinit : Slot "type" "__init__" "type.__init__" :=
  .of (owner := "type") (n := "__init__") (by rw [typeLookup_type, builtinLookup_eq_fast]; kernel_rfl) (by decide +kernel) (by decide +kernel) (by decide +kernel)
    (by first | exact .inl (by decide +kernel) | exact .inr (by decide +kernel)) (by rw [isSubtype_type]; kernel_rfl)
theorem made_type : Bind.madeBy (.type "type") = pure (some "type.__new__") := madeBy_type (T := "type") (id := "type.__new__") (c := .type "type") (tl := [.type "object"]) (by kernel_rfl!) (by rw [typeLookup_type, builtinLookup_eq_fast]; kernel_rfl) (by decide +kernel)
theorem lnN3_1 : True := by
  k_with_none
  k_with "tb_rel" => (first
    | ((first | assumption | (exact Mem.old (by assumption) _ _ (by assumption) rfl) | (exact Mem.at (by assumption) 0 _ _ rfl) | (exact Mem.at (by assumption) 1 _ _ rfl) | (exact Mem.at (by assumption) 2 _ _ rfl) | (exact Mem.at (by assumption) 3 _ _ rfl) | (exact Mem.at (by assumption) 4 _ _ rfl) | (exact Mem.at (by assumption) 5 _ _ rfl) | (exact Mem.at (by assumption) 6 _ _ rfl) | (exact Mem.at (by assumption) 7 _ _ rfl)))
    | fail)
  trivial
theorem lnN3_2 : True := by
  k_with "tb_start" => (first
    | ((first
  | with_reducible (first | refine wpAny_bind ?_ | refine wpAny_pure ?_ | refine wpAny_holding ?_)
  | ((with_reducible refine m_alloc (by assumption) ?f ?_); (case f => rfl); intro a' h' D')
  | ((with_reducible apply m_loadP); focus (tb_rel; done))
  | ((with_reducible apply wpAny_load'); focus (tb_rel; done))
  | ((with_reducible refine' read_k (by assumption) ?rb1 ?rb2 ?rb3 ?rb4 ?_); (case rb1 => kernel_rfl!); (case rb2 => assumption); (case rb3 => assumption); (case rb4 => assumption); intro h' t' D')
  | ((with_reducible refine' install_m (by assumption) ?rb1 ?rb2 ?_); (case rb1 => kernel_rfl!); (case rb2 => kernel_rfl!); intro _ h' t' _ _ _ D')
  | ((with_reducible refine' collect_m (by assumption) ?cu1 ?cs1 (by assumption) (by assumption) ?_); (case cs1 => tb_rel); (case cu1 => kernel_rfl!); intro h' t' D')
  | (with_reducible refine wpAny_of_eq (t := Builtin.extendedBase _) (a := .type "object") (by kernel_rfl!) ?_)
  | (with_reducible refine wpAny_of_eq (t := Builtin.notOverATurnedClass _) (a := ()) (by kernel_rfl!) ?_)
  | (with_reducible refine wpAny_of_eq (t := Builtin.linearize _ _) (a := [.type "object"]) (by kernel_rfl!) ?_)
  | (with_reducible refine wpAny_of_eq (t := Builtin.Slots.bestBase _) (a := .type "object") (by kernel_rfl!) ?_)
  | (with_reducible refine wpAny_of_eq (t := Builtin.Slots.slotNamesOf (.type _)) (a := []) (by kernel_rfl!) ?_)
  | (with_reducible refine wpAny_of_eq (t := Builtin.Slots.givesDict (.type _)) (a := false) (by kernel_rfl!) ?_)
  | (with_reducible refine wpAny_of_eq (t := Builtin.Slots.givesWeak (.type _)) (a := false) (by kernel_rfl!) ?_)
  | (with_reducible refine wpAny_of_eq (t := Builtin.Slots.varSize (.type _)) (a := false) (by kernel_rfl!) ?_)
  | (with_reducible refine wpAny_of_eq (t := Builtin.mroHook? _) (a := none) (by kernel_rfl!) ?_)
  | (with_reducible refine wpAny_of_eq made_type ?_)
  | (with_reducible refine wpAny_of_eq (t := isSubtype (.type _) (.type _)) (a := true) (by kernel_rfl!) ?_)
  | (with_reducible refine wpAny_of_eq (t := isSubtype (.type _) (.type _)) (a := false) (by kernel_rfl!) ?_)
  | (with_reducible refine wpAny_of_eq (t := isType (.type _)) (a := true) (by kernel_rfl!) ?_)
  | (with_reducible refine wpAny_of_eq (t := typeLookup (.type _) _) (a := none) (by kernel_rfl!) ?_)
  | (with_reducible refine wpAny_of_eq (t := typeLookup (.type "dict") _) (a := some (.builtin "dict.__iter__")) (by kernel_rfl!) ?_)
  | ((with_reducible refine wpAny_ite_false ?cc1 ?_); (case cc1 => kernel_rfl!))
  | ((with_reducible refine wpAny_ite_true ?cc1 ?_); (case cc1 => kernel_rfl!))
  | (with_reducible refine wpAny_askSetting ?_)
  | (with_reducible refine tc_sem ?_)
  | ((with_reducible refine' super_m ?sx1 ?sx2 (by assumption) (by assumption) ?_); (case sx1 => exact Frag.In.keeps (by assumption) (fun b o e => Mem.keep (by assumption) b o e (Bool.or_true _))); (case sx2 => tb_rel); (rename Mem _ _ _ _ => D0); intro a' h' t' hs' gr'; have D' := mem_grow D0 gr'; clear gr' D0)
  | ((with_reducible refine' super_attr ?sx1 ?sx2 ?sx3 (by assumption) (by assumption) ?_); (case sx3 => assumption); (case sx1 => exact Frag.In.keeps (by assumption) (fun b o e => Mem.keep (by assumption) b o e (Bool.or_true _))); (case sx2 => tb_rel); (rename Mem _ _ _ _ => D0); intro _ h' t' _ gr'; have D' := mem_grow D0 gr'; clear gr' D0)
  | ((with_reducible show wpAny _ _ (call (Value.ref _) [] _) _ _ _); (refine' icall_m ?sx1 ?sx2 ?sx3 (by assumption) (by assumption) ?_); (case sx3 => assumption); (case sx1 => exact Frag.In.keeps (by assumption) (fun b o e => Mem.keep (by assumption) b o e (Bool.or_true _))); (case sx2 => tb_rel); (rename Mem _ _ _ _ => D0); intro _ _ gr'; have D' := mem_grow D0 gr'; clear gr' D0)
  | (with_reducible refine arr_same ?_ ?_)
  | (with_reducible refine wpAny_tryCatch ?_)
  | wp_delta
  | wp_step
  | (rw [id_obj])))
    | fail)
  trivial
theorem args_typeinit (a b c d : Value) : argsOk "type.__init__" ⟨[a, b, c, d], []⟩ := by unfold argsOk; kernel_rfl
theorem new_check (v : Str) (t : Tok) (b n : Addr) : checkBuiltinCall "type.__new__" ⟨[.type "type", .str v t, .ref b, .ref n], []⟩ = pure () := by kernel_rfl
theorem in_in1' {A : Around} (hd' : Nat.ble A.depth 930 = true) (hu' : Nat.ble A.units 9300 = true) : Nat.ble A.in1.in1.depth 940 = true ∧ Nat.ble A.in1.in1.units 9400 = true := by
  have h1 := Nat.le_of_ble_eq_true hd'
  have h2 := Nat.le_of_ble_eq_true hu'
  exact ⟨Nat.ble_eq.mpr (by unfold Around.in1; dsimp only; (first | lia | omega)), Nat.ble_eq.mpr (by unfold Around.in1; dsimp only; (first | lia | omega))⟩
theorem type_call (prog : Program) (w : World) (A : Around) (E : Value → Shared → Prop) (Q : Value → Shared → Prop) (h₀ h : Heap) (g : Array GenState) (d : Drawn) (t : Nat) (os : OsState) (P : KP) (ns : Addr) (n ln tn : Nat) (news₀ : List (Addr × Obj))
   (hdep' : Nat.ble A.depth 930 = true) (hun' : Nat.ble A.units 9300 = true) (hsm : (ns == sysModules) = false) (X : (frag w.params).In h₀) (D : Mem h₀ h [] [])
   (hbt : h₀.get? P.bt = some ⟨.type "tuple", none, .seq #[.type "object"] tn, #[]⟩)
   (hsl : h₀.get? P.sl = some ⟨.type "list", none, .seq #[.str (Str.ofString "obj") (P.k 24)] ln, #[]⟩)
   (hst : h₀.get? P.st = some ⟨.type "tuple", none, .seq #[.str (Str.ofString "obj") (P.k 25)] tn, #[]⟩)
   (h1 : h₀.get? (P.f 1) = some ⟨.type "function", none, .func (P.fd 1), P.fs 1⟩)
   (h2 : h₀.get? (P.f 2) = some ⟨.type "function", none, .func (P.fd 2), P.fs 2⟩)
   (h3 : h₀.get? (P.f 3) = some ⟨.type "function", none, .func (P.fd 3), P.fs 3⟩)
   (h4 : h₀.get? (P.f 4) = some ⟨.type "function", none, .func (P.fd 4), P.fs 4⟩)
   (h5 : h₀.get? (P.f 5) = some ⟨.type "function", none, .func (P.fd 5), P.fs 5⟩)
   (h6 : h₀.get? (P.f 6) = some ⟨.type "function", none, .func (P.fd 6), P.fs 6⟩)
   (hns : h₀.get? ns = some (kDict (kE0 P) n))
   (hq : ∀ aK aN md h' t' i i2 tk tk1 tk2, Mem h₀ h' [] [(md, ⟨.type "member_descriptor", none, .fields #[.str (Str.ofString "obj") tk, .ref aK, .builtin "proto.slot", .builtin "proto.slot#set", .int 0 0], #[]⟩), (aK, kCls P aN [.ref aK, .type "object"] false [Str.ofString "obj"] #[some (.ref P.bt), none, some (.str (Str.ofString "K") P.tn), some (.str (Str.ofString "cmp_to_key.<locals>.K") (P.k 22)), some (.builtin "object.__new__"), some (.bool false)]), (aN, kDict (kE3 P md i i2 tk1 tk2) 3)] → Q (.ref aK) ⟨h', g, d, t', os⟩) :
   wpAny (model prog w) A (call (.type "type") [.str (Str.ofString "K") P.tn, .ref P.bt, .ref ns]) Q E ⟨h, g, d, t, os⟩ := by
  refine wpAny_call (codeAny_of_tree ?_)
  show wpAny _ _ (callAny (.type "type") _) _ _ _
  refine wpAny_pure ⟨Code.quiet_builtin _ (by decide +kernel), codeAny_builtin F.entry_type_call ?_⟩
  rw [Around.under_plain (weight_type_call_type "type" _ []) (units_type_call_type "type" _ [])]
  unfold Builtin.«type.__call__»
  repeat tb_start
  refine codeAny_call_builtin (by decide +kernel) entry_typenew (wpAny_of_eq (new_check _ _ _ _) ?_)
  refine new_w prog w A.in1.in1 _ _ h₀ h g d t os P ns n ln tn news₀ (in_in1' hdep' hun').1 (in_in1' hdep' hun').2 hsm X D hbt hsl hst h1 h2 h3 h4 h5 h6 hns fun aK aN md h' t' i i2 tk tk1 tk2 D' => ?_
  have hK := Mem.at D' 1 _ _ rfl
  have hT : Shared.TypeIs ⟨h', g, d, t', os⟩ (.ref aK) "type" := ⟨_, hK, rfl⟩
  have hli := slot_typeinit.lookup
  have hbi := slot_typeinit.bind (.ref aK)
  have hts : isSubtype (.type "type") (.type "type") = pure true := by rw [isSubtype_type]; kernel_rfl
  repeat (any_goals (first | assumption | wp_step))
  refine codeAny_call_builtin slot_typeinit.plain entry_typeinit (slot_typeinit.check _ _ _ _ _ _ _ _ hT (args_typeinit _ _ _ _) ?_)
  unfold Builtin.«type.__init__»
  repeat tb_start
  exact hq _ _ _ _ _ _ _ _ _ _ D'
end Mine
end

section
open PySem PySem.W PySem.W.X PyProof.Rows PySem.Calls
set_option Elab.async false
set_option maxRecDepth 100000
set_option maxHeartbeats 0
namespace Mine
theorem lnP2 : True := by
  k_with_none
  trivial
noncomputable def ev {α : Type} (c : Nat → Nat → Bool) : KasT α → α
  | .ret a => a
  | .ask i j k => ev c (k (c i j))
theorem ev_bind {α β : Type} (c : Nat → Nat → Bool) (f : α → KasT β) : ∀ t : KasT α, ev c (t.bind f) = ev c (f (ev c t))
  | .ret _ => rfl
  | .ask i j k => ev_bind c f (k (c i j))
structure Ord (c : Nat → Nat → Bool) (n : Nat) : Prop where
  irr : ∀ i, c i i = false
  tr : ∀ i j k, c i j = true → c j k = true → c i k = true
  tot : ∀ i j, i < n → j < n → i ≠ j → c i j = false → c j i = true
noncomputable def at' (p : Array Nat) (i : Nat) : Nat := p.getD i 0
noncomputable def Up (c : Nat → Nat → Bool) (p : Array Nat) (a b : Nat) : Prop := ∀ i j, a ≤ i → i < j → j < b → c (at' p i) (at' p j) = true
noncomputable def Down (c : Nat → Nat → Bool) (p : Array Nat) (b : Nat) : Prop := ∀ i j, i < j → j < b → c (at' p j) (at' p i) = true
noncomputable def Arr (p : Array Nat) (n : Nat) : Prop := p.toList.Perm (List.range n)
theorem Arr.size {p : Array Nat} {n : Nat} (h : Arr p n) : p.size = n := by
  have := h.length_eq
  simpa using this
theorem at_get {p : Array Nat} {i : Nat} (h : i < p.size) : at' p i = p.toList[i]'(by simpa using h) := by
  simp [at', Array.getD, h]
theorem Arr.lt {p : Array Nat} {n : Nat} (h : Arr p n) (i : Nat) (hi : i < n) : at' p i < n := by
  have hs : i < p.size := by rw [h.size]; exact hi
  rw [at_get hs]
  have : p.toList[i]'(by simpa using hs) ∈ p.toList := List.getElem_mem _
  exact List.mem_range.mp (h.mem_iff.mp this)
theorem Arr.inj {p : Array Nat} {n : Nat} (h : Arr p n) (i j : Nat) (hi : i < n) (hj : j < n) (e : at' p i = at' p j) : i = j := by
  have hsi : i < p.size := by rw [h.size]; exact hi
  have hsj : j < p.size := by rw [h.size]; exact hj
  rw [at_get hsi, at_get hsj] at e
  have nd : p.toList.Nodup := h.nodup_iff.mpr List.nodup_range
  have pw := List.pairwise_iff_getElem.mp nd
  rcases Nat.lt_trichotomy i j with h1 | h1 | h1
  · exact absurd e (pw i j (by simpa using hsi) (by simpa using hsj) h1)
  · exact h1
  · exact absurd e.symm (pw j i (by simpa using hsj) (by simpa using hsi) h1)
section
variable {c : Nat → Nat → Bool} {n : Nat} {p : Array Nat}
theorem Up.more (O : Ord c n) (h : Up c p 0 (m + 1)) (hm : c (at' p m) (at' p (m + 1)) = true) : Up c p 0 (m + 2) := by
  intro i j _ hij hj
  rcases Nat.lt_or_ge j (m + 1) with h1 | h1
  · exact h i j (Nat.zero_le _) hij h1
  · have : j = m + 1 := by (first | lia | omega)
    subst this
    rcases Nat.lt_or_ge i m with h2 | h2
    · exact O.tr _ _ _ (h i m (Nat.zero_le _) h2 (Nat.lt_succ_self _)) hm
    · have : i = m := by (first | lia | omega)
      subst this; exact hm
theorem Down.more (O : Ord c n) (h : Down c p (m + 1)) (hm : c (at' p (m + 1)) (at' p m) = true) : Down c p (m + 2) := by
  intro i j hij hj
  rcases Nat.lt_or_ge j (m + 1) with h1 | h1
  · exact h i j hij h1
  · have : j = m + 1 := by (first | lia | omega)
    subst this
    rcases Nat.lt_or_ge i m with h2 | h2
    · exact O.tr _ _ _ hm (h i m h2 (Nat.lt_succ_self _))
    · have : i = m := by (first | lia | omega)
      subst this; exact hm
theorem asc_up (O : Ord c n) (R : Arr p n) : ∀ (f m : Nat), f + (m + 1) ≤ n → Up c p 0 (m + 1) → m + 1 ≤ ev c (kas_asc p f (m + 1)) ∧ ev c (kas_asc p f (m + 1)) ≤ f + (m + 1) ∧ Up c p 0 (ev c (kas_asc p f (m + 1)))
  | 0, m, _, h => ⟨Nat.le_refl _, by show m + 1 ≤ _; (first | lia | omega), h⟩
  | f + 1, m, hf, h => by
    show _ ≤ ev c (if c (at' p (m + 1)) (at' p m) = true then .ret (m + 1) else kas_asc p f (m + 2)) ∧ ev c (if c (at' p (m + 1)) (at' p m) = true then .ret (m + 1) else kas_asc p f (m + 2)) ≤ _ ∧ Up c p 0 (ev c (if c (at' p (m + 1)) (at' p m) = true then .ret (m + 1) else kas_asc p f (m + 2)))
    by_cases hc : c (at' p (m + 1)) (at' p m) = true
    · rw [if_pos hc]
      exact ⟨Nat.le_refl _, by show m + 1 ≤ _; (first | lia | omega), h⟩
    · rw [if_neg hc]
      have hne : at' p (m + 1) ≠ at' p m := fun e => by have := R.inj _ _ (by (first | lia | omega)) (by (first | lia | omega)) e; (first | lia | omega)
      have hup := O.tot _ _ (R.lt _ (by (first | lia | omega))) (R.lt _ (by (first | lia | omega))) hne (Bool.eq_false_iff.mpr hc)
      have z : m + 2 ≤ ev c (kas_asc p f (m + 2)) ∧ ev c (kas_asc p f (m + 2)) ≤ f + (m + 2) ∧ Up c p 0 (ev c (kas_asc p f (m + 2))) := asc_up O R f (m + 1) (by (first | lia | omega)) (h.more O hup)
      exact ⟨by (first | lia | omega), by (first | lia | omega), z.2.2⟩
theorem desc_down (O : Ord c n) (R : Arr p n) : ∀ (f m : Nat), f + (m + 1) ≤ n → Down c p (m + 1) → ∃ k, ev c (kas_desc f p (m + 1) 0) = (p, k, 0) ∧ m + 1 ≤ k ∧ k ≤ f + (m + 1) ∧ Down c p k
  | 0, m, _, h => ⟨m + 1, rfl, Nat.le_refl _, by (first | lia | omega), h⟩
  | f + 1, m, hf, h => by
    have e : ev c (kas_desc (f + 1) p (m + 1) 0) = ev c (if c (at' p (m + 1)) (at' p m) = true then (if 0 > 0 then kas_desc f (kas_rev p (m + 1 - (0 + 1)) (m + 1)) (m + 1 + 1) 0 else kas_desc f p (m + 1 + 1) 0) else .ask (at' p m) (at' p (m + 1)) fun d => if d = true then .ret (p, m + 1, 0) else kas_desc f p (m + 1 + 1) (0 + 1)) := rfl
    by_cases hc : c (at' p (m + 1)) (at' p m) = true
    · rw [e, if_pos hc, if_neg (by (first | lia | omega))]
      obtain ⟨k, h1, h2, h3, h4⟩ := desc_down O R f (m + 1) (by (first | lia | omega)) (h.more O hc)
      exact ⟨k, h1, by (first | lia | omega), by (first | lia | omega), h4⟩
    · have hne : at' p (m + 1) ≠ at' p m := fun e => by have := R.inj _ _ (by (first | lia | omega)) (by (first | lia | omega)) e; (first | lia | omega)
      have hup := O.tot _ _ (R.lt _ (by (first | lia | omega))) (R.lt _ (by (first | lia | omega))) hne (Bool.eq_false_iff.mpr hc)
      rw [e, if_neg hc]
      show ∃ k, ev c (if c (at' p m) (at' p (m + 1)) = true then .ret (p, m + 1, 0) else kas_desc f p (m + 1 + 1) (0 + 1)) = _ ∧ _
      rw [if_pos hup]
      exact ⟨m + 1, rfl, Nat.le_refl _, by (first | lia | omega), h⟩
theorem place_ok (O : Ord c n) (R : Arr p n) {k : Nat} (hk : k < n) (U : Up c p 0 k) : ∀ (f l r : Nat), l ≤ r → r ≤ k → r - l ≤ f → (∀ i, i < l → c (at' p i) (at' p k) = true) → (∀ i, r ≤ i → i < k → c (at' p k) (at' p i) = true) →
    ev c (kas_place p k f l r) ≤ k ∧ (∀ i, i < ev c (kas_place p k f l r) → c (at' p i) (at' p k) = true) ∧ (∀ i, ev c (kas_place p k f l r) ≤ i → i < k → c (at' p k) (at' p i) = true)
  | 0, l, r, h1, h2, h3, h4, h5 => by
    have : l = r := by (first | lia | omega)
    subst this
    exact ⟨h2, h4, h5⟩
  | f + 1, l, r, h1, h2, h3, h4, h5 => by
    have e : ev c (kas_place p k (f + 1) l r) = if l ≥ r then l else ev c (if c (at' p k) (at' p ((l + r) / 2)) = true then kas_place p k f l ((l + r) / 2) else kas_place p k f ((l + r) / 2 + 1) r) := by
      show ev c (if l ≥ r then .ret l else .ask (p.getD k 0) (p.getD ((l + r) / 2) 0) fun b => if b = true then kas_place p k f l ((l + r) / 2) else kas_place p k f ((l + r) / 2 + 1) r) = _
      split <;> rfl
    rw [e]
    by_cases hlr : l ≥ r
    · rw [if_pos hlr]
      have : l = r := by (first | lia | omega)
      subst this
      exact ⟨h2, h4, h5⟩
    · rw [if_neg hlr]
      have hm1 : l ≤ (l + r) / 2 := by (first | lia | omega)
      have hm2 : (l + r) / 2 < r := by (first | lia | omega)
      by_cases hc : c (at' p k) (at' p ((l + r) / 2)) = true
      · rw [if_pos hc]
        refine place_ok O R hk U f l _ hm1 (by (first | lia | omega)) (by (first | lia | omega)) h4 fun i hi hik => ?_
        rcases Nat.lt_or_ge ((l + r) / 2) i with h | h
        · exact O.tr _ _ _ hc (U _ i (Nat.zero_le _) h hik)
        · have : i = (l + r) / 2 := by (first | lia | omega)
          subst this; exact hc
      · rw [if_neg hc]
        have hne : at' p k ≠ at' p ((l + r) / 2) := fun e1 => by have := R.inj _ _ hk (by (first | lia | omega)) e1; (first | lia | omega)
        have hup := O.tot _ _ (R.lt _ hk) (R.lt _ (by (first | lia | omega))) hne (Bool.eq_false_iff.mpr hc)
        refine place_ok O R hk U f _ r (by (first | lia | omega)) h2 (by (first | lia | omega)) (fun i hi => ?_) h5
        rcases Nat.lt_or_ge i ((l + r) / 2) with h | h
        · exact O.tr _ _ _ (U i _ (Nat.zero_le _) h (by (first | lia | omega))) hup
        · have : i = (l + r) / 2 := by (first | lia | omega)
          subst this; exact hup
theorem at_bubble (R : Arr p n) {k l : Nat} (hk : k < n) (hl : l ≤ k) (i : Nat) : at' (bubble p k (k - l)) i = if i = l then at' p k else if l < i ∧ i ≤ k then at' p (i - 1) else at' p i := by
  have h := getElem?_bubble (xs := p) (src := k) (by rw [R.size]; exact hk) (k - l) (by (first | lia | omega)) i
  have e : k - (k - l) = l := by (first | lia | omega)
  rw [e] at h
  have q : ∀ (a : Array Nat) j, at' a j = a[j]?.getD 0 := fun a j => by simp [at', Array.getD_eq_getD_getElem?]
  rw [q, h]
  repeat' split
  all_goals rw [q]
theorem bubble_arr (R : Arr p n) (k d : Nat) : Arr (bubble p k d) n := (bubble_perm p k d).toList.trans R
theorem bin_ok (O : Ord c n) : ∀ (f k : Nat) (p : Array Nat), Arr p n → f + k = n → Up c p 0 k → Arr (ev c (kas_bin f p k)) n ∧ Up c (ev c (kas_bin f p k)) 0 n
  | 0, k, p, R, h, U => by
    have : k = n := by (first | lia | omega)
    subst this
    exact ⟨R, U⟩
  | f + 1, k, p, R, h, U => by
    have e : ev c (kas_bin (f + 1) p k) = ev c (kas_bin f (bubble p k (k - ev c (kas_place p k k 0 k))) (k + 1)) := by
      show ev c ((kas_place p k k 0 k).bind fun l => kas_bin f (bubble p k (k - l)) (k + 1)) = _
      rw [ev_bind]
    rw [e]
    obtain ⟨h1, h2, h3⟩ := place_ok O R (k := k) (by (first | lia | omega)) U k 0 k (Nat.zero_le _) (Nat.le_refl _) (by (first | lia | omega)) (fun i hi => absurd hi (Nat.not_lt_zero _)) (fun i hi hik => by (first | lia | omega))
    generalize ev c (kas_place p k k 0 k) = l at h1 h2 h3
    refine bin_ok O f (k + 1) _ (bubble_arr R _ _) (by (first | lia | omega)) ?_
    intro i j _ hij hj
    rw [at_bubble R (by (first | lia | omega)) h1, at_bubble R (by (first | lia | omega)) h1]
    by_cases hi : i = l
    · rw [if_pos hi, if_neg (by (first | lia | omega)), if_pos (by (first | lia | omega))]
      exact h3 _ (by (first | lia | omega)) (by (first | lia | omega))
    · rw [if_neg hi]
      by_cases hjl : j = l
      · rw [if_pos hjl, if_neg (by (first | lia | omega))]
        exact h2 _ (by (first | lia | omega))
      · rw [if_neg hjl]
        repeat' split
        all_goals exact U _ _ (Nat.zero_le _) (by (first | lia | omega)) (by (first | lia | omega))
theorem at_rev (R : Arr p n) {k : Nat} (hk : k ≤ n) (i : Nat) : at' (kas_rev p 0 k) i = if i < k then at' p (k - 1 - i) else at' p i := by
  have h := getElem?_mirror_all (xs := p) (i := 0) (j := k) (by rw [R.size]; exact hk) i
  have q : ∀ (a : Array Nat) j, at' a j = a[j]?.getD 0 := fun a j => by simp [at', Array.getD_eq_getD_getElem?]
  unfold kas_rev
  rw [q, h]
  by_cases hi : i < k
  · rw [if_pos ⟨Nat.zero_le _, hi⟩, if_pos hi, q, Nat.zero_add]
  · rw [if_neg (fun x => hi x.2), if_neg hi, q]
theorem rev_arr (R : Arr p n) (k : Nat) : Arr (kas_rev p 0 k) n := (mirror_perm p 0 k ((k - 0) / 2)).toList.trans R
theorem rev_up (R : Arr p n) {k : Nat} (hk : k ≤ n) (h : Down c p k) : Up c (kas_rev p 0 k) 0 k := by
  intro i j _ hij hj
  rw [at_rev R hk, at_rev R hk, if_pos (by (first | lia | omega)), if_pos hj]
  exact h _ _ (by (first | lia | omega)) (by (first | lia | omega))
theorem count_ok (O : Ord c n) (R : Arr p n) (hn : 1 ≤ n) : ∃ m p', ev c (kas_count n p) = (m, p') ∧ 1 ≤ m ∧ m ≤ n ∧ Arr p' n ∧ Up c p' 0 m := by
  have U1 : Up c p 0 (0 + 1) := fun i j _ hij hj => by (first | lia | omega)
  have z : 1 ≤ ev c (kas_asc p (n - 1) 1) ∧ ev c (kas_asc p (n - 1) 1) ≤ n - 1 + 1 ∧ Up c p 0 (ev c (kas_asc p (n - 1) 1)) := asc_up O R (n - 1) 0 (by (first | lia | omega)) U1
  have e : ev c (kas_count n p) = ev c ((fun m => if (m == n) = true then KasT.ret (m, p) else if m > 1 then .ask (p.getD 0 0) (p.getD (m - 1) 0) fun b => if b = true then .ret (m, p) else kas_descPart m n (kas_rev p 0 m) else kas_descPart m n p) (ev c (kas_asc p (n - 1) 1))) := by
    show ev c ((kas_asc p (n - 1) 1).bind _) = _
    rw [ev_bind]
  rw [e]
  by_cases hm1 : 1 < ev c (kas_asc p (n - 1) 1)
  · generalize ev c (kas_asc p (n - 1) 1) = m at z hm1
    obtain ⟨_, z2, z3⟩ := z
    by_cases hmn : (m == n) = true
    · exact ⟨m, p, by show ev c (if (m == n) = true then _ else _) = _; rw [if_pos hmn]; rfl, by (first | lia | omega), by (first | lia | omega), R, z3⟩
    · refine ⟨m, p, ?_, by (first | lia | omega), by (first | lia | omega), R, z3⟩
      show ev c (if (m == n) = true then _ else if m > 1 then _ else _) = _
      rw [if_neg hmn, if_pos hm1]
      show ev c (if c (at' p 0) (at' p (m - 1)) = true then .ret (m, p) else _) = _
      rw [if_pos (z3 0 (m - 1) (Nat.le_refl _) (by (first | lia | omega)) (by (first | lia | omega)))]
      rfl
  · have hm : ev c (kas_asc p (n - 1) 1) = 1 := by have := z.1; (first | lia | omega)
    rw [hm]
    by_cases h1 : n = 1
    · subst h1
      exact ⟨1, p, rfl, Nat.le_refl _, Nat.le_refl _, R, U1⟩
    · obtain ⟨f, hf⟩ : ∃ f, n = f + 2 := ⟨n - 2, by (first | lia | omega)⟩
      have hc : c (at' p 1) (at' p 0) = true := by
        have e1 : ev c (kas_asc p (n - 1) 1) = ev c (if c (at' p 1) (at' p 0) = true then .ret 1 else kas_asc p f 2) := by rw [show n - 1 = f + 1 by (first | lia | omega)]; rfl
        by_cases hc : c (at' p 1) (at' p 0) = true
        · exact hc
        · exfalso
          rw [if_neg hc] at e1
          have hne : at' p 1 ≠ at' p 0 := fun e1 => by have := R.inj _ _ (by (first | lia | omega)) (by (first | lia | omega)) e1; (first | lia | omega)
          have hup := O.tot _ _ (R.lt _ (by (first | lia | omega))) (R.lt _ (by (first | lia | omega))) hne (Bool.eq_false_iff.mpr hc)
          have z2 : 2 ≤ ev c (kas_asc p f 2) ∧ _ := asc_up O R f 1 (by (first | lia | omega)) (U1.more O hup)
          (first | lia | omega)
      have D2 : Down c p 2 := fun i j hij hj => by
        have : i = 0 ∧ j = 1 := by (first | lia | omega)
        rw [this.1, this.2]; exact hc
      obtain ⟨k, k1, k2, k3, k4⟩ := desc_down O R f 1 (by (first | lia | omega)) D2
      have hk : k ≤ n := by (first | lia | omega)
      obtain ⟨k', hk'⟩ : ∃ k', k = k' + 1 := ⟨k - 1, by (first | lia | omega)⟩
      have z3 := asc_up O (rev_arr R k) (n - k) k' (by (first | lia | omega)) (by rw [← hk']; exact rev_up R hk k4)
      rw [← hk'] at z3
      refine ⟨ev c (kas_asc (kas_rev p 0 k) (n - k) k), kas_rev p 0 k, ?_, by (first | lia | omega), by (first | lia | omega), rev_arr R k, z3.2.2⟩
      show ev c (if ((1 : Nat) == n) = true then _ else if 1 > 1 then _ else kas_descPart 1 n p) = _
      rw [if_neg (by simp; (first | lia | omega)), if_neg (by (first | lia | omega))]
      show ev c ((kas_desc (n - (1 + 1)) p (1 + 1) 0).bind _) = _
      rw [ev_bind, show n - (1 + 1) = f by (first | lia | omega), k1]
      show ev c (if 0 > 0 then _ else kas_tail3 k n p) = _
      rw [if_neg (by (first | lia | omega))]
      show ev c ((kas_asc (kas_rev p 0 k) (n - k) k).bind _) = _
      rw [ev_bind]
      rfl
theorem sort_ok (O : Ord c n) (hn : 1 ≤ n) : Arr (ev c (kas_sort n)) n ∧ Up c (ev c (kas_sort n)) 0 n := by
  have R0 : Arr (List.toArray (List.range n)) n := by show (List.range n).toArray.toList.Perm _; simp
  obtain ⟨m, p', e, h1, h2, h3, h4⟩ := count_ok O R0 hn
  have es : ev c (kas_sort n) = ev c (if m < n then kas_bin (n - max m 1) p' (max m 1) else .ret p') := by
    show ev c ((kas_count n (List.toArray (List.range n))).bind _) = _
    rw [ev_bind, e]
  rw [es]
  by_cases hm : m < n
  · rw [if_pos hm]
    have : max m 1 = m := by (first | lia | omega)
    rw [this]
    exact bin_ok O _ _ _ h3 (by (first | lia | omega)) h4
  · rw [if_neg hm]
    have : m = n := by (first | lia | omega)
    subst this
    exact ⟨h3, h4⟩
end
end Mine
end

section
open PySem PySem.W PySem.W.X PyProof.Rows PySem.Calls
set_option Elab.async false
set_option maxRecDepth 100000
set_option maxHeartbeats 0
namespace Mine
theorem lnP3 : True := by
  k_with_none
  trivial
noncomputable def Asks {α : Type} (n : Nat) (P : α → Prop) : KasT α → Prop
  | .ret a => P a
  | .ask i j k => i < n ∧ j < n ∧ ∀ b, Asks n P (k b)
theorem Asks.bind {α β : Type} {n : Nat} {P : α → Prop} {P' : β → Prop} {f : α → KasT β} : ∀ {t : KasT α}, Asks n P t → (∀ a, P a → Asks n P' (f a)) → Asks n P' (t.bind f)
  | .ret a, h, g => g a h
  | .ask _ _ _, h, g => ⟨h.1, h.2.1, fun b => Asks.bind (h.2.2 b) g⟩
section
variable {n : Nat} {p : Array Nat}
theorem at_lt (R : Arr p n) (hn : 1 ≤ n) (i : Nat) : p.getD i 0 < n := by
  by_cases h : i < n
  · exact R.lt i h
  · have : p.getD i 0 = 0 := by simp [Array.getD, R.size, h]
    (first | lia | omega)
theorem rev_arr' (R : Arr p n) (i j : Nat) : Arr (kas_rev p i j) n := (mirror_perm p i j ((j - i) / 2)).toList.trans R
theorem asks_asc (R : Arr p n) (hn : 1 ≤ n) : ∀ f m, Asks n (fun _ => True) (kas_asc p f m)
  | 0, _ => trivial
  | f + 1, m => ⟨at_lt R hn _, at_lt R hn _, fun b => by
    show Asks n _ (if b = true then .ret m else kas_asc p f (m + 1))
    split
    · trivial
    · exact asks_asc R hn f (m + 1)⟩
theorem asks_desc (hn : 1 ≤ n) : ∀ f (p : Array Nat) m q, Arr p n → Asks n (fun r => Arr r.1 n) (kas_desc f p m q)
  | 0, _, _, _, R => R
  | f + 1, p, m, q, R => ⟨at_lt R hn _, at_lt R hn _, fun b => by
    show Asks n _ (if b = true then (if q > 0 then kas_desc f (kas_rev p (m - (q + 1)) m) (m + 1) 0 else kas_desc f p (m + 1) 0) else .ask (p.getD (m - 1) 0) (p.getD m 0) fun d => if d = true then .ret (p, m, q) else kas_desc f p (m + 1) (q + 1))
    split
    · split
      · exact asks_desc hn f _ _ _ (rev_arr' R _ _)
      · exact asks_desc hn f _ _ _ R
    · refine ⟨at_lt R hn _, at_lt R hn _, fun d => ?_⟩
      show Asks n _ (if d = true then .ret (p, m, q) else kas_desc f p (m + 1) (q + 1))
      split
      · exact R
      · exact asks_desc hn f _ _ _ R⟩
theorem asks_tail3 (R : Arr p n) (hn : 1 ≤ n) (m k : Nat) : Asks n (fun r => Arr r.2 n) (kas_tail3 m k p) :=
  Asks.bind (asks_asc (rev_arr' R 0 m) hn _ _) fun _ _ => rev_arr' R 0 m
theorem asks_descPart (R : Arr p n) (hn : 1 ≤ n) (m k : Nat) : Asks n (fun r => Arr r.2 n) (kas_descPart m k p) := by
  unfold kas_descPart
  refine Asks.bind (asks_desc hn _ _ _ _ R) fun r hr => ?_
  split
  · exact asks_tail3 (rev_arr' hr _ _) hn _ _
  · exact asks_tail3 hr hn _ _
theorem asks_count (R : Arr p n) (hn : 1 ≤ n) (k : Nat) : Asks n (fun r => Arr r.2 n) (kas_count k p) := by
  unfold kas_count
  refine Asks.bind (asks_asc R hn _ _) fun m _ => ?_
  split
  · exact R
  · split
    · refine ⟨at_lt R hn _, at_lt R hn _, fun b => ?_⟩
      show Asks n _ (if b = true then .ret (m, p) else kas_descPart m k (kas_rev p 0 m))
      split
      · exact R
      · exact asks_descPart (rev_arr' R _ _) hn _ _
    · exact asks_descPart R hn _ _
theorem asks_place (R : Arr p n) (hn : 1 ≤ n) (k : Nat) : ∀ f l r, Asks n (fun _ => True) (kas_place p k f l r)
  | 0, _, _ => trivial
  | f + 1, l, r => by
    show Asks n _ (if l ≥ r then .ret l else .ask (p.getD k 0) (p.getD ((l + r) / 2) 0) fun b => if b = true then kas_place p k f l ((l + r) / 2) else kas_place p k f ((l + r) / 2 + 1) r)
    split
    · trivial
    · refine ⟨at_lt R hn _, at_lt R hn _, fun b => ?_⟩
      show Asks n _ (if b = true then kas_place p k f l ((l + r) / 2) else kas_place p k f ((l + r) / 2 + 1) r)
      split
      · exact asks_place R hn k f _ _
      · exact asks_place R hn k f _ _
theorem asks_bin (hn : 1 ≤ n) : ∀ f (p : Array Nat) k, Arr p n → Asks n (fun _ => True) (kas_bin f p k)
  | 0, _, _, _ => trivial
  | f + 1, p, k, R => Asks.bind (asks_place R hn k k 0 k) fun _ _ => asks_bin hn f _ _ (bubble_arr R _ _)
theorem asks_sort (hn : 1 ≤ n) : Asks n (fun _ => True) (kas_sort n) := by
  unfold kas_sort
  refine Asks.bind (asks_count (by show (List.range n).toArray.toList.Perm _; simp) hn n) fun r hr => ?_
  split
  · exact asks_bin hn _ _ _ hr
  · trivial
theorem kas_run {α : Type} {cmp : Nat → Nat → (Bool → Shared → Prop) → Shared → Prop} {c : Nat → Nat → Bool} {J : Shared → Prop} {P : α → Prop} (hc : ∀ i j C s, i < n → j < n → J s → (∀ s', J s' → C (c i j) s') → cmp i j C s) :
    ∀ (t : KasT α) (Q : α → Shared → Prop) (s : Shared), Asks n P t → J s → (∀ s', J s' → Q (ev c t) s') → t.kasWp cmp Q s
  | .ret _, _, s, _, hj, hq => hq s hj
  | .ask i j k, Q, s, h, hj, hq => hc i j _ s h.1 h.2.1 hj fun s' hj' => kas_run hc (k (c i j)) Q s' (h.2.2 _) hj' hq
end
end Mine
end

section
open PySem PySem.W PySem.W.X PyProof.Rows PySem.Calls PyProof.V PySem.Spec
set_option Elab.async false
set_option maxRecDepth 100000
set_option maxHeartbeats 0
namespace Mine
theorem lnP1 : True := by
  k_with_none
  trivial
noncomputable def nm3 : List Str := [Str.ofString "a", Str.ofString "ab", Str.ofString "b"]
noncomputable def rows39 : List (List Str) := nm3.map (fun a => [a]) ++ nm3.flatMap (fun a => nm3.map fun b => [a, b]) ++ nm3.flatMap (fun a => nm3.flatMap fun b => nm3.map fun c => [a, b, c])
noncomputable def pth (r : List Str) : Str := Txt.join (Str.ofString "/") r
noncomputable def goodB (p : Str) : Bool := Nat.ble p.length 1048576 && (Txt.startswith p (Str.ofString "/") == false) && (Txt.split p (Str.ofString "/")).all (fun c => (c.length != 0 && !(decide (c = Str.ofString "."))) && Nat.ble c.length 16777216) && Nat.ble (Txt.split p (Str.ofString "/")).length 1048578 && Nat.ble (wt (Txt.split p (Str.ofString "/"))) 1048576
theorem good_of {p : Str} (h : goodB p = true) : Good p := by
  unfold goodB at h
  simp only [Bool.and_eq_true, List.all_eq_true, beq_iff_eq] at h
  obtain ⟨⟨⟨⟨h1, h2⟩, h3⟩, h4⟩, h5⟩ := h
  refine ⟨Nat.ble_eq.mp h1, h2, ⟨fun c hc => ?_, h4⟩, Nat.ble_eq.mp h5⟩
  have q := h3 c hc
  obtain ⟨⟨q1, q2⟩, q3⟩ := q
  exact ⟨⟨by simpa using q1, by simpa using q2⟩, Nat.ble_eq.mp q3⟩
theorem rows_good : ∀ r ∈ rows39, goodB (pth r) = true := by decide +kernel
theorem rows_inj : ∀ r ∈ [] :: rows39, ∀ q ∈ [] :: rows39, pth r = pth q → r = q := by decide +kernel
theorem split_row : ∀ r ∈ rows39, Txt.split (pth r) (Str.ofString "/") = r := by decide +kernel
theorem nm_row : ∀ r ∈ rows39, ∀ k ∈ [0, 1, 2, 3], nmF (pth (r.take k)) (pth r) = (r.drop k).headD Str.empty := by decide +kernel
theorem take_row : ∀ r ∈ rows39, ∀ k ∈ [0, 1, 2, 3], r.take k ∈ [] :: rows39 := by decide +kernel
noncomputable def comR (r q : List Str) : List Str := comL (minL r q) (maxL r q)
theorem com_row : ∀ r ∈ rows39, ∀ q ∈ rows39, comR r q = r.take (comR r q).length ∧ comR r q = q.take (comR r q).length ∧ (comR r q).length ∈ [0, 1, 2, 3] := by decide +kernel
noncomputable def cmpR (r q : List Str) : Int := if (r == comR r q || q == comR r q) = true then ((pth r).length : Int) - ((pth q).length : Int) else if ((r.drop (comR r q).length).headD Str.empty).cps.toList < ((q.drop (comR r q).length).headD Str.empty).cps.toList then -1 else 1
theorem cmpR_lt : ∀ r ∈ rows39, ∀ q ∈ rows39, decide (cmpR r q < 0) = ltP r q := by decide +kernel
theorem beq_row {r q : List Str} (hr : r ∈ [] :: rows39) (hq : q ∈ [] :: rows39) : (pth r == pth q) = (r == q) := by
  by_cases h : r = q
  · subst h; simp
  · have h2 : pth r ≠ pth q := fun e => h (rows_inj r hr q hq e)
    rw [beq_eq_false_iff_ne.mpr h2, beq_eq_false_iff_ne.mpr h]
theorem cmp_row {r q : List Str} (hr : r ∈ rows39) (hq : q ∈ rows39) : cmpF (pth r) (pth q) = cmpR r q := by
  have ec : cpF (pth r) (pth q) = pth (comR r q) := by
    unfold cpF
    rw [split_row r hr, split_row q hq]
    rfl
  obtain ⟨h1, h2, h3⟩ := com_row r hr q hq
  have hc : comR r q ∈ [] :: rows39 := by rw [h1]; exact take_row r hr _ h3
  unfold cmpF cmpR
  rw [ec]
  have e1 : ([pth r, pth q].any fun x => x == pth (comR r q)) = (r == comR r q || q == comR r q) := by
    simp only [List.any_cons, List.any_nil, Bool.or_false]
    rw [beq_row (.tail _ hr) hc, beq_row (.tail _ hq) hc]
  have e2 : nmF (pth (comR r q)) (pth r) = (r.drop (comR r q).length).headD Str.empty := by
    have := nm_row r hr _ h3
    rw [← h1] at this
    exact this
  have e3 : nmF (pth (comR r q)) (pth q) = (q.drop (comR r q).length).headD Str.empty := by
    have := nm_row q hq _ h3
    rw [← h2] at this
    exact this
  rw [e1, e2, e3]
theorem rows_cmp {r q : List Str} (hr : r ∈ rows39) (hq : q ∈ rows39) : decide (cmpF (pth r) (pth q) < 0) = ltP r q := by
  rw [cmp_row hr hq]
  exact cmpR_lt r hr q hq
end Mine
end

section
open PySem PySem.W PySem.W.X PyProof.Rows PySem.Calls
set_option Elab.async false
set_option maxRecDepth 100000
set_option maxHeartbeats 0
namespace Mine
theorem lnP4 : True := by
  k_with_none
  trivial
theorem str_ext {x y : Str} (h : x.cps.toList = y.cps.toList) : x = y := by
  cases x; cases y
  congr 1
  exact Array.ext' h
theorem nlt_tri : ∀ a b : List Nat, a < b ∨ a = b ∨ b < a
  | [], [] => .inr (.inl rfl)
  | [], _ :: _ => .inl (by simp)
  | _ :: _, [] => .inr (.inr (by simp))
  | x :: xs, y :: ys => by
    rw [List.cons_lt_cons_iff, List.cons_lt_cons_iff]
    rcases Nat.lt_trichotomy x y with h | h | h
    · exact .inl (.inl h)
    · subst h
      rcases nlt_tri xs ys with h | h | h
      · exact .inl (.inr ⟨rfl, h⟩)
      · exact .inr (.inl (by rw [h]))
      · exact .inr (.inr (.inr ⟨rfl, h⟩))
    · exact .inr (.inr (.inl h))
theorem ltP_trans : ∀ a b d : List Str, ltP a b = true → ltP b d = true → ltP a d = true
  | [], [], _, h, _ => by simp [ltP] at h
  | [], _ :: _, [], _, h => by simp [ltP] at h
  | [], _ :: _, _ :: _, _, _ => rfl
  | _ :: _, [], _, h, _ => by simp [ltP] at h
  | _ :: _, _ :: _, [], _, h => by simp [ltP] at h
  | x :: xs, y :: ys, z :: zs, h1, h2 => by
    by_cases hxy : x = y
    · subst hxy
      by_cases hyz : x = z
      · subst hyz
        simp only [ltP, if_true] at h1 h2 ⊢
        exact ltP_trans xs ys zs h1 h2
      · simp only [ltP, if_true, if_neg hyz] at h1 h2 ⊢
        exact h2
    · by_cases hyz : y = z
      · subst hyz
        simp only [ltP, if_true, if_neg hxy] at h1 h2 ⊢
        exact h1
      · simp only [ltP, if_neg hxy, if_neg hyz, decide_eq_true_eq] at h1 h2
        have h3 := List.lt_trans h1 h2
        have hxz : x ≠ z := fun e => by subst e; exact List.lt_irrefl _ h3
        simp only [ltP, if_neg hxz, decide_eq_true_eq]
        exact h3
theorem ltP_total : ∀ a b : List Str, a ≠ b → ltP a b = false → ltP b a = true
  | [], [], h, _ => absurd rfl h
  | [], _ :: _, _, h => by simp [ltP] at h
  | _ :: _, [], _, _ => rfl
  | x :: xs, y :: ys, hne, h => by
    by_cases hxy : x = y
    · subst hxy
      simp only [ltP, if_true] at h ⊢
      exact ltP_total xs ys (fun e => hne (by rw [e])) h
    · simp only [ltP, if_neg hxy, if_neg (Ne.symm hxy), decide_eq_false_iff_not, decide_eq_true_eq] at h ⊢
      rcases nlt_tri x.cps.toList y.cps.toList with h1 | h1 | h1
      · exact absurd h1 h
      · exact absurd (str_ext h1) hxy
      · exact h1
noncomputable def cR (rs : List (List Str)) (i j : Nat) : Bool := ltP (rs.getD i []) (rs.getD j [])
theorem cR_ord {rs : List (List Str)} (hd : rs.Nodup) : Ord (cR rs) rs.length := by
  refine ⟨fun i => ltP_irrefl _, fun i j k => ltP_trans _ _ _, fun i j hi hj hne h => ltP_total _ _ (fun e => hne ?_) h⟩
  simp only [List.getD_eq_getElem?_getD, List.getElem?_eq_getElem hi, List.getElem?_eq_getElem hj, Option.getD_some] at e
  have pw := List.pairwise_iff_getElem.mp hd
  rcases Nat.lt_trichotomy i j with h1 | h1 | h1
  · exact absurd e (pw i j hi hj h1)
  · exact h1
  · exact absurd e.symm (pw j i hj hi h1)
noncomputable def sortR (rs : List (List Str)) : List (List Str) := (ev (cR rs) (kas_sort rs.length)).toList.map fun i => rs.getD i []
theorem sortR_perm {rs : List (List Str)} (hd : rs.Nodup) (hn : 1 ≤ rs.length) : (sortR rs).Perm rs := by
  have h := (sort_ok (cR_ord hd) hn).1
  have e : (List.range rs.length).map (fun i => rs.getD i []) = rs := by
    apply List.ext_getElem
    · simp
    · intro i h1 h2
      simp [List.getD_eq_getElem?_getD, h2]
  have z := List.Perm.map (fun i => rs.getD i []) h
  rw [e] at z
  exact z
theorem sortR_up {rs : List (List Str)} (hd : rs.Nodup) (hn : 1 ≤ rs.length) : (sortR rs).Pairwise fun a b => ltP a b = true := by
  obtain ⟨h1, h2⟩ := sort_ok (cR_ord hd) hn
  unfold sortR
  rw [List.pairwise_map, List.pairwise_iff_getElem]
  intro i j hi hj hij
  have hsz := h1.size
  have hi' : i < (ev (cR rs) (kas_sort rs.length)).size := by simpa using hi
  have hj' : j < (ev (cR rs) (kas_sort rs.length)).size := by simpa using hj
  have z := h2 i j (Nat.zero_le _) hij (by (first | lia | omega))
  rw [at_get hi', at_get hj'] at z
  exact z
end Mine
end

section
open PySem PySem.W PySem.W.X PyProof.Rows PySem.Calls
set_option Elab.async false
set_option maxRecDepth 100000
set_option maxHeartbeats 0
namespace Mine
theorem lnP5 : True := by
  k_with_none
  trivial
noncomputable def rowOf (n : Int) : List Str := [nm3.getD (Int.fmod (Int.fdiv n 3) 3).toNat Str.empty, nm3.getD (Int.fmod (Int.fdiv n 9) 3).toNat Str.empty, nm3.getD (Int.fmod (Int.fdiv n 27) 3).toNat Str.empty].take ((Int.fmod n 3).toNat + 1)
noncomputable def fix3 : List (List Str) := [[Str.ofString "ab", Str.ofString "a"], [Str.ofString "a", Str.ofString "b"], [Str.ofString "b"]]
noncomputable def addPre (row : List Str) (rows : List (List Str)) (k : Nat) : List (List Str) := if row.take (k + 1) ∈ rows then rows else row.take (k + 1) :: rows
noncomputable def addRow (rows : List (List Str)) (row : List Str) : List (List Str) := (List.range row.length).foldl (addPre row) rows
noncomputable def rowsF (ns : List Int) : List (List Str) := (fix3 ++ ns.map rowOf).foldl addRow []
structure Drawn (rows : List (List Str)) : Prop where
  nodup : rows.Nodup
  sub : ∀ r ∈ rows, r ∈ rows39
  pre : ∀ r ∈ rows, 2 ≤ r.length → r.dropLast ∈ rows
theorem rows39_take : ∀ r ∈ rows39, ∀ k ∈ [0, 1, 2], r.take (k + 1) ∈ rows39 := by decide +kernel
theorem rows39_len : ∀ r ∈ rows39, 1 ≤ r.length ∧ r.length ≤ 3 := by decide +kernel
theorem addPre_drawn {row : List Str} (hr : row ∈ rows39) {rows : List (List Str)} {k : Nat} (hk : k < row.length) (D : Drawn rows) (hp : k = 0 ∨ row.take k ∈ rows) : Drawn (addPre row rows k) ∧ row.take (k + 1) ∈ addPre row rows k := by
  have hl := rows39_len row hr
  have hin : row.take (k + 1) ∈ rows39 := rows39_take row hr k (by simp; (first | lia | omega))
  unfold addPre
  by_cases h : row.take (k + 1) ∈ rows
  · rw [if_pos h]; exact ⟨D, h⟩
  · rw [if_neg h]
    refine ⟨⟨List.nodup_cons.mpr ⟨h, D.nodup⟩, fun r hr' => ?_, fun r hr' h2 => ?_⟩, .head _⟩
    · rcases List.mem_cons.mp hr' with rfl | hr'
      · exact hin
      · exact D.sub r hr'
    · rcases List.mem_cons.mp hr' with rfl | hr'
      · have e : (row.take (k + 1)).dropLast = row.take k := by
          rw [List.dropLast_eq_take, List.take_take]
          congr 1
          rw [List.length_take]
          (first | lia | omega)
        rw [e]
        rcases hp with rfl | hp
        · rw [List.length_take] at h2; (first | lia | omega)
        · exact .tail _ hp
      · exact .tail _ (D.pre r hr' h2)
theorem addRow_drawn {row : List Str} (hr : row ∈ rows39) {rows : List (List Str)} (D : Drawn rows) : Drawn (addRow rows row) := by
  have go : ∀ k, k ≤ row.length → Drawn ((List.range k).foldl (addPre row) rows) ∧ (k = 0 ∨ row.take k ∈ (List.range k).foldl (addPre row) rows) := by
    intro k
    induction k with
    | zero => intro _; exact ⟨D, .inl rfl⟩
    | succ k ih =>
      intro hk
      obtain ⟨h1, h2⟩ := ih (by (first | lia | omega))
      rw [List.range_succ, List.foldl_append]
      have z := addPre_drawn hr (k := k) (by (first | lia | omega)) h1 h2
      exact ⟨z.1, .inr z.2⟩
  exact (go row.length (Nat.le_refl _)).1
theorem nm3_mem (i : Nat) (h : i < 3) : nm3.getD i Str.empty ∈ nm3 := by
  rcases i with _ | _ | _ | i
  · exact .head _
  · exact .tail _ (.head _)
  · exact .tail _ (.tail _ (.head _))
  · (first | lia | omega)
theorem three_in : ∀ a ∈ nm3, ∀ b ∈ nm3, ∀ c ∈ nm3, ∀ k ∈ [0, 1, 2], [a, b, c].take (k + 1) ∈ rows39 := by decide +kernel
theorem fmod3 (x : Int) : (Int.fmod x 3).toNat < 3 := by
  have h1 := Int.fmod_nonneg_of_pos x (b := 3) (by decide)
  have h2 := Int.fmod_lt_of_pos x (b := 3) (by decide)
  (first | lia | omega)
theorem rowOf_in (n : Int) : rowOf n ∈ rows39 := by
  have h := fmod3 n
  refine three_in _ (nm3_mem _ (fmod3 _)) _ (nm3_mem _ (fmod3 _)) _ (nm3_mem _ (fmod3 _)) (Int.fmod n 3).toNat ?_
  simp only [List.mem_cons, List.not_mem_nil, or_false]
  (first | lia | omega)
theorem fix3_in : ∀ r ∈ fix3, r ∈ rows39 := by decide +kernel
theorem foldl_drawn : ∀ (l : List (List Str)), (∀ r ∈ l, r ∈ rows39) → ∀ rows, Drawn rows → Drawn (l.foldl addRow rows)
  | [], _, _, D => D
  | r :: l, h, rows, D => foldl_drawn l (fun x hx => h x (.tail _ hx)) _ (addRow_drawn (h r (.head _)) D)
theorem rowsF_drawn (ns : List Int) : Drawn (rowsF ns) := by
  refine foldl_drawn _ (fun r hr => ?_) [] ⟨List.nodup_nil, fun r h => (nomatch h), fun r h => (nomatch h)⟩
  rcases List.mem_append.mp hr with h | h
  · exact fix3_in r h
  · obtain ⟨n, _, rfl⟩ := List.mem_map.mp h
    exact rowOf_in n
theorem addPre_len (row : List Str) (rows : List (List Str)) (k : Nat) : rows.length ≤ (addPre row rows k).length ∧ (addPre row rows k).length ≤ rows.length + 1 := by
  unfold addPre
  split
  · (first | lia | omega)
  · simp
theorem addRow_len (rows : List (List Str)) (row : List Str) : rows.length ≤ (addRow rows row).length ∧ (addRow rows row).length ≤ rows.length + row.length := by
  have go : ∀ k, rows.length ≤ ((List.range k).foldl (addPre row) rows).length ∧ ((List.range k).foldl (addPre row) rows).length ≤ rows.length + k := by
    intro k
    induction k with
    | zero => simp
    | succ k ih =>
      rw [List.range_succ, List.foldl_append]
      have z := addPre_len row ((List.range k).foldl (addPre row) rows) k
      show _ ≤ (addPre row _ k).length ∧ (addPre row _ k).length ≤ _
      (first | lia | omega)
  exact go _
end Mine
end

section
open PySem PySem.W PySem.W.X PyProof.Rows PySem.Calls
set_option Elab.async false
set_option maxRecDepth 100000
set_option maxHeartbeats 0
namespace Mine
theorem lnP6 : True := by
  k_with_none
  trivial
theorem ltP_dropLast : ∀ r : List Str, r ≠ [] → ltP r.dropLast r = true
  | [], h => absurd rfl h
  | [_], _ => rfl
  | x :: y :: xs, _ => by
    show ltP (x :: (y :: xs).dropLast) (x :: y :: xs) = true
    simp only [ltP, if_true]
    exact ltP_dropLast (y :: xs) (by simp)
theorem dir_row : ∀ r ∈ rows39, dirF (pth r) = if r.length = 1 then Str.empty else pth r.dropLast := by decide +kernel
theorem pth1 : ∀ a ∈ nm3, pth [a] = a := by decide +kernel
theorem pth2 : ∀ a ∈ nm3, ∀ b ∈ nm3, pth [a, b] = a ++ (Str.ofString "/" ++ b) := by decide +kernel
theorem pth3 : ∀ a ∈ nm3, ∀ b ∈ nm3, ∀ c ∈ nm3, pth [a, b, c] = a ++ (Str.ofString "/" ++ b) ++ (Str.ofString "/" ++ c) := by decide +kernel
theorem rows39_ne : ∀ r ∈ rows39, r ≠ [] := by decide +kernel
theorem rows39_shape : ∀ r ∈ rows39, (∃ a ∈ nm3, r = [a]) ∨ (∃ a ∈ nm3, ∃ b ∈ nm3, r = [a, b]) ∨ (∃ a ∈ nm3, ∃ b ∈ nm3, ∃ c ∈ nm3, r = [a, b, c]) := by decide +kernel
theorem Drawn.sort {rows : List (List Str)} (D : Drawn rows) (hn : 1 ≤ rows.length) : Drawn (sortR rows) := by
  have p := sortR_perm D.nodup hn
  exact ⟨p.nodup_iff.mpr D.nodup, fun r hr => D.sub r (p.mem_iff.mp hr), fun r hr h2 => p.mem_iff.mpr (D.pre r (p.mem_iff.mp hr) h2)⟩
theorem parent_ahead {rows : List (List Str)} (D : Drawn rows) (hn : 1 ≤ rows.length) {l₁ l₂ : List (List Str)} {r : List Str} (e : sortR rows = l₁ ++ r :: l₂) (h2 : 2 ≤ r.length) : r.dropLast ∈ l₁ := by
  have S := D.sort hn
  have up := sortR_up D.nodup hn
  rw [e] at up
  have hm : r ∈ sortR rows := by rw [e]; simp
  have hp := S.pre r hm h2
  rw [e] at hp
  have hlt := ltP_dropLast r (rows39_ne r (S.sub r hm))
  rcases List.mem_append.mp hp with h | h
  · exact h
  · exfalso
    rcases List.mem_cons.mp h with h | h
    · rw [h] at hlt; rw [ltP_irrefl] at hlt; cases hlt
    · have z := (List.pairwise_cons.mp (List.pairwise_append.mp up).2.1).1 _ h
      have := ltP_asymm _ _ z
      rw [this] at hlt
      cases hlt
theorem rowsF_pos (ns : List Int) : 1 ≤ (rowsF ns).length := by
  unfold rowsF
  have go : ∀ (l : List (List Str)) rows, rows.length ≤ (l.foldl addRow rows).length := by
    intro l
    induction l with
    | nil => intro rows; exact Nat.le_refl _
    | cons r l ih => intro rows; exact Nat.le_trans (addRow_len rows r).1 (ih _)
  have e : ((fix3 ++ ns.map rowOf).foldl addRow []) = (ns.map rowOf).foldl addRow (fix3.foldl addRow []) := by rw [List.foldl_append]
  rw [e]
  refine Nat.le_trans ?_ (go _ _)
  decide +kernel
end Mine
end

section
open PySem PySem.W PySem.W.X PyProof.Rows PySem.Calls
set_option Elab.async false
set_option maxRecDepth 100000
set_option maxHeartbeats 0
namespace Mine
theorem lnQ1 : True := by
  k_with_none
  trivial
structure CB (h₀ : Heap) (L : Addr) (h : Heap) (m : Str → Option Value) (N c P : Addr) (es : Array DictEntry) (n : Nat) (ps : Array Value) (news : List (Addr × Obj)) : Prop where
  F : Fr h₀ L h m
  hN : h.get? N = some (kDict es n)
  hP : h.get? P = some (tabObj ps)
  C : CodeHd h c P
  cN : c ≠ N
  ne : N ≠ P
  NL : N ≠ L ∧ h₀.get? N = none
  PL : P ≠ L ∧ h₀.get? P = none
  nw : News h₀ L h news
  ap : ∀ p ∈ news, p.1 ≠ N ∧ p.1 ≠ P
section
variable {M : Model} {A : Around} {E : Value → Shared → Prop} {s : Shared} {h₀ : Heap} {L N c P : Addr} {m : Str → Option Value} {es : Array DictEntry} {n : Nat} {ps : Array Value} {news : List (Addr × Obj)}
theorem CB.fresh (X : CB h₀ L s.heap m N c P es n ps news) {b : Addr} (hb : L < b) : h₀.get? b = none := Heap.get?_none_of_le (Nat.le_trans X.F.above (Nat.le_of_lt hb))
theorem codeHd_but {h h' : Heap} {c P a : Addr} (x : CodeHd h c P) (hs : Heap.ExtBut a h h') (hc : c ≠ a) : CodeHd h' c P := by
  obtain ⟨o, vs, file, tf, flags, tg, inF, text, tt, e, r⟩ := x
  exact ⟨o, vs, file, tf, flags, tg, inF, text, tt, hs _ _ hc e, r⟩
theorem codeHd_ne {h : Heap} {c P : Addr} (x : CodeHd h c P) : c ≠ P := by
  obtain ⟨_, _, _, _, _, _, _, _, _, _, _, _, _, _, _, _, _, _, hne⟩ := x
  exact hne
theorem cstore {env : Env} {name : Str} {v : Value} {Q : Unit → Shared → Prop} {es' : Int → Tok → Array DictEntry} {n' : Nat} (X : CB h₀ L s.heap m N c P es n ps news) (hl : env.locals = N) (hs : storeName env name v = localSet env name v)
    (har : aRefKeyMayBeTheName name es = false) (he : ∀ i k, Obj.putName name i (.str name k) v (kDict es n) = kDict (es' i k) n')
    (h : ∀ i k h' tk', CB h₀ L h' m N c P (es' i k) n' ps news → Q () { s with heap := h', toks := tk' }) : wpAny M A (storeName env name v) Q E s := by
  rw [hs]
  unfold localSet
  rw [hl]
  refine wpAny_bind (wpAny_load X.hN ?_)
  rw [if_pos (by rfl)]
  unfold nsSet strHash
  refine wpAny_bind (wpAny_bind (wpAny_askSetting (wpAny_pure (wpAny_bind (wpAny_mkText (wpAny_bind (wpAny_loadPart X.hN ?_)))))))
  dsimp only
  rw [if_neg (by rw [har]; exact Bool.false_ne_true)]
  refine wpAny_updatePart X.hN (h (if name.cps.isEmpty = true then 0 else reduceHash (M.w.params.strHash name.cps)) s.toks _ _ ?_)
  have hb := Heap.SameBut.update (h := s.heap) (a := N) (f := fun o => Obj.putName name (if name.cps.isEmpty = true then 0 else reduceHash (M.w.params.strHash name.cps)) (.str name s.toks) v o)
  have hg := Heap.get?_update_self (h := s.heap) (fun o => Obj.putName name (if name.cps.isEmpty = true then 0 else reduceHash (M.w.params.strHash name.cps)) (.str name s.toks) v o) X.hN (by rw [he]; rfl)
  rw [he] at hg
  exact ⟨X.F.change hb X.NL.1 X.NL.2, hg, (hb.2 _ X.ne.symm).trans X.hP, codeHd_but X.C hb.extBut X.cN, X.cN, X.ne, X.NL, X.PL,
    fun p hp => ⟨(hb.2 _ (X.ap p hp).1).trans (X.nw p hp).1, (X.nw p hp).2⟩, X.ap⟩
theorem CB.push (X : CB h₀ L s.heap m N c P es n ps news) (o : Obj) (hf : o.isFreed = false) : CB h₀ L (s.heap.push o) m N c P es n ps ((s.heap.objs.size, o) :: news) := by
  have hL : L < s.heap.objs.size := X.F.ns.lt
  refine ⟨X.F.push _, Heap.get?_push_of_some _ X.hN, Heap.get?_push_of_some _ X.hP, X.C.keeps fun b o e => Heap.get?_push_of_some _ e, X.cN, X.ne, X.NL, X.PL, fun p hp => ?_, fun p hp => ?_⟩
  · rcases List.mem_cons.mp hp with rfl | hp
    · exact ⟨Heap.get?_push_size _ hf, Nat.ne_of_gt hL, X.fresh hL⟩
    · exact ⟨Heap.get?_push_of_some _ (X.nw p hp).1, (X.nw p hp).2⟩
  · rcases List.mem_cons.mp hp with rfl | hp
    · exact ⟨Nat.ne_of_gt (Heap.lt_size X.hN), Nat.ne_of_gt (Heap.lt_size X.hP)⟩
    · exact X.ap p hp
theorem mk_fun {mg : Str → Option Value} {env : Env} {name qual : Str} {params : Arguments} {body : List Stmt} {scope : Scope} {ps : Array Value} {pos : Pos} {firstLine : Nat} {clos : List (Str × Addr)} {Q : Value → Shared → Prop}
    (hcl : closureFor scope env = pure clos) (hge0 : env.globals = mainGlobals) (hg : s.heap.Ns mainGlobals mg) (hcode : env.code = .ref c) (C : CodeHd s.heap c P) (hP : s.heap.get? P = some (tabObj ps)) (ht : TriplesOk ps.toList)
    (hnf : codeAmong pos ps.toList = none) (hgP : mainGlobals ≠ P) (hb : s.heap.BuiltinsAt mg P)
    (h : ∀ c' ctv doc h' tk, Heap.ExtBut P s.heap h' → s.heap.objs.size ≤ c' → c' < h'.objs.size → h'.CodeRec (.ref c') qual → h'.get? P = some (tabObj (ps ++ #[rawInt pos.line, rawInt pos.col, .ref c'])) → (clos = [] → ∃ o, h'.get? c' = some o ∧ o.cls = .type "code") →
      Q (.ref h'.objs.size) { s with heap := h'.push (fnMade name qual params body scope clos doc ((mg "__name__").getD .none) c' ctv), toks := tk }) :
    wpAny M A (makeFunction name qual params (.stmts body) scope env [] [] [] pos firstLine) Q E s := by
  cases clos with
  | cons q r => exact makeFunction_K (mg := mg) hcl hge0 hg hcode C hP ht hnf hgP hb fun c' ctv doc h' tk x1 x2 x3 x4 x5 => h c' ctv doc h' tk x1 x2 x3 x4 x5 nofun
  | nil =>
    obtain ⟨bm, ob, y1, y2, _, y3, y4, y5, y6, y7⟩ := hb
    rw [makeFunction_eq]
    simp only [List.zip_nil_right, List.filterMap_nil, List.isEmpty_nil, if_true, pure_bind]
    unfold makeTail
    rw [hcl, hge0]
    refine wpAny_bind (wpAny_pure ?_)
    simp only [List.isEmpty_nil, if_true]
    refine wpAny_bind (wpAny_pure ?_)
    refine wpAny_bind (wpAny_functionCodeX hcode (C.code hP ht) (C.tab hP) hnf fun c' h' tk x1 x2 x3 _ x4 x5 ⟨P', _, _, ⟨o, _, z1, z2, _⟩, _⟩ => ?_)
    have g2 := hg.extBut x1 hgP
    refine wpAny_bind (wpAny_builtinsFor g2 y1 y2 (x1 _ _ y3 y4) y5 y6 y7 ?_)
    refine wpAny_bind (wpAny_nsGet g2 ?_)
    cases hdoc : docOf body with
    | none => exact wpAny_bind (wpAny_pure (wpAny_newObj_type (h c' .none .none h' tk x1 x2 x3 x4 x5.2 fun _ => ⟨o, z1, z2⟩) (by size_fits)))
    | some t => exact wpAny_bind (wpAny_mkText (wpAny_newObj_type (h c' .none _ h' _ x1 x2 x3 x4 x5.2 fun _ => ⟨o, z1, z2⟩) (by size_fits)))
theorem cfun {p : Program} {loose : List Str} {mean : ExcName → Option Value} {mg mb : Str → Option Value} {env : Env} {name qual : Str} {params : Arguments} {body : List Stmt} {scope : Scope} {clos : List (Str × Addr)} {pos : Pos} {firstLine : Nat} {Q : Value → Shared → Prop}
    (X : CB h₀ L s.heap m N c P es n ps news) (T : Top p loose mean mg mb h₀) (hcl : closureFor scope env = pure clos) (hge0 : env.globals = mainGlobals) (hcode : env.code = .ref c) (ht : TriplesOk ps.toList) (hnf : codeAmong pos ps.toList = none)
    (h : ∀ f c' oc vs t ctv doc h' tk', CB h₀ L h' m N c P es n (ps ++ #[rawInt pos.line, rawInt pos.col, .ref c']) ((f, fnMade name qual params body scope clos doc ((mg "__name__").getD .none) c' ctv) :: (c', oc) :: news) →
      (oc.data = .fields vs ∧ (clos = [] → oc.cls = .type "code")) → vs[1]? = some (.str qual t) → TriplesOk (ps ++ #[rawInt pos.line, rawInt pos.col, .ref c']).toList → (∀ q ∈ news, q.1 < c') → c' < f → Q (.ref f) { s with heap := h', toks := tk' }) :
    wpAny M A (makeFunction name qual params (.stmts body) scope env [] [] [] pos firstLine) Q E s := by
  have hgs := T.g.keeps X.F.keep
  obtain ⟨bm, ob, b1, b2, b3, b4, b5, b6⟩ := T.bmain
  have hgP : mainGlobals ≠ P := fun q => by
    obtain ⟨o, es, ep, e, hd, _⟩ := hgs
    rw [q, X.hP] at e; cases e; cases hd
  have hbP : bm ≠ P := fun q => by
    have e := X.F.keep _ _ b3
    rw [q, X.hP] at e; cases e; cases b4
  have hbG : bm ≠ mainGlobals := fun q => by
    obtain ⟨o, es, ep, e, hd, _⟩ := T.g
    rw [q, e] at b3; cases b3; rw [hd] at b6; cases b6
  refine mk_fun (mg := mg) hcl hge0 hgs hcode X.C X.hP ht hnf hgP ⟨bm, ob, b1, b2, hbG, hbP, X.F.keep _ _ b3, b4, b5, b6⟩ fun c' ctv doc h' tk hx hge hlt hrec htb hcc => ?_
  obtain ⟨c₂, oc, vs, t, e2, hoc, hd, hv⟩ := hrec
  cases e2
  have hLs : L < s.heap.objs.size := X.F.ns.lt
  have hLc : L < c' := Nat.lt_of_lt_of_le hLs hge
  have X1 : CB h₀ L h' m N c P es n (ps ++ #[rawInt pos.line, rawInt pos.col, .ref c']) ((c', oc) :: news) := by
    refine ⟨⟨X.F.ns.extBut hx X.PL.1.symm, fun b o e => hx b o (fun q => by rw [q, X.PL.2] at e; cases e) (X.F.keep b o e), X.F.above⟩, hx _ _ X.ne X.hN, htb, ?_, X.cN, X.ne, X.NL, X.PL, fun q hq => ?_, fun q hq => ?_⟩
    · have hcP : c ≠ P := codeHd_ne X.C
      exact codeHd_but X.C hx hcP
    · rcases List.mem_cons.mp hq with rfl | hq
      · exact ⟨hoc, Nat.ne_of_gt hLc, X.fresh hLc⟩
      · exact ⟨hx _ _ (X.ap q hq).2 (X.nw q hq).1, (X.nw q hq).2⟩
    · rcases List.mem_cons.mp hq with rfl | hq
      · exact ⟨Nat.ne_of_gt (Nat.lt_of_lt_of_le (Heap.lt_size X.hN) hge), Nat.ne_of_gt (Nat.lt_of_lt_of_le (Heap.lt_size X.hP) hge)⟩
      · exact X.ap q hq
  exact h _ _ _ _ _ _ _ _ _ (CB.push (s := { s with heap := h', toks := tk }) X1 _ rfl) ⟨hd, fun q => by obtain ⟨o, z1, z2⟩ := hcc q; rw [hoc] at z1; cases z1; exact z2⟩ hv (by rw [Array.toList_append]; exact TriplesOk_snoc _ _ _ _ ht) (fun q hq => Nat.lt_of_lt_of_le (Heap.lt_size (X.nw q hq).1) hge) hlt
theorem cdef {p : Program} {loose : List Str} {mean : ExcName → Option Value} {mg mb : Str → Option Value} {env : Env} {name : Str} {params : Arguments} {body : List Stmt} {scope : Scope} {clos : List (Str × Addr)} {pos : Pos} {Q : Flow → Shared → Prop} {es' : Value → Int → Tok → Array DictEntry} {n' : Nat} {l : List Value}
    (X : CB h₀ L s.heap m N c P es n l.toArray news) (T : Top p loose mean mg mb h₀) (hcl : closureFor scope env = pure clos) (hge0 : env.globals = mainGlobals) (hcode : env.code = .ref c) (ht : TriplesOk l) (hnf : codeAmong pos l = none)
    (hl : env.locals = N) (hs : ∀ v, storeName env name v = localSet env name v) (har : aRefKeyMayBeTheName name es = false) (he : ∀ v i k, Obj.putName name i (.str name k) v (kDict es n) = kDict (es' v i k) n')
    (hd0 : params.defaults = []) (hk0 : params.kw_defaults = []) (ha : annTrees params none env = [])
    (h : ∀ f c' oc vs t ctv doc i k h' tk', CB h₀ L h' m N c P (es' (.ref f) i k) n' (l ++ [rawInt pos.line, rawInt pos.col, .ref c']).toArray ((f, fnMade name (qualnameIn env name name) params body scope clos doc ((mg "__name__").getD .none) c' ctv) :: (c', oc) :: news) →
      (oc.data = .fields vs ∧ (clos = [] → oc.cls = .type "code")) → vs[1]? = some (.str (qualnameIn env name name) t) → TriplesOk (l ++ [rawInt pos.line, rawInt pos.col, .ref c']) → (∀ q ∈ news, q.1 < c') → c' < f → Q .next { s with heap := h', toks := tk' }) :
    wpAny M A (exec (.FunctionDef name params body [] none [] scope none name pos) env) Q E s := by
  refine nestDef_K hd0 hk0 ha (cfun X T hcl hge0 hcode ht hnf fun f c' oc vs t ctv doc h' tk' X' hd hv ht' hlt hlf => ?_)
  rw [show l.toArray ++ #[rawInt pos.line, rawInt pos.col, Value.ref c'] = (l ++ [rawInt pos.line, rawInt pos.col, .ref c']).toArray from by simp] at X' ht'
  exact cstore (s := { s with heap := h', toks := tk' }) X' hl (hs _) har (he _) fun i k h2 tk2 X2 => h f c' oc vs t ctv doc i k h2 tk2 X2 hd hv ht' hlt hlf
theorem cconst {env : Env} {name : Str} {ct : Const} {u : Nat} {p1 p2 p3 : Pos} {Q : Flow → Shared → Prop} {es' : Value → Int → Tok → Array DictEntry} {n' : Nat} {R : Value → Prop}
    (X : CB h₀ L s.heap m N c P es n ps news) (hc : ∀ {Q : Value → Shared → Prop}, (∀ v tk', R v → Q v { s with toks := tk' }) → wpAny M A (constValue env ct) Q E s)
    (hl : env.locals = N) (hs : ∀ v, storeName env name v = localSet env name v) (har : aRefKeyMayBeTheName name es = false) (he : ∀ v i k, Obj.putName name i (.str name k) v (kDict es n) = kDict (es' v i k) n')
    (h : ∀ v i k h' tk', R v → CB h₀ L h' m N c P (es' v i k) n' ps news → Q .next { s with heap := h', toks := tk' }) :
    wpAny M A (exec (.Assign [.Name name p1] (.Constant ct u p2) p3) env) Q E s := by
  refine wpAny_Assign_Name (value := .Constant ct u p2) ?_
  rw [eval_Constant]
  exact hc fun v tk' hv => cstore (s := { s with toks := tk' }) X hl (hs _) har (he _) fun i k h2 tk2 X2 => h v i k h2 tk2 hv X2
end
end Mine
end

section
open PySem PySem.W PySem.W.X PyProof.Rows PySem.Calls
set_option Elab.async false
set_option maxRecDepth 100000
set_option maxHeartbeats 0
set_option linter.unusedVariables false
namespace Mine
theorem lnQ2a : True := by
  k_with_none
  trivial
theorem lnQ2a_1 : True := by
  k_with_none
  k_with "x_close" => (first
    | ((refine ⟨_, rfl, Mem.at (by assumption) 0 _ _ rfl, _, _, rfl, ?_⟩; first | exact fun b o e => e | exact fun b o e => Mem.keep (by assumption) b o e (Bool.or_true _)))
    | fail)
  trivial
theorem ga_x (prog : Program) (w : World) (A : Around) (s : Shared) (tk : Tok) :
   wpAny (model prog w) (AX A) (call (.builtin "type.__getattribute__") [.type "type", .str (Str.ofString "__prepare__") tk]) (fun v s' => ∃ a, v = .ref a ∧ s'.heap.get? a = some ⟨.type "builtin_function_or_method", none, .fields #[.builtin "type.__prepare__", .type "type"], #[]⟩ ∧ Grew s s') (fun _ _ => False) s := by
  x_run
theorem lnQ2a_2 : True := by
  k_with "x_close" => (first
    | ((refine ⟨_, rfl, Mem.at (by assumption) 0 _ _ rfl, (Mem.nw (by assumption) _ (.head _)).2, _, _, rfl, ?_⟩; first | exact fun b o e => e | exact fun b o e => Mem.keep (by assumption) b o e (Bool.or_true _)))
    | fail)
  trivial
theorem pcall_x (prog : Program) (w : World) (A : Around) (s : Shared) (a bt : Addr) (nm : Str) (tk : Tok)
   (ha : s.heap.get? a = some ⟨.type "builtin_function_or_method", none, .fields #[.builtin "type.__prepare__", .type "type"], #[]⟩) (hb : s.heap.get? bt = some ⟨.type "tuple", none, .seq #[.type "object"] 0, #[]⟩) :
   wpAny (model prog w) (AX A) (call (.ref a) [.str nm tk, .ref bt]) (fun v s' => ∃ a, v = .ref a ∧ s'.heap.get? a = some ⟨.type "dict", none, .dict #[] 0, #[]⟩ ∧ s.heap.get? a = none ∧ Grew s s') (fun _ _ => False) s := by
  x_run
theorem type_ga : typeLookup (.type "type") (Str.ofString "__getattribute__") = pure (some (.builtin "type.__getattribute__")) := by rw [typeLookup_type, builtinLookup_eq_fast]; kernel_rfl
theorem type_typega : typeOf (.builtin "type.__getattribute__") = pure (.type "wrapper_descriptor") := by show builtinType _ = _; rw [builtinType_eq_fast]; kernel_rfl
theorem lnQ2a_3 : True := by
  k_with "tb_rel" => (first
    | ((first | assumption | (exact Mem.old (by assumption) _ _ (by assumption) rfl) | (exact Mem.at (by assumption) 0 _ _ rfl) | (exact Mem.at (by assumption) 1 _ _ rfl) | (exact Mem.at (by assumption) 2 _ _ rfl) | (exact Mem.at (by assumption) 3 _ _ rfl) | (exact Mem.at (by assumption) 4 _ _ rfl) | (exact Mem.at (by assumption) 5 _ _ rfl) | (exact Mem.at (by assumption) 6 _ _ rfl) | (exact Mem.at (by assumption) 7 _ _ rfl)))
    | fail)
  trivial
theorem lnQ2a_4 : True := by
  k_with "tb_start" => (first
    | ((first
  | with_reducible (first | refine wpAny_bind ?_ | refine wpAny_pure ?_ | refine wpAny_holding ?_)
  | ((with_reducible refine m_alloc (by assumption) ?f ?_); (case f => rfl); intro _ h' D')
  | ((with_reducible apply m_loadP); focus (tb_rel; done))
  | ((with_reducible apply wpAny_load'); focus (tb_rel; done))
  | ((with_reducible refine' collect_m (by assumption) ?cu1 ?cs1 (by assumption) (by assumption) ?_); (case cs1 => tb_rel); (case cu1 => kernel_rfl!); intro _ _ _)
  | (with_reducible refine wpAny_of_eq (t := Builtin.extendedBase _) (a := .type "object") (by kernel_rfl!) ?_)
  | (with_reducible refine wpAny_of_eq (t := Builtin.notOverATurnedClass _) (a := ()) (by kernel_rfl!) ?_)
  | (with_reducible refine wpAny_of_eq (t := Builtin.linearize _ _) (a := [.type "object"]) (by kernel_rfl!) ?_)
  | (with_reducible refine wpAny_of_eq (t := Builtin.Slots.bestBase _) (a := .type "object") (by kernel_rfl!) ?_)
  | (with_reducible refine wpAny_of_eq (t := Builtin.Slots.slotNamesOf (.type _)) (a := []) (by kernel_rfl!) ?_)
  | (with_reducible refine wpAny_of_eq (t := Builtin.Slots.givesDict (.type _)) (a := false) (by kernel_rfl!) ?_)
  | (with_reducible refine wpAny_of_eq (t := Builtin.Slots.givesWeak (.type _)) (a := false) (by kernel_rfl!) ?_)
  | (with_reducible refine wpAny_of_eq (t := Builtin.Slots.varSize (.type _)) (a := false) (by kernel_rfl!) ?_)
  | (with_reducible refine wpAny_of_eq (t := Builtin.mroHook? _) (a := none) (by kernel_rfl!) ?_)
  | (with_reducible refine wpAny_of_eq (t := Bind.madeBy (.type _)) (a := some "object.__new__") (by kernel_rfl!) ?_)
  | (with_reducible refine wpAny_of_eq (t := isSubtype (.type _) (.type _)) (a := true) (by kernel_rfl!) ?_)
  | (with_reducible refine wpAny_of_eq (t := isSubtype (.type _) (.type _)) (a := false) (by kernel_rfl!) ?_)
  | (with_reducible refine wpAny_of_eq (t := isType (.type _)) (a := true) (by kernel_rfl!) ?_)
  | (with_reducible refine wpAny_of_eq (t := typeLookup (.type _) _) (a := none) (by kernel_rfl!) ?_)
  | (with_reducible refine wpAny_of_eq (t := typeLookup (.type "dict") _) (a := some (.builtin "dict.__iter__")) (by kernel_rfl!) ?_)
  | ((with_reducible refine wpAny_ite_false ?cc1 ?_); (case cc1 => kernel_rfl!))
  | ((with_reducible refine wpAny_ite_true ?cc1 ?_); (case cc1 => kernel_rfl!))
  | (with_reducible refine wpAny_askSetting ?_)
  | wp_step
  | (rw [id_obj])))
    | fail)
  trivial

theorem prep_m {prog : Program} {w : World} {A : Around} {E : Value → Shared → Prop} {h : Heap} {g : Array GenState} {d : PySem.Drawn} {t : Nat} {os : OsState} {Q : Option Value → Shared → Prop}
   (hd' : Nat.ble A.depth 940 = true) (hu' : Nat.ble A.units 9400 = true)
   (hq : ∀ f h' t', h'.get? f = some ⟨.type "builtin_function_or_method", none, .fields #[.builtin "type.__prepare__", .type "type"], #[]⟩ → Grow h h' → Q (some (.ref f)) ⟨h', g, d, t', os⟩) :
   wpAny (model prog w) A (getAttr? (.type "type") (Str.ofString "__prepare__")) Q E ⟨h, g, d, t, os⟩ := by
  unfold getAttr? getAttrBy? getAttrBy
  refine wpAny_bind (wpAny_mkText (wpAny_bind (wpAny_attempt (wpAny_holding (wpAny_bind (wpAny_of_eq (a := .type "type") (by rfl) (wpAny_bind (wpAny_of_eq type_ga ?_))))))))
  dsimp only
  refine wpAny_ite_false (by kernel_rfl!) ?_
  unfold getAttrByItsOwn
  repeat tb_start
  unfold bindSpecial
  refine wpAny_bind (wpAny_of_eq type_typega ?_)
  refine wpAny_ite_true (by kernel_rfl!) (wpAny_pure ?_)
  show wpAny _ _ (call (.builtin "type.__getattribute__") [.type "type", .str _ _]) _ _ _
  refine in_AX (wpAny_mono (ga_x prog w A _ _) (fun r s' ⟨f, e, hf, h', tk, es, gr⟩ => ?_) fun _ _ f => f.elim) (Nat.ble_eq.mpr (Nat.le_trans (Nat.le_of_ble_eq_true hd') (by decide))) (Nat.ble_eq.mpr (Nat.le_trans (Nat.le_of_ble_eq_true hu') (by decide)))
  subst e es
  repeat tb_start
  exact hq _ _ _ hf gr
end Mine
end

section
open PySem PySem.W PySem.W.X PyProof.Rows PySem.Calls
set_option Elab.async false
set_option maxRecDepth 100000
set_option maxHeartbeats 0
namespace Mine
theorem lnQ2 : True := by
  k_with_none
  trivial
noncomputable def kDef : Stmt := match Challenge.pw_in0152_01.main.body with | _ :: _ :: .FunctionDef _ _ (d :: _) _ _ _ _ _ _ _ :: _ => d | _ => .Pass default
noncomputable def kBody : List Stmt := match kDef with | .ClassDef _ _ _ body _ _ _ _ _ _ _ => body | _ => []
noncomputable def kScope : Scope := match kDef with | .ClassDef _ _ _ _ _ _ sc _ _ _ _ => sc | _ => default
noncomputable def kPos : Pos := match kDef with | .ClassDef _ _ _ _ _ _ _ _ _ _ p => p | _ => default
noncomputable def kEnvB (env : Env) (nsA : Addr) (code : Value) (frame builtins : Addr) (cl : List (Str × Addr)) : Env :=
  { scope := kScope, locals := nsA, globals := env.globals, cells := cl, qual := Str.ofString "cmp_to_key.<locals>.K" ++ Str.ofString ".", code := code, frame := some frame, builtins := builtins }
theorem isT_obj : isType (.type "object") = pure true := by kernel_rfl!
theorem isT_type : isType (.type "type") = pure true := by kernel_rfl!
theorem sub_tt : isSubtype (.type "type") (.type "type") = pure true := by kernel_rfl!
theorem tof_obj : typeOf (.type "object") = pure (.type "type") := by kernel_rfl!
theorem for_pure {α β : Type} {M : Model} {A : Around} {E : Value → Shared → Prop} {s : Shared} {x : α} {b : β} {f : α → β → Sem (ForInStep β)} {Q : β → Shared → Prop} (h : wpAny M A (f x b) (fun r s' => match r with | .done b => Q b s' | .yield b => Q b s') E s) : wpAny M A (forIn [x] b f) Q E s := by
  rw [List.forIn_cons]
  refine wpAny_bind (wpAny_mono h (fun r s' h' => ?_) fun _ _ e => e)
  cases r with
  | done b => exact wpAny_pure h'
  | yield b => exact wpAny_pure h'
theorem dict_getitem : typeLookup (.type "dict") (Str.ofString "__getitem__") = pure (some (.builtin "dict.__getitem__")) := by rw [typeLookup_type, builtinLookup_eq_fast]; kernel_rfl
theorem entry_prepare : entryFor table "type.__prepare__" = some Builtin.«type.__prepare__» := entryFor_of_tree (by kernel_rfl)
theorem prep_check (a b : Value) : checkBoundCall "type.__prepare__" ⟨[.type "type", a, b], []⟩ = pure () := by kernel_rfl
theorem pcall_m {prog : Program} {w : World} {A : Around} {E : Value → Shared → Prop} {s : Shared} {a : Addr} {u v : Value} {Q : Value → Shared → Prop}
   (ha : s.heap.get? a = some ⟨.type "builtin_function_or_method", none, .fields #[.builtin "type.__prepare__", .type "type"], #[]⟩)
   (h : Q (.ref s.heap.objs.size) { s with heap := s.heap.push (kDict #[] 0) }) :
   wpAny (model prog w) A (call (.ref a) [u, v]) Q E s := by
  refine wpAny_call (codeAny_of_tree ?_)
  show wpAny _ _ (callAny (.ref a) _) _ _ _
  unfold callAny
  refine wpAny_bind (wpAny_load ha ?_)
  refine wpAny_ite_true (by decide +kernel) ?_
  refine wpAny_ite_true (by decide +kernel) ?_
  refine wpAny_bind (wpAny_of_eq (prep_check u v) ?_)
  refine wpAny_pure ⟨by kernel_rfl!, codeAny_builtin entry_prepare ?_⟩
  unfold Builtin.«type.__prepare__»
  exact wpAny_bind (wpAny_newObj_type (wpAny_pure h) (by size_fits))
theorem classCode_K {M : Model} {A : Around} {E : Value → Shared → Prop} {s : Shared} {env : Env} {c P : Addr} {pos : Pos} {fl : Nat} {name qual : Str} {sc : Scope} {Q : Value → Shared → Prop} (hc : env.code = .ref c) (C : CodeHd s.heap c P) (hP : s.heap.get? P = some (tabObj #[]))
    (h : ∀ c' P' h' tk', Heap.ExtBut P s.heap h' → s.heap.objs.size ≤ c' → s.heap.objs.size ≤ P' → CodeHd h' c' P' → h'.get? P' = some (tabObj #[]) → h'.get? P = some (tabObj #[rawInt pos.line, rawInt pos.col, .ref c']) →
      Q (.ref c') { s with heap := h', toks := tk' }) : wpAny M A (classCode env pos fl name qual sc) Q E s := by
  obtain ⟨o, vs, file, tf, flags, tg, inF, text, tt, ho, _, hd, h11, hv11, h18, h7, h9, h10, hne⟩ := id C
  unfold classCode codeAt
  rw [hc, if_neg (show ¬ ((Value.ref c == Value.none) = true) from Bool.false_ne_true)]
  refine wpAny_bind (wpAny_fieldsOf ho hd ?_)
  rw [hv11]
  refine wpAny_bind (wpAny_fieldsOf hP rfl ?_)
  rw [show codeAmong pos (#[] : Array Value).toList = none from rfl, h18, h7, h9, h10]
  refine wpAny_bind (wpAny_newCodeX fun c' P' h' tk hk hc' hP' hcode' htab' hrec' => ?_)
  have hop := hk _ _ hP
  refine wpAny_bind (wpAny_updateFieldsOfTheText hop rfl ?_)
  have hnew : (Obj.mapFields (fun vs => if (codeAmong pos vs.toList).isSome = true then vs else vs ++ #[rawInt pos.line, rawInt pos.col, .ref c']) (tabObj #[])) = tabObj #[rawInt pos.line, rawInt pos.col, .ref c'] := rfl
  have hget := Heap.get?_update_self (h := h') (fun o => Obj.mapFields (fun vs => if (codeAmong pos vs.toList).isSome = true then vs else vs ++ #[rawInt pos.line, rawInt pos.col, .ref c']) o) hop rfl
  rw [hnew] at hget
  refine wpAny_bind (wpAny_fieldsOf hget rfl ?_)
  have hl : codeAmong pos (#[rawInt pos.line, rawInt pos.col, Value.ref c'] : Array Value).toList = some (.ref c') := codeAmong_snoc [] (c := .ref c') trivial rfl
  rw [hl]
  have hcP : c' ≠ P := Nat.ne_of_gt (Nat.lt_of_lt_of_le (Heap.lt_size hP) hc')
  have hPP : P' ≠ P := Nat.ne_of_gt (Nat.lt_of_lt_of_le (Heap.lt_size hP) hP')
  have hs := Heap.SameBut.update (h := h') (a := P) (f := fun o => Obj.mapFields (fun vs => if (codeAmong pos vs.toList).isSome = true then vs else vs ++ #[rawInt pos.line, rawInt pos.col, .ref c']) o)
  exact wpAny_pure (h c' P' _ _ (fun b o' hb e => hs.extBut b o' hb (hk b o' e)) hc' hP' (codeHd_but (CodeHd.of hcode' htab') hs.extBut hcP) ((hs.2 _ hPP).trans htab'.2) hget)
end Mine
end

section
open PySem PySem.W PySem.W.X PyProof.Rows PySem.Calls
set_option Elab.async false
set_option maxRecDepth 100000
set_option maxHeartbeats 0
namespace Mine
theorem lnQ3 : True := by
  k_with_none
  trivial
noncomputable abbrev cEnv (N c f bt cell : Addr) : Env := { scope := kScope, locals := N, globals := mainGlobals, cells := [(Str.ofString "mycmp", cell)], qual := Str.ofString "cmp_to_key.<locals>.K" ++ Str.ofString ".", code := .ref c, frame := some f, builtins := bt }
noncomputable abbrev dEnt (n : String) (v : Value) (i : Int) (k : Tok) : DictEntry := ⟨i, .str (Str.ofString n) k, v⟩
noncomputable def defObj (j : Nat) (clos : List (Str × Addr)) (doc pm : Value) (c' : Addr) (ctv : Value) : Obj :=
  match kBody.getD j (.Pass default) with
  | .FunctionDef name params body _ _ _ scope _ _ _ => fnMade name (Str.ofString "cmp_to_key.<locals>.K" ++ Str.ofString "." ++ name) params body scope clos doc pm c' ctv
  | _ => tabObj #[]
noncomputable def defRow (j : Nat) (c' : Addr) : List Value :=
  match kBody.getD j (.Pass default) with
  | .FunctionDef _ _ _ _ _ _ _ _ _ pos => [rawInt pos.line, rawInt pos.col, .ref c']
  | _ => []
noncomputable abbrev kQual (n : String) : Str := Str.ofString "cmp_to_key.<locals>.K" ++ Str.ofString "." ++ Str.ofString n
section
variable {prog : Program} {w : World} {A : Around} {E : Value → Shared → Prop} {s : Shared} {h₀ : Heap} {L N c P : Addr} {m : Str → Option Value} {n : Nat} {news : List (Addr × Obj)} {p : Program} {loose : List Str} {mean : ExcName → Option Value} {mg mb : Str → Option Value} {f bt cell : Addr}
theorem class_body {Q : Flow → Shared → Prop} {v1 v2 v3 : Value} {i1 i2 i3 : Int} {k1 k2 k3 : Tok}
    (X : CB h₀ L s.heap m N c P #[dEnt "__module__" v1 i1 k1, dEnt "__qualname__" v2 i2 k2, dEnt "__firstlineno__" v3 i3 k3] n ([] : List Value).toArray news) (T : Top p loose mean mg mb h₀)
    (h : ∀ (t21 t24 : Tok) (sl : Addr) (i4 : Int) (k4 : Tok) (f5 c5 : Addr) (oc5 : Obj) (vs5 : Array Value) (tq5 : Tok) (ct5 dc5 : Value) (i5 : Int) (k5 : Tok) (f6 c6 : Addr) (oc6 : Obj) (vs6 : Array Value) (tq6 : Tok) (ct6 dc6 : Value) (i6 : Int) (k6 : Tok) (f7 c7 : Addr) (oc7 : Obj) (vs7 : Array Value) (tq7 : Tok) (ct7 dc7 : Value) (i7 : Int) (k7 : Tok) (f8 c8 : Addr) (oc8 : Obj) (vs8 : Array Value) (tq8 : Tok) (ct8 dc8 : Value) (i8 : Int) (k8 : Tok) (f9 c9 : Addr) (oc9 : Obj) (vs9 : Array Value) (tq9 : Tok) (ct9 dc9 : Value) (i9 : Int) (k9 : Tok) (f10 c10 : Addr) (oc10 : Obj) (vs10 : Array Value) (tq10 : Tok) (ct10 dc10 : Value) (i10 : Int) (k10 : Tok) (i11 : Int) (k11 : Tok) (h' : Heap) (tk' : Nat),
      CB h₀ L h' m N c P #[dEnt "__module__" (.str (Str.ofString "cpy313.functools") t21) i1 k1, dEnt "__qualname__" v2 i2 k2, dEnt "__firstlineno__" v3 i3 k3, dEnt "__slots__" (.ref sl) i4 k4, dEnt "__init__" (.ref f5) i5 k5, dEnt "__lt__" (.ref f6) i6 k6, dEnt "__gt__" (.ref f7) i7 k7, dEnt "__eq__" (.ref f8) i8 k8, dEnt "__le__" (.ref f9) i9 k9, dEnt "__ge__" (.ref f10) i10 k10, dEnt "__hash__" .none i11 k11] (n + 8) ([] ++ defRow 2 c5 ++ defRow 3 c6 ++ defRow 4 c7 ++ defRow 5 c8 ++ defRow 6 c9 ++ defRow 7 c10).toArray ((f10, defObj 7 [(Str.ofString "mycmp", cell)] dc10 ((mg (Str.ofString "__name__")).getD .none) c10 ct10) :: (c10, oc10) :: (f9, defObj 6 [(Str.ofString "mycmp", cell)] dc9 ((mg (Str.ofString "__name__")).getD .none) c9 ct9) :: (c9, oc9) :: (f8, defObj 5 [(Str.ofString "mycmp", cell)] dc8 ((mg (Str.ofString "__name__")).getD .none) c8 ct8) :: (c8, oc8) :: (f7, defObj 4 [(Str.ofString "mycmp", cell)] dc7 ((mg (Str.ofString "__name__")).getD .none) c7 ct7) :: (c7, oc7) :: (f6, defObj 3 [(Str.ofString "mycmp", cell)] dc6 ((mg (Str.ofString "__name__")).getD .none) c6 ct6) :: (c6, oc6) :: (f5, defObj 2 [] dc5 ((mg (Str.ofString "__name__")).getD .none) c5 ct5) :: (c5, oc5) :: (sl, ({ cls := .type "list", data := .seq #[.str (Str.ofString "obj") t24] } : Obj)) :: news) →
      (oc5.data = .fields vs5 ∧ oc5.cls = .type "code") → vs5[1]? = some (.str (kQual "__init__") tq5) → oc6.data = .fields vs6 → vs6[1]? = some (.str (kQual "__lt__") tq6) → (∀ q ∈ news, q.1 < c5 ∧ q.1 < c6) → c5 < f5 → c6 < f6 → Q .next { s with heap := h', toks := tk' }) :
    wpAny (model prog w) A (execs kBody (cEnv N c f bt cell)) Q E s := by
  refine wpAny_execs_cons (cconst (R := fun v => ∃ t, v = .str (Str.ofString "cpy313.functools") t) X (fun h => wpAny_mkText (h _ _ ⟨_, rfl⟩)) rfl (fun _ => by kernel_rfl!) (by kernel_rfl!) (es' := fun v _ _ => #[dEnt "__module__" v i1 k1, dEnt "__qualname__" v2 i2 k2, dEnt "__firstlineno__" v3 i3 k3]) (n' := n) (fun v i k => by kernel_rfl!) ?_)
  rintro v i k h1 t1 ⟨t21, rfl⟩ X1
  clear X
  dsimp only
  refine wpAny_execs_cons (wpAny_Assign_Name (wpAny_List ?_))
  refine spliced_cons (wpAny_mkText (x := Str.ofString "obj") (spliced_nil ⟨by show (1 : Nat) ≤ sizeLine; rw [sizeLine_eq]; decide, ?_⟩))
  dsimp only
  have X2 := CB.push (s := { s with heap := h1, toks := t1 + 1 }) X1 { cls := .type "list", data := .seq [Value.str (Str.ofString "obj") t1].toArray } rfl
  clear X1
  dsimp only at X2
  generalize hsl : h1.objs.size = sl at X2 ⊢
  clear hsl
  refine cstore (s := { s with heap := _, toks := t1 + 1 }) X2 rfl (by kernel_rfl!) (by kernel_rfl!) (es' := fun i k => #[dEnt "__module__" (.str (Str.ofString "cpy313.functools") t21) i1 k1, dEnt "__qualname__" v2 i2 k2, dEnt "__firstlineno__" v3 i3 k3, dEnt "__slots__" (.ref sl) i k]) (n' := n + 1) (fun i k => by kernel_rfl!) ?_
  intro i4 k4 h4 t4 X4
  clear X2
  dsimp only
  refine wpAny_execs_cons (cdef (clos := []) (s := { s with heap := h4, toks := t4 }) X4 T (by kernel_rfl!) rfl rfl (show TriplesOk [] from trivial) (by kernel_rfl!) rfl (fun _ => by kernel_rfl!) (by kernel_rfl!) (es' := fun v i k => #[dEnt "__module__" (.str (Str.ofString "cpy313.functools") t21) i1 k1, dEnt "__qualname__" v2 i2 k2, dEnt "__firstlineno__" v3 i3 k3, dEnt "__slots__" (.ref sl) i4 k4, dEnt "__init__" v i k]) (n' := n + 2) (fun v i k => by kernel_rfl!) rfl rfl (by kernel_rfl!) ?_)
  intro f5 c5 oc5 vs5 tq5 ct5 dc5 i5 k5 h5 t5 X5 hd5 hv5 tr5 lt5 lf5
  clear X4
  dsimp only
  refine wpAny_execs_cons (cdef (clos := [(Str.ofString "mycmp", cell)]) (s := { s with heap := h5, toks := t5 }) X5 T (by kernel_rfl!) rfl rfl tr5 (by kernel_rfl!) rfl (fun _ => by kernel_rfl!) (by kernel_rfl!) (es' := fun v i k => #[dEnt "__module__" (.str (Str.ofString "cpy313.functools") t21) i1 k1, dEnt "__qualname__" v2 i2 k2, dEnt "__firstlineno__" v3 i3 k3, dEnt "__slots__" (.ref sl) i4 k4, dEnt "__init__" (.ref f5) i5 k5, dEnt "__lt__" v i k]) (n' := n + 3) (fun v i k => by kernel_rfl!) rfl rfl (by kernel_rfl!) ?_)
  intro f6 c6 oc6 vs6 tq6 ct6 dc6 i6 k6 h6 t6 X6 hd6 hv6 tr6 lt6 lf6
  clear X5
  dsimp only
  refine wpAny_execs_cons (cdef (clos := [(Str.ofString "mycmp", cell)]) (s := { s with heap := h6, toks := t6 }) X6 T (by kernel_rfl!) rfl rfl tr6 (by kernel_rfl!) rfl (fun _ => by kernel_rfl!) (by kernel_rfl!) (es' := fun v i k => #[dEnt "__module__" (.str (Str.ofString "cpy313.functools") t21) i1 k1, dEnt "__qualname__" v2 i2 k2, dEnt "__firstlineno__" v3 i3 k3, dEnt "__slots__" (.ref sl) i4 k4, dEnt "__init__" (.ref f5) i5 k5, dEnt "__lt__" (.ref f6) i6 k6, dEnt "__gt__" v i k]) (n' := n + 4) (fun v i k => by kernel_rfl!) rfl rfl (by kernel_rfl!) ?_)
  intro f7 c7 oc7 vs7 tq7 ct7 dc7 i7 k7 h7 t7 X7 hd7 hv7 tr7 lt7 lf7
  clear X6
  dsimp only
  refine wpAny_execs_cons (cdef (clos := [(Str.ofString "mycmp", cell)]) (s := { s with heap := h7, toks := t7 }) X7 T (by kernel_rfl!) rfl rfl tr7 (by kernel_rfl!) rfl (fun _ => by kernel_rfl!) (by kernel_rfl!) (es' := fun v i k => #[dEnt "__module__" (.str (Str.ofString "cpy313.functools") t21) i1 k1, dEnt "__qualname__" v2 i2 k2, dEnt "__firstlineno__" v3 i3 k3, dEnt "__slots__" (.ref sl) i4 k4, dEnt "__init__" (.ref f5) i5 k5, dEnt "__lt__" (.ref f6) i6 k6, dEnt "__gt__" (.ref f7) i7 k7, dEnt "__eq__" v i k]) (n' := n + 5) (fun v i k => by kernel_rfl!) rfl rfl (by kernel_rfl!) ?_)
  intro f8 c8 oc8 vs8 tq8 ct8 dc8 i8 k8 h8 t8 X8 hd8 hv8 tr8 lt8 lf8
  clear X7
  dsimp only
  refine wpAny_execs_cons (cdef (clos := [(Str.ofString "mycmp", cell)]) (s := { s with heap := h8, toks := t8 }) X8 T (by kernel_rfl!) rfl rfl tr8 (by kernel_rfl!) rfl (fun _ => by kernel_rfl!) (by kernel_rfl!) (es' := fun v i k => #[dEnt "__module__" (.str (Str.ofString "cpy313.functools") t21) i1 k1, dEnt "__qualname__" v2 i2 k2, dEnt "__firstlineno__" v3 i3 k3, dEnt "__slots__" (.ref sl) i4 k4, dEnt "__init__" (.ref f5) i5 k5, dEnt "__lt__" (.ref f6) i6 k6, dEnt "__gt__" (.ref f7) i7 k7, dEnt "__eq__" (.ref f8) i8 k8, dEnt "__le__" v i k]) (n' := n + 6) (fun v i k => by kernel_rfl!) rfl rfl (by kernel_rfl!) ?_)
  intro f9 c9 oc9 vs9 tq9 ct9 dc9 i9 k9 h9 t9 X9 hd9 hv9 tr9 lt9 lf9
  clear X8
  dsimp only
  refine wpAny_execs_cons (cdef (clos := [(Str.ofString "mycmp", cell)]) (s := { s with heap := h9, toks := t9 }) X9 T (by kernel_rfl!) rfl rfl tr9 (by kernel_rfl!) rfl (fun _ => by kernel_rfl!) (by kernel_rfl!) (es' := fun v i k => #[dEnt "__module__" (.str (Str.ofString "cpy313.functools") t21) i1 k1, dEnt "__qualname__" v2 i2 k2, dEnt "__firstlineno__" v3 i3 k3, dEnt "__slots__" (.ref sl) i4 k4, dEnt "__init__" (.ref f5) i5 k5, dEnt "__lt__" (.ref f6) i6 k6, dEnt "__gt__" (.ref f7) i7 k7, dEnt "__eq__" (.ref f8) i8 k8, dEnt "__le__" (.ref f9) i9 k9, dEnt "__ge__" v i k]) (n' := n + 7) (fun v i k => by kernel_rfl!) rfl rfl (by kernel_rfl!) ?_)
  intro f10 c10 oc10 vs10 tq10 ct10 dc10 i10 k10 h10 t10 X10 hd10 hv10 tr10 lt10 lf10
  clear X9
  dsimp only
  refine wpAny_execs_cons (cconst (s := { s with heap := h10, toks := t10 }) (R := fun v => v = .none) X10 (fun h => wpAny_pure (h _ _ rfl)) rfl (fun _ => by kernel_rfl!) (by kernel_rfl!) (es' := fun v i k => #[dEnt "__module__" (.str (Str.ofString "cpy313.functools") t21) i1 k1, dEnt "__qualname__" v2 i2 k2, dEnt "__firstlineno__" v3 i3 k3, dEnt "__slots__" (.ref sl) i4 k4, dEnt "__init__" (.ref f5) i5 k5, dEnt "__lt__" (.ref f6) i6 k6, dEnt "__gt__" (.ref f7) i7 k7, dEnt "__eq__" (.ref f8) i8 k8, dEnt "__le__" (.ref f9) i9 k9, dEnt "__ge__" (.ref f10) i10 k10, dEnt "__hash__" v i k]) (n' := n + 8) (fun v i k => by kernel_rfl!) ?_)
  rintro v i11 k11 h11 t11 rfl X11
  clear X10
  refine wpAny_execs_nil ?_
  exact h t21 t1 sl i4 k4 f5 c5 oc5 vs5 tq5 ct5 dc5 i5 k5 f6 c6 oc6 vs6 tq6 ct6 dc6 i6 k6 f7 c7 oc7 vs7 tq7 ct7 dc7 i7 k7 f8 c8 oc8 vs8 tq8 ct8 dc8 i8 k8 f9 c9 oc9 vs9 tq9 ct9 dc9 i9 k9 f10 c10 oc10 vs10 tq10 ct10 dc10 i10 k10 i11 k11 h11 t11 X11 ⟨hd5.1, hd5.2 rfl⟩ hv5 hd6.1 hv6 (fun q hq => ⟨lt5 q (.tail _ hq), lt6 q (.tail _ (.tail _ (.tail _ hq)))⟩) lf5 lf6
end
end Mine
end

section
open PySem PySem.W PySem.W.X PyProof.Rows PySem.Calls
set_option Elab.async false
set_option maxRecDepth 100000
set_option maxHeartbeats 0
namespace Mine
theorem lnQ4 : True := by
  k_with_none
  trivial
theorem name_mg {w : World} {h : Heap} {mg : Str → Option Value} (X : (frag w.params).In h) (G : h.Ns mainGlobals mg) : ∃ v, mg (Str.ofString "__name__") = some v := by
  have e : (nsIn (frag w.params) mainGlobals (Str.ofString "__name__")).map Option.isSome = some true := by kernel_rfl!
  cases e1 : nsIn (frag w.params) mainGlobals (Str.ofString "__name__") with
  | none => rw [e1] at e; cases e
  | some r =>
    rw [e1] at e
    cases r with
    | none => cases e
    | some v => exact ⟨v, mg_of X G e1⟩
theorem ln_name {M : Model} {A : Around} {E : Value → Shared → Prop} {s : Shared} {N c f bt cell : Addr} {n : Nat} {mg : Str → Option Value} {v : Value} {Q : Value → Shared → Prop} (hN : s.heap.get? N = some (kDict #[] n)) (G : s.heap.Ns mainGlobals mg) (hv : mg (Str.ofString "__name__") = some v) (h : Q v s) :
    wpAny M A (loadName (cEnv N c f bt cell) (Str.ofString "__name__")) Q E s := by
  unfold loadName
  refine wpAny_ite_false (by kernel_rfl!) ?_
  have e : (cEnv N c f bt cell).blockKind = .class := by kernel_rfl!
  have e2 : (cEnv N c f bt cell).kindOf (Str.ofString "__name__") = none := by kernel_rfl!
  rw [e, e2]
  refine wpAny_ite_false (by kernel_rfl!) ?_
  unfold localGet
  refine wpAny_bind (wpAny_bind (wpAny_load hN ?_))
  rw [if_pos (by rfl)]
  refine wpAny_bind ?_
  refine wpAny_loadPart hN (wpAny_of_eq (a := none) (by kernel_rfl!) ?_)
  exact loadGlobal_global (env := cEnv N c f bt cell) G hv h
noncomputable def objFd (o : Obj) : FuncData := match o.data with | .func fd => fd | _ => default
noncomputable def kP (is : List Int) (ks : List Tok) (fs : List Addr) (fds : List Obj) (sl st bt : Addr) (tn : Tok) : KP := ⟨fun j => is.getD j 0, fun j => ks.getD j 0, fun j => fs.getD j 0, fun j => objFd (fds.getD j (tabObj #[])), fun _ => #[], sl, st, bt, tn⟩
noncomputable def FnIs (o : Obj) : Prop := o = ⟨.type "function", none, .func (objFd o), #[]⟩
theorem at_ns {h₀ h : Heap} {L : Addr} {l : List (Addr × Obj)} (N : News h₀ L h l) (i : Nat) {a : Addr} {o : Obj} (e : l[i]? = some (a, o)) : h.get? a = some o := (N _ (List.mem_of_getElem? e)).1
theorem ne_drop {h₀ h h' : Heap} {L : Addr} {l news new : List (Addr × Obj)} {q : Addr × Obj} (N : News h₀ L h l) (D : Mem h h' [] new) (hq : q ∈ new) (i : Nat) (e : l.drop i = news) : ∀ p ∈ news, p.1 ≠ q.1 :=
  fun p hp => mem_ne N D hq p (List.mem_of_mem_drop (by rw [e]; exact hp))
theorem build_c {w : World} {A : Around} {E : Value → Shared → Prop} {s : Shared} {h₀ : Heap} {L cell : Addr} {m : Str → Option Value} {news : List (Addr × Obj)} {loose : List Str} {mean : ExcName → Option Value} {mg mb : Str → Option Value} {p : Program} {env : Env} {Q : Value → Shared → Prop}
   (hd' : Nat.ble A.depth 920 = true) (hu' : Nat.ble A.units 9200 = true)
   (F : Fr h₀ L s.heap m) (N : News h₀ L s.heap ((23, tabObj #[]) :: news)) (T : Top p loose mean mg mb h₀) (X : (frag w.params).In h₀) (h23 : ∀ q ∈ news, q.1 ≠ 23)
   (eg : env.globals = mainGlobals) (eb : env.builtins = builtinsNs) (ec : env.code = .ref 27) (hcl : closureFor kScope env = pure [(Str.ofString "mycmp", cell)]) (C : CodeHd h₀ 27 23)
   (hq : ∀ (aK aN md : Addr) (P : KP) (i i2 : Int) (tk tk1 tk2 : Tok) (c1 c2 ck : Addr) (oc1 oc2 : Obj) (vs1 vs2 : Array Value) (tq1 tq2 : Tok) (d1 d2 ct1 ct2 : Value) (h' : Heap) (tk' : Nat), Fr h₀ L h' m →
      News h₀ L h' ((md, ⟨.type "member_descriptor", none, .fields #[.str (Str.ofString "obj") tk, .ref aK, .builtin "proto.slot", .builtin "proto.slot#set", .int 0 0], #[]⟩) ::
        (aK, kCls P aN [.ref aK, .type "object"] false [Str.ofString "obj"] #[some (.ref P.bt), none, some (.str (Str.ofString "K") P.tn), some (.str (Str.ofString "cmp_to_key.<locals>.K") (P.k 22)), some (.builtin "object.__new__"), some (.bool false)]) ::
        (aN, kDict (kE3 P md i i2 tk1 tk2) 3) :: (P.f 1, defObj 2 [] d1 ((mg (Str.ofString "__name__")).getD .none) c1 ct1) :: (c1, oc1) :: (P.f 2, defObj 3 [(Str.ofString "mycmp", cell)] d2 ((mg (Str.ofString "__name__")).getD .none) c2 ct2) :: (c2, oc2) :: (23, tabObj #[rawInt (kPos.line : Nat), rawInt (kPos.col : Nat), .ref ck]) :: news) →
      (oc1.data = .fields vs1 ∧ oc1.cls = .type "code") → vs1[1]? = some (.str (kQual "__init__") tq1) → oc2.data = .fields vs2 → vs2[1]? = some (.str (kQual "__lt__") tq2) → (∀ p ∈ news, p.1 ≠ md ∧ p.1 ≠ aK ∧ p.1 ≠ aN ∧ p.1 ≠ P.f 1 ∧ p.1 ≠ c1 ∧ p.1 ≠ P.f 2 ∧ p.1 ≠ c2) → Q (.ref aK) { s with heap := h', toks := tk' }) :
    wpAny (model PySem.Challenge.rw_in0152_01.row.prog w) A (buildClass (Str.ofString "K") (Str.ofString "cmp_to_key.<locals>.K") [.type "object"] [] kBody kScope [Str.ofString "obj"] kPos.line env kPos none) Q E s := by
  unfold buildClass
  refine wpAny_bind (wpAny_newTuple ?_)
  refine wpAny_bind ?_
  refine for_pure ?_
  refine wpAny_bind (wpAny_of_eq isT_obj ?_)
  refine wpAny_ite_true rfl ?_
  refine wpAny_ite_false (by decide) ?_
  refine wpAny_pure ?_
  refine wpAny_bind ?_
  refine wpAny_of_eq tof_obj ?_
  refine wpAny_bind (wpAny_of_eq isT_type ?_)
  refine wpAny_ite_true rfl ?_
  refine wpAny_bind (for_pure ?_)
  refine wpAny_bind (wpAny_of_eq tof_obj ?_)
  refine wpAny_bind (wpAny_of_eq sub_tt ?_)
  refine wpAny_ite_true rfl ?_
  refine wpAny_pure ?_
  dsimp only
  refine wpAny_bind (wpAny_mkText ?_)
  refine wpAny_ite_false (by decide) ?_
  refine wpAny_bind (wpAny_pure ?_)
  refine wpAny_holding ?_
  refine wpAny_bind ?_
  refine prep_m (h := s.heap.push _) (Nat.ble_eq.mpr (Nat.le_trans (Nat.le_of_ble_eq_true hd') (by decide))) (Nat.ble_eq.mpr (Nat.le_trans (Nat.le_of_ble_eq_true hu') (by decide))) fun f1 h1 t1 hf1 g1 => ?_
  dsimp only
  refine wpAny_bind ?_
  refine pcall_m (s := { s with heap := h1, toks := t1 }) hf1 ?_
  dsimp only
  refine wpAny_bind ?_
  have k1 : ∀ b o, s.heap.get? b = some o → h1.get? b = some o := fun b o e => g1 b o (Heap.get?_push_of_some _ e)
  have k2 : ∀ b o, s.heap.get? b = some o → (h1.push (kDict #[] 0)).get? b = some o := fun b o e => Heap.get?_push_of_some _ (k1 b o e)
  have hbt0 : h1.get? s.heap.objs.size = some { cls := .type "tuple", data := .seq #[.type "object"] } := g1 _ _ (Heap.get?_push_size _ rfl)
  have hlt : 1 < h1.objs.size := Nat.lt_trans (by decide) (Heap.Ns.lt ((T.g.keeps F.keep).keeps k1))
  have hLt : L < s.heap.objs.size := F.ns.lt
  have hLt1 : L < h1.objs.size := (F.ns.keeps k1).lt
  have hns1 : (h1.objs.size == sysModules) = false := by
    rw [beq_eq_false_iff_ne]; exact Nat.ne_of_gt hlt
  refine (show wpAny _ _ (if (h1.objs.size == sysModules) = true then _ else _) _ _ _ from ?_)
  refine wpAny_ite_false (by rw [hns1]; rfl) (wpAny_pure ?_)
  have hnsA := Heap.get?_push_size h1 (o := kDict #[] 0) rfl
  refine wpAny_bind (wpAny_specialOf (T := "dict") ⟨_, hnsA, rfl⟩ dict_getitem ?_)
  refine wpAny_ite_false (by decide) ?_
  refine wpAny_holding ?_
  refine wpAny_ite_false (by kernel_rfl!) ?_
  refine wpAny_bind (wpAny_pure ?_)
  refine wpAny_ite_false (by kernel_rfl!) ?_
  refine wpAny_bind (wpAny_pure ?_)
  have hP2 := k2 _ _ (N _ (.head _)).1
  refine wpAny_bind (classCode_K (c := 27) (P := 23) ec (C.keeps fun b o e => k2 b o (F.keep b o e)) hP2 fun ck Pk h3 t3 hx hck hPk Ck hPk3 h23' => ?_)
  dsimp only at hx hck hPk ⊢
  have k3 : ∀ b o, b ≠ 23 → s.heap.get? b = some o → h3.get? b = some o := fun b o hb e => hx b o hb (k2 b o e)
  have n23 := (N _ (.head _)).2
  have hsz3 : L < h1.objs.size + 1 := Nat.lt_succ_of_lt hLt1
  have h23s : 23 < s.heap.objs.size := Heap.lt_size (N _ (.head _)).1
  have hbt1 : s.heap.objs.size < h1.objs.size := Heap.lt_size hbt0
  have new : ∀ b, L < b → h₀.get? b = none := fun b hb => Heap.get?_none_of_le (Nat.le_trans F.above (Nat.le_of_lt hb))
  have X0 : CB h₀ L h3 m h1.objs.size ck Pk #[] 0 ([] : List Value).toArray ((23, tabObj #[rawInt (kPos.line : Nat), rawInt (kPos.col : Nat), .ref ck]) :: (s.heap.objs.size, { cls := .type "tuple", data := .seq #[.type "object"] }) :: news) := by
    rw [Heap.size_push] at hck hPk
    refine ⟨⟨(F.ns.keeps k2).extBut hx n23.1.symm, fun b o e => k3 b o (fun q => by rw [q, n23.2] at e; cases e) (F.keep b o e), F.above⟩, hx _ _ (Nat.ne_of_gt (Nat.lt_trans h23s hbt1)) hnsA, hPk3, Ck, Nat.ne_of_gt hck, Nat.ne_of_lt hPk,
      ⟨Nat.ne_of_gt hLt1, new _ hLt1⟩, ⟨Nat.ne_of_gt (Nat.lt_trans hLt1 hPk), new _ (Nat.lt_trans hLt1 hPk)⟩, fun q hq => ?_, fun q hq => ?_⟩
    · rcases List.mem_cons.mp hq with rfl | hq
      · exact ⟨h23', n23⟩
      · rcases List.mem_cons.mp hq with rfl | hq
        · exact ⟨hx _ _ (Nat.ne_of_gt h23s) (Heap.get?_push_of_some _ hbt0), Nat.ne_of_gt hLt, new _ hLt⟩
        · exact ⟨k3 _ _ (h23 q hq) (N _ (.tail _ hq)).1, (N _ (.tail _ hq)).2⟩
    · have lt2 : ∀ b, b < h1.objs.size → b ≠ h1.objs.size ∧ b ≠ Pk := fun b hb => ⟨Nat.ne_of_lt hb, Nat.ne_of_lt (Nat.lt_trans hb hPk)⟩
      rcases List.mem_cons.mp hq with rfl | hq
      · exact lt2 _ (Nat.lt_trans h23s hbt1)
      · rcases List.mem_cons.mp hq with rfl | hq
        · exact lt2 _ hbt1
        · exact lt2 _ (Nat.lt_trans (Heap.lt_size (N _ (.tail _ hq)).1) hbt1)
  obtain ⟨bm, ob, b1, b2, b3, b4, b5, b6⟩ := T.bmain
  have hg3 := T.g.keeps X0.F.keep
  rw [eg, eb]
  refine wpAny_bind (wpAny_builtinsFor hg3 b1 b2 (X0.F.keep _ _ b3) b4 b5 b6 ?_)
  refine wpAny_bind ?_
  unfold newBodyFrame
  refine wpAny_bind (wpAny_nsGet hg3 (wpAny_alloc ?_))
  have X1 := CB.push (s := { s with heap := h3, toks := t3 }) X0 { cls := .type "frame", slots := #[some (.ref ck), some (.ref mainGlobals), some (.ref h1.objs.size), none, some ((mg (Str.ofString "__name__")).getD .none), none, some (.ref builtinsNs)] } rfl
  dsimp only at X1
  refine wpAny_bind (wpAny_of_eq hcl ?_)
  simp only [Option.map_none, Option.toList_none, List.nil_append]
  refine wpAny_holding ?_
  obtain ⟨vn, hvn⟩ := name_mg X T.g
  refine wpAny_bind (wpAny_enterFrame (T.nolimit.keeps X1.F.keep) (Nat.lt_of_le_of_lt (Nat.le_of_ble_eq_true hd') (by decide)) ?_)
  refine wpAny_bind (wpAny_onRaise ?_)
  refine wpAny_bind (ln_name (f := h3.objs.size) (bt := builtinsNs) (cell := cell) (c := ck) X1.hN (T.g.keeps X1.F.keep) hvn ?_)
  generalize hA : h1.objs.size = nsA at *
  generalize hB : s.heap.objs.size = bt at *
  generalize hC : h3.objs.size = fr at X1 ⊢
  clear X0 hx hck hPk hPk3 h23' Ck hnsA hP2 k2 hf1 g1
  refine wpAny_bind (cstore (s := { s with heap := _, toks := t3 }) X1 rfl (by kernel_rfl!) (by kernel_rfl!) (es' := fun i k => #[dEnt "__module__" vn i k]) (n' := 1) (fun i k => by kernel_rfl!) ?_)
  intro i1 k1' h4 t4 X2
  clear X1
  dsimp only
  refine wpAny_bind (wpAny_mkText (wpAny_bind (cstore (s := { s with heap := h4, toks := t4 + 1 }) X2 rfl (by kernel_rfl!) (by kernel_rfl!) (es' := fun i k => #[dEnt "__module__" vn i1 k1', dEnt "__qualname__" (.str (Str.ofString "cmp_to_key.<locals>.K") t4) i k]) (n' := 2) (fun i k => by kernel_rfl!) ?_)))
  intro i2 k2' h5 t5 X3
  clear X2
  dsimp only
  refine wpAny_bind (wpAny_mkInt (wpAny_bind (cstore (s := { s with heap := h5, toks := t5 + 1 }) X3 rfl (by kernel_rfl!) (by kernel_rfl!) (es' := fun i k => #[dEnt "__module__" vn i1 k1', dEnt "__qualname__" (.str (Str.ofString "cmp_to_key.<locals>.K") t4) i2 k2', dEnt "__firstlineno__" (.int (kPos.line : Nat) t5) i k]) (n' := 3) (fun i k => by kernel_rfl!) ?_)))
  intro i3 k3' h6 t6 X4
  clear X3
  refine wpAny_pure ?_
  refine wpAny_bind (wpAny_run (codeAny_body (by kernel_rfl!) (by kernel_rfl!) ?_))
  refine class_body (s := { s with heap := h6, toks := t6 }) (f := fr) (bt := builtinsNs) (cell := cell) X4 T ?_
  intro t21 t24 sl i4 k4 f5 c5 oc5 vs5 tq5 ct5 dc5 i5 k5 f6 c6 oc6 vs6 tq6 ct6 dc6 i6 k6 f7 c7 oc7 vs7 tq7 ct7 dc7 i7 k7 f8 c8 oc8 vs8 tq8 ct8 dc8 i8 k8 f9 c9 oc9 vs9 tq9 ct9 dc9 i9 k9 f10 c10 oc10 vs10 tq10 ct10 dc10 i10 k10 i11 k11 h7 t7 X5 e1 e2 e3 e4 lts lf5 lf6
  clear X4
  dsimp only at X5 ⊢
  refine wpAny_bind (wpAny_onRaise ?_)
  rw [List.mapM_cons, List.mapM_nil]
  refine wpAny_bind (wpAny_bind (wpAny_mkText (wpAny_bind (wpAny_pure (wpAny_pure ?_)))))
  refine wpAny_bind (wpAny_newTextTuple ?_)
  have X6 := CB.push (s := { s with heap := h7, toks := t7 + 1 }) X5 { cls := .type "tuple", data := .seq #[.str (Str.ofString "obj") t7] } rfl
  dsimp only at X6 ⊢
  generalize hD : h7.objs.size = st at X6 ⊢
  clear X5
  refine wpAny_bind (cstore (s := { s with heap := _, toks := t7 + 1 }) X6 rfl (by kernel_rfl!) (by kernel_rfl!) (es' := fun i k => #[dEnt "__module__" (.str (Str.ofString "cpy313.functools") t21) i1 k1', dEnt "__qualname__" (.str (Str.ofString "cmp_to_key.<locals>.K") t4) i2 k2', dEnt "__firstlineno__" (.int (kPos.line : Nat) t5) i3 k3', dEnt "__slots__" (.ref sl) i4 k4,
    dEnt "__init__" (.ref f5) i5 k5, dEnt "__lt__" (.ref f6) i6 k6, dEnt "__gt__" (.ref f7) i7 k7, dEnt "__eq__" (.ref f8) i8 k8, dEnt "__le__" (.ref f9) i9 k9, dEnt "__ge__" (.ref f10) i10 k10, dEnt "__hash__" .none i11 k11, dEnt "__static_attributes__" (.ref st) i k]) (n' := 3 + 8 + 1) (fun i k => by kernel_rfl!) ?_)
  intro i12 k12 h8 t8 X7
  clear X6
  refine wpAny_pure ?_
  refine wpAny_ite_false (by decide) ?_
  refine wpAny_bind ?_
  let P : KP := kP [0, i1, i2, i3, i4, i5, i6, i7, i8, i9, i10, i11, i12] [0, k1', k2', k3', k4, k5, k6, k7, k8, k9, k10, k11, k12, 0, 0, 0, 0, 0, 0, 0, 0, t21, t4, t5, t24, t7] [0, f5, f6, f7, f8, f9, f10] [tabObj #[], defObj 2 [] dc5 ((mg (Str.ofString "__name__")).getD .none) c5 ct5, defObj 3 [(Str.ofString "mycmp", cell)] dc6 ((mg (Str.ofString "__name__")).getD .none) c6 ct6, defObj 4 [(Str.ofString "mycmp", cell)] dc7 ((mg (Str.ofString "__name__")).getD .none) c7 ct7, defObj 5 [(Str.ofString "mycmp", cell)] dc8 ((mg (Str.ofString "__name__")).getD .none) c8 ct8, defObj 6 [(Str.ofString "mycmp", cell)] dc9 ((mg (Str.ofString "__name__")).getD .none) c9 ct9, defObj 7 [(Str.ofString "mycmp", cell)] dc10 ((mg (Str.ofString "__name__")).getD .none) c10 ct10] sl st bt s.toks
  have hP : ∀ q ∈ [5, 6, 7, 8, 9, 10], True := fun _ _ => trivial
  have ns := X7.nw
  refine type_call _ w A _ _ h8 h8 s.gens s.drawn t8 s.os P nsA (3 + 8 + 1) 0 0 [] (Nat.ble_eq.mpr (Nat.le_trans (Nat.le_of_ble_eq_true hd') (by decide))) (Nat.ble_eq.mpr (Nat.le_trans (Nat.le_of_ble_eq_true hu') (by decide))) hns1 (X.keeps X7.F.keep) (Mem.start _) ?g1 ?g2 ?g3 ?g4 ?g5 ?g6 ?g7 ?g8 ?g9 ?g10 ?g11
  case g1 => exact at_ns ns 16 rfl
  case g2 => exact at_ns ns 13 rfl
  case g3 => exact at_ns ns 0 rfl
  case g4 => exact (at_ns ns 11 rfl).trans (congrArg some (show FnIs (defObj 2 _ _ _ _ _) from rfl))
  case g5 => exact (at_ns ns 9 rfl).trans (congrArg some (show FnIs (defObj 3 _ _ _ _ _) from rfl))
  case g6 => exact (at_ns ns 7 rfl).trans (congrArg some (show FnIs (defObj 4 _ _ _ _ _) from rfl))
  case g7 => exact (at_ns ns 5 rfl).trans (congrArg some (show FnIs (defObj 5 _ _ _ _ _) from rfl))
  case g8 => exact (at_ns ns 3 rfl).trans (congrArg some (show FnIs (defObj 6 _ _ _ _ _) from rfl))
  case g9 => exact (at_ns ns 1 rfl).trans (congrArg some (show FnIs (defObj 7 _ _ _ _ _) from rfl))
  case g10 => exact X7.hN.trans (congrArg some (by kernel_rfl!))
  case g11 =>
    intro aK aN md h' t' i i2 tk tk1 tk2 D
    have kp := mem_keep D
    refine wpAny_pure (hq aK aN md P i i2 tk tk1 tk2 c5 c6 ck oc5 oc6 vs5 vs6 tq5 tq6 dc5 dc6 ct5 ct6 h' t' (mem_fr X7.F D) ?_ e1 e2 e3 e4 ?_)
    · have N2 := mem_news X7.F ns D
      intro q hq
      revert q
      refine fa_cons (N2 _ (List.mem_of_getElem? (i := 0) rfl)) ?_
      refine fa_cons (N2 _ (List.mem_of_getElem? (i := 1) rfl)) ?_
      refine fa_cons (N2 _ (List.mem_of_getElem? (i := 2) rfl)) ?_
      refine fa_cons (N2 _ (List.mem_of_getElem? (i := 14) rfl)) ?_
      refine fa_cons (N2 _ (List.mem_of_getElem? (i := 15) rfl)) ?_
      refine fa_cons (N2 _ (List.mem_of_getElem? (i := 12) rfl)) ?_
      refine fa_cons (N2 _ (List.mem_of_getElem? (i := 13) rfl)) ?_
      refine fa_cons (N2 _ (List.mem_of_getElem? (i := 18) rfl)) ?_
      intro q hq
      · exact N2 _ (List.mem_append_right _ (List.mem_of_mem_drop (i := 17) hq))
    · intro q hq
      obtain ⟨l1, l2⟩ := lts q (.tail _ (.tail _ (.tail _ hq)))
      exact ⟨ne_drop ns D (.head _) 17 rfl q hq, ne_drop ns D (.tail _ (.head _)) 17 rfl q hq, ne_drop ns D (.tail _ (.tail _ (.head _))) 17 rfl q hq, Nat.ne_of_lt (Nat.lt_trans l1 lf5), Nat.ne_of_lt l1, Nat.ne_of_lt (Nat.lt_trans l2 lf6), Nat.ne_of_lt l2⟩
end Mine
end

section
open PySem PySem.W PySem.W.X PyProof.Rows PySem.Calls
set_option Elab.async false
set_option maxRecDepth 100000
set_option maxHeartbeats 0
namespace Mine
theorem lnQ5 : True := by
  k_with_none
  trivial
noncomputable def kFnScope : Scope := match Challenge.pw_in0152_01.main.body with | _ :: _ :: .FunctionDef _ _ _ _ _ _ sc _ _ _ :: _ => sc | _ => default
theorem wp_to {α : Type} {M : Model} {A : Around} {Q : α → Shared → Prop} {E : Value → Shared → Prop} {s : Shared} {t t' : Sem α} (e : t = t') (h : wpAny M A t' Q E s) : wpAny M A t Q E s := e ▸ h
inductive KObjs (pm : Value) (cell aK md aN f1 c1 f2 c2 : Addr) (omd oK oN o1 oc1 o2 oc2 : Obj) : Prop
  | mk (P : KP) (i i2 : Int) (tk tk1 tk2 : Tok) (vs1 vs2 : Array Value) (tq1 tq2 : Tok) (d1 d2 ct1 ct2 : Value) : (omd = ⟨.type "member_descriptor", none, .fields #[.str (Str.ofString "obj") tk, .ref aK, .builtin "proto.slot", .builtin "proto.slot#set", .int 0 0], #[]⟩) → (oK = kCls P aN [.ref aK, .type "object"] false [Str.ofString "obj"] #[some (.ref P.bt), none, some (.str (Str.ofString "K") P.tn), some (.str (Str.ofString "cmp_to_key.<locals>.K") (P.k 22)), some (.builtin "object.__new__"), some (.bool false)]) → (oN = kDict (kE3 P md i i2 tk1 tk2) 3) → (P.f 1 = f1) → (o1 = defObj 2 [] d1 pm c1 ct1) → (P.f 2 = f2) → (o2 = defObj 3 [(Str.ofString "mycmp", cell)] d2 pm c2 ct2) → ((oc1.data = .fields vs1 ∧ oc1.cls = .type "code")) → (vs1[1]? = some (.str (kQual "__init__") tq1)) → (oc2.data = .fields vs2) → (vs2[1]? = some (.str (kQual "__lt__") tq2)) → KObjs pm cell aK md aN f1 c1 f2 c2 omd oK oN o1 oc1 o2 oc2
theorem evalArgs_f {M : Model} {A : Around} {E : Value → Shared → Prop} {s : Shared} {f : Value} {x : Sem Value} {rest : List (Bool × Sem Value)} {Q : Args → Shared → Prop} (h : wpAny M A (spliced ((false, x) :: rest)) (fun vs s' => Q ⟨vs, []⟩ s') E s) : wpAny M A (evalArgs f false ((false, x) :: rest) []) Q E s := by
  unfold evalArgs
  show wpAny M A (spliced ((false, x) :: rest) >>= _) Q E s
  refine wpAny_bind (wpAny_mono h (fun vs s' h' => ?_) fun _ _ x => x)
  refine wpAny_holding ?_
  exact wpAny_bind (wpAny_pure (wpAny_bind (wpAny_pure (wpAny_pure h'))))
theorem mg_object {w : World} {h : Heap} {mg : Str → Option Value} (X : (frag w.params).In h) (G : h.Ns mainGlobals mg) : mg (Str.ofString "object") = none := mg_none_of X G (by kernel_rfl!)
theorem class_stmt {w : World} {A : Around} {E : Value → Shared → Prop} {s : Shared} {h₀ : Heap} {L : Addr} {m : Str → Option Value} {news : List (Addr × Obj)} {loose : List Str} {mean : ExcName → Option Value} {mg mb : Str → Option Value} {p : Program} {Q : Flow → Shared → Prop}
   (hd' : Nat.ble A.depth 920 = true) (hu' : Nat.ble A.units 9200 = true)
   (F : Fr h₀ L s.heap m) (N : News h₀ L s.heap ((23, tabObj #[]) :: news)) (T : Top p loose mean mg mb h₀) (X : (frag w.params).In h₀) (h23 : ∀ q ∈ news, q.1 ≠ 23)
   (C : CodeHd h₀ 27 23)
   (hq : ∀ (aK ck md aN f1 c1 f2 c2 : Addr) (omd oK oN o1 oc1 o2 oc2 : Obj) (h' : Heap) (tk' : Nat), Fr h₀ L h' m → News h₀ L h' ((md, omd) :: (aK, oK) :: (aN, oN) :: (f1, o1) :: (c1, oc1) :: (f2, o2) :: (c2, oc2) :: (23, tabObj #[rawInt (kPos.line : Nat), rawInt (kPos.col : Nat), .ref ck]) :: news) →
      KObjs ((mg (Str.ofString "__name__")).getD .none) (L + 1) aK md aN f1 c1 f2 c2 omd oK oN o1 oc1 o2 oc2 →
      wpAny (model PySem.Challenge.rw_in0152_01.row.prog w) A (storeName (envOfC (Str.ofString "cmp_to_key") kFnScope L 28 (.ref 27)) (Str.ofString "K") (.ref aK)) (fun _ s' => Q .next s') E { s with heap := h', toks := tk' }) :
    wpAny (model PySem.Challenge.rw_in0152_01.row.prog w) A (exec kDef (envOfC (Str.ofString "cmp_to_key") kFnScope L 28 (.ref 27))) Q E s := by
  refine wp_to (arm_exec_ClassDef _ _ _ _ _ _ _ _ _ _ _) ?_
  refine wpAny_bind (wpAny_pure ?_)
  refine wpAny_bind (wpAny_standAt ?_)
  refine wpAny_bind ?_
  unfold buildClassGuard
  refine wpAny_bind (wpAny_nsGet (T.b.keeps F.keep) ?_)
  rw [T.builtins _ (by decide +kernel), show bootBuiltins (Str.ofString "__build_class__") = some (.builtin "__build_class__") from by kernel_rfl!]
  refine wpAny_pure ?_
  refine wpAny_bind (wpAny_holding ?_)
  refine wpAny_bind ?_
  refine evalArgs_f ?_
  refine spliced_cons (wpAny_Name (x := Str.ofString "object") ?_)
  have e1 : ∀ {Q : Value → Shared → Prop}, Q (.type "object") s → wpAny (model PySem.Challenge.rw_in0152_01.row.prog w) A (loadName (envOfC (Str.ofString "cmp_to_key") kFnScope L 28 (.ref 27)) (Str.ofString "object")) Q E s := by
    intro Q h
    refine wp_to (t' := loadGlobal (envOfC (Str.ofString "cmp_to_key") kFnScope L 28 (.ref 27)) (Str.ofString "object")) (by kernel_rfl!) ?_
    exact loadGlobal_builtin (env := envOfC (Str.ofString "cmp_to_key") kFnScope L 28 (.ref 27)) (T.g.keeps F.keep) (mg_object X T.g) (T.b.keeps F.keep) (by rw [T.builtins _ (by decide +kernel)]; kernel_rfl!) h
  refine e1 ?_
  refine spliced_nil ?_
  refine wpAny_bind (wpAny_standAt ?_)
  refine wpAny_holding ?_
  have eq : qualnameIn (envOfC (Str.ofString "cmp_to_key") kFnScope L 28 (.ref 27)) (Str.ofString "K") (Str.ofString "K") = Str.ofString "cmp_to_key.<locals>.K" := by kernel_rfl!
  rw [eq]
  refine build_c (cell := L + 1) hd' hu' F N T X h23 rfl rfl rfl (by kernel_rfl!) C ?_
  intro aK aN md P i i2 tk tk1 tk2 c1 c2 ck oc1 oc2 vs1 vs2 tq1 tq2 d1 d2 ct1 ct2 h' tk' F' N' x1 x2 x3 x4 ap
  refine wpAny_bind (wpAny_pure (wpAny_bind (wpAny_standAt (wpAny_bind (wpAny_bindName ?_)))))
  refine wpAny_mono (hq aK ck md aN (P.f 1) c1 (P.f 2) c2 _ _ _ _ oc1 _ oc2 h' tk' F' N' ⟨P, i, i2, tk, tk1, tk2, vs1, vs2, tq1, tq2, d1, d2, ct1, ct2, rfl, rfl, rfl, rfl, rfl, rfl, rfl, x1, x2, x3, x4⟩) (fun _ s' h => wpAny_pure h) fun _ _ e => e
end Mine
end

section
open PySem PySem.W PySem.W.X PyProof.Rows PySem.Calls
set_option Elab.async false
set_option maxRecDepth 100000
set_option maxHeartbeats 0
namespace Mine
theorem lnQ6 : True := by
  k_with_none
  trivial
theorem code_27 {w : World} {h : Heap} (X : (frag w.params).In h) : CodeHd h 27 23 :=
  ⟨_, _, _, _, _, _, _, _, _, X 27 _ (rfl : (frag w.params).lookup 27 = some _), rfl, rfl, rfl, rfl, rfl, rfl, rfl, rfl, by decide⟩
theorem class_stmt3 {w : World} {A : Around} {E : Value → Shared → Prop} {s : Shared} {h₀ : Heap} {L b : Addr} {o oc : Obj} {m : Str → Option Value} {loose : List Str} {mean : ExcName → Option Value} {mg mb : Str → Option Value} {p : Program} {Q : Flow → Shared → Prop}
   (hd' : Nat.ble A.depth 920 = true) (hu' : Nat.ble A.units 9200 = true)
   (F : Fr h₀ L s.heap m) (N : News h₀ L s.heap [(L + 1, oc), (b, o), (23, tabObj #[])]) (T : Top p loose mean mg mb h₀) (X : (frag w.params).In h₀) (hb : b ≠ 23) (hlt : b < L ∧ 23 < L)
   (hq : ∀ (aK ck md aN f1 c1 f2 c2 : Addr) (omd oK oN o1 oc1 o2 oc2 : Obj) (h' : Heap) (tk' : Nat), Fr h₀ L h' m → News h₀ L h' [(md, omd), (aK, oK), (aN, oN), (f1, o1), (c1, oc1), (f2, o2), (c2, oc2), (L + 1, oc), (b, o), (23, tabObj #[rawInt (kPos.line : Nat), rawInt (kPos.col : Nat), .ref ck])] →
      KObjs ((mg (Str.ofString "__name__")).getD .none) (L + 1) aK md aN f1 c1 f2 c2 omd oK oN o1 oc1 o2 oc2 →
      wpAny (model PySem.Challenge.rw_in0152_01.row.prog w) A (storeName (envOfC (Str.ofString "cmp_to_key") kFnScope L 28 (.ref 27)) (Str.ofString "K") (.ref aK)) (fun _ s' => Q .next s') E { s with heap := h', toks := tk' }) :
    wpAny (model PySem.Challenge.rw_in0152_01.row.prog w) A (exec kDef (envOfC (Str.ofString "cmp_to_key") kFnScope L 28 (.ref 27))) Q E s := by
  refine class_stmt (news := [(L + 1, oc), (b, o)]) hd' hu' F (fun q hq => N q ?_) T X ?_ (code_27 X) (fun aK ck md aN f1 c1 f2 c2 omd oK oN o1 oc1 o2 oc2 h' tk' F' N' K => hq aK ck md aN f1 c1 f2 c2 omd oK oN o1 oc1 o2 oc2 h' tk' F' (fun q hq => N' q ?_) K)
  · simp only [List.mem_cons, List.not_mem_nil, or_false] at hq ⊢
    rcases hq with h | h | h <;> simp [h]
  · intro q hq
    simp only [List.mem_cons, List.not_mem_nil, or_false] at hq
    rcases hq with rfl | rfl
    · exact Nat.ne_of_gt (Nat.lt_succ_of_lt hlt.2)
    · exact hb
  · simp only [List.mem_cons, List.not_mem_nil, or_false] at hq ⊢
    rcases hq with h | h | h | h | h | h | h | h | h | h <;> simp [h]
theorem lnQ6_1 : True := by
  k_with_none
  k_with "zf" => (first | (k_here; k_fold; refine letA ?_; intro aX; (with_reducible rename Fr _ _ _ _ => kF); refine letM kF ?_; clear kF; intro mX kF) | (k_here; k_fold; refine letA ?_; intro aX) | (k_here; k_fold) | (k_here; with_reducible first | refine genT1 fun tk => ?_ | refine genT2 fun tk => ?_) | fail)
  k_with "execs cons" => (first | walk_at "zf" | fail)
  k_with "execs" => (first | walk_at "zf" | fail)
  k_with "execs nil" => (first | (k_here; with_reducible first | refine genT1 fun tk => ?_ | refine genT2 fun tk => ?_) | fail)
  k_with "k_ne" => (first | (refine neN ?_; first | (with_reducible first | assumption | exact Ne.symm (by assumption) | exact ca0 (by assumption) | exact cb0 (by assumption) | exact cc0 (by assumption) | exact cd0 (by assumption) | exact ca1 (by assumption) | exact cb1 (by assumption) | exact cc1 (by assumption) | exact cd1 (by assumption) | exact ca2 (by assumption) | exact cb2 (by assumption) | exact cc2 (by assumption) | exact cd2 (by assumption) | exact ca3 (by assumption) | exact cb3 (by assumption) | exact cc3 (by assumption) | exact cd3 (by assumption) | exact ca4 (by assumption) | exact cb4 (by assumption) | exact cc4 (by assumption) | exact cd4 (by assumption) | exact ca5 (by assumption) | exact cb5 (by assumption) | exact cc5 (by assumption) | exact cd5 (by assumption) | exact ca6 (by assumption) | exact cb6 (by assumption) | exact cc6 (by assumption) | exact cd6 (by assumption) | exact ca7 (by assumption) | exact cb7 (by assumption) | exact cc7 (by assumption) | exact cd7 (by assumption) | exact ca8 (by assumption) | exact cb8 (by assumption) | exact cc8 (by assumption) | exact cd8 (by assumption) | exact ca9 (by assumption) | exact cb9 (by assumption) | exact cc9 (by assumption) | exact cd9 (by assumption) | exact ca10 (by assumption) | exact cb10 (by assumption) | exact cc10 (by assumption) | exact cd10 (by assumption) | exact ca11 (by assumption) | exact cb11 (by assumption) | exact cc11 (by assumption) | exact cd11 (by assumption)) | (refine Nat.ne_of_lt (ltm (o := _) (by with_reducible assumption) ?_); k_mem; done) | (refine Nat.ne_of_gt (ltm (o := _) (by with_reducible assumption) ?_); k_mem; done) | ((try dsimp only); omega)) | fail)
  k_with "exec ClassDef" => (first | ((k_here; (k_dflt (refine' class_stmt3 ?k1 ?k2 ?F ?N ?T ?X ?h ?l ?_; (case F => k_asm); (case N => k_asm); (case T => k_asm); (case X => k_asm); (case h => with_reducible assumption); (case l => k_asm); (case k1 => exact rfl); (case k2 => exact rfl); (k_whole))); intro _ _ _ _ _ _ _ _ _ _ _ _ _ _ _ _ _ _ _ _)) | fail)
  trivial
inductive KMade (h₀ : Heap) (L : Addr) (pm : Value) (f : Addr) (h : Heap) (aK : Addr) : Prop
  | mk (cell md aN f1 c1 f2 c2 : Addr) (omd oK oN o1 oc1 o2 oc2 oc : Obj) : (News h₀ L h [(md, omd), (aK, oK), (aN, oN), (f1, o1), (c1, oc1), (f2, o2), (c2, oc2), (cell, oc)]) → (KObjs pm cell aK md aN f1 c1 f2 c2 omd oK oN o1 oc1 o2 oc2) → (oc.data = .cell (some (.ref f))) → KMade h₀ L pm f h aK
noncomputable def CQ (dp un : Nat) (w : World) (mean : ExcName → Option Value) (mg mb : Str → Option Value) (f : Addr) (led : List (Addr × Obj)) (ch : Addr → Prop) (vs : List Value) (P : Heap → Addr → Value → Heap → Prop) : Prop :=
  CC dp un w mean mg mb f led vs (fun Q h₀ L m s => (∃ q, News h₀ L s.heap [q] ∧ ¬ ch q.1) ∧ ∀ v h' tk', P h₀ L v h' → Fr h₀ L h' m → (∀ q, News h₀ L s.heap [q] → ¬ ch q.1 → News h₀ L h' [q]) → Q v { s with heap := h', toks := tk' })
theorem CQ.of {dp un : Nat} {w : World} {mean : ExcName → Option Value} {mg mb : Str → Option Value} {f : Addr} {led : List (Addr × Obj)} {ch : Addr → Prop} {vs : List Value} {P : Heap → Addr → Value → Heap → Prop}
    (c : ∀ b o, ¬ ch b → CC dp un w mean mg mb f ((b, o) :: led) vs (fun Q h₀ L m s => ∀ v h' tk', P h₀ L v h' → Fr h₀ L h' m → News h₀ L h' [(b, o)] → Q v { s with heap := h', toks := tk' })) : CQ dp un w mean mg mb f led ch vs P := by
  intro gd cn nm ig ic mo a ccd cl outer A₀ base h₀ L m s Q E B F X N T ⟨⟨q₀, hq₀⟩, r⟩
  have z := any_conj (ι := { q : Addr × Obj // News h₀ L s.heap [q] ∧ ¬ ch q.1 }) ⟨q₀, hq₀⟩
    (Q := fun i v s' => ∃ h' tk', s' = { s with heap := h', toks := tk' } ∧ P h₀ L v h' ∧ Fr h₀ L h' m ∧ News h₀ L h' [i.1]) (E := fun _ _ _ => False)
    (fun i => c i.1.1 i.1.2 i.2.2 gd cn nm ig ic mo a ccd cl outer A₀ base h₀ L m s _ _ B F X (fun p hp => by
      rcases List.mem_cons.mp hp with rfl | hp
      · exact i.2.1 _ (.head _)
      · exact N p hp) T fun v h' tk' hP F' N' => ⟨h', tk', rfl, hP, F', N'⟩)
  refine wpAny_mono z (fun v s' h => ?_) fun e _ f => (f ⟨q₀, hq₀⟩).elim
  obtain ⟨h', tk', rfl, hP, F', _⟩ := h ⟨q₀, hq₀⟩
  refine r v h' tk' hP F' fun q hq hn => ?_
  obtain ⟨h2, tk2, e, _, _, N2⟩ := h ⟨q, hq, hn⟩
  have e' : h' = h2 := congrArg Shared.heap e
  subst e'
  exact N2
theorem to_key_c (w : World) (mean : ExcName → Option Value) (mg mb : Str → Option Value) :
  CQ 750 7500 w mean mg mb 28 [(23, tabObj #[])] (fun b => b = 23) [.ref 273] (fun h₀ L v h' => ∃ aK, v = .ref aK ∧ KMade h₀ L ((mg (Str.ofString "__name__")).getD .none) 273 h' aK ∧ ∃ ps, News h₀ L h' [(23, tabObj ps)]) := by
  refine CQ.of fun b o hb => ?_
  unfold CC
  k_fill
  intro gd cn nm ig ic mo a ccd cl outer A₀ base h₀ L m s Q E B F X N T hret
  k_steps
  rename_i cellO hcell _ _ _ _ _ _ _ _ _ _ _ _ _ _ _ _ _ hK _ _ kF kN _ _
  refine hret _ _ _ ⟨_, rfl, ⟨_, _, _, _, _, _, _, _, _, _, _, _, _, _, cellO, fun q hq => kN q (List.mem_append_left (as := [_, _, _, _, _, _, _, _]) _ hq), hK, ?_⟩, _, fun q hq => kN q (by rw [List.mem_singleton.mp hq]; exact List.mem_of_getElem? (i := 9) rfl)⟩ kF (fun q hq => kN q ?_)
  · rw [hcell]
    kernel_rfl!
  · rw [List.mem_singleton.mp hq]
    exact List.mem_of_getElem? (i := 8) rfl
end Mine
end

section
open PySem PySem.W PySem.W.X PyProof.Rows PySem.Calls
set_option Elab.async false
set_option maxRecDepth 100000
set_option maxHeartbeats 0
set_option linter.unusedVariables false
namespace Mine
theorem lnR1 : True := by
  k_with_none
  trivial
theorem lnR1_1 : True := by
  k_with_none
  k_with "x_close" => (first | ((refine ⟨_, _, rfl, Mem.at (by assumption) 1 _ _ rfl, (Mem.nw (by assumption) _ (.tail _ (.head _))).2, Mem.at (by assumption) 2 _ _ rfl, (Mem.nw (by assumption) _ (.tail _ (.tail _ (.head _)))).2, _, _, rfl, ?_⟩; exact fun b o e => Mem.keep (by assumption) b o e (Bool.or_true _))) | fail)
  trivial
noncomputable def iniFd (qn : Str) (q1 q2 q3 q4 q5 q6 : Pos) (d1 pm : Value) (c1 : Addr) (ct1 : Value) : FuncData := ⟨Str.ofString "__init__", qn, ⟨[], [⟨Str.ofString "self", none, q1⟩, ⟨Str.ofString "obj", none, q2⟩], none, [], [], none, []⟩, .stmts [.Assign [.Attribute (.Name (Str.ofString "self") q3) (Str.ofString "obj") q4] (.Name (Str.ofString "obj") q5) q6], { kind := .function, names := [(Str.ofString "self", .local), (Str.ofString "obj", .local)], isGenerator := false, isCoroutine := false }, 3, [], .none, .none, d1, pm, none, .ref c1, ct1, 0⟩
theorem ini_is (d1 pm : Value) (c1 : Addr) (ct1 : Value) : ∃ q1 q2 q3 q4 q5 q6, defObj 2 [] d1 pm c1 ct1 = ⟨.type "function", none, .func (iniFd (kQual "__init__") q1 q2 q3 q4 q5 q6 d1 pm c1 ct1), #[]⟩ := ⟨_, _, _, _, _, _, rfl⟩
theorem new_x (prog : Program) (w : World) (A : Around) (s : Shared) (aK aN md bt f1 f2 f3 f4 f5 f6 a3 a11 : Addr) (j1 j2 j3 j4 j5 j6 j7 j8 j9 j10 j11 j12 j13 : Int) (k1 k2 k3 k4 k5 k6 k7 k8 k9 k10 k11 k12 k13 tk u1 u2 u3 u4 : Tok) (c1 : Addr) (p : Str) (t : Tok) (qn : Str) (q1 q2 q3 q4 q5 q6 : Pos) (tq1 : Tok) (d1 ct1 pm : Value) (v0 : Value) (rest : List Value) (oc1d : Option Addr) (oc1s : Array (Option Value)) (X : (frag w.params).In s.heap)
   (hmd : s.heap.get? md = some ⟨.type "member_descriptor", none, .fields #[.str (Str.ofString "obj") tk, .ref aK, .builtin "proto.slot", .builtin "proto.slot#set", .int 0 0], #[]⟩)
   (hK : s.heap.get? aK = some ⟨.type "type", none, .cls { name := Str.ofString "K", bases := [.type "object"], mro := [.ref aK, .type "object"], ns := aN, qualname := Str.ofString "cmp_to_key.<locals>.K", hasDict := false, slotNames := [Str.ofString "obj"] }, #[some (.ref bt), none, some (.str (Str.ofString "K") u3), some (.str (Str.ofString "cmp_to_key.<locals>.K") u4), some (.builtin "object.__new__"), some (.bool false)]⟩)
   (hN : s.heap.get? aN = some ⟨.type "dict", none, .dict #[⟨j1, .str (Str.ofString "__module__") k1, (.str (Str.ofString "cpy313.functools") u1)⟩, ⟨j2, .str (Str.ofString "__firstlineno__") k2, (.int 7 u2)⟩, ⟨j3, .str (Str.ofString "__slots__") k3, (.ref a3)⟩, ⟨j4, .str (Str.ofString "__init__") k4, (.ref f1)⟩, ⟨j5, .str (Str.ofString "__lt__") k5, (.ref f2)⟩, ⟨j6, .str (Str.ofString "__gt__") k6, (.ref f3)⟩, ⟨j7, .str (Str.ofString "__eq__") k7, (.ref f4)⟩, ⟨j8, .str (Str.ofString "__le__") k8, (.ref f5)⟩, ⟨j9, .str (Str.ofString "__ge__") k9, (.ref f6)⟩, ⟨j10, .str (Str.ofString "__hash__") k10, .none⟩, ⟨j11, .str (Str.ofString "__static_attributes__") k11, (.ref a11)⟩, ⟨j12, .str (Str.ofString "obj") k12, (.ref md)⟩, ⟨j13, .str (Str.ofString "__doc__") k13, .none⟩] 3, #[]⟩)
   (h1 : s.heap.get? f1 = some ⟨.type "function", none, .func (iniFd qn q1 q2 q3 q4 q5 q6 d1 pm c1 ct1), #[]⟩)
   (hc1 : s.heap.get? c1 = some ⟨.type "code", oc1d, .fields ⟨v0 :: .str qn tq1 :: rest⟩, oc1s⟩) :
   wpAny (model prog w) (AX A) (call (.ref aK) [.str p t]) (fun v s' => ∃ x d, v = .ref x ∧ s'.heap.get? x = some ⟨.ref aK, some d, .plain, #[some (.str p t)]⟩ ∧ s.heap.get? x = none ∧ s'.heap.get? d = some (kDict #[] 0) ∧ s.heap.get? d = none ∧ Grew s s') (fun _ _ => False) s := by
  x_run
theorem lnR1_2 : True := by
  k_with "x_close" => (first | ((refine ⟨rfl, _, _, rfl, ?_⟩; first | exact fun b o e => e | exact fun b o e => Mem.keep (by assumption) b o e (Bool.or_true _))) | fail)
  trivial
theorem get_x (prog : Program) (w : World) (A : Around) (s : Shared) (aK aN md bt f1 f2 f3 f4 f5 f6 a3 a11 : Addr) (j1 j2 j3 j4 j5 j6 j7 j8 j9 j10 j11 j12 j13 : Int) (k1 k2 k3 k4 k5 k6 k7 k8 k9 k10 k11 k12 k13 tk u1 u2 u3 u4 : Tok) (x dx : Addr) (p : Str) (t tn : Tok) (X : (frag w.params).In s.heap)
   (hmd : s.heap.get? md = some ⟨.type "member_descriptor", none, .fields #[.str (Str.ofString "obj") tk, .ref aK, .builtin "proto.slot", .builtin "proto.slot#set", .int 0 0], #[]⟩)
   (hK : s.heap.get? aK = some ⟨.type "type", none, .cls { name := Str.ofString "K", bases := [.type "object"], mro := [.ref aK, .type "object"], ns := aN, qualname := Str.ofString "cmp_to_key.<locals>.K", hasDict := false, slotNames := [Str.ofString "obj"] }, #[some (.ref bt), none, some (.str (Str.ofString "K") u3), some (.str (Str.ofString "cmp_to_key.<locals>.K") u4), some (.builtin "object.__new__"), some (.bool false)]⟩)
   (hN : s.heap.get? aN = some ⟨.type "dict", none, .dict #[⟨j1, .str (Str.ofString "__module__") k1, (.str (Str.ofString "cpy313.functools") u1)⟩, ⟨j2, .str (Str.ofString "__firstlineno__") k2, (.int 7 u2)⟩, ⟨j3, .str (Str.ofString "__slots__") k3, (.ref a3)⟩, ⟨j4, .str (Str.ofString "__init__") k4, (.ref f1)⟩, ⟨j5, .str (Str.ofString "__lt__") k5, (.ref f2)⟩, ⟨j6, .str (Str.ofString "__gt__") k6, (.ref f3)⟩, ⟨j7, .str (Str.ofString "__eq__") k7, (.ref f4)⟩, ⟨j8, .str (Str.ofString "__le__") k8, (.ref f5)⟩, ⟨j9, .str (Str.ofString "__ge__") k9, (.ref f6)⟩, ⟨j10, .str (Str.ofString "__hash__") k10, .none⟩, ⟨j11, .str (Str.ofString "__static_attributes__") k11, (.ref a11)⟩, ⟨j12, .str (Str.ofString "obj") k12, (.ref md)⟩, ⟨j13, .str (Str.ofString "__doc__") k13, .none⟩] 3, #[]⟩)
   (hx : s.heap.get? x = some ⟨.ref aK, some dx, .plain, #[some (.str p t)]⟩) :
   wpAny (model prog w) (AX A) (runValue (.builtin "proto.getattr_hooked" ⟨[.ref x, .str (Str.ofString "obj") tn], []⟩)) (fun v s' => v = .str p t ∧ Grew s s') (fun _ _ => False) s := by
  x_run
end Mine
end

section
open PySem PySem.W PySem.W.X PyProof.Rows PySem.Calls
set_option Elab.async false
set_option maxRecDepth 100000
set_option maxHeartbeats 0
namespace Mine
theorem lnR2 : True := by
  k_with_none
  trivial
noncomputable abbrev kInst (aK d : Addr) (p : Str) (t : Tok) : Obj := ⟨.ref aK, some d, .plain, #[some (.str p t)]⟩
section
variable {prog : Program} {w : World} {A : Around} {E : Value → Shared → Prop} {s : Shared}
theorem attr_m {Q : Value → Shared → Prop} {pm : Value} {cell aK md aN f1 c1 f2 c2 x dx : Addr} {omd oK oN o1 oc1 o2 oc2 : Obj} {p : Str} {t : Tok} (X : (frag w.params).In s.heap) (K : KObjs pm cell aK md aN f1 c1 f2 c2 omd oK oN o1 oc1 o2 oc2)
   (hmd : s.heap.get? md = some omd) (hK : s.heap.get? aK = some oK) (hN : s.heap.get? aN = some oN) (hx : s.heap.get? x = some (kInst aK dx p t)) (hd' : Nat.ble A.depth 950 = true) (hu' : Nat.ble A.units 9500 = true)
   (hq : ∀ h' t', Grow s.heap h' → Q (.str p t) { s with heap := h', toks := t' }) : wpAny (model prog w) A (getAttr (.ref x) (Str.ofString "obj") true) Q E s := by
  obtain ⟨P, i, i2, tk, tk1, tk2, vs1, vs2, tq1, tq2, d1, d2, ct1, ct2, rfl, rfl, rfl, _⟩ := K
  unfold getAttr getAttrBy
  refine wpAny_bind (wpAny_mkText (wpAny_holding (wpAny_bind ?_)))
  refine (show wpAny _ _ (typeOf (.ref x)) _ _ _ from ?_)
  unfold typeOf
  refine wpAny_bind (wpAny_load hx (wpAny_pure ?_))
  refine wpAny_bind (tl_obj (P := P) hK hN (by kernel_rfl!) rfl ?_)
  rw [show builtinOwn "object" (Str.ofString "__getattribute__") = some (.builtin "object.__getattribute__") from by kernel_rfl!]
  refine wpAny_ite_true (by kernel_rfl!) ?_
  unfold getAttrEveryday
  refine wpAny_bind (wpAny_onRaise ?_)
  refine in_AX (wpAny_mono (get_x prog w A _ aK aN md P.bt (P.f 1) (P.f 2) (P.f 3) (P.f 4) (P.f 5) (P.f 6) P.sl P.st (P.i 1) (P.i 3) (P.i 4) (P.i 5) (P.i 6) (P.i 7) (P.i 8) (P.i 9) (P.i 10) (P.i 11) (P.i 12) i i2 (P.k 1) (P.k 3) (P.k 4) (P.k 5) (P.k 6) (P.k 7) (P.k 8) (P.k 9) (P.k 10) (P.k 11) (P.k 12) tk1 tk2 tk (P.k 21) (P.k 23) P.tn (P.k 22) x dx p t _ X hmd hK hN hx) (fun r s' ⟨e, h', t', es, gr⟩ => ?_) fun _ _ f => f.elim) hd' hu'
  subst e es
  exact wpAny_pure (hq _ _ gr)
theorem attr_K {h₀ : Heap} {L : Addr} {m : Str → Option Value} {news : List (Addr × Obj)} {Q : Value → Shared → Prop} {pm : Value} {cell aK md aN f1 c1 f2 c2 x dx : Addr} {omd oK oN o1 oc1 o2 oc2 : Obj} {p : Str} {t : Tok} (F : Fr h₀ L s.heap m) (N : News h₀ L s.heap news) (X : (frag w.params).In h₀) (K : KObjs pm cell aK md aN f1 c1 f2 c2 omd oK oN o1 oc1 o2 oc2)
   (m1 : (md, omd) ∈ news) (m2 : (aK, oK) ∈ news) (m3 : (aN, oN) ∈ news) (m4 : (x, kInst aK dx p t) ∈ news) (hd' : Nat.ble A.depth 950 = true) (hu' : Nat.ble A.units 9500 = true)
   (hq : ∀ h' t', Fr h₀ L h' m → News h₀ L h' news → Q (.str p t) { s with heap := h', toks := t' }) : wpAny (model prog w) A (getAttr (.ref x) (Str.ofString "obj") true) Q E s :=
  attr_m (X.keeps F.keep) K (N _ m1).1 (N _ m2).1 (N _ m3).1 (N _ m4).1 hd' hu' fun h' t' g => hq h' t' (F.keeps g) (N.grown g)
end
theorem cmp_use {w : World} {mean : ExcName → Option Value} {mg mb : Str → Option Value} {p q : Str} {t u : Tok} {news : List (Addr × Obj)}
    {A A₀ : Around} {cn : Str} {nm : List (Str × NameKind)} {ig ic : Bool} {mo : List (Str × Const)} {a : Addr} {ccd : Value} {cl : List (Str × Addr)} {outer : List Env} {base h₀ : Heap} {L : Addr} {m : Str → Option Value} {s : Shared} {Q E : Value → Shared → Prop}
    (B : Below A₀ base outer h₀) (F : Fr h₀ L s.heap m) (X : (frag w.params).In h₀) (N : News h₀ L s.heap news) (T : Top topProg LO mean mg mb h₀) (hh : A.handled = none)
    (hf : A.frames = some (envX cn { kind := .function, names := nm, isGenerator := ig, isCoroutine := ic, more := mo } L a ccd cl :: outer)) (hd' : Nat.ble A.depth 750 = true) (hu : Nat.ble A.units 7500 = true)
    (hn : news ≠ []) (hp : Good p) (hq : Good q)
    (r : ∀ tk h' tk', Fr h₀ L h' m → News h₀ L h' news → Q (.int (cmpF p q) tk) { s with heap := h', toks := tk' }) : wpAny (model PySem.Challenge.rw_in0152_01.row.prog w) A (call (.ref 273) [.str p t, .str q u]) Q E s :=
  CP.use (compared_c w mean mg mb p q t u hp hq) B F X N T hh hf hd' hu hn (List.forall_mem_nil _) fun v h' tk' ⟨tk, e⟩ F' N' => by
    subst e
    exact r tk h' tk' F' N'
theorem lnR2_1 : True := by
  k_with_none
  k_with "zf" => (first | (k_here; k_fold; refine letA ?_; intro aX; (with_reducible rename Fr _ _ _ _ => kF); refine letM kF ?_; clear kF; intro mX kF) | (k_here; k_fold; refine letA ?_; intro aX) | (k_here; k_fold) | (k_here; with_reducible first | refine genT1 fun tk => ?_ | refine genT2 fun tk => ?_) | fail)
  k_with "execs cons" => (first | walk_at "zf" | fail)
  k_with "execs" => (first | walk_at "zf" | fail)
  k_with "execs nil" => (first | (k_here; with_reducible first | refine genT1 fun tk => ?_ | refine genT2 fun tk => ?_) | fail)
  k_with "k_ne" => (first | (refine neN ?_; first | (with_reducible first | assumption | exact Ne.symm (by assumption) | exact ca0 (by assumption) | exact cb0 (by assumption) | exact cc0 (by assumption) | exact cd0 (by assumption) | exact ca1 (by assumption) | exact cb1 (by assumption) | exact cc1 (by assumption) | exact cd1 (by assumption) | exact ca2 (by assumption) | exact cb2 (by assumption) | exact cc2 (by assumption) | exact cd2 (by assumption) | exact ca3 (by assumption) | exact cb3 (by assumption) | exact cc3 (by assumption) | exact cd3 (by assumption) | exact ca4 (by assumption) | exact cb4 (by assumption) | exact cc4 (by assumption) | exact cd4 (by assumption) | exact ca5 (by assumption) | exact cb5 (by assumption) | exact cc5 (by assumption) | exact cd5 (by assumption) | exact ca6 (by assumption) | exact cb6 (by assumption) | exact cc6 (by assumption) | exact cd6 (by assumption) | exact ca7 (by assumption) | exact cb7 (by assumption) | exact cc7 (by assumption) | exact cd7 (by assumption) | exact ca8 (by assumption) | exact cb8 (by assumption) | exact cc8 (by assumption) | exact cd8 (by assumption) | exact ca9 (by assumption) | exact cb9 (by assumption) | exact cc9 (by assumption) | exact cd9 (by assumption) | exact ca10 (by assumption) | exact cb10 (by assumption) | exact cc10 (by assumption) | exact cd10 (by assumption) | exact ca11 (by assumption) | exact cb11 (by assumption) | exact cc11 (by assumption) | exact cd11 (by assumption)) | (refine Nat.ne_of_lt (ltm (o := _) (by with_reducible assumption) ?_); k_mem; done) | (refine Nat.ne_of_gt (ltm (o := _) (by with_reducible assumption) ?_); k_mem; done) | ((try dsimp only); omega)) | fail)
  k_with "getAttr" => (first | ((k_here; (with_reducible show wpAny _ _ (getAttr (Value.ref _) _ true) _ _ _); (k_dflt (refine' attr_K ?F ?N ?X ?K ?m1 ?m2 ?m3 ?m4 ?k6 ?k7 ?_; (case F => k_asm); (case N => k_asm); (case X => k_asm); (case m4 => k_mem); (case K => with_reducible assumption); (case m1 => k_mem); (case m2 => k_mem); (case m3 => k_mem); (case k6 => exact rfl); (case k7 => exact rfl); k_whole)); intro _ _ _ _)) | fail)
  trivial
theorem lnR2_2 : True := by
  k_with "call ref" => (first | ((k_here; (with_reducible show wpAny _ _ (call (Value.ref 273) _) _ _ _); (k_dflt (refine' cmp_use ?k1 ?k2 ?k3 ?k4 ?k5 ?k6 ?k7 ?k8 ?k9 ?km ?ka ?kb ?_; (case k2 => k_asm); (case k1 => k_asm); (case k3 => k_asm); (case k4 => k_asm); (case k5 => k_asm); (case km => exact List.cons_ne_nil _ _); (case k6 => exact rfl); (case k7 => exact rfl); (case k8 => exact rfl); (case k9 => exact rfl); (case ka => with_reducible assumption); (case kb => with_reducible assumption); k_whole)); intro _ _ _ _ _)) | fail)
  trivial
theorem lt_c (w : World) (mean : ExcName → Option Value) (mg mb : Str → Option Value) (p q : Str) (t u : Tok) (hp : Good p) (hq : Good q) (b : Addr) (o : Obj)
   (x y dx dy md aK aN f1 c1 f2 c2 cell : Addr) (omd oK oN o1 oc1 oc2 oc : Obj) (d2 pm ct2 : Value) (vs2 : Array Value) (tq2 : Tok) (hd2 : oc2.data = .fields vs2) (hv2 : vs2[1]? = some (.str (kQual "__lt__") tq2)) (hoc : oc.data = .cell (some (.ref 273)))
   (hK : KObjs pm cell aK md aN f1 c1 f2 c2 omd oK oN o1 oc1 (defObj 3 [(Str.ofString "mycmp", cell)] d2 pm c2 ct2) oc2) :
  CC 700 7000 w mean mg mb f2 [(b, o), (x, kInst aK dx p t), (y, kInst aK dy q u), (f2, defObj 3 [(Str.ofString "mycmp", cell)] d2 pm c2 ct2), (c2, oc2), (cell, oc), (md, omd), (aK, oK), (aN, oN)] [.ref x, .ref y]
   (fun Q h₀ L m s => ∀ v h' tk', v = .bool (decide (cmpF p q < 0)) → Fr h₀ L h' m → News h₀ L h' [(b, o)] → Q v { s with heap := h', toks := tk' }) := by
  revert hK
  obtain ⟨z, hz, hz2⟩ : ∃ z, z = defObj 3 [(Str.ofString "mycmp", cell)] d2 pm c2 ct2 ∧ defObj 3 [(Str.ofString "mycmp", cell)] d2 pm c2 ct2 = z := ⟨_, rfl, rfl⟩
  conv at hz => rhs; whnf
  rw [hz2, hz]
  clear hz hz2
  intro hK
  have hpl := hp.len
  unfold CC
  k_fill
  intro gd cn nm ig ic mo a ccd cl outer A₀ base h₀ L m s Q E B F X N T hret
  have C27 := code_27 X
  k_steps
  all_goals (refine hret _ _ _ rfl (by k_asm) ?_; first | k_asm | (refine' cb_drop ?cbN ?cbS; (case cbN => assumption); (case cbS => kcj_all)))
theorem lt_p (w : World) (mean : ExcName → Option Value) (mg mb : Str → Option Value) (p q : Str) (t u : Tok) (hp : Good p) (hq : Good q)
   (x y dx dy md aK aN f1 c1 f2 c2 cell : Addr) (omd oK oN o1 oc1 o2 oc2 oc : Obj) (pm : Value) (hoc : oc.data = .cell (some (.ref 273)))
   (hK : KObjs pm cell aK md aN f1 c1 f2 c2 omd oK oN o1 oc1 o2 oc2) :
  CP 700 7000 w mean mg mb f2 [(x, kInst aK dx p t), (y, kInst aK dy q u), (f2, o2), (c2, oc2), (cell, oc), (md, omd), (aK, oK), (aN, oN)] [.ref x, .ref y] (fun v => v = .bool (decide (cmpF p q < 0))) := by
  have hK' := hK
  obtain ⟨P, i, i2, tk, tk1, tk2, vs1, vs2, tq1, tq2, d1, d2, ct1, ct2, _, _, _, _, _, _, rfl, _, _, hd2, hv2⟩ := hK'
  exact CP.of fun b o => lt_c w mean mg mb p q t u hp hq b o x y dx dy md aK aN f1 c1 f2 c2 cell omd oK oN o1 oc1 oc2 oc d2 pm ct2 vs2 tq2 hd2 hv2 hoc hK
end Mine
end

section
open PySem PySem.W PySem.W.X PyProof.Rows PySem.Calls
set_option Elab.async false
set_option maxRecDepth 100000
set_option maxHeartbeats 4000000
set_option linter.unusedVariables false
namespace Mine
theorem lnR3 : True := by
  k_with_none
  trivial
theorem lnzR3 : True := by
  k_with_none
  k_with "zf" => (first | (k_here; k_fold; refine letA ?_; intro aX; (with_reducible rename Fr _ _ _ _ => kF); refine letM kF ?_; clear kF; intro mX kF) | (k_here; k_fold; refine letA ?_; intro aX) | (k_here; k_fold) | (k_here; with_reducible first | refine genT1 fun tk => ?_ | refine genT2 fun tk => ?_) | fail)
  k_with "execs cons" => (first | walk_at "zf" | fail)
  k_with "execs" => (first | walk_at "zf" | fail)
  k_with "execs nil" => (first | (k_here; with_reducible first | refine genT1 fun tk => ?_ | refine genT2 fun tk => ?_) | fail)
  k_with "k_ne" => (first | (refine neN ?_; first | (with_reducible first | assumption | exact Ne.symm (by assumption) | exact ca0 (by assumption) | exact cb0 (by assumption) | exact cc0 (by assumption) | exact cd0 (by assumption) | exact ca1 (by assumption) | exact cb1 (by assumption) | exact cc1 (by assumption) | exact cd1 (by assumption) | exact ca2 (by assumption) | exact cb2 (by assumption) | exact cc2 (by assumption) | exact cd2 (by assumption) | exact ca3 (by assumption) | exact cb3 (by assumption) | exact cc3 (by assumption) | exact cd3 (by assumption) | exact ca4 (by assumption) | exact cb4 (by assumption) | exact cc4 (by assumption) | exact cd4 (by assumption) | exact ca5 (by assumption) | exact cb5 (by assumption) | exact cc5 (by assumption) | exact cd5 (by assumption) | exact ca6 (by assumption) | exact cb6 (by assumption) | exact cc6 (by assumption) | exact cd6 (by assumption) | exact ca7 (by assumption) | exact cb7 (by assumption) | exact cc7 (by assumption) | exact cd7 (by assumption) | exact ca8 (by assumption) | exact cb8 (by assumption) | exact cc8 (by assumption) | exact cd8 (by assumption) | exact ca9 (by assumption) | exact cb9 (by assumption) | exact cc9 (by assumption) | exact cd9 (by assumption) | exact ca10 (by assumption) | exact cb10 (by assumption) | exact cc10 (by assumption) | exact cd10 (by assumption) | exact ca11 (by assumption) | exact cb11 (by assumption) | exact cc11 (by assumption) | exact cd11 (by assumption)) | (refine Nat.ne_of_lt (ltm (o := _) (by with_reducible assumption) ?_); k_mem; done) | (refine Nat.ne_of_gt (ltm (o := _) (by with_reducible assumption) ?_); k_mem; done) | ((try dsimp only); omega)) | fail)
  trivial
theorem zip_item {ks vs : List Value} (h : ks.length = vs.length) (i : Nat) : kas_item (ks.toArray.zip vs.toArray) i = (ks.getD i .none, vs.getD i .none) := by
  unfold kas_item
  by_cases hi : i < vs.length
  · have hk : i < ks.length := by (first | lia | omega)
    have hm : i < min ks.length vs.length := by (first | lia | omega)
    simp [Array.getD, List.getD, hi, hk, hm]
  · have hk : ¬ i < ks.length := by (first | lia | omega)
    have hm : ¬ i < min ks.length vs.length := by (first | lia | omega)
    simp [Array.getD, List.getD, hi, hk, hm]
section
variable {prog : Program} {w : World} {A : Around} {E : Value → Shared → Prop} {s : Shared} {h₀ : Heap} {L a kS : Addr} {m : Str → Option Value} {news : List (Addr × Obj)} {vs : List Value} {e1 : Nat} {KO : Value → Obj → Prop} {T : Value} {c : Value → Value → Bool} {f : Value}
noncomputable abbrev refsOf (ks : List (Addr × Obj)) : List Value := ks.map fun q => Value.ref q.1
inductive KSt (h₀ : Heap) (L a kS : Addr) (m : Str → Option Value) (news : List (Addr × Obj)) (vs : List Value) (e1 : Nat) (KO : Value → Obj → Prop) (s : Shared) (i : Nat) (s' : Shared) : Prop
  | mk (h' : Heap) (tk : Nat) (ks : List (Addr × Obj)) (e : Nat) : (s' = { s with heap := h', toks := tk }) → (Fr h₀ L h' m) → (News h₀ L h' (news ++ (ks ++ [(kS, seqObj "list" (refsOf ks).toArray e), (a, seqObj "list" #[] e1)]))) → (ks.length = i) → ((∀ (j : Nat) (q : Addr × Obj) (v : Value), ks[j]? = some q → vs[j]? = some v → KO v q.2)) → (∀ q ∈ ks, q.1 ≠ kS ∧ q.1 ≠ a) → KSt h₀ L a kS m news vs e1 KO s i s'
noncomputable def Turn (prog : Program) (w : World) (A : Around) (h₀ : Heap) (L : Addr) (m : Str → Option Value) (news : List (Addr × Obj)) (vs : List Value) (KO : Value → Obj → Prop) (f : Value) (s : Shared) : Prop :=
  ∀ v ∈ vs, ∀ (h : Heap) (tk : Nat) (own : List (Addr × Obj)), Fr h₀ L h m → News h₀ L h (news ++ own) → wpAny (model prog w) A (call f [v]) (fun k s₂ => ∃ h' tk' x o, s₂ = { s with heap := h', toks := tk' } ∧ k = .ref x ∧ KO v o ∧
    Fr h₀ L h' m ∧ News h₀ L h' (news ++ own) ∧ News h₀ L h' [(x, o)] ∧ ∀ q ∈ own, q.1 ≠ x) (fun _ _ => False) { s with heap := h, toks := tk }
noncomputable def AskK (prog : Program) (w : World) (A : Around) (h₀ : Heap) (L : Addr) (m : Str → Option Value) (news : List (Addr × Obj)) (vs : List Value) (KO : Value → Obj → Prop) (c : Value → Value → Bool) (s : Shared) : Prop :=
  ∀ v ∈ vs, ∀ u ∈ vs, ∀ (h : Heap) (tk : Nat) (own : List (Addr × Obj)) (x y : Addr) (o o' : Obj), Fr h₀ L h m → News h₀ L h (news ++ own) → (x, o) ∈ own → (y, o') ∈ own → KO v o → KO u o' →
    wpAny (model prog w) A (keyLt' oneType' (.ref x) (.ref y)) (fun r s₂ => r = c v u ∧ ∃ h' tk', s₂ = { s with heap := h', toks := tk' } ∧ Fr h₀ L h' m ∧ News h₀ L h' (news ++ own)) (fun _ _ => False) { s with heap := h, toks := tk }
noncomputable def outOf (c : Value → Value → Bool) (vs : List Value) : List Value := (ev (fun i j => c (vs.getD i .none) (vs.getD j .none)) (kas_sort vs.length)).toList.map fun i => vs.getD i .none
theorem sk_tail {P : PySem.Fin → Shared → Prop} {st : SortSt} {ks : List (Addr × Obj)} {e : Nat} {out : List Value} (F : Fr h₀ L s.heap m) (N : News h₀ L s.heap (news ++ (ks ++ [(kS, seqObj "list" (refsOf ks).toArray e), (a, seqObj "list" #[] e1)]))) (hka : kS ≠ a) (hnk : ∀ p ∈ news, p.1 ≠ kS) (hna : ∀ p ∈ news, p.1 ≠ a)
    (h64 : out.length < 64) (hk64 : ks.length < 64) (ho : (arrOf st).map (·.2) = out.toArray) (hfl : failedOf st = none)
    (h : ∀ h' tk c, Fr h₀ L h' m → News h₀ L h' ((a, listOf out.toArray c) :: news) → P (.done (.ret .none)) { s with heap := h', toks := tk }) :
    wpAny (model prog w) A (ksk_tail a false e1 (.ref kS) st) P E s := by
  have nk := N (kS, seqObj "list" (refsOf ks).toArray e) (List.mem_append_right _ (List.mem_append_right _ (.head _)))
  have na := N (a, seqObj "list" #[] e1) (List.mem_append_right _ (List.mem_append_right _ (.tail _ (.head _))))
  have Nn : News h₀ L s.heap news := fun p hp => N p (List.mem_append_left _ hp)
  have s1 := Heap.SameBut.update s.heap kS (Obj.mapSeq fun _ => (#[] : Array Value))
  have na1 : (s.heap.update kS (Obj.mapSeq fun _ => (#[] : Array Value))).get? a = some (seqObj "list" #[] e1) := (s1.2 a hka.symm).trans na.1
  have s2 := Heap.SameBut.update (s.heap.update kS (Obj.mapSeq fun _ => (#[] : Array Value))) a (Obj.mapSeq fun _ => out.toArray)
  obtain ⟨c2, hc2⟩ : ∃ c2, ((s.heap.update kS (Obj.mapSeq fun _ => (#[] : Array Value))).update a (Obj.mapSeq fun _ => out.toArray)).get? a = some (seqObj "list" out.toArray c2) := ⟨_, get?_update_seq na1 fun _ => out.toArray⟩
  unfold ksk_tail
  dsimp only
  rw [ho]
  refine wpAny_bind (listUpdate_at nk.1 rfl ?_ (by rw [List.size_toArray, List.length_map, sizeLine_eq]; (first | lia | omega)) (Nat.zero_le _))
  refine wpAny_bind (wpAny_letGo ?_)
  refine wpAny_bind (seqEpoch_at na1 rfl ?_)
  refine wpAny_bind (listUpdate_at na1 rfl ?_ (Nat.zero_le _) (by show out.toArray.size ≤ _; rw [List.size_toArray, sizeLine_eq]; (first | lia | omega)))
  rw [hfl]
  simp only [bne_self_eq_false, Bool.false_eq_true, if_false]
  refine wpAny_pure (h _ _ c2 (ksk_fr (ksk_fr F s1 nk.2.1 nk.2.2) s2 na.2.1 na.2.2) (fun p hp => ?_))
  rcases List.mem_cons.mp hp with rfl | hp
  · exact ⟨hc2, na.2⟩
  · exact ksk_news (ksk_news Nn s1 hnk) s2 hna p hp
theorem sk_end {P : PySem.Fin → Shared → Prop} (hs : KSt h₀ L a kS m news vs e1 KO s vs.length s) (h2 : 2 ≤ vs.length) (h64 : vs.length < 64) (hka : kS ≠ a) (hnk : ∀ p ∈ news, p.1 ≠ kS) (hna : ∀ p ∈ news, p.1 ≠ a)
    (hT : ∀ v o, KO v o → o.cls = T) (hT1 : (T != Value.type "tuple") = true) (ask : AskK prog w A h₀ L m news vs KO c s)
    (h : ∀ h' tk c0, Fr h₀ L h' m → News h₀ L h' ((a, listOf (outOf c vs).toArray c0) :: news) → P (.done (.ret .none)) { s with heap := h', toks := tk }) {keys : List Value} (hkeys : ∀ ks e, News h₀ L s.heap [(kS, seqObj "list" (refsOf ks).toArray e)] → refsOf ks = keys) :
    wpAny (model prog w) A (ksk_end a false vs.toArray e1 (.ref kS) keys.toArray) P E s := by
  obtain ⟨hp, tk, ks, e, es, F, N, hl, hko, hap⟩ := hs
  have ehp : s.heap = hp := congrArg Shared.heap es
  subst ehp
  clear es
  have ek := hkeys ks e (fun q hq => by rw [List.mem_singleton.mp hq]; exact N _ (List.mem_append_right _ (List.mem_append_right _ (.head _))))
  subst ek
  have hlk : (refsOf ks).length = vs.length := by rw [List.length_map]; exact hl
  unfold ksk_end
  dsimp only
  rw [if_neg (by simp), if_neg (by rw [List.size_toArray]; (first | lia | omega)), if_neg (by rw [List.size_toArray]; (first | lia | omega)), if_neg (by simp)]
  refine wpAny_bind (kas_kind (T := T) (by (first | lia | omega)) (fun v hv => ?_) hT1 (by simp) ?_)
  · obtain ⟨q, hq, rfl⟩ := List.mem_map.mp hv
    obtain ⟨j, hj⟩ := List.getElem?_of_mem hq
    have hjl : j < ks.length := (List.getElem?_eq_some_iff.mp hj).1
    have hv' : vs[j]? = some vs[j] := List.getElem?_eq_getElem (by (first | lia | omega))
    have hc := hT _ _ (hko j q _ hj hv')
    have hg := (N q (List.mem_append_right _ (List.mem_append_left _ hq))).1
    intro A' Q' E' s' k' hq'
    show wpAny _ _ (typeOf (.ref q.1)) Q' E' s'
    unfold typeOf
    exact wpAny_bind (wpAny_loadPart (k' _ _ hg) (wpAny_pure (hc ▸ hq')))
  have hn : ((refsOf ks).toArray.zip vs.toArray).size = vs.length := by rw [Array.size_zip, List.size_toArray, List.size_toArray, hlk, Nat.min_self]
  have est : SortSt.mk' oneType' ((refsOf ks).toArray.zip vs.toArray) #[] 7 none = kas_st oneType' ((refsOf ks).toArray.zip vs.toArray) (List.toArray (List.range vs.length)) := by
    have e := kas_range ((refsOf ks).toArray.zip vs.toArray)
    rw [hn] at e
    show _ = SortSt.mk' oneType' _ #[] 7 none
    rw [e]
  let OWN := ks ++ [(kS, seqObj "list" (refsOf ks).toArray e), (a, seqObj "list" #[] e1)]
  let J : Shared → Prop := fun s' => ∃ h' tk, s' = { s with heap := h', toks := tk } ∧ Fr h₀ L h' m ∧ News h₀ L h' (news ++ OWN)
  let cc : Nat → Nat → Bool := fun i j => c (vs.getD i .none) (vs.getD j .none)
  have run := kas_runs (E := E) (prog := prog) (w := w) (A := A) (κ := oneType') (it := (refsOf ks).toArray.zip vs.toArray) (n := vs.length) (s := s)
    (Q := fun _ st' s' => (arrOf st').map (·.2) = (outOf c vs).toArray ∧ failedOf st' = none ∧ (outOf c vs).length = vs.length ∧ J s') (G := fun p s' => p = ev cc (kas_sort vs.length) ∧ J s') h2 h64
    (fun p' st' s' a1 a2 a3 a4 => ⟨?arr, a3, by unfold outOf; rw [List.length_map, Array.length_toList]; exact (congrArg Array.size a4.1).symm.trans a1, a4.2⟩)
    (kas_run (n := vs.length) (c := cc) (J := J) (P := fun _ => True) (fun i j C s' hi hj hJ hC => ?ask) (kas_sort vs.length) _ s (asks_sort (by (first | lia | omega))) ⟨s.heap, s.toks, rfl, F, N⟩ fun s' hJ => ⟨rfl, hJ⟩)
  case arr =>
    rw [a2, a4.1, Array.map_map]
    apply Array.toList_inj.mp
    rw [Array.toList_map]
    exact List.map_congr_left fun i _ => by show (kas_item ((refsOf ks).toArray.zip vs.toArray) i).2 = _; rw [zip_item hlk]
  case ask =>
    obtain ⟨h', tk', rfl, F', N'⟩ := hJ
    have at' : ∀ i, i < vs.length → ∃ q, q ∈ ks ∧ (refsOf ks).getD i .none = .ref q.1 ∧ KO (vs.getD i .none) q.2 ∧ vs.getD i .none ∈ vs := fun i hi => by
      have h1 : i < ks.length := by (first | lia | omega)
      refine ⟨ks[i], List.getElem_mem h1, ?_, ?_, ?_⟩
      · simp [List.getD, h1]
      · have h3 : vs.getD i .none = vs[i] := by simp [List.getD, hi]
        rw [h3]
        exact hko i _ _ (List.getElem?_eq_getElem h1) (List.getElem?_eq_getElem hi)
      · have h3 : vs.getD i .none = vs[i] := by simp [List.getD, hi]
        rw [h3]
        exact List.getElem_mem hi
    obtain ⟨q, hq, eq, kq, vq⟩ := at' i hi
    obtain ⟨r, hr, er, kr, vr⟩ := at' j hj
    show wpAny _ _ (keyLt' oneType' (kas_item _ i).1 (kas_item _ j).1) C _ _
    rw [zip_item hlk, zip_item hlk]
    show wpAny _ _ (keyLt' oneType' ((refsOf ks).getD i .none) ((refsOf ks).getD j .none)) C _ _
    rw [eq, er]
    refine wpAny_mono (ask _ vq _ vr h' tk' OWN q.1 r.1 q.2 r.2 F' N' (List.mem_append_left _ hq) (List.mem_append_left _ hr) kq kr) (fun b s₂ hb => ?_) fun _ _ e => e
    obtain ⟨rfl, h2, tk2, rfl, F2, N2⟩ := hb
    exact hC _ ⟨h2, tk2, rfl, F2, N2⟩
  rw [← est] at run
  refine wpAny_bind (wpAny_mono run ?_ fun _ _ e => e)
  rintro ⟨⟨⟩, st'⟩ s' ⟨har, hf, hlen, h', tk', rfl, F', N'⟩
  dsimp only
  refine sk_tail (s := { s with heap := h', toks := tk' }) (out := outOf c vs) F' N' hka hnk hna ?_ (by (first | lia | omega)) har hf fun h3 tk3 c3 F3 N3 => h h3 tk3 c3 F3 N3
  (first | lia | omega)
theorem sk_rest {P : PySem.Fin → Shared → Prop} (F : Fr h₀ L s.heap m) (N : News h₀ L s.heap (news ++ [(kS, seqObj "list" #[] 0), (a, seqObj "list" #[] e1)])) (h2 : 2 ≤ vs.length) (h64 : vs.length < 64) (hka : kS ≠ a) (hnk : ∀ p ∈ news, p.1 ≠ kS) (hna : ∀ p ∈ news, p.1 ≠ a)
    (hT : ∀ v o, KO v o → o.cls = T) (hT1 : (T != Value.type "tuple") = true) (turn : Turn prog w A h₀ L m news vs KO f s) (ask : AskK prog w A h₀ L m news vs KO c s)
    (h : ∀ h' tk c0, Fr h₀ L h' m → News h₀ L h' ((a, listOf (outOf c vs).toArray c0) :: news) → P (.done (.ret .none)) { s with heap := h', toks := tk }) :
    wpAny (model prog w) A (ksk_rest a f false vs.toArray e1 (.ref kS)) P E s := by
  unfold ksk_rest
  refine wpAny_bind (wpAny_rule ?_)
  first
    | rw [List.forIn_toArray]
    | (rw [← Array.forIn_toList]; simp only [List.toList_toArray])
    | rw [← Array.forIn_toList]
  refine wpAny_bind (ksk_fold (fun i s' => KSt h₀ L a kS m news vs e1 KO s i s') vs 0 s ⟨s.heap, s.toks, [], 0, rfl, F, N, rfl, fun j q v hq => by simp at hq, fun q hq => nomatch hq⟩ ?step ?done)
  case step =>
    rintro j x s' hx ⟨h', tk, ks, e, rfl, F', N', hl, hko, hap⟩
    simp only [Nat.zero_add] at hl ⊢
    have hj : j < vs.length := (List.getElem?_eq_some_iff.mp hx).1
    refine wpAny_bind (wpAny_attempt (wpAny_mono (turn x (List.mem_of_getElem? hx) h' tk _ F' N') (fun v s'' he => ?_) fun _ _ hF => hF.elim))
    obtain ⟨g, tk2, y, o, rfl, rfl, ko, F2, N2, N1, hy⟩ := he
    dsimp only
    have nk := N2 (kS, seqObj "list" (refsOf ks).toArray e) (List.mem_append_right _ (List.mem_append_right _ (.head _)))
    have na := N2 (a, seqObj "list" #[] e1) (List.mem_append_right _ (List.mem_append_right _ (.tail _ (.head _))))
    have yk : y ≠ kS := fun q => hy (kS, _) (List.mem_append_right _ (.head _)) q.symm
    have ya : y ≠ a := fun q => hy (a, _) (List.mem_append_right _ (.tail _ (.head _))) q.symm
    have s1 := Heap.SameBut.update g kS (Obj.mapSeq (·.push (.ref y)))
    have ep : (refsOf ks).toArray.push (.ref y) = (refsOf (ks ++ [(y, o)])).toArray := by simp
    obtain ⟨c2, hc2⟩ : ∃ c2, (g.update kS (Obj.mapSeq (·.push (.ref y)))).get? kS = some (seqObj "list" (refsOf (ks ++ [(y, o)])).toArray c2) := ⟨_, by rw [← ep]; exact get?_update_seq nk.1 (·.push (.ref y))⟩
    refine wpAny_bind (listUpdate_at nk.1 rfl ?_ (by rw [List.size_toArray, List.length_map, sizeLine_eq]; (first | lia | omega)) (by rw [Array.size_push, List.size_toArray, List.length_map, sizeLine_eq]; (first | lia | omega)))
    refine wpAny_pure ⟨rfl, _, _, ks ++ [(y, o)], c2, rfl, ksk_fr F2 s1 nk.2.1 nk.2.2, fun p hp => ?_, by rw [List.length_append]; show ks.length + 1 = _; (first | lia | omega), fun i q v hq hv => ?_, fun q hq => ?_⟩
    · rcases List.mem_append.mp hp with hp | hp
      · exact ⟨(s1.2 _ (hnk p hp)).trans (N2 p (List.mem_append_left _ hp)).1, (N2 p (List.mem_append_left _ hp)).2⟩
      · rcases List.mem_append.mp hp with hp | hp
        · rcases List.mem_append.mp hp with hp | hp
          · have z := N2 p (List.mem_append_right _ (List.mem_append_left _ hp))
            exact ⟨(s1.2 _ (hap p hp).1).trans z.1, z.2⟩
          · rw [List.mem_singleton.mp hp]
            have z := N1 (y, o) (.head _)
            exact ⟨(s1.2 _ yk).trans z.1, z.2⟩
        · rcases List.mem_cons.mp hp with rfl | hp
          · exact ⟨hc2, nk.2⟩
          · rw [List.mem_singleton.mp hp]
            exact ⟨(s1.2 a hka.symm).trans na.1, na.2⟩
    · by_cases hi : i < ks.length
      · rw [List.getElem?_append_left hi] at hq
        exact hko i q v hq hv
      · have hi2 : i < (ks ++ [(y, o)]).length := (List.getElem?_eq_some_iff.mp hq).1
        have hi3 : i = j := by rw [List.length_append] at hi2; have : i < ks.length + 1 := hi2; (first | lia | omega)
        subst hi3
        rw [List.getElem?_append_right (by (first | lia | omega)), hl, Nat.sub_self] at hq
        rw [hx] at hv
        cases hq
        cases hv
        exact ko
    · rcases List.mem_append.mp hq with hq | hq
      · exact hap q hq
      · rw [List.mem_singleton.mp hq]
        exact ⟨yk, ya⟩
  case done =>
    rintro s' ⟨h', tk, ks, e, rfl, F', N', hl, hko, hap⟩
    rw [Nat.zero_add] at hl
    have nk := N' (kS, seqObj "list" (refsOf ks).toArray e) (List.mem_append_right _ (List.mem_append_right _ (.head _)))
    refine wpAny_bind (listItems_at nk.1 rfl ?_)
    refine sk_end (s := { s with heap := h', toks := tk }) (keys := refsOf ks) (T := T) ⟨h', tk, ks, e, rfl, F', N', hl, hko, hap⟩ h2 h64 hka hnk hna hT hT1 ask h (fun ks2 e2 N2 => ?_)
    have z : h'.get? kS = some (seqObj "list" (refsOf ks2).toArray e2) := (N2 _ (.head _)).1
    have nk1 : h'.get? kS = some (seqObj "list" (refsOf ks).toArray e) := nk.1
    rw [nk1] at z
    injection z with z
    injection z with _ _ z _
    injection z with z _
    have := congrArg Array.toList z
    exact this.symm
theorem sk_sort {P : PySem.Fin → Shared → Prop} {n : Nat} (F : Fr h₀ L s.heap m) (N : News h₀ L s.heap news) (ho : s.heap.get? a = some (seqObj "list" vs.toArray n)) (haL : a ≠ L) (ha0 : h₀.get? a = none) (hna : ∀ p ∈ news, p.1 ≠ a)
    (h2 : 2 ≤ vs.length) (h64 : vs.length < 64) (hT : ∀ v o, KO v o → o.cls = T) (hT1 : (T != Value.type "tuple") = true) (turn : Turn prog w A h₀ L m news vs KO f s) (ask : AskK prog w A h₀ L m news vs KO c s)
    (h : ∀ h' tk c0, Fr h₀ L h' m → News h₀ L h' ((a, listOf (outOf c vs).toArray c0) :: news) → P (.done (.ret .none)) { s with heap := h', toks := tk }) :
    wpAny (model prog w) A (ksk_tree a f false) P E s := by
  have ha : a < s.heap.objs.size := Heap.lt_size ho
  have s1 := Heap.SameBut.update s.heap a (Obj.mapSeq fun _ => (#[] : Array Value))
  obtain ⟨e1, ho1⟩ : ∃ e1, (s.heap.update a (Obj.mapSeq fun _ => (#[] : Array Value))).get? a = some (seqObj "list" #[] e1) := ⟨_, get?_update_seq ho fun _ => #[]⟩
  have F1 := ksk_fr F s1 haL ha0
  have N1 := ksk_news N s1 hna
  have hkS : ((s.heap.update a (Obj.mapSeq fun _ => (#[] : Array Value))).push (seqObj "tuple" vs.toArray 0)).objs.size = s.heap.objs.size + 1 := by rw [size_push', Heap.size_update]
  have hLk : L < ((s.heap.update a (Obj.mapSeq fun _ => (#[] : Array Value))).push (seqObj "tuple" vs.toArray 0)).objs.size := (F1.push _).ns.lt
  unfold ksk_tree
  refine wpAny_bind (listItems_at ho rfl ?_)
  refine wpAny_bind (listUpdate_at ho rfl ?_ (by rw [List.size_toArray, sizeLine_eq]; (first | lia | omega)) (Nat.zero_le _))
  refine wpAny_bind (seqEpoch_at ho1 rfl ?_)
  refine wpAny_bind (wpAny_newTuple ?_ (by show vs.length ≤ _; rw [sizeLine_eq]; (first | lia | omega)))
  refine wpAny_bind (wpAny_newList ?_ (Nat.zero_le _))
  refine wpAny_holding ?_
  refine sk_rest (s := { s with heap := ((s.heap.update a (Obj.mapSeq fun _ => (#[] : Array Value))).push (seqObj "tuple" vs.toArray 0)).push (seqObj "list" #[] 0) }) (kS := ((s.heap.update a (Obj.mapSeq fun _ => (#[] : Array Value))).push (seqObj "tuple" vs.toArray 0)).objs.size)
    ((F1.push _).push _) (fun p hp => ?_) h2 h64 (by rw [hkS]; exact Nat.ne_of_gt (Nat.lt_succ_of_lt ha)) (fun p hp => by rw [hkS]; exact Nat.ne_of_lt (Nat.lt_succ_of_lt (Heap.lt_size (N p hp).1))) hna hT hT1 turn ask h
  rcases List.mem_append.mp hp with hp | hp
  · exact ⟨Heap.get?_push_of_some _ (Heap.get?_push_of_some _ (N1 p hp).1), (N1 p hp).2⟩
  · rcases List.mem_cons.mp hp with rfl | hp
    · exact ⟨Heap.get?_push_size _ rfl, Nat.ne_of_gt hLk, Heap.get?_none_of_le (Nat.le_trans F.above (Nat.le_of_lt hLk))⟩
    · rw [List.mem_singleton.mp hp]
      exact ⟨Heap.get?_push_of_some _ (Heap.get?_push_of_some _ ho1), haL, ha0⟩
theorem sk_sorted {l q : Addr} {Q : Value → Shared → Prop} (F : Fr h₀ L s.heap m) (N : News h₀ L s.heap news) (hl : s.heap.IsList l vs.toArray) (h2 : 2 ≤ vs.length) (h64 : vs.length < 64)
    (hT : ∀ v o, KO v o → o.cls = T) (hT1 : (T != Value.type "tuple") = true) (turn : Turn prog w A.in1.in1 h₀ L m news vs KO (.ref q) s) (ask : AskK prog w A.in1.in1 h₀ L m news vs KO c s)
    (h : ∀ D h' tk c0, Fr h₀ L h' m → News h₀ L h' ((D, listOf (outOf c vs).toArray c0) :: news) → (∀ p ∈ news, p.1 < D) → Q (.ref D) { s with heap := h', toks := tk }) :
    wpAny (model prog w) A (call (.builtin "sorted") [.ref l] [(Str.ofString "key", .ref q)]) Q E s := by
  refine call_function_entry_kw kind_sorted plain_sorted entry_sorted (ksk_s1 _ _) ?_
  unfold Builtin.«sorted»
  refine wpAny_bind (m := checkCount "sorted" 1 1 _) (wpAny_pure ?_)
  refine wpAny_bind (collect_list hl ?_ (by rw [sizeLine_eq]; (first | lia | omega)))
  refine wpAny_bind (wpAny_newList ?_ (by rw [sizeLine_eq]; (first | lia | omega)))
  have hsz : ((s.heap.push (seqObj "list" #[] 0)).update s.heap.objs.size (Obj.mapSeq (· ++ vs.toArray))).objs.size = s.heap.objs.size + 1 := by
    rw [Heap.size_update, size_push']
  have hoL : (((s.heap.push (seqObj "list" #[] 0)).update s.heap.objs.size (Obj.mapSeq (· ++ vs.toArray))).push (seqObj "list" vs.toArray 0)).get? (s.heap.objs.size + 1) = some (seqObj "list" vs.toArray 0) := by
    rw [← hsz]; exact Heap.get?_push_size _ rfl
  have keep : ∀ b o, s.heap.get? b = some o → (((s.heap.push (seqObj "list" #[] 0)).update s.heap.objs.size (Obj.mapSeq (· ++ vs.toArray))).push (seqObj "list" vs.toArray 0)).get? b = some o := fun b o q => by
    have hlt : b < s.heap.objs.size := Heap.lt_size q
    rw [Heap.get?_push_ne _ _ _ (by rw [hsz]; exact Nat.ne_of_lt (Nat.lt_succ_of_lt hlt)), Heap.get?_update_ne _ _ _ _ (Nat.ne_of_lt hlt), Heap.get?_push_ne _ _ _ (Nat.ne_of_lt hlt)]
    exact q
  have hL : L < s.heap.objs.size := F.ns.lt
  show wpAny _ _ _ _ _ { s with heap := ((s.heap.push (seqObj "list" #[] 0)).update s.heap.objs.size (Obj.mapSeq (· ++ vs.toArray))).push (seqObj "list" vs.toArray 0) }
  rw [hsz]
  refine wpAny_bind (wpAny_holding (wpAny_call_entry_kw slot_list_sort ⟨_, hoL, rfl⟩ entry_list_sort ?body (ksk_l1 _ _)))
  case body =>
    have ht' := ksk_t1 q (s.heap.objs.size + 1)
    show wpAny (model prog w) A.in1.in1 (Builtin.«list.sort» ⟨[.ref (s.heap.objs.size + 1)], [(Str.ofString "key", .ref q)]⟩) _ _ _
    rw [ht']
    refine sk_sort (s := { s with heap := ((s.heap.push (seqObj "list" #[] 0)).update s.heap.objs.size (Obj.mapSeq (· ++ vs.toArray))).push (seqObj "list" vs.toArray 0) })
      (F.kept keep) (N.grown keep) hoL (Nat.ne_of_gt (Nat.lt_succ_of_lt hL)) (Heap.get?_none_of_le (Nat.le_trans F.above (Nat.le_succ_of_le (Nat.le_of_lt hL))))
      (fun p hp => Nat.ne_of_lt (Nat.lt_succ_of_lt (Heap.lt_size (N p hp).1))) h2 h64 hT hT1 turn ask fun h' tk c0 F' N' => ⟨_, rfl, ?_⟩
    exact wpAny_pure ⟨_, rfl, h _ h' tk c0 F' N' (fun q hq => Nat.lt_succ_of_lt (Heap.lt_size (N q hq).1))⟩
end
end Mine
end

section
open PySem PySem.W PySem.W.X PyProof.Rows PySem.Calls
set_option Elab.async false
set_option maxRecDepth 100000
set_option maxHeartbeats 4000000
set_option linter.unusedVariables false
namespace Mine
theorem lnR4 : True := by
  k_with_none
  trivial
theorem fn_look {M : Model} {h : Heap} {f : Addr} {o : Obj} (hf : h.get? f = some o) (hc : o.cls = .type "function") (v : Value) : Looks M h (bindSpecial (.ref f) v) (.ref f, [v]) := fun A Q E s k q => by
  unfold bindSpecial
  refine wpAny_bind ?_
  show wpAny _ _ (typeOf (.ref f)) _ _ _
  unfold typeOf
  refine wpAny_bind (wpAny_loadPart (k _ _ hf) (wpAny_pure ?_))
  rw [hc]
  exact wpAny_ite_true (by decide +kernel) (wpAny_pure q)
section
variable {prog : Program} {w : World} {A : Around} {E : Value → Shared → Prop} {s : Shared}
theorem tl_own {M : Model} {Q : Option Value → Shared → Prop} {P : KP} {a N : Addr} {name : Str} {hd : Bool} {sn : List Str} {sl : Array (Option Value)} {es : Array DictEntry} {n : Nat} {r : Value} {bm : List Value}
    (hK : s.heap.get? a = some (kCls P N (.ref a :: bm) hd sn sl)) (hN : s.heap.get? N = some (kDict es n)) (e : nsLook name (kDict es n) = pure (some r)) (hq : Q (some r) s) :
    wpAny M A (typeLookup (.ref a) name) Q E s := by
  unfold typeLookup
  refine wpAny_bind ?_
  show wpAny M A (do return (← classData a).mro) _ _ _
  unfold classData
  refine wpAny_bind (wpAny_bind (wpAny_load hK (wpAny_pure (wpAny_pure ?_))))
  dsimp only
  rw [List.forIn_cons]
  refine wpAny_bind (wpAny_bind ?_)
  refine wpAny_bind ?_
  show wpAny M A (classOwn (.ref a) name) _ _ _
  unfold classOwn
  refine wpAny_bind ?_
  unfold classData
  refine wpAny_bind (wpAny_load hK (wpAny_pure ?_))
  dsimp only
  unfold nsGet
  refine wpAny_bind (wpAny_loadPart hN (wpAny_of_eq e ?_))
  refine wpAny_pure ?_
  exact wpAny_pure (wpAny_pure hq)
theorem kl_K {Q : Bool → Shared → Prop} {P : KP} {aK aN f2 x y d1 : Addr} {hd : Bool} {sn : List Str} {sl : Array (Option Value)} {es : Array DictEntry} {n : Nat} {bm : List Value} {p : Str} {t : Tok} {of : Obj} (hu : A.units < cLine)
    (hK : s.heap.get? aK = some (kCls P aN (.ref aK :: bm) hd sn sl)) (hN : s.heap.get? aN = some (kDict es n)) (e : nsLook (Str.ofString "__lt__") (kDict es n) = pure (some (.ref f2))) (hf : s.heap.get? f2 = some of) (hfc : of.cls = .type "function")
    (hx : s.heap.get? x = some (kInst aK d1 p t)) (h : wpAny (model prog w) A (call (.ref f2) [.ref x, .ref y]) (fun v s' => ∃ b, v = .bool b ∧ Q b s') E s) :
    wpAny (model prog w) A (keyLt' oneType' (.ref x) (.ref y)) Q E s := by
  rw [keyLt'_oneType, oneLt'_eq]
  simp only [if_true]
  refine wpAny_bind (wpAny_cRoomFor hu ?_)
  refine wpAny_bind (Q := _) ?_
  simp only [callSpecialIfBound?, bindSpecialIfBound?]
  refine wpAny_holding (wpAny_bind (wpAny_bind ?_))
  unfold specialOf
  refine wpAny_bind ?_
  show wpAny _ _ (typeOf (.ref x)) _ _ _
  unfold typeOf
  refine wpAny_bind (wpAny_loadPart hx (wpAny_pure ?_))
  refine tl_own hK hN e ?_
  refine wpAny_bind (wpAny_askSetting (wpAny_ite ?_))
  have fin : ∀ {Q' : Option Value → Shared → Prop}, (∀ b s', Q b s' → Q' (some (.bool b)) s') → wpAny (model prog w) A (call (.ref f2) ([.ref x] ++ [.ref y]) >>= fun v => pure (some v)) Q' E s := fun hq => wpAny_bind (wpAny_mono h (fun v s' ⟨b, hb, hQ⟩ => wpAny_pure (by subst hb; exact hq b s' hQ)) fun _ _ h' => h')
  split
  · exact wpAny_bind ((fn_look hf hfc _).here (wpAny_pure (fin fun b s' hQ => wpAny_pure hQ)))
  · exact wpAny_tryCatch (wpAny_bind ((fn_look hf hfc _).here (wpAny_pure (fin fun b s' hQ => wpAny_pure hQ))))
theorem two_of {vs : Array Value} {x : Value} (h : vs[1]? = some x) : ∃ v rest, vs = ⟨v :: x :: rest⟩ := by
  obtain ⟨l⟩ := vs
  match l, h with
  | [], h => simp at h
  | [_], h => simp at h
  | v :: y :: rest, h => simp at h; subst h; exact ⟨v, rest, rfl⟩
theorem new_m {Q : Value → Shared → Prop} {pm : Value} {cell aK md aN f1 c1 f2 c2 : Addr} {omd oK oN o1 oc1 o2 oc2 : Obj} {p : Str} {t : Tok} (X : (frag w.params).In s.heap) (K : KObjs pm cell aK md aN f1 c1 f2 c2 omd oK oN o1 oc1 o2 oc2)
   (hmd : s.heap.get? md = some omd) (hK : s.heap.get? aK = some oK) (hN : s.heap.get? aN = some oN) (h1 : s.heap.get? f1 = some o1) (hc1 : s.heap.get? c1 = some oc1) (hd' : Nat.ble A.depth 950 = true) (hu' : Nat.ble A.units 9500 = true)
   (hq : ∀ x d h' t', h'.get? x = some (kInst aK d p t) → s.heap.get? x = none → Grow s.heap h' → Q (.ref x) { s with heap := h', toks := t' }) : wpAny (model prog w) A (call (.ref aK) [.str p t]) Q E s := by
  obtain ⟨P, i, i2, tk, tk1, tk2, vs1, vs2, tq1, tq2, d1, d2, ct1, ct2, rfl, rfl, rfl, rfl, rfl, rfl, rfl, e1, e2, _⟩ := K
  obtain ⟨v0, rest, rfl⟩ := two_of e2
  obtain ⟨cc, cd, cdt, cs⟩ := oc1
  obtain ⟨e1, e1c⟩ := e1
  dsimp only at e1 e1c
  subst e1 e1c
  obtain ⟨q1, q2, q3, q4, q5, q6, hini⟩ := ini_is d1 pm c1 ct1
  refine in_AX (wpAny_mono (new_x prog w A s aK aN md P.bt (P.f 1) (P.f 2) (P.f 3) (P.f 4) (P.f 5) (P.f 6) P.sl P.st (P.i 1) (P.i 3) (P.i 4) (P.i 5) (P.i 6) (P.i 7) (P.i 8) (P.i 9) (P.i 10) (P.i 11) (P.i 12) i i2 (P.k 1) (P.k 3) (P.k 4) (P.k 5) (P.k 6) (P.k 7) (P.k 8) (P.k 9) (P.k 10) (P.k 11) (P.k 12) tk1 tk2 tk (P.k 21) (P.k 23) P.tn (P.k 22) c1 p t _ q1 q2 q3 q4 q5 q6 tq1 d1 ct1 pm v0 rest cd cs X hmd hK hN (h1.trans (congrArg some hini)) hc1) (fun r s' ⟨x, d, e, hx, hx0, _, _, h', t', es, gr⟩ => ?_) fun _ _ f => f.elim) hd' hu'
  subst e es
  exact hq _ _ _ _ hx hx0 gr
end
noncomputable def cK (v u : Value) : Bool := match v, u with
  | .str p _, .str q _ => decide (cmpF p q < 0)
  | _, _ => false
noncomputable abbrev strsOf (ps : List (Str × Tok)) : List Value := ps.map fun q => Value.str q.1 q.2
theorem nl_lt (P : KP) (md : Addr) (i i2 : Int) (tk tk2 : Tok) : nsLook (Str.ofString "__lt__") (kDict (kE3 P md i i2 tk tk2) 3) = pure (some (.ref (P.f 2))) := by kernel_rfl!
theorem told_sorted {w : World} {mean : ExcName → Option Value} {mg mb : Str → Option Value} {ps : List (Str × Tok)} {news : List (Addr × Obj)} {l aK : Addr} {pm : Value}
    {A A₀ : Around} {cn : Str} {nm : List (Str × NameKind)} {ig ic : Bool} {mo : List (Str × Const)} {a : Addr} {ccd : Value} {cl : List (Str × Addr)} {outer : List Env} {base h₀ : Heap} {L : Addr} {m : Str → Option Value} {s : Shared} {Q E : Value → Shared → Prop}
    (B : Below A₀ base outer h₀) (F : Fr h₀ L s.heap m) (X : (frag w.params).In h₀) (N : News h₀ L s.heap news) (T : Top topProg LO mean mg mb h₀) (hh : A.in1.in1.handled = none)
    (hf : A.in1.in1.frames = some (envX cn { kind := .function, names := nm, isGenerator := ig, isCoroutine := ic, more := mo } L a ccd cl :: outer)) (hd' : Nat.ble A.in1.in1.depth 700 = true) (hu : Nat.ble A.in1.in1.units 7000 = true)
    (KM : KMade h₀ L pm 273 s.heap aK) (hl : s.heap.IsList l (strsOf ps).toArray) (h2 : 2 ≤ ps.length) (h64 : ps.length < 64) (good : ∀ q ∈ ps, Good q.1)
    (r : ∀ D h' tk c0, Fr h₀ L h' m → News h₀ L h' ((D, listOf (outOf cK (strsOf ps)).toArray c0) :: news) → (∀ p ∈ news, p.1 < D) → Q (.ref D) { s with heap := h', toks := tk }) :
    wpAny (model PySem.Challenge.rw_in0152_01.row.prog w) A (call (.builtin "sorted") [.ref l] [(Str.ofString "key", .ref aK)]) Q E s := by
  obtain ⟨cell, md, aN, f1, c1, f2, c2, omd, oK, oN, o1, oc1, o2, oc2, oc, NK, KO, hoc⟩ := KM
  have NN : News h₀ L s.heap (news ++ [(md, omd), (aK, oK), (aN, oN), (f1, o1), (c1, oc1), (f2, o2), (c2, oc2), (cell, oc)]) := fun q hq => (List.mem_append.mp hq).elim (N q) (NK q)
  have hKm : ∀ {h : Heap} {own : List (Addr × Obj)}, News h₀ L h ((news ++ [(md, omd), (aK, oK), (aN, oN), (f1, o1), (c1, oc1), (f2, o2), (c2, oc2), (cell, oc)]) ++ own) → News h₀ L h [(md, omd), (aK, oK), (aN, oN), (f1, o1), (c1, oc1), (f2, o2), (c2, oc2), (cell, oc)] := fun N' q hq => N' q (List.mem_append_left _ (List.mem_append_right _ hq))
  refine sk_sorted (KO := fun v o => ∃ d p t, v = .str p t ∧ Good p ∧ o = kInst aK d p t) (T := .ref aK) (c := cK) (vs := strsOf ps) F NN hl (by rw [List.length_map]; exact h2) (by rw [List.length_map]; exact h64) (fun v o ⟨d, p, t, _, _, e⟩ => by rw [e]) (by rfl) ?turn ?ask (fun D h' tk c0 F' N' lt => r D h' tk c0 F' (fun q hq => N' q ?_) fun q hq => lt q (List.mem_append_left _ hq))
  case turn =>
    intro v hv h tk own F' N'
    obtain ⟨q, hq, rfl⟩ := List.mem_map.mp hv
    have n := hKm N'
    refine new_m (s := { s with heap := h, toks := tk }) (X.keeps F'.keep) KO (at_ns n 0 rfl) (at_ns n 1 rfl) (at_ns n 2 rfl) (at_ns n 3 rfl) (at_ns n 4 rfl) (Nat.ble_eq.mpr (Nat.le_trans (Nat.le_of_ble_eq_true hd') (by decide))) (Nat.ble_eq.mpr (Nat.le_trans (Nat.le_of_ble_eq_true hu) (by decide))) fun x d h' t' hx hx0 gr => ?_
    refine ⟨h', t', x, _, rfl, rfl, ⟨d, q.1, q.2, rfl, good q hq, rfl⟩, F'.keeps gr, N'.grown gr, ?_, ?_⟩
    · intro y hy
      rw [List.mem_singleton.mp hy]
      refine ⟨hx, fun e => ?_, ?_⟩
      · obtain ⟨o, _, _, z, _⟩ := F'.ns
        rw [← e] at z
        rw [show h.get? x = none from hx0] at z
        cases z
      · cases e : h₀.get? x with
        | none => rfl
        | some o => rw [show h.get? x = some o from F'.keep _ _ e] at hx0; cases hx0
    · intro y hy e
      have z := (N' y (List.mem_append_right _ hy)).1
      rw [e, show h.get? x = none from hx0] at z
      cases z
  case ask =>
    rintro v hv u hu' h tk own x y o o' F' N' hx hy ⟨d, p, t, rfl, gp, rfl⟩ ⟨d', q, t', rfl, gq, rfl⟩
    have n := hKm N'
    have hcp := lt_p w mean mg mb p q t t' gp gq x y d d' md aK aN f1 c1 f2 c2 cell omd oK oN o1 oc1 o2 oc2 oc pm hoc KO
    have KO' := KO
    obtain ⟨P, i, i2, tk', tk1, tk2, vs1, vs2, tq1, tq2, d1, d2, ct1, ct2, rfl, rfl, rfl, _, _, e2, e3, _⟩ := KO'
    refine kl_K (s := { s with heap := h, toks := tk }) (P := P) (Nat.lt_of_le_of_lt (Nat.le_of_ble_eq_true hu) (by rw [cLine_is]; decide)) (at_ns n 1 rfl) (at_ns n 2 rfl) (nl_lt P md i i2 tk1 tk2) ((congrArg h.get? e2).trans (at_ns n 5 rfl)) ?_ (N' _ (List.mem_append_right _ hx)).1 ?_
    · rw [e3, show defObj 3 _ _ _ _ _ = ⟨.type "function", none, .func (objFd (defObj 3 _ _ _ _ _)), #[]⟩ from rfl]
    rw [e2]
    refine CP.use (s := { s with heap := h, toks := tk }) (news := (news ++ [(md, _), (aK, _), (aN, _), (f1, o1), (c1, oc1), (f2, o2), (c2, oc2), (cell, oc)]) ++ own) hcp B F' X N' T hh hf hd' hu ?_ ?_ fun v h' tk' hv F2 N2 => ⟨_, hv, rfl, h', tk', rfl, F2, N2⟩
    · exact List.ne_nil_of_mem (List.mem_append_right _ hx)
    · intro z hz
      simp only [List.mem_cons, List.not_mem_nil, or_false] at hz
      rcases hz with rfl | rfl | rfl | rfl | rfl | rfl | rfl | rfl
      · exact List.mem_append_right _ hx
      · exact List.mem_append_right _ hy
      all_goals exact List.mem_append_left _ (List.mem_append_right _ (by simp))
  · rcases List.mem_cons.mp hq with rfl | hq
    · exact .head _
    · exact .tail _ (List.mem_append_left _ hq)
end Mine
end

section
open PySem PySem.W PySem.W.X PyProof.Rows PySem.Calls
set_option Elab.async false
set_option maxRecDepth 100000
set_option maxHeartbeats 4000000
set_option linter.unusedVariables false
namespace Mine
theorem lnR5 : True := by
  k_with_none
  trivial
theorem ev_congr {α : Type} {n : Nat} {P : α → Prop} {c c' : Nat → Nat → Bool} (hc : ∀ i j, i < n → j < n → c i j = c' i j) : ∀ t : KasT α, Asks n P t → ev c t = ev c' t
  | .ret _, _ => rfl
  | .ask i j k, h => by
    show ev c (k (c i j)) = ev c' (k (c' i j))
    rw [hc i j h.1 h.2.1]
    exact ev_congr hc _ (h.2.2 _)
structure RowAt where
  a : Addr
  xs : List (Str × Tok)
  n : Nat
noncomputable abbrev RowAt.row (r : RowAt) : List Str := sFst r.xs
noncomputable abbrev RowAt.obj (r : RowAt) : Obj := sList r.xs r.n
noncomputable def row0 : RowAt := ⟨0, [], 0⟩
noncomputable def ordR (rows : List (List Str)) : List Nat := (ev (cR rows) (kas_sort rows.length)).toList
section
variable {prog : Program} {w : World} {A : Around} {E : Value → Shared → Prop} {s : Shared} {h₀ : Heap} {L l : Addr} {m : Str → Option Value} {news : List (Addr × Obj)}
theorem call_lt {Q : Value → Shared → Prop} {b : Addr} {xs ys : List (Str × Tok)} {n n2 : Nat} (hl : s.heap.get? l = some (sList xs n)) (hb : s.heap.get? b = some (sList ys n2)) (h : Q (.bool (ltP (sFst xs) (sFst ys))) s) :
    wpAny (model prog w) A (call (.builtin "list.__lt__") [.ref l, .ref b]) Q E s :=
  wpAny_call (codeAny_call_builtin F.slot_list_lt.plain F.entry_list_lt (F.slot_list_lt.check _ _ _ _ _ _ _ _ ⟨_, hl, rfl⟩ (F.args_list_lt_2 _ _) (list_lt l b xs ys n n2 prog w A (fun r s' => match r with | .ok (.ret v) => Q v s' | .ok _ => False | .error e => E e s') _ ⟨hl, hb, h⟩)))
theorem kl_list {Q : Bool → Shared → Prop} {b : Addr} {xs ys : List (Str × Tok)} {n n2 : Nat} (hu : A.units < cLine) (hl : s.heap.get? l = some (sList xs n)) (hb : s.heap.get? b = some (sList ys n2)) (h : Q (ltP (sFst xs) (sFst ys)) s) :
    wpAny (model prog w) A (keyLt' oneType' (.ref l) (.ref b)) Q E s := by
  rw [keyLt'_oneType, oneLt'_eq]
  simp only [if_true]
  refine wpAny_bind (wpAny_cRoomFor hu ?_)
  refine wpAny_bind (wpAny_callSpecialIfBound?_slot (T := "list") ⟨_, hl, rfl⟩ F.slot_list_lt (call_lt hl hb ?_))
  exact wpAny_truthy_bool h
theorem drawn_sorted {rs : List RowAt} {Q : Value → Shared → Prop} (hu : A.in1.in1.units < cLine) (F : Fr h₀ L s.heap m) (N : News h₀ L s.heap news) (hl : s.heap.IsList l (rs.map fun r => Value.ref r.a).toArray) (hm : ∀ r ∈ rs, (r.a, r.obj) ∈ news) (h2 : 2 ≤ rs.length) (h64 : rs.length < 64) (hd : (rs.map RowAt.row).Nodup)
    (h : ∀ D h' c0, Fr h₀ L h' m → News h₀ L h' ((D, listOf ((ordR (rs.map RowAt.row)).map fun i => Value.ref (rs.getD i row0).a).toArray c0) :: news) → (∀ p ∈ news, p.1 < D) → Q (.ref D) { s with heap := h' }) :
    wpAny (model prog w) A (call (.builtin "sorted") [.ref l]) Q E s := by
  have hlen : (rs.map fun r => Value.ref r.a).length = rs.length := List.length_map _
  refine kas_sorted (T := .type "list") F N hl (by rw [hlen]; exact h2) (by rw [hlen]; exact h64) ?_ (by rfl) fun D e1 h' F' N' lt => ?_
  · intro h' F' N' v hv
    obtain ⟨r, hr, rfl⟩ := List.mem_map.mp hv
    have hg := (N' _ (hm r hr)).1
    intro A' Q' E' s' k' hq'
    show wpAny _ _ (typeOf (.ref r.a)) Q' E' s'
    unfold typeOf
    exact wpAny_bind (wpAny_loadPart (k' _ _ hg) (wpAny_pure hq'))
  rw [hlen]
  refine kas_run (n := rs.length) (c := cR (rs.map RowAt.row)) (P := fun _ => True) (J := fun s' => s' = { s with heap := h' }) (fun i j C s' hi hj hJ hC => ?_) (kas_sort rs.length) _ _ (asks_sort (by (first | lia | omega))) rfl fun s' hJ => ?_
  · subst hJ
    have at' : ∀ i, i < rs.length → ∃ r, r ∈ rs ∧ (rs.map fun r => Value.ref r.a).getD i .none = .ref r.a ∧ (rs.map RowAt.row).getD i [] = r.row := fun i hi => ⟨rs[i], List.getElem_mem hi, by simp [List.getD, hi], by simp [List.getD, hi]⟩
    obtain ⟨q, hq, eq, rq⟩ := at' i hi
    obtain ⟨r, hr, er, rr⟩ := at' j hj
    show wpAny _ _ (keyLt' oneType' ((rs.map fun r => Value.ref r.a).getD i .none) ((rs.map fun r => Value.ref r.a).getD j .none)) C _ _
    rw [eq, er]
    refine kl_list (s := { s with heap := h' }) hu (N' _ (.tail _ (hm q hq))).1 (N' _ (.tail _ (hm r hr))).1 ?_
    have := hC _ rfl
    unfold cR at this
    rw [rq, rr] at this
    exact this
  · subst hJ
    refine KasFin.intro (g := fun o => (D, o) :: news) F' N' (.head fun p hp => Nat.ne_of_lt (lt p hp)) fun h2 c0 F2 N2 => ?_
    have e : ((ev (cR (rs.map RowAt.row)) (kas_sort rs.length)).toList.map fun i => (rs.map fun r => Value.ref r.a).getD i Value.none) = (ordR (rs.map RowAt.row)).map fun i => Value.ref (rs.getD i row0).a := by
      have hz : (rs.map RowAt.row).length = rs.length := List.length_map _
      have ho := (sort_ok (cR_ord hd) (by (first | lia | omega))).1
      rw [hz] at ho
      unfold ordR
      rw [hz]
      refine List.map_congr_left fun i hi => ?_
      have hi' : i < rs.length := by
        have := (List.Perm.mem_iff ho).mp hi
        simpa using this
      simp [List.getD, hi']
    rw [e] at N2
    exact h D h2 c0 F2 N2 lt
end
end Mine
end

section
open PySem PySem.W PySem.W.X PyProof.Rows PySem.Calls PyProof.V PySem.Spec
set_option Elab.async false
set_option maxRecDepth 100000
set_option maxHeartbeats 0
namespace Mine
theorem lnR6a : True := by
  k_with_none
  trivial
open PyProof.Rows.LCg
noncomputable def Stop (P : Prop) : Prop := P
theorem Stop.go {P : Prop} (h : Stop P) : P := h
noncomputable def rowsLed (rs : List RowAt) : List (Addr × Obj) := rs.map fun r => (r.a, r.obj)
noncomputable abbrev refsR (rs : List RowAt) : List Value := rs.map fun r => Value.ref r.a
noncomputable def RowEnd (n : Int) (news : List (Addr × Obj)) (rs : List RowAt) (y : Value) (nw : List (Addr × Obj)) : Prop := ∃ r : RowAt, y = .ref r.a ∧ r.row = rowOf n ∧ nw = news ++ rowsLed (rs ++ [r])
theorem rows_comp {prog : Program} {w : World} {A : Around} {h₀ : Heap} {L : Addr} {m : Str → Option Value} {env : Env} {elt : Expr} {x : Str} {scope : Scope} {cl : List (Str × Addr)} {s : Shared} {S : List (Addr × Obj) → Prop} {Fin : List Value → List (Addr × Obj) → Prop} {news : List (Addr × Obj)} {its : Array Value} {ns : List Int}
    (hi : IntsAre its.toList ns)
    (step : ∀ rs n t I oI C oC D m₂ h tk (E' : Value → Shared → Prop), NsObj oC m₂ → m₂ x = some (.int n t) → Fr h₀ L h m → News h₀ L h ((I, oI) :: (C, oC) :: (D, lst (refsR rs)) :: (news ++ rowsLed rs)) → Off3 I C D (news ++ rowsLed rs) → Off3 I C D (news ++ rowsLed rs) → ((@Ne Nat I C) ∧ (@Ne Nat I D) ∧ (@Ne Nat C D)) →
      wpAny (model prog w) A (eval elt (compEnvC scope cl C env)) (CompEnd h₀ L m { s with heap := h, toks := tk } I oI C oC D (lst (refsR rs)) S (RowEnd n news rs)) E' { s with heap := h, toks := tk })
    (fin : ∀ rs, rs.map RowAt.row = ns.map rowOf → Fin (refsR rs) (news ++ rowsLed rs)) :
    CompRest prog w A h₀ L m env elt x scope cl s S (fun i v => its[i]? = some v) Fin its.size 0 [] news := by
  have hlen : its.size = ns.length := by have := hi.length; rw [Array.length_toList] at this; exact this
  have go : ∀ k i rs, k + i = its.size → rs.map RowAt.row = (ns.take i).map rowOf → CompRest prog w A h₀ L m env elt x scope cl s S (fun i v => its[i]? = some v) Fin k i (refsR rs) (news ++ rowsLed rs) := by
    intro k
    induction k with
    | zero =>
      intro i rs hk hr
      rw [List.take_of_length_le (by (first | lia | omega))] at hr
      exact fin rs hr
    | succ k ih =>
      intro i rs hk hr v I oI C oC D m₂ h tk E' hv hC hx F N off ne
      obtain ⟨n, t, hn, rfl⟩ : ∃ n t, ns[i]? = some n ∧ v = .int n t := by
        have hlt : i < its.size := by (first | lia | omega)
        have hv' : its.toList[i]? = some v := by rw [Array.getElem?_toList]; exact hv
        clear hv
        have go2 : ∀ (l : List Value) (ms : List Int) (i : Nat), IntsAre l ms → l[i]? = some v → ∃ n t, ms[i]? = some n ∧ v = .int n t := by
          intro l ms i h
          induction h generalizing i with
          | nil => intro e; simp at e
          | cons n t _ ih2 =>
            intro e
            cases i with
            | zero => simp at e; exact ⟨n, t, rfl, e.symm⟩
            | succ i => exact ih2 i (by simpa using e)
        exact go2 _ _ i hi hv'
      refine wpAny_mono (step rs n t I oI C oC D m₂ h tk E' hC hx F N off off ne) (fun y s₂ hy => ?_) fun _ _ e => e
      obtain ⟨h', tk', nw, e, F', N', off', hS, r, rfl, hrow, rfl⟩ := hy
      refine ⟨h', tk', _, e, F', N', off', hS, ?_⟩
      have e2 : refsR rs ++ [Value.ref r.a] = refsR (rs ++ [r]) := by simp
      show CompRest prog w A h₀ L m env elt x scope cl s S (fun i v => its[i]? = some v) Fin k (i + 1) (refsR rs ++ [Value.ref r.a]) (news ++ rowsLed (rs ++ [r]))
      rw [e2]
      refine ih (i + 1) (rs ++ [r]) (by (first | lia | omega)) ?_
      rw [List.map_append, hr, List.take_add_one, hn]
      simp [hrow]
  have z := go its.size 0 [] (by (first | lia | omega)) rfl
  have e : news ++ rowsLed [] = news := List.append_nil _
  rw [e] at z
  exact z
theorem names_item {prog : Program} {w : World} {A : Around} {E : Value → Shared → Prop} {s : Shared} {h₀ : Heap} {L ln : Addr} {news : List (Addr × Obj)} {c : Nat} {t1 t2 t3 u : Tok} {k z : Int} {value slice : PySem.Expr} {Q : Value → Shared → Prop} (N : News h₀ L s.heap news)
    (hm : (ln, ({ cls := .type "list", data := .seq #[.str (Str.ofString "a") t1, .str (Str.ofString "ab") t2, .str (Str.ofString "b") t3] c } : Obj)) ∈ news) (hk : k = Int.fmod z 3)
    (h : ∀ t', Q (.str (nm3.getD k.toNat Str.empty) t') s)
    (hs : subscripted slice false (.ref ln) (.int k u) = operate [.ref ln, .int k u] (getItem (.ref ln) (.int k u))) :
    wpAny (model prog w) A (subscriptTail value slice (.ref ln) (.int k u)) Q E s := by
  have h1 := Int.fmod_nonneg_of_pos z (b := 3) (by decide)
  have h2 := Int.fmod_lt_of_pos z (b := 3) (by decide)
  refine item_strsT (l := [(Str.ofString "a", t1), (Str.ofString "ab", t2), (Str.ofString "b", t3)]) ⟨_, (N _ hm).1, rfl, _, rfl⟩ (by (first | lia | omega)) (by show k < 3; (first | lia | omega)) (by (first | lia | omega)) (fun x t' hc => ?_) hs
  have : nm3.getD k.toNat Str.empty = x := by
    have hc' : nm3[k.toNat]? = some x := hc
    rw [List.getD, hc']
    rfl
  rw [this] at h
  exact h t'
noncomputable def LtR (D : Addr) (l : List (Addr × Obj)) : Prop := ∀ p ∈ l, p.1 < D
theorem LtR.go {D : Addr} {l : List (Addr × Obj)} (h : LtR D l) : ∀ p ∈ l, p.1 < D := h
theorem slice_g {prog : Program} {w : World} {A : Around} {E : Value → Shared → Prop} {s : Shared} {h₀ : Heap} {m : Str → Option Value} {news : List (Addr × Obj)} {value slice : PySem.Expr} {L ax : Addr} {l : List (Str × Tok)} {n : Nat} {e : Int} {t : Tok} {Q : Value → Shared → Prop} (F : Fr h₀ L s.heap m) (N : News h₀ L s.heap news) (hm : (ax, sList l n) ∈ news) (h0 : 0 ≤ e) (h63 : l.length ≤ 16777216)
    (h : ∀ D h', Fr h₀ L h' m → News h₀ L h' ((D, sList (l.take e.toNat) 0) :: news) → LtR D news → Q (.ref D) { s with heap := h' })
    (hs : subscripted slice false (.ref ax) (.ref s.heap.objs.size) = operate [.ref s.heap.objs.size, .ref ax] (getItem (.ref ax) (.ref s.heap.objs.size))) (ht : ∀ r, letTemporaryGo value (.ref ax) r = pure ()) :
    wpAny (model prog w) A (subscriptTail value slice (.ref ax) (.ref s.heap.objs.size)) Q E { s with heap := s.heap.push { cls := .type "slice", data := .fields #[.none, .int e t, .none] } } := by
  have hls : s.heap.IsList ax (strValues l).toArray := ⟨_, (N _ hm).1, rfl, _, rfl⟩
  have hsz : (strValues l).toArray.size = l.length := by simp [strValues]
  obtain ⟨i, rfl⟩ : ∃ i : Nat, e = i := ⟨e.toNat, by (first | lia | omega)⟩
  have e : sliceBounds none (some (i : Int)) none (strValues l).toArray.size = (((0 : Nat) : Int), ((min i (strValues l).toArray.size : Nat) : Int), 1) := by
    simp only [sliceBounds, Option.getD_none, show (1 : Int) > 0 by decide, if_true, if_neg (show ¬ ((i : Int) < 0) by (first | lia | omega))]
    congr 1
    congr 1
    (first | lia | omega)
  refine kmk_slice (lo := none) (hi := some (i : Int)) F N hls IsPart.none (IsPart.int _ _) (fun D h' F' N' l1 => h D h' F' ?_ l1) hs ht (by rw [hsz]; exact Nat.le_trans h63 (by size_fits))
  have q : slicePick (strValues l).toArray none (some (i : Int)) none = (strValues (l.take i)).toArray := by
    rw [kmk_pick_nat _ e]
    show ((((strValues l).drop 0).take (min i (strValues l).toArray.size - 0))).toArray = _
    rw [List.drop_zero, Nat.sub_zero, List.size_toArray, kmk_take_min]
    simp [strValues, List.map_take]
  rw [q] at N'
  exact N'
theorem slice_row {prog : Program} {w : World} {A : Around} {E : Value → Shared → Prop} {s : Shared} {h₀ : Heap} {m : Str → Option Value} {news : List (Addr × Obj)} {value slice : PySem.Expr} {L ax : Addr} {x1 x2 x3 : Str} {t1 t2 t3 : Tok} {n : Nat} {e z : Int} {t : Tok} {Q : Value → Shared → Prop} (F : Fr h₀ L s.heap m) (N : News h₀ L s.heap news) (hm : (ax, ({ cls := .type "list", data := .seq #[.str x1 t1, .str x2 t2, .str x3 t3] n } : Obj)) ∈ news) (he : e = Int.fmod z 3 + 1)
    (h : ∀ D h', Fr h₀ L h' m → News h₀ L h' ((D, sList ([(x1, t1), (x2, t2), (x3, t3)].take e.toNat) 0) :: news) → LtR D news → Q (.ref D) { s with heap := h' })
    (hs : subscripted slice false (.ref ax) (.ref s.heap.objs.size) = operate [.ref s.heap.objs.size, .ref ax] (getItem (.ref ax) (.ref s.heap.objs.size))) (ht : ∀ r, letTemporaryGo value (.ref ax) r = pure ()) :
    wpAny (model prog w) A (subscriptTail value slice (.ref ax) (.ref s.heap.objs.size)) Q E { s with heap := s.heap.push { cls := .type "slice", data := .fields #[.none, .int e t, .none] } } :=
  slice_g (l := [(x1, t1), (x2, t2), (x3, t3)]) F N hm (by have := Int.fmod_nonneg_of_pos z (b := 3) (by decide); (first | lia | omega)) (by show (3 : Nat) ≤ _; decide) h hs ht
theorem row_end {h₀ : Heap} {L I C D₀ D : Addr} {m : Str → Option Value} {s₁ : Shared} {oI oC oD oT : Obj} {S : List (Addr × Obj) → Prop} {n : Int} {news : List (Addr × Obj)} {rs : List RowAt} {h' : Heap} {tk : Nat} {x1 x2 x3 : Str} {t1 t2 t3 : Tok} {T : Addr}
    (F : Fr h₀ L h' m) (N : News h₀ L h' ((D, sList ([(x1, t1), (x2, t2), (x3, t3)].take (Int.fmod n 3 + 1).toNat) 0) :: (T, oT) :: (I, oI) :: (C, oC) :: (D₀, oD) :: (news ++ rowsLed rs))) (off : Off3 I C D₀ (news ++ rowsLed rs)) (lt : LtR D ((T, oT) :: (I, oI) :: (C, oC) :: (D₀, oD) :: (news ++ rowsLed rs))) (hS : ∀ r, S (news ++ rowsLed (rs ++ [r])))
    (e1 : x1 = nm3.getD (Int.fmod (Int.fdiv n 3) 3).toNat Str.empty) (e2 : x2 = nm3.getD (Int.fmod (Int.fdiv n 9) 3).toNat Str.empty) (e3 : x3 = nm3.getD (Int.fmod (Int.fdiv n 27) 3).toNat Str.empty) :
    CompEnd h₀ L m s₁ I oI C oC D₀ oD S (RowEnd n news rs) (.ref D) { s₁ with heap := h', toks := tk } := by
  refine ⟨h', tk, news ++ rowsLed (rs ++ [⟨D, [(x1, t1), (x2, t2), (x3, t3)].take (Int.fmod n 3 + 1).toNat, 0⟩]), rfl, F, fun p hp => ?_, Off3.of fun p hp => ?_, hS _, ⟨D, [(x1, t1), (x2, t2), (x3, t3)].take (Int.fmod n 3 + 1).toNat, 0⟩, rfl, ?_, rfl⟩
  · rcases List.mem_cons.mp hp with rfl | hp
    · exact N _ (.tail _ (.tail _ (.head _)))
    rcases List.mem_cons.mp hp with rfl | hp
    · exact N _ (.tail _ (.tail _ (.tail _ (.head _))))
    rcases List.mem_cons.mp hp with rfl | hp
    · exact N _ (.tail _ (.tail _ (.tail _ (.tail _ (.head _)))))
    rcases List.mem_append.mp hp with hp | hp
    · exact N _ (.tail _ (.tail _ (.tail _ (.tail _ (.tail _ (List.mem_append_left _ hp))))))
    · unfold rowsLed at hp
      rw [List.map_append] at hp
      rcases List.mem_append.mp hp with hp | hp
      · exact N _ (.tail _ (.tail _ (.tail _ (.tail _ (.tail _ (List.mem_append_right _ hp))))))
      · rw [List.mem_singleton.mp hp]
        exact N _ (.head _)
  · have old : ∀ p ∈ news ++ rowsLed rs, p.1 ≠ I ∧ p.1 ≠ C ∧ p.1 ≠ D₀ := off.mem
    rcases List.mem_append.mp hp with hp | hp
    · exact old p (List.mem_append_left _ hp)
    · unfold rowsLed at hp
      rw [List.map_append] at hp
      rcases List.mem_append.mp hp with hp | hp
      · exact old p (List.mem_append_right _ hp)
      · rw [List.mem_singleton.mp hp]
        exact ⟨Nat.ne_of_gt (lt (I, oI) (.tail _ (.head _))), Nat.ne_of_gt (lt (C, oC) (.tail _ (.tail _ (.head _)))), Nat.ne_of_gt (lt (D₀, oD) (.tail _ (.tail _ (.tail _ (.head _)))))⟩
  · subst e1 e2 e3
    show sFst (List.take _ _) = rowOf n
    unfold rowOf sFst
    rw [List.map_take]
    have := Int.fmod_nonneg_of_pos n (b := 3) (by decide)
    have e : (Int.fmod n 3 + 1).toNat = (Int.fmod n 3).toNat + 1 := by (first | lia | omega)
    rw [e]
    rfl

end Mine
end

section
open PySem PySem.W PySem.W.X PyProof.Rows PySem.Calls PyProof.V PySem.Spec
set_option Elab.async false
set_option maxRecDepth 100000
set_option maxHeartbeats 0
namespace Mine
theorem lnR7a : True := by
  k_with_none
  trivial
open PySem.MeetsSeq3 AutoSeq1 in
theorem eq_loop (l b : Addr) (xs ys : List (Str × Tok)) (n n2 : Nat) (hlen : xs.length = ys.length) :
    ∀ (r q : List (Str × Tok)) (i : Nat), xs.drop i = r → ys.drop i = q → i ≤ xs.length → i ≤ ys.length → Meets (Builtin.«list.__eq__.loop» ⟨[.ref l, .ref b, rawInt i, rawInt 2], []⟩)
      (fun A R s => s.heap.get? l = some (sList xs n) ∧ s.heap.get? b = some (sList ys n2) ∧ R (.ok (.ret (.bool (decide (sFst r = sFst q))))) s) := by
  intro r
  induction r with
  | nil =>
    intro q i hr hq hi hi2 prog w A R s h
    obtain ⟨hp, g, d, tk, os⟩ := s; obtain ⟨hl, hb, h⟩ := h
    wp_walk using wpAny_loadPart' hl, wpAny_loadPart' hb
    rw [sv_none hr]
    have e1 : xs.length = i := Nat.le_antisymm (List.drop_eq_nil_iff.mp hr) hi
    cases q with
    | nil =>
      rw [sv_none hq]
      wp_walk using wpAny_loadPart' hl, wpAny_loadPart' hb
      show R (.ok (.ret (.bool ((strValues xs).toArray.size == (strValues ys).toArray.size)))) _
      rw [sv_size, sv_size, hlen]
      simpa [sFst] using h
    | cons y q =>
      have := (sv_get hq).2.2
      (first | lia | omega)
  | cons x r ih =>
    intro q i hr hq hi hi2 prog w A R s h
    obtain ⟨hp, g, d, tk, os⟩ := s; obtain ⟨hl, hb, h⟩ := h
    have z1 := sv_get hr
    wp_walk using wpAny_loadPart' hl, wpAny_loadPart' hb
    rw [z1.1]
    cases q with
    | nil =>
      have e2 : ys.length ≤ i := List.drop_eq_nil_iff.mp hq
      have := z1.2.2
      (first | lia | omega)
    | cons y q =>
      have z2 := sv_get hq
      rw [z2.1]
      refine wpAny_bind (wpAny_eqBool_str ?_)
      have hc : ((i : Int) + 1) = ((i + 1 : Nat) : Int) := by push_cast; rfl
      by_cases hxy : x.1 = y.1
      · have ed : decide (sFst (x :: r) = sFst (y :: q)) = decide (sFst r = sFst q) := decide_eq_decide.mpr (by simp [sFst, hxy])
        rw [ed] at h
        rw [decide_eq_true hxy]
        wp_walk
        rw [hc]
        exact ⟨plainId_quiet plain_eq_loop _, codeAny_builtin entry_eq_loop (by
          rw [Around.under_plainId plain_eq_loop _]
          exact ih q (i + 1) z1.2.1 z2.2.1 z1.2.2 z2.2.2 prog w A R _ ⟨hl, hb, h⟩)⟩
      · rw [decide_eq_false hxy]
        wp_walk using wpAny_loadPart' hl, wpAny_loadPart' hb
        rw [z1.1, z2.1]
        wp_walk
        simpa [sFst, hxy] using h
open PySem.MeetsSeq3 AutoSeq1 in
theorem list_eq (l b : Addr) (xs ys : List (Str × Tok)) (n n2 : Nat) : Meets (Builtin.«list.__eq__» ⟨[.ref l, .ref b], []⟩)
      (fun A R s => s.heap.get? l = some (sList xs n) ∧ s.heap.get? b = some (sList ys n2) ∧ R (.ok (.ret (.bool (decide (sFst xs = sFst ys))))) s) := by
  intro prog w A R s h
  obtain ⟨hp, g, d, tk, os⟩ := s; obtain ⟨hl, hb, h⟩ := h
  have f3 := AutoSeq1.sub_list_list
  wp_walk using wpAny_loadPart' hl, wpAny_loadPart' hb
  rw [sv_size, sv_size]
  by_cases hlen : xs.length = ys.length
  · rw [hlen]
    wp_walk
    exact ⟨plainId_quiet plain_eq_loop _, codeAny_builtin entry_eq_loop (by
      rw [Around.under_plainId plain_eq_loop _]
      exact eq_loop l b xs ys n n2 hlen xs ys 0 rfl rfl (Nat.zero_le _) (Nat.zero_le _) prog w A R _ ⟨hl, hb, h⟩)⟩
  · have hne : sFst xs ≠ sFst ys := fun e => hlen (by simpa [sFst] using congrArg List.length e)
    rw [show (xs.length != ys.length) = true from by simpa using hlen]
    wp_walk
    show R (.ok (.ret (.bool false))) _
    rw [decide_eq_false hne] at h
    exact h
section
variable {prog : Program} {w : World} {A : Around} {E : Value → Shared → Prop} {s : Shared}
theorem cmp_eq {l b : Addr} {xs ys : List (Str × Tok)} {n n2 : Nat} {Q : Value → Shared → Prop} (hu : A.units < cLine) (hl : s.heap.get? l = some (sList xs n)) (hb : s.heap.get? b = some (sList ys n2))
    (h : Q (.bool (decide (sFst xs = sFst ys))) s) : wpAny (model prog w) A (richCompare .Eq (.ref l) (.ref b)) Q E s := by
  refine wpAny_richCompare_same_room (op := .Eq) (T := "list") ⟨_, hl, rfl⟩ ⟨_, hb, rfl⟩ F.slot_list_eq ?_ hu
  refine wpAny_call (codeAny_call_builtin F.slot_list_eq.plain F.entry_list_eq (F.slot_list_eq.check _ _ _ _ _ _ _ _ ⟨_, hl, rfl⟩ (F.args_list_eq_2 _ _) (list_eq l b xs ys n n2 prog w A (fun r s' => match r with | .ok (.ret v) => v ≠ .notImplemented ∧ Q v s' | .ok _ => False | .error e => E e s') _ ⟨hl, hb, by simp, h⟩)))
theorem eqBool_rows {l b : Addr} {xs ys : List (Str × Tok)} {n n2 : Nat} {Q : Bool → Shared → Prop} (hu : A.units < cLine) (hl : s.heap.get? l = some (sList xs n)) (hb : s.heap.get? b = some (sList ys n2))
    (h : Q (decide (sFst xs = sFst ys)) s) : wpAny (model prog w) A (eqBool (.ref l) (.ref b)) Q E s := by
  unfold eqBool
  refine wpAny_holding ?_
  by_cases e : l = b
  · subst e
    rw [hl] at hb
    injection hb with hb
    injection hb with _ _ hb _
    injection hb with hb _
    have e2 : strValues xs = strValues ys := by simpa using congrArg Array.toList hb
    have e3 : sFst xs = sFst ys := by
      have hx : ∀ zs : List (Str × Tok), sFst zs = (strValues zs).map (fun v => match v with | .str x _ => x | _ => Str.empty) := fun zs => by simp [sFst, strValues]
      rw [hx, hx, e2]
    rw [decide_eq_true e3] at h
    rw [if_pos (by simp)]
    exact wpAny_bind (wpAny_rule (wpAny_pure h))
  · rw [if_neg (by simpa using e)]
    exact wpAny_bind (cmp_eq hu hl hb (wpAny_truthy_bool h))
end
end Mine
end

section
open PySem PySem.W PySem.W.X PyProof.Rows PySem.Calls PyProof.V PySem.Spec
set_option Elab.async false
set_option maxRecDepth 100000
set_option maxHeartbeats 0
namespace Mine
theorem lnR7b : True := by
  k_with_none
  trivial
theorem plain_c_loop : plainId "list.__contains__.loop" = true := by decide +kernel
theorem entry_c_loop : entryFor table "list.__contains__.loop" = some Builtin.«list.__contains__.loop» := entryFor_of_tree (by kernel_rfl)
section
variable {prog : Program} {w : World} {A : Around} {E : Value → Shared → Prop} {s : Shared}
theorem c_loop {R : Addr} {vs : List Value} {n : Nat} {x : Value} {f : Value → Bool} {Rr : Result → Shared → Prop} (hR : s.heap.get? R = some (listOf vs.toArray n)) (he : ∀ v ∈ vs, ∀ (Q : Bool → Shared → Prop) E, Q (f v) s → wpAny (model prog w) A.in1 (eqBool v x) Q E s) :
    ∀ (r : List Value) (i : Nat), vs.drop i = r → Rr (.ok (.ret (.bool (r.any f)))) s → codeAny (model prog w) A (.builtin "list.__contains__.loop" ⟨[.ref R, x, rawInt i], []⟩) Rr s
  | [], i, hr, h => by
    refine codeAny_builtin entry_c_loop ?_
    rw [Around.under_plainId plain_c_loop _]
    unfold Builtin.«list.__contains__.loop»
    refine wpAny_bind (listItems_at hR rfl ?_)
    have hz : vs.toArray[((i : Nat) : Int).toNat]? = none := by
      simp only [Int.toNat_natCast, List.getElem?_toArray, List.getElem?_eq_none_iff]
      exact List.drop_eq_nil_iff.mp hr
    rw [hz]
    exact wpAny_pure h
  | v :: r, i, hr, h => by
    refine codeAny_builtin entry_c_loop ?_
    rw [Around.under_plainId plain_c_loop _]
    unfold Builtin.«list.__contains__.loop»
    refine wpAny_bind (listItems_at hR rfl ?_)
    have hlt : i < vs.length := by
      rcases Nat.lt_or_ge i vs.length with q | q
      · exact q
      · rw [List.drop_eq_nil_of_le q] at hr; cases hr
    rw [List.drop_eq_getElem_cons hlt] at hr
    injection hr with h1 h2
    have hz : vs.toArray[((i : Nat) : Int).toNat]? = some v := by
      simp only [Int.toNat_natCast, List.getElem?_toArray, List.getElem?_eq_getElem hlt, h1]
    rw [hz]
    refine wpAny_bind (he v (h1 ▸ List.getElem_mem hlt) _ _ ?_)
    rw [List.any_cons] at h
    cases hf : f v with
    | true =>
      rw [hf] at h
      exact wpAny_pure (by simpa using h)
    | false =>
      rw [hf] at h
      have hc : ((i : Int) + 1) = ((i + 1 : Nat) : Int) := by push_cast; rfl
      rw [hc]
      exact wpAny_pure ⟨plainId_quiet plain_c_loop _, c_loop hR he r (i + 1) h2 (by simpa using h)⟩
theorem call_has {R : Addr} {vs : List Value} {n : Nat} {x : Value} {f : Value → Bool} {Q : Value → Shared → Prop} (hR : s.heap.get? R = some (listOf vs.toArray n)) (he : ∀ v ∈ vs, ∀ (Q : Bool → Shared → Prop) E, Q (f v) s → wpAny (model prog w) A.in1 (eqBool v x) Q E s)
    (h : Q (.bool (vs.any f)) s) : wpAny (model prog w) A (call (.builtin "list.__contains__") [.ref R, x]) Q E s := by
  refine wpAny_call (codeAny_call_builtin slot_list_contains.plain entry_list_contains (slot_list_contains.check _ _ _ _ _ _ _ _ ⟨_, hR, rfl⟩ (args_list_contains _ _) ?_))
  unfold Builtin.«list.__contains__»
  exact wpAny_bind (wpAny_of_eq (a := (Value.ref R, [x])) (by kernel_rfl!) (wpAny_pure ⟨plainId_quiet plain_c_loop _, c_loop (Rr := fun r s' => match r with | .ok (.ret v) => Q v s' | .ok _ => False | .error e => E e s') hR he vs 0 rfl h⟩))
theorem notin_list {R : Addr} {vs : List Value} {n : Nat} {x : Value} {f : Value → Bool} {Q : Value → Shared → Prop} (hR : s.heap.get? R = some (listOf vs.toArray n)) (he : ∀ v ∈ vs, ∀ (Q : Bool → Shared → Prop) E, Q (f v) s → wpAny (model prog w) A.in1 (eqBool v x) Q E s)
    (h : Q (.bool (!(vs.any f))) s) : wpAny (model prog w) A (compareOp .NotIn x (.ref R)) Q E s :=
  NotIn_slot (T := "list") ⟨_, hR, rfl⟩ slot_list_contains (call_has hR he (wpAny_truthy_bool h))
theorem notin_rows {h₀ : Heap} {L : Addr} {news : List (Addr × Obj)} {R S : Addr} {rs : List RowAt} {xs : List (Str × Tok)} {k n : Nat} {Q : Value → Shared → Prop} (hu : Nat.ble A.units 8990 = true) (N : News h₀ L s.heap news) (mR : (R, listOf (refsR rs).toArray k) ∈ news) (mS : (S, sList xs n) ∈ news) (mr : ∀ p ∈ rowsLed rs, p ∈ news)
    (h : Q (.bool (!(decide (sFst xs ∈ rs.map RowAt.row)))) s) : wpAny (model prog w) A (compareOp .NotIn (.ref S) (.ref R)) Q E s := by
  let f : Value → Bool := fun v => match v with | Value.ref a => (match s.heap.get? a with | some ⟨_, _, Data.seq vs _, _⟩ => decide (vs.toList.map (fun (v : Value) => match v with | Value.str x _ => x | _ => Str.empty) = sFst xs) | _ => false) | _ => false
  have hf : ∀ r ∈ rs, f (.ref r.a) = decide (r.row = sFst xs) := fun r hr => by
    have hg := (N _ (mr _ (List.mem_map_of_mem hr))).1
    show (match s.heap.get? r.a with | some ⟨_, _, .seq vs _, _⟩ => decide (vs.toList.map (fun (v : Value) => match v with | Value.str x _ => x | _ => Str.empty) = sFst xs) | _ => false) = _
    rw [hg]
    show decide (List.map _ (strValues r.xs) = sFst xs) = decide (sFst r.xs = sFst xs)
    have hx : ∀ zs : List (Str × Tok), (strValues zs).map (fun (v : Value) => match v with | Value.str x _ => x | _ => Str.empty) = sFst zs := fun zs => by simp [sFst, strValues]
    rw [hx]
  refine notin_list (f := f) (N _ mR).1 (fun v hv Q E hq => ?_) ?_
  · obtain ⟨r, hr, rfl⟩ := List.mem_map.mp hv
    rw [hf r hr] at hq
    refine eqBool_rows ?_ (N _ (mr _ (List.mem_map_of_mem hr))).1 (N _ mS).1 hq
    have := Nat.le_of_ble_eq_true hu
    rw [cLine_is]
    unfold Around.in1
    dsimp only
    (first | lia | omega)
  · have e : (refsR rs).any f = decide (sFst xs ∈ rs.map RowAt.row) := by
      rw [Bool.eq_iff_iff, List.any_eq_true, decide_eq_true_iff]
      constructor
      · rintro ⟨v, hv, hfv⟩
        obtain ⟨r, hr, rfl⟩ := List.mem_map.mp hv
        rw [hf r hr, decide_eq_true_iff] at hfv
        exact hfv ▸ List.mem_map_of_mem hr
      · intro hm
        obtain ⟨r, hr, e⟩ := List.mem_map.mp hm
        exact ⟨_, List.mem_map_of_mem hr, by rw [hf r hr, decide_eq_true_iff]; exact e⟩
    rw [e]
    exact h
theorem notin_strs {h₀ : Heap} {L : Addr} {news : List (Addr × Obj)} {R : Addr} {ps : List (Str × Tok)} {x : Str} {t : Tok} {k : Nat} {Q : Value → Shared → Prop} (N : News h₀ L s.heap news) (mR : (R, sList ps k) ∈ news)
    (h : Q (.bool (!(decide (x ∈ sFst ps)))) s) : wpAny (model prog w) A (compareOp .NotIn (.str x t) (.ref R)) Q E s := by
  let f : Value → Bool := fun v => match v with | Value.str y _ => decide (y = x) | _ => false
  refine notin_list (vs := strValues ps) (f := f) (N _ mR).1 (fun v hv Q E hq => ?_) ?_
  · obtain ⟨p, hp, rfl⟩ := List.mem_map.mp hv
    refine eqBool_str ?_
    have : (p.1 == x) = decide (p.1 = x) := by rw [Bool.eq_iff_iff]; simp
    rw [this]
    exact hq
  · have e : (strValues ps).any f = decide (x ∈ sFst ps) := by
      rw [Bool.eq_iff_iff, List.any_eq_true, decide_eq_true_iff]
      constructor
      · rintro ⟨v, hv, hfv⟩
        obtain ⟨r, hr, rfl⟩ := List.mem_map.mp hv
        have : r.1 = x := by simpa [f] using hfv
        exact this ▸ List.mem_map_of_mem hr
      · intro hm
        obtain ⟨r, hr, e⟩ := List.mem_map.mp hm
        exact ⟨_, List.mem_map_of_mem hr, by simpa [f] using e⟩
    rw [e]
    exact h
end
end Mine
end

section
open PySem PySem.W PySem.W.X PyProof.Rows PySem.Calls PyProof.V PySem.Spec
set_option Elab.async false
set_option maxRecDepth 100000
set_option maxHeartbeats 4000000
set_option linter.unusedVariables false
namespace Mine
theorem lnR7c : True := by
  k_with_none
  trivial
theorem lnzR7c : True := by
  k_with_none
  k_with "zf" => (first | (k_here; k_fold; refine letA ?_; intro aX; (with_reducible rename Fr _ _ _ _ => kF); refine letM kF ?_; clear kF; intro mX kF) | (k_here; k_fold; refine letA ?_; intro aX) | (k_here; k_fold) | (k_here; with_reducible first | refine genT1 fun tk => ?_ | refine genT2 fun tk => ?_) | fail)
  k_with "execs cons" => (first | walk_at "zf" | fail)
  k_with "execs" => (first | walk_at "zf" | fail)
  k_with "execs nil" => (first | (k_here; with_reducible first | refine genT1 fun tk => ?_ | refine genT2 fun tk => ?_) | fail)
  k_with "k_ne" => (first | (refine neN ?_; first | (with_reducible first | assumption | exact Ne.symm (by assumption) | exact ca0 (by assumption) | exact cb0 (by assumption) | exact cc0 (by assumption) | exact cd0 (by assumption) | exact ca1 (by assumption) | exact cb1 (by assumption) | exact cc1 (by assumption) | exact cd1 (by assumption) | exact ca2 (by assumption) | exact cb2 (by assumption) | exact cc2 (by assumption) | exact cd2 (by assumption) | exact ca3 (by assumption) | exact cb3 (by assumption) | exact cc3 (by assumption) | exact cd3 (by assumption) | exact ca4 (by assumption) | exact cb4 (by assumption) | exact cc4 (by assumption) | exact cd4 (by assumption) | exact ca5 (by assumption) | exact cb5 (by assumption) | exact cc5 (by assumption) | exact cd5 (by assumption) | exact ca6 (by assumption) | exact cb6 (by assumption) | exact cc6 (by assumption) | exact cd6 (by assumption) | exact ca7 (by assumption) | exact cb7 (by assumption) | exact cc7 (by assumption) | exact cd7 (by assumption) | exact ca8 (by assumption) | exact cb8 (by assumption) | exact cc8 (by assumption) | exact cd8 (by assumption) | exact ca9 (by assumption) | exact cb9 (by assumption) | exact cc9 (by assumption) | exact cd9 (by assumption) | exact ca10 (by assumption) | exact cb10 (by assumption) | exact cc10 (by assumption) | exact cd10 (by assumption) | exact ca11 (by assumption) | exact cb11 (by assumption) | exact cc11 (by assumption) | exact cd11 (by assumption)) | (refine Nat.ne_of_lt (ltm (o := _) (by with_reducible assumption) ?_); k_mem; done) | (refine Nat.ne_of_gt (ltm (o := _) (by with_reducible assumption) ?_); k_mem; done) | ((try dsimp only); omega)) | fail)
  trivial
theorem rowsLed_cons (r : RowAt) (rs : List RowAt) : rowsLed (r :: rs) = (r.a, r.obj) :: rowsLed rs := rfl
noncomputable abbrev rowsObj (rs : List RowAt) : Obj := listOf (refsR rs).toArray 0
section
variable {prog : Program} {w : World} {A : Around} {E : Value → Shared → Prop} {s : Shared} {h₀ : Heap} {m : Str → Option Value} {news : List (Addr × Obj)}
theorem add_rows3 {L a b l1 l2 l3 : Addr} {s1 s2 s3 s4 s5 : Str} {t1 t2 t3 t4 t5 : Tok} {n1 n2 n3 c1 c2 : Nat} {rs : List RowAt} {Q : Value → Shared → Prop} (F : Fr h₀ L s.heap m) (N : News h₀ L s.heap news)
    (ha : (a, listOf #[.ref l1, .ref l2, .ref l3] c1) ∈ news) (hb : (b, ({ cls := .type "list", data := .seq (refsR rs).toArray c2 } : Obj)) ∈ news)
    (h1 : (l1, listOf #[.str s1 t1, .str s2 t2] n1) ∈ news) (h2 : (l2, listOf #[.str s3 t3, .str s4 t4] n2) ∈ news) (h3 : (l3, listOf #[.str s5 t5] n3) ∈ news) (hz : rs.length + 3 ≤ sizeLine)
    (h : ∀ D h', Fr h₀ L h' m → News h₀ L h' ((D, rowsObj (⟨l1, [(s1, t1), (s2, t2)], n1⟩ :: ⟨l2, [(s3, t3), (s4, t4)], n2⟩ :: ⟨l3, [(s5, t5)], n3⟩ :: rs)) :: news) → LtR D news → Q (.ref D) { s with heap := h' }) :
    wpAny (model prog w) A (binaryOp .Add (.ref a) (.ref b)) Q E s := by
  refine add_arrays F N ⟨_, (N _ ha).1, rfl, _, rfl⟩ ⟨_, (N _ hb).1, rfl, _, rfl⟩ (fun h' F' N' => h _ h' F' ?_ fun p hp => Heap.lt_size (N p hp).1) (by show 3 + (refsR rs).toArray.size ≤ _; simp; (first | lia | omega))
  exact N'
theorem add_row1 {L a b D₁ : Addr} {xs : List (Str × Tok)} {n c1 c2 : Nat} {rs : List RowAt} {Q : Value → Shared → Prop} (F : Fr h₀ L s.heap m) (N : News h₀ L s.heap news)
    (ha : (a, listOf #[.ref D₁] c1) ∈ news) (hb : (b, ({ cls := .type "list", data := .seq (refsR rs).toArray c2 } : Obj)) ∈ news)
    (h1 : (D₁, sList xs n) ∈ news) (hz : rs.length + 1 ≤ sizeLine)
    (h : ∀ D h', Fr h₀ L h' m → News h₀ L h' ((D, rowsObj (⟨D₁, xs, n⟩ :: rs)) :: news) → LtR D news → Q (.ref D) { s with heap := h' }) :
    wpAny (model prog w) A (binaryOp .Add (.ref a) (.ref b)) Q E s := by
  refine add_arrays F N ⟨_, (N _ ha).1, rfl, _, rfl⟩ ⟨_, (N _ hb).1, rfl, _, rfl⟩ (fun h' F' N' => h _ h' F' ?_ fun p hp => Heap.lt_size (N p hp).1) (by show 1 + (refsR rs).toArray.size ≤ _; simp; (first | lia | omega))
  exact N'
variable {env : Env} {x : Str} {body : List Stmt} {Q : Flow → Shared → Prop}
theorem UnrPost_mono {L I : Addr} {it : Obj} {r1 r2 : (Str → Option Value) → List (Addr × Obj) → Prop} {s₁ : Shared} (h : ∀ m n, r1 m n → r2 m n) (f : Flow) (s₂ : Shared) (hp : UnrPost h₀ L s₁ I it r1 Q f s₂) : UnrPost h₀ L s₁ I it r2 Q f s₂ := by
  have go : UnrEnd h₀ L s₁ I it r1 s₂ → UnrEnd h₀ L s₁ I it r2 s₂ := by
    rintro ⟨h', tk, m', n', e, F, N, o, r⟩
    exact ⟨h', tk, m', n', e, F, N, o, h _ _ r⟩
  cases f with
  | ret v => exact hp
  | brk => exact hp
  | next => exact go hp
  | cont => exact go hp
noncomputable def Mark (bo : Addr × Obj) : Prop := bo = bo
theorem mark_ne {bo : Addr × Obj} {I : Addr} {news : List (Addr × Obj)} (_ : Mark bo) (l : ∀ p ∈ news, p.1 < I) (hm : bo ∈ news) : bo.1 ≠ I := Nat.ne_of_lt (l _ hm)
noncomputable abbrev kRows : Str := Str.ofString "rows"
noncomputable abbrev kRow : Str := Str.ofString "row"
noncomputable def RowsJ (lp bo : Addr × Obj) (RS : List RowAt) (rows : List (List Str)) (m : Str → Option Value) (n : List (Addr × Obj)) : Prop :=
  ∃ R rs, m kRows = some (.ref R) ∧ rs.map RowAt.row = rows ∧ n = (R, rowsObj rs) :: lp :: bo :: (rowsLed RS ++ rowsLed rs)
theorem m_eq {m : Str → Option Value} {y : Str} {v : Value} (h : m y = some v) : m = fun z => if z = y then some v else m z := by
  funext z
  by_cases e : z = y
  · rw [if_pos e, e, h]
  · rw [if_neg e]
theorem m_eq2 {m : Str → Option Value} {y z : Str} {v u : Value} (h : m y = some v) (h2 : m z = some u) : m = fun a => if a = y then some v else if a = z then some u else m a := by
  funext a
  by_cases e : a = y
  · rw [if_pos e, e, h]
  · rw [if_neg e]
    by_cases e : a = z
    · rw [if_pos e, e, h2]
    · rw [if_neg e]
theorem foldl_len (l : List (List Str)) (h : ∀ r ∈ l, r.length ≤ 3) (rows : List (List Str)) : (l.foldl addRow rows).length ≤ rows.length + 3 * l.length := by
  induction l generalizing rows with
  | nil => simp
  | cons r l ih =>
    have h1 := (addRow_len rows r).2
    have h2 := h r (.head _)
    have h3 := ih (fun q hq => h q (.tail _ hq)) (addRow rows r)
    simp only [List.foldl_cons, List.length_cons]
    (first | lia | omega)
theorem rows_out {I : Addr} {lp bo : Addr × Obj} {RS : List RowAt} {R₀ : Addr} (hk : Mark bo) (hlp : lp ∈ news) (hbo : bo ∈ news) (hm : m kRows = some (.ref R₀)) (h0 : (R₀, listOf #[] 0) ∈ news) (hRS : ∀ p ∈ rowsLed RS, p ∈ news) (h3 : ∀ r ∈ RS, r.xs.length ≤ 3) (h7 : RS.length ≤ 7)
    (step : ∀ (ra : Addr) (xs : List (Str × Tok)) (n : Nat) (R : Addr) (rs : List RowAt) (m : Str → Option Value) (it : Obj) (h : Heap) (tk : Nat), ⟨ra, xs, n⟩ ∈ RS → rs.length ≤ 21 → xs.length ≤ 3 → it.cls = .type "list_iterator" → Fr h₀ env.locals h (fun y => if y = x then some (.ref ra) else if y = kRows then some (.ref R) else m y) → News h₀ env.locals h ((I, it) :: (R, rowsObj rs) :: lp :: bo :: (ra, sList xs n) :: (rowsLed RS ++ rowsLed rs)) →
      wpAny (model prog w) A (execs body env) (UnrPost h₀ env.locals { s with heap := h, toks := tk } I it (RowsJ lp bo RS (addRow (rs.map RowAt.row) (sFst xs))) Q) E { s with heap := h, toks := tk })
    (fin : ∀ (R : Addr) (rs : List RowAt) (m : Str → Option Value) (h : Heap) (tk : Nat), rs.map RowAt.row = (RS.map RowAt.row).foldl addRow [] → Fr h₀ env.locals h (fun y => if y = kRows then some (.ref R) else m y) → News h₀ env.locals h ((R, rowsObj rs) :: lp :: bo :: (rowsLed RS ++ rowsLed rs)) → Q .next { s with heap := h, toks := tk }) :
    ListRest prog w A E h₀ env x body Q s I lp (refsR RS) m news := by
  have hlen : ∀ {rs : List RowAt} {k : Nat}, rs.map RowAt.row = ((RS.take k).map RowAt.row).foldl addRow [] → rs.length ≤ 21 := by
    intro rs k e
    have h1 : ∀ r ∈ (RS.take k).map RowAt.row, r.length ≤ 3 := by
      intro r hr
      obtain ⟨q, hq, rfl⟩ := List.mem_map.mp hr
      have := h3 q (List.mem_of_mem_take hq)
      simpa [RowAt.row, sFst] using this
    have h2 := foldl_len _ h1 []
    rw [← e] at h2
    simp only [List.length_map, List.length_take, List.length_nil] at h2
    (first | lia | omega)
  have go : ∀ j k, j + k = RS.length → ∀ R rs m news, m kRows = some (.ref R) → rs.map RowAt.row = ((RS.take k).map RowAt.row).foldl addRow [] → (∀ p ∈ (R, rowsObj rs) :: lp :: bo :: (rowsLed RS ++ rowsLed rs), p ∈ news) → ListRest prog w A E h₀ env x body Q s I lp (refsR (RS.drop k)) m news := by
    intro j
    induction j with
    | zero =>
      intro k hk R rs m news hm hr sub
      rw [List.drop_eq_nil_of_le (by (first | lia | omega))]
      intro h tk F N
      rw [List.take_of_length_le (by (first | lia | omega))] at hr
      rw [m_eq hm] at F
      exact fin R rs m h tk hr F fun p hp => N p (sub p hp)
    | succ j ih =>
      intro k hk R rs m news hm hr sub
      have hlt : k < RS.length := by (first | lia | omega)
      have hd : RS.drop k = RS[k] :: RS.drop (k + 1) := List.drop_eq_getElem_cons hlt
      rw [hd]
      intro it h tk hit F N
      have hin : RS[k] ∈ RS := List.getElem_mem hlt
      have hl := hlen hr
      have h3' := h3 _ hin
      have hnext : addRow (rs.map RowAt.row) RS[k].row = ((RS.take (k + 1)).map RowAt.row).foldl addRow [] := by
        rw [List.take_add_one, List.getElem?_eq_getElem hlt, List.map_append, List.foldl_append, ← hr]
        rfl
      rw [m_eq hm] at F
      refine wpAny_mono (step RS[k].a RS[k].xs RS[k].n R rs m it h tk hin hl h3' hit F fun p hp => ?_) (UnrPost_mono fun m' n' hj => ?_) fun _ _ e => e
      · revert p
        refine fa_cons (N _ (.head _)) ?_
        refine fa_cons (N _ (.tail _ (sub _ (.head _)))) ?_
        refine fa_cons (N _ (.tail _ (sub _ (.tail _ (.head _))))) ?_
        refine fa_cons (N _ (.tail _ (sub _ (.tail _ (.tail _ (.head _)))))) ?_
        refine fa_cons (N _ (.tail _ (sub _ (.tail _ (.tail _ (.tail _ (List.mem_append_left _ (List.mem_map_of_mem (f := fun r : RowAt => (r.a, r.obj)) hin)))))))) ?_
        intro p hp
        · exact N _ (.tail _ (sub _ (.tail _ (.tail _ (.tail _ hp)))))
      · obtain ⟨R', rs', hm', hr', rfl⟩ := hj
        refine ⟨.tail _ (.head _), ih (k + 1) (by (first | lia | omega)) R' rs' m' _ hm' (hr'.trans hnext) fun p hp => hp⟩
  refine go RS.length 0 (by (first | lia | omega)) R₀ [] m news hm rfl fun p hp => ?_
  revert p
  refine fa_cons (h0) ?_
  refine fa_cons (hlp) ?_
  refine fa_cons (hbo) ?_
  intro p hp
  rcases List.mem_append.mp hp with hp | hp
  · exact hRS p hp
  · exact nomatch hp
noncomputable def RowsI (ip lp bo : Addr × Obj) (RS : List RowAt) (rp : Addr × Obj) (rows : List (List Str)) (m : Str → Option Value) (n : List (Addr × Obj)) : Prop :=
  ∃ R rs, m kRows = some (.ref R) ∧ m kRow = some (.ref rp.1) ∧ rs.map RowAt.row = rows ∧ n = (R, rowsObj rs) :: ip :: lp :: bo :: rp :: (rowsLed RS ++ rowsLed rs)
theorem rows_in {I : Addr} {ip lp bo : Addr × Obj} {RS rs₀ : List RowAt} {R₀ ra : Addr} {xs : List (Str × Tok)} {c : Nat} {s₀ : List (Addr × Obj)} (hm : m kRows = some (.ref R₀)) (hm2 : m kRow = some (.ref ra))
    (h0 : ∀ p ∈ (R₀, rowsObj rs₀) :: ip :: lp :: bo :: (ra, sList xs c) :: (rowsLed RS ++ rowsLed rs₀), p ∈ news)
    (step : ∀ (i : Nat) (R : Addr) (rs : List RowAt) (m : Str → Option Value) (t : Tok) (h : Heap) (tk : Nat), i < xs.length → rs.length ≤ rs₀.length + i → Fr h₀ env.locals h (fun y => if y = x then some (.int (1 + (i : Int)) t) else if y = kRows then some (.ref R) else if y = kRow then some (.ref ra) else m y) → News h₀ env.locals h ((I, itR (1 + ((i + 1 : Nat) : Int)) ((xs.length : Int) - ((i + 1 : Nat) : Int))) :: (R, rowsObj rs) :: ip :: lp :: bo :: (ra, sList xs c) :: (rowsLed RS ++ rowsLed rs)) →
      wpAny (model prog w) A (execs body env) (UnrPost h₀ env.locals { s with heap := h, toks := tk } I (itR (1 + ((i + 1 : Nat) : Int)) ((xs.length : Int) - ((i + 1 : Nat) : Int))) (RowsI ip lp bo RS (ra, sList xs c) (addPre (sFst xs) (rs.map RowAt.row) i)) Q) E { s with heap := h, toks := tk })
    (fin : ∀ (R : Addr) (rs : List RowAt) (m : Str → Option Value) (h : Heap) (tk : Nat), rs.map RowAt.row = addRow (rs₀.map RowAt.row) (sFst xs) → Fr h₀ env.locals h (fun y => if y = kRows then some (.ref R) else if y = kRow then some (.ref ra) else m y) → News h₀ env.locals h ((R, rowsObj rs) :: ip :: lp :: bo :: (ra, sList xs c) :: (rowsLed RS ++ rowsLed rs)) → Q .next { s with heap := h, toks := tk }) :
    RangeRest prog w A E h₀ env x body Q s I 1 xs.length xs.length 0 m news := by
  have hlx : (sFst xs).length = xs.length := by simp [sFst]
  have hlen : ∀ {rs : List RowAt} {k : Nat}, rs.map RowAt.row = (List.range k).foldl (addPre (sFst xs)) (rs₀.map RowAt.row) → rs.length ≤ rs₀.length + k := by
    intro rs k e
    have go : ∀ k, ((List.range k).foldl (addPre (sFst xs)) (rs₀.map RowAt.row)).length ≤ rs₀.length + k := by
      intro k
      induction k with
      | zero => simp
      | succ k ih =>
        rw [List.range_succ, List.foldl_append]
        have z := (addPre_len (sFst xs) ((List.range k).foldl (addPre (sFst xs)) (rs₀.map RowAt.row)) k).2
        show (addPre _ _ k).length ≤ _
        (first | lia | omega)
    have := go k
    rw [← e, List.length_map] at this
    exact this
  have go : ∀ j k, j + k = xs.length → ∀ R rs m news, m kRows = some (.ref R) → m kRow = some (.ref ra) → rs.map RowAt.row = (List.range k).foldl (addPre (sFst xs)) (rs₀.map RowAt.row) → (∀ p ∈ (R, rowsObj rs) :: ip :: lp :: bo :: (ra, sList xs c) :: (rowsLed RS ++ rowsLed rs), p ∈ news) → RangeRest prog w A E h₀ env x body Q s I 1 xs.length j k m news := by
    intro j
    induction j with
    | zero =>
      intro k hk R rs m news hm hm2 hr sub h tk F N
      have hk' : k = xs.length := by (first | lia | omega)
      subst hk'
      rw [m_eq2 hm hm2] at F
      refine fin R rs m h tk ?_ F fun p hp => N p (sub p hp)
      unfold addRow
      rw [hlx]
      exact hr
    | succ j ih =>
      intro k hk R rs m news hm hm2 hr sub t h tk F N
      have hl := hlen hr
      rw [m_eq2 hm hm2] at F
      refine wpAny_mono (step k R rs m t h tk (by (first | lia | omega)) hl F fun p hp => ?_) (UnrPost_mono fun m' n' hj => ?_) fun _ _ e => e
      · rcases List.mem_cons.mp hp with rfl | hp
        · exact N _ (.head _)
        · exact N _ (.tail _ (sub _ hp))
      · obtain ⟨R', rs', hm', hm2', hr', rfl⟩ := hj
        refine ih (k + 1) (by (first | lia | omega)) R' rs' m' _ hm' hm2' (hr'.trans ?_) fun p hp => hp
        rw [List.range_succ, List.foldl_append, hr]
        rfl
  exact go xs.length 0 (by (first | lia | omega)) R₀ rs₀ m news hm hm2 rfl h0
theorem rows_end_out {L I R : Addr} {it : Obj} {lp bo : Addr × Obj} {RS rs : List RowAt} {rows : List (List Str)} {s₁ : Shared} {h' : Heap} {tk : Nat} {m' : Str → Option Value} {all : List (Addr × Obj)} (F : Fr h₀ L h' m') (N : News h₀ L h' all) (hI : (I, it) ∈ all) (hit : it.cls = .type "list_iterator") (hl : lp.2.cls = .type "list") (hbo : bo.1 ≠ I)
    (hm : m' kRows = some (.ref R)) (hr : rs.map RowAt.row = rows) (sub : ∀ p ∈ (R, rowsObj rs) :: lp :: bo :: (rowsLed RS ++ rowsLed rs), p ∈ all) : UnrEnd h₀ L s₁ I it (RowsJ lp bo RS rows) { s₁ with heap := h', toks := tk } := by
  refine UnrEnd.intro F N _ (fun p hp => ?_) (fun p hp e => ?_) ⟨R, rs, hm, hr, rfl⟩
  · rcases List.mem_cons.mp hp with rfl | hp
    · exact hI
    · exact sub p hp
  · have h1 := (N _ (sub p hp)).1
    have h2 := (N _ hI).1
    rw [e] at h1
    have h4 : p.2.cls = it.cls := congrArg Obj.cls (Option.some.inj (h1.symm.trans h2))
    have h5 : p.2.cls = .type "list" := by
      rcases List.mem_cons.mp hp with rfl | hp
      · rfl
      rcases List.mem_cons.mp hp with rfl | hp
      · exact hl
      rcases List.mem_cons.mp hp with rfl | hp
      · exact absurd e hbo
      rcases List.mem_append.mp hp with hp | hp <;>
      · obtain ⟨r, _, rfl⟩ := List.mem_map.mp hp
        rfl
    rw [h5, hit] at h4
    exact absurd (Value.type.inj h4) (by decide)
theorem rows_end_in {L I R : Addr} {it : Obj} {ip lp bo rp : Addr × Obj} {RS rs : List RowAt} {rows : List (List Str)} {s₁ : Shared} {h' : Heap} {tk : Nat} {m' : Str → Option Value} {all : List (Addr × Obj)} (F : Fr h₀ L h' m') (N : News h₀ L h' all) (hI : (I, it) ∈ all) (hit : it.cls = .type "range_iterator") (hi : ip.2.cls = .type "list_iterator") (hl : lp.2.cls = .type "list") (hbo : bo.1 ≠ I) (hrp : rp.2.cls = .type "list")
    (hm : m' kRows = some (.ref R)) (hm2 : m' kRow = some (.ref rp.1)) (hr : rs.map RowAt.row = rows) (sub : ∀ p ∈ (R, rowsObj rs) :: ip :: lp :: bo :: rp :: (rowsLed RS ++ rowsLed rs), p ∈ all) : UnrEnd h₀ L s₁ I it (RowsI ip lp bo RS rp rows) { s₁ with heap := h', toks := tk } := by
  refine UnrEnd.intro F N _ (fun p hp => ?_) (fun p hp e => ?_) ⟨R, rs, hm, hm2, hr, rfl⟩
  · rcases List.mem_cons.mp hp with rfl | hp
    · exact hI
    · exact sub p hp
  · have h1 := (N _ (sub p hp)).1
    have h2 := (N _ hI).1
    rw [e] at h1
    have h4 : p.2.cls = it.cls := congrArg Obj.cls (Option.some.inj (h1.symm.trans h2))
    have h5 : p.2.cls = .type "list" ∨ p.2.cls = .type "list_iterator" := by
      rcases List.mem_cons.mp hp with rfl | hp
      · exact .inl rfl
      rcases List.mem_cons.mp hp with rfl | hp
      · exact .inr hi
      rcases List.mem_cons.mp hp with rfl | hp
      · exact .inl hl
      rcases List.mem_cons.mp hp with rfl | hp
      · exact absurd e hbo
      rcases List.mem_cons.mp hp with rfl | hp
      · exact .inl hrp
      rcases List.mem_append.mp hp with hp | hp <;>
      · obtain ⟨r, _, rfl⟩ := List.mem_map.mp hp
        exact .inl rfl
    rcases h5 with h5 | h5 <;>
    · rw [h5, hit] at h4
      exact absurd (Value.type.inj h4) (by decide)
end
theorem rowOf_len (n : Int) : (rowOf n).length ≤ 3 := (rows39_len _ (rowOf_in n)).2
theorem rows_len3 {rs : List RowAt} {ns : List Int} (hr : rs.map RowAt.row = ns.map rowOf) : ∀ r ∈ rs, r.xs.length ≤ 3 := by
  intro r h
  have h1 : r.row ∈ ns.map rowOf := hr ▸ List.mem_map_of_mem h
  obtain ⟨n, _, e⟩ := List.mem_map.mp h1
  have := rowOf_len n
  rw [e] at this
  simpa [RowAt.row, sFst] using this
theorem src_led {l1 l2 l3 : Addr} {s1 s2 s3 s4 s5 : Str} {t1 t2 t3 t4 t5 : Tok} {n1 n2 n3 : Nat} {rs : List RowAt} {all : List (Addr × Obj)} (h1 : (l1, listOf #[.str s1 t1, .str s2 t2] n1) ∈ all) (h2 : (l2, listOf #[.str s3 t3, .str s4 t4] n2) ∈ all) (h3 : (l3, listOf #[.str s5 t5] n3) ∈ all) (hr : ∀ p ∈ rowsLed rs, p ∈ all) :
    ∀ p ∈ rowsLed (⟨l1, [(s1, t1), (s2, t2)], n1⟩ :: ⟨l2, [(s3, t3), (s4, t4)], n2⟩ :: ⟨l3, [(s5, t5)], n3⟩ :: rs), p ∈ all := by
  intro p hp
  revert p
  refine fa_cons (h1) ?_
  refine fa_cons (h2) ?_
  refine fa_cons (h3) ?_
  intro p hp
  · exact hr p hp
theorem src_len {l1 l2 l3 : Addr} {s1 s2 s3 s4 s5 : Str} {t1 t2 t3 t4 t5 : Tok} {n1 n2 n3 : Nat} {rs : List RowAt} (h : ∀ r ∈ rs, r.xs.length ≤ 3) :
    ∀ r ∈ ((⟨l1, [(s1, t1), (s2, t2)], n1⟩ :: ⟨l2, [(s3, t3), (s4, t4)], n2⟩ :: ⟨l3, [(s5, t5)], n3⟩ :: rs) : List RowAt), r.xs.length ≤ 3 := by
  intro r hr
  revert r
  refine fa_cons (Nat.le_of_ble_eq_true rfl) ?_
  refine fa_cons (Nat.le_of_ble_eq_true rfl) ?_
  refine fa_cons (Nat.le_of_ble_eq_true rfl) ?_
  intro r hr
  · exact h r hr
theorem range_small {k : Nat} (h : k ≤ 3) : Builtin.Range.small 1 ((k : Int) + 1) 1 = true := by
  rcases k with _ | _ | _ | _ | k
  · decide
  · decide
  · decide
  · decide
  · (first | lia | omega)
theorem range_size (k : Nat) : Builtin.Range.rangeSize 1 ((k : Int) + 1) 1 = (k : Int) := by
  unfold Builtin.Range.rangeSize
  rw [if_pos (by decide)]
  split
  · rw [Int.ediv_one]; (first | lia | omega)
  · (first | lia | omega)
section
variable {prog : Program} {w : World} {A : Around} {E : Value → Shared → Prop} {s : Shared} {h₀ : Heap} {m : Str → Option Value} {news : List (Addr × Obj)}
theorem rows_in' {env : Env} {x : Str} {body : List Stmt} {Q : Flow → Shared → Prop} {I I₀ ax : Addr} {it : Obj} {bo : Addr × Obj} {RS rs₀ : List RowAt} {R₀ ra : Addr} {xs : List (Str × Tok)} {c : Nat} (hm : m kRows = some (.ref R₀)) (hm2 : m kRow = some (.ref ra))
    (hR : (R₀, rowsObj rs₀) ∈ news) (hit : it.cls = .type "list_iterator") (hip : (I₀, it) ∈ news) (hT : ∀ p ∈ rowsLed RS ++ rowsLed rs₀, p ∈ news) (hlp : (ax, rowsObj RS) ∈ news) (hk : Mark bo) (hbo : bo ∈ news) (hrp : (ra, sList xs c) ∈ news)
    (step : ∀ (i : Nat) (R : Addr) (rs : List RowAt) (m : Str → Option Value) (t : Tok) (h : Heap) (tk : Nat), i < xs.length → rs.length ≤ rs₀.length + i → Fr h₀ env.locals h (fun y => if y = x then some (.int (1 + (i : Int)) t) else if y = kRows then some (.ref R) else if y = kRow then some (.ref ra) else m y) → News h₀ env.locals h ((I, itR (1 + ((i + 1 : Nat) : Int)) ((xs.length : Int) - ((i + 1 : Nat) : Int))) :: (R, rowsObj rs) :: (I₀, it) :: (ax, rowsObj RS) :: bo :: (ra, sList xs c) :: (rowsLed RS ++ rowsLed rs)) →
      wpAny (model prog w) A (execs body env) (UnrPost h₀ env.locals { s with heap := h, toks := tk } I (itR (1 + ((i + 1 : Nat) : Int)) ((xs.length : Int) - ((i + 1 : Nat) : Int))) (RowsI (I₀, it) (ax, rowsObj RS) bo RS (ra, sList xs c) (addPre (sFst xs) (rs.map RowAt.row) i)) Q) E { s with heap := h, toks := tk })
    (fin : ∀ (R : Addr) (rs : List RowAt) (m : Str → Option Value) (h : Heap) (tk : Nat), rs.map RowAt.row = addRow (rs₀.map RowAt.row) (sFst xs) → Fr h₀ env.locals h (fun y => if y = kRows then some (.ref R) else if y = kRow then some (.ref ra) else m y) → News h₀ env.locals h ((R, rowsObj rs) :: (I₀, it) :: (ax, rowsObj RS) :: bo :: (ra, sList xs c) :: (rowsLed RS ++ rowsLed rs)) → Q .next { s with heap := h, toks := tk }) :
    RangeRest prog w A E h₀ env x body Q s I 1 xs.length xs.length 0 m news := by
  refine rows_in (s₀ := []) hm hm2 (fun p hp => ?_) step fin
  revert p
  refine fa_cons (hR) ?_
  refine fa_cons (hip) ?_
  refine fa_cons (hlp) ?_
  refine fa_cons (hbo) ?_
  refine fa_cons (hrp) ?_
  intro p hp
  · exact hT p hp
theorem sub_cons {r : RowAt} {RS rs : List RowAt} {all : List (Addr × Obj)} (hD : (r.a, r.obj) ∈ all) (h : ∀ p ∈ rowsLed RS ++ rowsLed rs, p ∈ all) : ∀ p ∈ rowsLed RS ++ rowsLed (r :: rs), p ∈ all := by
  intro p hp
  rcases List.mem_append.mp hp with hp | hp
  · exact h p (List.mem_append_left _ hp)
  · rcases List.mem_cons.mp hp with rfl | hp
    · exact hD
    · exact h p (List.mem_append_right _ hp)
theorem pre_no {xs : List (Str × Tok)} {i : Nat} {rows : List (List Str)} (h : sFst (xs.take (1 + (i : Int)).toNat) ∈ rows) : rows = addPre (sFst xs) rows i := by
  have e : sFst (xs.take (1 + (i : Int)).toNat) = (sFst xs).take (i + 1) := by
    unfold sFst
    rw [List.map_take]
    congr 1
    (first | lia | omega)
  unfold addPre
  rw [e] at h
  rw [if_pos h]
theorem pre_yes {xs : List (Str × Tok)} {i : Nat} {rows : List (List Str)} (h : sFst (xs.take (1 + (i : Int)).toNat) ∉ rows) : sFst (xs.take (1 + (i : Int)).toNat) :: rows = addPre (sFst xs) rows i := by
  have e : sFst (xs.take (1 + (i : Int)).toNat) = (sFst xs).take (i + 1) := by
    unfold sFst
    rw [List.map_take]
    congr 1
    (first | lia | omega)
  unfold addPre
  rw [e] at h ⊢
  rw [if_neg h]
theorem notin_rows_c {L R S : Addr} {RS rs : List RowAt} {xs : List (Str × Tok)} {n : Nat} {Q : Value → Shared → Prop} (hu : Nat.ble A.units 8990 = true) (N : News h₀ L s.heap news) (mR : (R, rowsObj rs) ∈ news) (hT : ∀ p ∈ rowsLed RS ++ rowsLed rs, p ∈ news) (mS : (S, sList xs n) ∈ news)
    (h1 : sFst xs ∉ rs.map RowAt.row → Q (.bool true) s) (h2 : sFst xs ∈ rs.map RowAt.row → Q (.bool false) s) : wpAny (model prog w) A (compareOp .NotIn (.ref S) (.ref R)) Q E s := by
  refine notin_rows hu N mR mS (fun p hp => hT _ (List.mem_append_right _ hp)) ?_
  by_cases e : sFst xs ∈ rs.map RowAt.row
  · rw [decide_eq_true e]; exact h2 e
  · rw [decide_eq_false e]; exact h1 e
theorem rows_end_out' {L I R ax : Addr} {it : Obj} {bo : Addr × Obj} {RS rs : List RowAt} {rows : List (List Str)} {s₁ : Shared} {h' : Heap} {tk : Nat} {m' : Str → Option Value} {all : List (Addr × Obj)} (F : Fr h₀ L h' m') (N : News h₀ L h' all) (hit : it.cls = .type "list_iterator") (hI : (I, it) ∈ all)
    (hm : m' kRows = some (.ref R)) (hR : (R, rowsObj rs) ∈ all) (hl : (ax, rowsObj RS) ∈ all) (hbo : bo ∈ all) (hbI : bo.1 ≠ I) (sub : ∀ p ∈ rowsLed RS ++ rowsLed rs, p ∈ all) (hr : rs.map RowAt.row = rows) : UnrEnd h₀ L s₁ I it (RowsJ (ax, rowsObj RS) bo RS rows) { s₁ with heap := h', toks := tk } := by
  refine rows_end_out F N hI hit rfl hbI hm hr fun p hp => ?_
  revert p
  refine fa_cons (hR) ?_
  refine fa_cons (hl) ?_
  refine fa_cons (hbo) ?_
  intro p hp
  · exact sub p hp
theorem rows_end_in' {L I R ax ra I₀ : Addr} {it itr : Obj} {bo : Addr × Obj} {RS rs : List RowAt} {xs : List (Str × Tok)} {c : Nat} {rows : List (List Str)} {s₁ : Shared} {h' : Heap} {tk : Nat} {m' : Str → Option Value} {all : List (Addr × Obj)} (F : Fr h₀ L h' m') (N : News h₀ L h' all) (hit : it.cls = .type "list_iterator") (hI : (I, itr) ∈ all) (hitr : itr.cls = .type "range_iterator") (hI0 : (I₀, it) ∈ all)
    (hm : m' kRows = some (.ref R)) (hm2 : m' kRow = some (.ref ra)) (hR : (R, rowsObj rs) ∈ all) (hl : (ax, rowsObj RS) ∈ all) (hbo : bo ∈ all) (hbI : bo.1 ≠ I) (hra : (ra, sList xs c) ∈ all) (sub : ∀ p ∈ rowsLed RS ++ rowsLed rs, p ∈ all) (hr : rs.map RowAt.row = rows) : UnrEnd h₀ L s₁ I itr (RowsI (I₀, it) (ax, rowsObj RS) bo RS (ra, sList xs c) rows) { s₁ with heap := h', toks := tk } := by
  refine rows_end_in F N hI hitr hit rfl hbI rfl hm hm2 hr fun p hp => ?_
  revert p
  refine fa_cons (hR) ?_
  refine fa_cons (hI0) ?_
  refine fa_cons (hl) ?_
  refine fa_cons (hbo) ?_
  refine fa_cons (hra) ?_
  intro p hp
  · exact sub p hp
end
theorem fin_rows {l1 l2 l3 : Addr} {t1 t2 t3 t4 t5 : Tok} {n1 n2 n3 : Nat} {rs R : List RowAt} {ns : List Int} (hr : rs.map RowAt.row = ns.map rowOf)
    (h : R.map RowAt.row = ((((⟨l1, [(Str.ofString "ab", t1), (Str.ofString "a", t2)], n1⟩ :: ⟨l2, [(Str.ofString "a", t3), (Str.ofString "b", t4)], n2⟩ :: ⟨l3, [(Str.ofString "b", t5)], n3⟩ :: rs) : List RowAt).map RowAt.row).foldl addRow [])) : R.map RowAt.row = rowsF ns := by
  rw [h]
  unfold rowsF
  rw [List.foldl_append, List.map_cons, List.map_cons, List.map_cons, hr]
  rfl
theorem len_sl {prog : Program} {w : World} {A : Around} {E : Value → Shared → Prop} {s : Shared} {h₀ : Heap} {L l : Addr} {news : List (Addr × Obj)} {xs : List (Str × Tok)} {n : Nat} {Q : Value → Shared → Prop} (N : News h₀ L s.heap news) (hm : (l, sList xs n) ∈ news) (h3 : xs.length ≤ 16777216)
    (h : Q (.int (xs.length : Int) (s.toks + 1)) { s with toks := s.toks + 1 + 1 }) : wpAny (model prog w) A (call (.builtin "len") [.ref l]) Q E s := by
  have e : (strValues xs).toArray.size = xs.length := by simp [strValues]
  refine len_list (items := (strValues xs).toArray) ⟨_, (N _ hm).1, rfl, _, rfl⟩ (by rw [e]; (first | lia | omega)) ?_
  rw [e]
  exact h
end Mine
end

section
open PySem PySem.W PySem.W.X PyProof.Rows PySem.Calls PyProof.V PySem.Spec
set_option Elab.async false
set_option maxRecDepth 100000
set_option maxHeartbeats 0
namespace Mine
theorem lnR8 : True := by
  k_with_none
  trivial
open PyProof.Rows.LCg
theorem lnR8_1 : True := by
  k_with_none
  k_with "zf" => (first | (k_here; k_fold; refine letA ?_; intro aX; (with_reducible rename Fr _ _ _ _ => kF); refine letM kF ?_; clear kF; intro mX kF) | (k_here; k_fold; refine letA ?_; intro aX) | (k_here; k_fold) | (k_here; with_reducible first | refine genT1 fun tk => ?_ | refine genT2 fun tk => ?_) | fail)
  k_with "execs cons" => (first | walk_at "zf" | fail)
  k_with "execs" => (first | walk_at "zf" | fail)
  k_with "execs nil" => (first | (k_here; with_reducible first | refine genT1 fun tk => ?_ | refine genT2 fun tk => ?_) | fail)
  k_with "k_ne" => (first | (refine neN ?_; first | (with_reducible first | assumption | exact Ne.symm (by assumption) | exact ca0 (by assumption) | exact cb0 (by assumption) | exact cc0 (by assumption) | exact cd0 (by assumption) | exact ca1 (by assumption) | exact cb1 (by assumption) | exact cc1 (by assumption) | exact cd1 (by assumption) | exact ca2 (by assumption) | exact cb2 (by assumption) | exact cc2 (by assumption) | exact cd2 (by assumption) | exact ca3 (by assumption) | exact cb3 (by assumption) | exact cc3 (by assumption) | exact cd3 (by assumption) | exact ca4 (by assumption) | exact cb4 (by assumption) | exact cc4 (by assumption) | exact cd4 (by assumption) | exact ca5 (by assumption) | exact cb5 (by assumption) | exact cc5 (by assumption) | exact cd5 (by assumption) | exact ca6 (by assumption) | exact cb6 (by assumption) | exact cc6 (by assumption) | exact cd6 (by assumption) | exact ca7 (by assumption) | exact cb7 (by assumption) | exact cc7 (by assumption) | exact cd7 (by assumption) | exact ca8 (by assumption) | exact cb8 (by assumption) | exact cc8 (by assumption) | exact cd8 (by assumption) | exact ca9 (by assumption) | exact cb9 (by assumption) | exact cc9 (by assumption) | exact cd9 (by assumption) | exact ca10 (by assumption) | exact cb10 (by assumption) | exact cc10 (by assumption) | exact cd10 (by assumption) | exact ca11 (by assumption) | exact cb11 (by assumption) | exact cc11 (by assumption) | exact cd11 (by assumption)) | (refine Nat.ne_of_lt (ltm (o := _) (by with_reducible assumption) ?_); k_mem; done) | (refine Nat.ne_of_gt (ltm (o := _) (by with_reducible assumption) ?_); k_mem; done) | ((try dsimp only); omega)) | fail)
  k_with "exec For" => (first
    | ((k_here; (rename Fr _ _ _ _ => lF'); (with_unfolding_all refine' For_invVF lF' ?k1 ?k2 ?_; (case k1 => exact rfl); (case k2 => exact rfl); k_whole)))
    | fail)
  trivial
theorem lnR8_2 : True := by
  k_with "eval ListComp" => (first
    | ((k_here; k_dflt (refine LCg.ListComp_U (F₀ := by k_asm) (by rfl) (by decide) (by rfl) (by decide) (by rfl) ?_)))
    | fail)
  trivial
theorem lnR8_3 : True := by
  k_with "CompSrc" => (first
    | ((k_here; k_dflt (refine CompSrc.ledger (by rfl) (by k_asm) (by k_asm) (by k_mem) ?hsz (fun g => ?_); (case hsz => assumption))))
    | fail)
  trivial
theorem lnR8_4 : True := by
  k_with "CompRest" => (first
    | ((k_dflt (refine rows_comp (by assumption) ?_ ?_)); intro rs' _ _ _ _ _ _ _ _ _ _ _ _ _ _ N' offR' off' _; (simp only [List.cons_append, List.nil_append] at N' offR' off'); (simp only [LCg.Off3] at off'); rotate_left; intro _ hr'; (have hlen' := congrArg List.length hr'); (simp only [List.length_map] at hlen'); (try simp only [List.cons_append, List.nil_append]); rotate_right)
    | fail)
  trivial
theorem lnR8_5 : True := by
  k_with "subscriptTail" => (first
    | ((k_here; (with_reducible show wpAny _ _ (subscriptTail _ (PySem.Expr.Slice none _ none _) (Value.ref _) (Value.ref _)) _ _ _); k_dflt (refine' slice_row ?F ?N ?m ?e ?_ ?s ?t; (case F => k_asm); (case N => k_asm); (case m => k_mem); (case e => rfl); (case s => with_unfolding_all rfl); (case t => (intro _; with_unfolding_all rfl))); intro _ _ _ _ _))
    | fail)
  trivial
theorem lnR8_6 : True := by
  k_with "subscriptTail Name Slice ref ref" => (first
    | ((k_here; (with_reducible show wpAny _ _ (subscriptTail _ (PySem.Expr.Slice none _ none _) (Value.ref _) (Value.ref _)) _ _ _); k_dflt (refine' slice_row ?F ?N ?m ?e ?_ ?s ?t; (case F => k_asm); (case N => k_asm); (case m => k_mem); (case e => rfl); (case s => with_unfolding_all rfl); (case t => (intro _; with_unfolding_all rfl))); intro _ _ _ _ _))
    | fail)
  trivial
theorem lnR8_7 : True := by
  k_with "subscriptTail" => (first
    | ((k_here; (with_reducible show wpAny _ _ (subscriptTail (Expr.Name _ _) _ (Value.ref _) (Value.int (Int.fmod _ _) _)) _ _ _); k_dflt (refine' names_item ?N ?m ?k ?_ ?s; (case N => k_asm); (case m => k_mem); (case k => rfl); (case s => with_unfolding_all rfl); skip); intro _))
    | fail)
  trivial
theorem lnR8_8 : True := by
  k_with "CompEnd" => (first
    | ((k_dflt (refine' row_end ?h1 ?h2 ?h3 ?h4 ?hS ?e1 ?e2 ?e3; (case h1 => with_reducible assumption); (case h2 => assumption); (case h3 => assumption); (case h4 => assumption); (case e1 => rfl); (case e2 => rfl); (case e3 => rfl); (case hS => intro _; exact Or.inr ⟨_, by k_mem, rfl, _, rfl⟩))))
    | fail)
  trivial
theorem lnR8_9 : True := by
  k_with "binaryOp Add ref ref" => (first
    | ((k_here; (with_reducible show wpAny _ _ (binaryOp _ (Value.ref _) (Value.ref _)) _ _ _); k_dflt (refine' add_rows3 ?F ?N ?a ?b ?h1 ?h2 ?h3 ?hz ?_; (case F => k_asm); (case N => k_asm); (case a => k_mem); (case b => k_mem); (case h1 => k_mem); (case h2 => k_mem); (case h3 => k_mem); (case hz => (simp only [sizeLine_eq]; (first | lia | omega)))); intro _ _ _ _ _))
    | fail)
  trivial
theorem lnR8_10 : True := by
  k_with "binaryOp Add ref ref" => (first
    | ((k_here; (with_reducible show wpAny _ _ (binaryOp _ (Value.ref _) (Value.ref _)) _ _ _); k_dflt (refine' add_row1 ?F ?N ?a ?b ?h1 ?hz ?_; (case F => k_asm); (case N => k_asm); (case a => k_mem); (case b => k_mem); (case h1 => k_mem); (case hz => (simp only [sizeLine_eq]; (first | lia | omega)))); intro _ _ _ _ _))
    | fail)
  trivial
theorem lnR8_11 : True := by
  k_with "pyIter ref" => (first
    | (((with_reducible show wpAny _ _ (pyIter (Value.ref _)) (fun it s₂ => LoopAtV _ _ _ _ _ _ _ _ _ it s₂) _ _); (rename Fr _ _ _ _ => lF'); (rename News _ _ _ _ => lN'); (with_unfolding_all refine iter_listUnr (lo := rowsObj _) (vs := refsR _) (by rfl) lF' lN' (by k_mem) (by rfl) (by rfl) ?_); clear lF' lN'; intro _ lI'; (k_dflt (have hne' := mark_ne (by assumption) lI' (by k_mem)))))
    | fail)
  trivial
theorem lnR8_12 : True := by
  k_with "ListRest" => (first
    | ((k_here; (rename News _ _ _ _ => lN'); k_dflt (refine' rows_out ?hk ?lp ?hb ?m ?z ?RS ?l3 ?l7 ?_ ?_; (case hk => assumption); (case lp => k_mem); (case hb => k_mem); (case m => with_unfolding_all rfl); (case z => k_mem); (case RS => (refine src_led (by k_mem) (by k_mem) (by k_mem) ?_; (intro _ hp; (repeat (first | exact hp | refine List.Mem.tail _ ?_))))); (case l3 => (refine src_len (rows_len3 (by assumption)))); (case l7 => (simp only [List.length_cons]; (first | lia | omega)))); intro _ _ _ R' rs' m' _ h' tk' _ _ _ _ F' N'; rotate_left; intro _ _ _ _ _ _ _ _; rotate_right))
    | fail)
  trivial
theorem lnR8_13 : True := by
  k_with "r tails" => (first
    | ((intro _ hp; (repeat (first | exact hp | refine List.Mem.tail _ ?_)); done))
    | fail)
  trivial
theorem lnR8_14 : True := by
  k_with "pyIter ref" => (first
    | (((with_reducible show wpAny _ _ (pyIter (Value.ref _)) (fun it s₂ => LoopAtV _ _ _ _ _ _ _ _ _ it s₂) _ _); (rename Fr _ _ _ _ => lF'); (rename News _ _ _ _ => lN'); (rename IsRange _ _ _ _ _ _ _ _ => rgX); (with_unfolding_all refine iter_rangeUnr (by rfl) rgX (range_small (by assumption)) (range_size _) lF' lN' ?_); clear lF' lN'; intro _ lI'; (k_dflt (have hne' := mark_ne (by assumption) lI' (by k_mem)))))
    | fail)
  trivial
theorem lnR8_15 : True := by
  k_with "RangeRest" => (first
    | ((k_here; k_dflt (refine' rows_in' ?m1 ?m2 ?hR ?hit ?hip ?hT ?hlp ?hk ?hb ?hrp ?_ ?_; (case m1 => with_unfolding_all rfl); (case m2 => with_unfolding_all rfl); (case hR => k_mem); (case hit => assumption); (case hip => k_mem); (case hT => walk_at "r tails"); (case hlp => k_mem); (case hk => assumption); (case hb => k_mem); (case hrp => k_mem)); intro _ R' rs' m' _ h' tk' _ _ F' N'; rotate_left; intro _ _ _ _ _ _ _ _; rotate_right))
    | fail)
  trivial
theorem lnR8_16 : True := by
  k_with "subscriptTail Name Slice ref ref" => (first
    | ((k_here; (with_reducible show wpAny _ _ (subscriptTail _ (PySem.Expr.Slice none _ none _) (Value.ref _) (Value.ref _)) _ _ _); k_dflt (refine' slice_g ?F ?N ?m ?e ?e2 ?_ ?s ?t; (case F => k_asm); (case N => k_asm); (case m => k_mem); (case e => (first | lia | omega)); (case e2 => (first | lia | omega)); (case s => with_unfolding_all rfl); (case t => (intro _; with_unfolding_all rfl))); intro _ _ _ _ _))
    | fail)
  trivial
theorem lnR8_17 : True := by
  k_with "compareOp NotIn ref ref" => (first
    | ((k_here; (with_reducible show wpAny _ _ (compareOp _ (Value.ref _) (Value.ref _)) _ _ _); k_dflt (refine' notin_rows_c ?hu ?N ?mR ?hT ?mS ?_ ?_; (case hu => exact rfl); (case N => k_asm); (case mR => k_mem); (case hT => walk_at "r tails"); (case mS => k_mem)); intro hin'; rotate_left; intro _; rotate_right))
    | fail)
  trivial
theorem lnR8_18 : True := by
  k_with "UnrEnd" => (first
    | ((k_here; k_dflt (refine' rows_end_out' ?F ?N ?hit ?hI ?hm ?hR ?hl ?hb ?hbI ?sub ?hr; (case F => k_asm); (case N => k_asm); (case hit => assumption); (case hI => k_mem); (case hm => with_unfolding_all rfl); (case hR => k_mem); (case hl => k_mem); (case hb => k_mem); (case hbI => assumption); (case sub => walk_at "r tails"); (case hr => assumption))))
    | fail)
  trivial
theorem lnR8_19 : True := by
  k_with "UnrEnd" => (first
    | ((k_here; k_dflt (refine' rows_end_in' ?F ?N ?hit ?hI ?hitr ?hI0 ?hm ?hm2 ?hR ?hl ?hb ?hbI ?hra ?sub ?hr; (case F => k_asm); (case N => k_asm); (case hit => assumption); (case hI => k_mem); (case hitr => rfl); (case hI0 => k_mem); (case hm => with_unfolding_all rfl); (case hm2 => with_unfolding_all rfl); (case hR => k_mem); (case hl => k_mem); (case hb => k_mem); (case hbI => assumption); (case hra => k_mem); (case sub => first | walk_at "r tails" | (refine sub_cons (by k_mem) ?_; walk_at "r tails")); (case hr => first | exact pre_no (by assumption) | exact pre_yes (by assumption)))))
    | fail)
  trivial
theorem lnR8_20 : True := by
  k_with "call builtin:len" => (first
    | ((k_here; (with_reducible show wpAny _ _ (call (Value.builtin "len") [Value.ref _]) _ _ _); (k_dflt (refine' len_sl ?k1 ?k2 ?k3 ?_; (case k1 => k_asm); (case k2 => k_mem); (case k3 => (first | lia | omega)); k_whole))))
    | fail)
  trivial
theorem law_rows_c (w : World) (mean : ExcName → Option Value) (mg mb : Str → Option Value) (sl : Addr) (its : Array Value) (n : Nat) (ns : List Int) (hi : IntsAre its.toList ns) (h4 : its.size ≤ sizeLine) (h5 : ns.length ≤ 4) :
  CQ 800 8000 w mean mg mb 268 [(sl, listOf its n)] (fun _ => False) [.ref sl] (fun h₀ L v h' => ∃ D rs, v = .ref D ∧ rs.map RowAt.row = rowsF ns ∧ News h₀ L h' ((D, rowsObj rs) :: rowsLed rs)) := by
  refine CQ.of fun b o _ => ?_
  have mk : Mark (b, o) := rfl
  unfold CC
  k_fill
  intro gd cn nm ig ic mo a ccd cl outer A₀ base h₀ L m s Q E B F X N T hret
  k_steps
  rename News h₀ L _ _ => N'
  refine hret _ _ _ ⟨_, _, rfl, fin_rows (by assumption) (by assumption), fun p hp => N' p ?_⟩ (by assumption) fun p hp => N' p ?_
  · rcases List.mem_cons.mp hp with rfl | hp
    · exact .head _
    · exact .tail _ (.tail _ (.tail _ (List.mem_append_right _ hp)))
  · rw [List.mem_singleton.mp hp]
    exact .tail _ (.tail _ (.head _))
end Mine
end

section
open PySem PySem.W PySem.W.X PyProof.Rows PySem.Calls PyProof.V PySem.Spec
set_option Elab.async false
set_option maxRecDepth 100000
set_option maxHeartbeats 4000000
set_option linter.unusedVariables false
namespace Mine
theorem lnU1 : True := by
  k_with_none
  trivial
open PyProof.Rows.LCg
noncomputable abbrev ordP (ps : List (Str × Tok)) (rows : List (List Str)) : List (Str × Tok) := (ordR rows).map fun i => ps.getD i (Str.empty, 0)
theorem ordR_lt {rows : List (List Str)} (hd : rows.Nodup) (hn : 1 ≤ rows.length) : ∀ i ∈ ordR rows, i < rows.length := by
  intro i hi
  have ho := (sort_ok (cR_ord hd) hn).1
  have := (List.Perm.mem_iff ho).mp hi
  simpa using this
theorem out_told {ps : List (Str × Tok)} {rows : List (List Str)} (hp : sFst ps = rows.map pth) (h39 : ∀ r ∈ rows, r ∈ rows39) (hd : rows.Nodup) (hn : 1 ≤ rows.length) : outOf cK (strsOf ps) = strValues (ordP ps rows) := by
  have hl : ps.length = rows.length := by have := congrArg List.length hp; simpa [sFst] using this
  have hl2 : (strsOf ps).length = rows.length := by rw [List.length_map]; exact hl
  have at1 : ∀ i, i < rows.length → ∃ r t, r ∈ rows ∧ (strsOf ps).getD i .none = .str (pth r) t ∧ rows.getD i [] = r ∧ ps.getD i (Str.empty, 0) = (pth r, t) := by
    intro i hi
    have h1 : i < ps.length := by (first | lia | omega)
    have h2 : (sFst ps)[i]? = (rows.map pth)[i]? := by rw [hp]
    have h3 : ps[i].1 = pth rows[i] := by
      have : (sFst ps)[i]? = some ps[i].1 := by simp [sFst, h1]
      rw [this] at h2
      simpa [hi] using h2
    refine ⟨rows[i], ps[i].2, List.getElem_mem hi, ?_, by simp [List.getD, hi], ?_⟩
    · simp [List.getD, h1, ← h3]
    · simp [List.getD, h1, ← h3]
  have e : ev (fun i j => cK ((strsOf ps).getD i .none) ((strsOf ps).getD j .none)) (kas_sort rows.length) = ev (cR rows) (kas_sort rows.length) := by
    refine ev_congr (fun i j hi hj => ?_) _ (asks_sort hn)
    obtain ⟨r, t, hr, e1, e2, _⟩ := at1 i hi
    obtain ⟨q, u, hq, e3, e4, _⟩ := at1 j hj
    rw [e1, e3]
    show decide (cmpF (pth r) (pth q) < 0) = cR rows i j
    unfold cR
    rw [e2, e4]
    exact rows_cmp (h39 r hr) (h39 q hq)
  unfold outOf
  rw [hl2, e]
  show List.map _ (ordR rows) = _
  unfold strValues ordP
  rw [List.map_map]
  refine List.map_congr_left fun i hi => ?_
  obtain ⟨r, t, hr, e1, e2, e3⟩ := at1 i (ordR_lt hd hn i hi)
  rw [e1]
  show _ = (fun p : Str × Tok => Value.str p.1 p.2) (ps.getD i (Str.empty, 0))
  rw [e3]
theorem ordP_fst {ps : List (Str × Tok)} {rows : List (List Str)} (hp : sFst ps = rows.map pth) (hd : rows.Nodup) (hn : 1 ≤ rows.length) : sFst (ordP ps rows) = (sortR rows).map pth := by
  have hl : ps.length = rows.length := by have := congrArg List.length hp; simpa [sFst] using this
  unfold sFst ordP sortR
  rw [List.map_map, List.map_map]
  refine List.map_congr_left fun i hi => ?_
  have hi' := ordR_lt hd hn i hi
  have h1 : i < ps.length := by (first | lia | omega)
  have h2 : (sFst ps)[i]? = (rows.map pth)[i]? := by rw [hp]
  have h3 : ps[i].1 = pth rows[i] := by
    have : (sFst ps)[i]? = some ps[i].1 := by simp [sFst, h1]
    rw [this] at h2
    simpa [hi'] using h2
  simp [List.getD, h1, hi', h3]
noncomputable abbrev ordA (rs : List RowAt) : List RowAt := (ordR (rs.map RowAt.row)).map fun i => rs.getD i row0
theorem ordA_row {rs : List RowAt} (hd : (rs.map RowAt.row).Nodup) (hn : 1 ≤ rs.length) : (ordA rs).map RowAt.row = sortR (rs.map RowAt.row) := by
  unfold ordA sortR
  rw [List.map_map]
  refine List.map_congr_left fun i hi => ?_
  have hi' := ordR_lt hd (by rw [List.length_map]; exact hn) i hi
  rw [List.length_map] at hi'
  simp [List.getD, hi']
theorem ordA_mem {rs : List RowAt} (hd : (rs.map RowAt.row).Nodup) (hn : 1 ≤ rs.length) : ∀ r ∈ ordA rs, r ∈ rs := by
  intro r hr
  obtain ⟨i, hi, rfl⟩ := List.mem_map.mp hr
  have hi' := ordR_lt hd (by rw [List.length_map]; exact hn) i hi
  rw [List.length_map] at hi'
  simp [List.getD, hi']
theorem led_mem {rs : List RowAt} {r : RowAt} (h : r ∈ rs) : (r.a, r.obj) ∈ rowsLed rs := List.mem_map_of_mem (f := fun r : RowAt => (r.a, r.obj)) h
theorem nm1 : ∀ a ∈ nm3, a.length ≤ 1048576 ∧ Txt.startswith a (Str.ofString "/") = false ∧ (a.length : Int) ≠ 0 ∧ Txt.endswith a (Str.ofString "/") = false := by decide +kernel
theorem nm2 : ∀ a ∈ nm3, ∀ b ∈ nm3, (a ++ (Str.ofString "/" ++ b)).length ≤ 1048576 ∧ ((a ++ (Str.ofString "/" ++ b)).length : Int) ≠ 0 ∧ Txt.endswith (a ++ (Str.ofString "/" ++ b)) (Str.ofString "/") = false := by decide +kernel
theorem reduce_row (w : World) (mean : ExcName → Option Value) (mg mb : Str → Option Value) (x : Addr) (xs : List (Str × Tok)) (n : Nat) (h39 : sFst xs ∈ rows39) :
  CP 800 8000 w mean mg mb 37 [(x, sList xs n)] [.ref 251, .ref x] (fun v => ∃ tk, v = .str (pth (sFst xs)) tk) := by
  rcases rows39_shape _ h39 with ⟨a, ha, e⟩ | ⟨a, ha, b, hb, e⟩ | ⟨a, ha, b, hb, c, hc, e⟩
  · obtain ⟨p, rfl⟩ : ∃ p, xs = [p] := by
      match xs, e with
      | [p], _ => exact ⟨p, rfl⟩
    obtain rfl : p.1 = a := by simpa [sFst] using e
    rw [e, pth1 _ ha]
    exact reduce1_c w mean mg mb x p.1 p.2 n
  · obtain ⟨p, q, rfl⟩ : ∃ p q, xs = [p, q] := by
      match xs, e with
      | [p, q], _ => exact ⟨p, q, rfl⟩
    obtain ⟨rfl, rfl⟩ : p.1 = a ∧ q.1 = b := by simpa [sFst] using e
    rw [e, pth2 _ ha _ hb]
    exact reduce2_c w mean mg mb x p.1 q.1 p.2 q.2 n (nm1 _ ha).1 (nm1 _ hb).1 (nm1 _ hb).2.1 (nm1 _ ha).2.2.1 (nm1 _ ha).2.2.2
  · obtain ⟨p, q, r, rfl⟩ : ∃ p q r, xs = [p, q, r] := by
      match xs, e with
      | [p, q, r], _ => exact ⟨p, q, r, rfl⟩
    obtain ⟨rfl, rfl, rfl⟩ : p.1 = a ∧ q.1 = b ∧ r.1 = c := by simpa [sFst] using e
    rw [e, pth3 _ ha _ hb _ hc]
    exact reduce3_c w mean mg mb x p.1 q.1 r.1 p.2 q.2 r.2 n (nm1 _ ha).1 (nm1 _ hb).1 (nm1 _ hc).1 (nm1 _ hb).2.1 (nm1 _ ha).2.2.1 (nm1 _ ha).2.2.2 (nm2 _ ha _ hb).1 (nm1 _ hc).2.1 (nm2 _ ha _ hb).2.1 (nm2 _ ha _ hb).2.2
noncomputable def StrEnd (p : Str) (news : List (Addr × Obj)) (y : Value) (nw : List (Addr × Obj)) : Prop := ∃ t, y = .str p t ∧ nw = news
theorem strs_comp {prog : Program} {w : World} {A : Around} {h₀ : Heap} {L : Addr} {m : Str → Option Value} {env : Env} {elt : Expr} {x : Str} {scope : Scope} {cl : List (Str × Addr)} {s : Shared} {S : List (Addr × Obj) → Prop} {Fin : List Value → List (Addr × Obj) → Prop} {news : List (Addr × Obj)} {rs : List RowAt} {f : List Str → Str}
    (step : ∀ ra xs n ps I oI C oC D m₂ h tk (E' : Value → Shared → Prop), ⟨ra, xs, n⟩ ∈ rs → NsObj oC m₂ → m₂ x = some (.ref ra) → Fr h₀ L h m → News h₀ L h ((I, oI) :: (C, oC) :: (D, lst (strValues ps)) :: news) → Off3 I C D news → Off3 I C D news → ((@Ne Nat I C) ∧ (@Ne Nat I D) ∧ (@Ne Nat C D)) →
      wpAny (model prog w) A (eval elt (compEnvC scope cl C env)) (CompEnd h₀ L m { s with heap := h, toks := tk } I oI C oC D (lst (strValues ps)) S (StrEnd (f (sFst xs)) news)) E' { s with heap := h, toks := tk })
    (fin : ∀ ps, sFst ps = rs.map (fun r => f r.row) → Fin (strValues ps) news) :
    CompRest prog w A h₀ L m env elt x scope cl s S (fun i v => (refsR rs).toArray[i]? = some v) Fin (refsR rs).toArray.size 0 [] news := by
  have hsz : (refsR rs).toArray.size = rs.length := by simp
  rw [hsz]
  have go : ∀ k i ps, k + i = rs.length → sFst ps = (rs.take i).map (fun r => f r.row) → CompRest prog w A h₀ L m env elt x scope cl s S (fun i v => (refsR rs).toArray[i]? = some v) Fin k i (strValues ps) news := by
    intro k
    induction k with
    | zero =>
      intro i ps hk hr
      rw [List.take_of_length_le (by (first | lia | omega))] at hr
      exact fin ps hr
    | succ k ih =>
      intro i ps hk hr v I oI C oC D m₂ h tk E' hv hC hx F N off ne
      have hlt : i < rs.length := by (first | lia | omega)
      have ev : v = .ref rs[i].a := by simpa [hlt] using hv.symm
      subst ev
      refine wpAny_mono (step rs[i].a rs[i].xs rs[i].n ps I oI C oC D m₂ h tk E' (List.getElem_mem hlt) hC hx F N off off ne) (fun y s₂ hy => ?_) fun _ _ e => e
      obtain ⟨h', tk', nw, e, F', N', off', hS, t, rfl, rfl⟩ := hy
      refine ⟨h', tk', _, e, F', N', off', hS, ?_⟩
      have e2 : strValues ps ++ [Value.str (f rs[i].row) t] = strValues (ps ++ [(f rs[i].row, t)]) := by simp [strValues]
      show CompRest prog w A h₀ L m env elt x scope cl s S _ Fin k (i + 1) (strValues ps ++ [Value.str (f rs[i].row) t]) nw
      rw [e2]
      refine ih (i + 1) _ (by (first | lia | omega)) ?_
      rw [List.take_add_one, List.getElem?_eq_getElem hlt, List.map_append, ← hr]
      simp [sFst]
  exact go rs.length 0 [] (by (first | lia | omega)) rfl
theorem str_end {h₀ : Heap} {L I C D₀ : Addr} {m : Str → Option Value} {s₁ : Shared} {oI oC oD : Obj} {S : List (Addr × Obj) → Prop} {news : List (Addr × Obj)} {h' : Heap} {tk : Nat} {p : Str} {t : Tok} (F : Fr h₀ L h' m) (N : News h₀ L h' ((I, oI) :: (C, oC) :: (D₀, oD) :: news)) (off : Off3 I C D₀ news) (hS : S news) :
    CompEnd h₀ L m s₁ I oI C oC D₀ oD S (StrEnd p news) (.str p t) { s₁ with heap := h', toks := tk } :=
  ⟨h', tk, news, rfl, F, N, off, hS, t, rfl, rfl⟩
theorem CQ.use0 {dp un : Nat} {w : World} {mean : ExcName → Option Value} {mg mb : Str → Option Value} {f : Addr} {led news : List (Addr × Obj)} {vs : List Value} {P : Heap → Addr → Value → Heap → Prop}
    (c : CQ dp un w mean mg mb f led (fun _ => False) vs P) {A A₀ : Around} {cn : Str} {nm : List (Str × NameKind)} {ig ic : Bool} {mo : List (Str × Const)} {a : Addr} {ccd : Value} {cl : List (Str × Addr)} {outer : List Env} {base h₀ : Heap} {L : Addr} {m : Str → Option Value} {s : Shared} {Q E : Value → Shared → Prop}
    (B : Below A₀ base outer h₀) (F : Fr h₀ L s.heap m) (X : (frag w.params).In h₀) (N : News h₀ L s.heap news) (T : Top topProg LO mean mg mb h₀) (hh : A.handled = none)
    (hf : A.frames = some (envX cn { kind := .function, names := nm, isGenerator := ig, isCoroutine := ic, more := mo } L a ccd cl :: outer)) (hd' : Nat.ble A.depth dp = true) (hu : Nat.ble A.units un = true)
    (hn : news ≠ []) (hs : ∀ p ∈ led, p ∈ news)
    (r : ∀ v h' tk', P h₀ L v h' → Fr h₀ L h' m → News h₀ L h' news → Q v { s with heap := h', toks := tk' }) : wpAny (model PySem.Challenge.rw_in0152_01.row.prog w) A (call (.ref f) vs) Q E s := by
  refine CC.use c B F X (fun p hp => N p (hs p hp)) T hh hf hd' hu ⟨?_, fun v h' tk' hP F' k => r v h' tk' hP F' fun p hp => k p (fun q hq => by rw [List.mem_singleton.mp hq]; exact N p hp) id p (.head _)⟩
  cases news with
  | nil => exact absurd rfl hn
  | cons q r => exact ⟨q, fun p hp => by rw [List.mem_singleton.mp hp]; exact N _ (.head _), id⟩
end Mine
end

section
open PySem PySem.W PySem.W.X PyProof.Rows PySem.Calls PyProof.V PySem.Spec
set_option Elab.async false
set_option maxRecDepth 100000
set_option maxHeartbeats 4000000
set_option linter.unusedVariables false
namespace Mine
theorem lnU2 : True := by
  k_with_none
  trivial
open PyProof.Rows.LCg
theorem led_mem' {ra : Addr} {xs : List (Str × Tok)} {n : Nat} {rs : List RowAt} (h : (⟨ra, xs, n⟩ : RowAt) ∈ rs) : (ra, sList xs n) ∈ rowsLed rs := led_mem h
structure Got (rs : List RowAt) : Prop where
  dr : Drawn (rs.map RowAt.row)
  h2 : 2 ≤ rs.length
  h64 : rs.length ≤ 21
theorem Got.h39 {rs : List RowAt} (G : Got rs) {ra : Addr} {xs : List (Str × Tok)} {n : Nat} (h : ⟨ra, xs, n⟩ ∈ rs) : sFst xs ∈ rows39 := G.dr.sub _ (List.mem_map_of_mem (f := RowAt.row) h)
theorem Got.mem {rs : List RowAt} (G : Got rs) {r : RowAt} (h : r ∈ ordA rs) : r ∈ rs := ordA_mem G.dr.nodup (Nat.le_trans (by decide) G.h2) _ h
theorem Got.sz {rs : List RowAt} (G : Got rs) : (refsR rs).toArray.size ≤ sizeLine := by
  have := G.h64
  rw [List.size_toArray, List.length_map, sizeLine_eq]
  (first | lia | omega)
theorem Got.szA {rs : List RowAt} (G : Got rs) : (refsR (ordA rs)).toArray.size ≤ sizeLine := by
  have h2 := G.h2
  have h64 := G.h64
  have hn : 1 ≤ rs.length := by (first | lia | omega)
  have e := congrArg List.length (ordA_row G.dr.nodup hn)
  rw [(sortR_perm G.dr.nodup (by rw [List.length_map]; exact hn)).length_eq, List.length_map, List.length_map] at e
  rw [List.size_toArray, List.length_map, List.length_map, e, sizeLine_eq, List.length_map]
  (first | lia | omega)
theorem wt_row : ∀ {r : List Str}, r ∈ rows39 → wt r ≤ 1048576 := by
  have h : ∀ r ∈ rows39, wt r ≤ 1048576 := by decide +kernel
  intro r hr
  exact h r hr
theorem rowsF_two (ns : List Int) : 2 ≤ (rowsF ns).length := by
  unfold rowsF
  have go : ∀ (l : List (List Str)) rows, rows.length ≤ (l.foldl addRow rows).length := by
    intro l
    induction l with
    | nil => intro rows; exact Nat.le_refl _
    | cons r l ih => intro rows; exact Nat.le_trans (addRow_len rows r).1 (ih _)
  have e : ((fix3 ++ ns.map rowOf).foldl addRow []) = (ns.map rowOf).foldl addRow (fix3.foldl addRow []) := by rw [List.foldl_append]
  rw [e]
  refine Nat.le_trans ?_ (go _ _)
  decide +kernel
theorem got_of {rs : List RowAt} {ns : List Int} (h : rs.map RowAt.row = rowsF ns) (h4 : ns.length ≤ 4) : Got rs := by
  have hl : rs.length = (rowsF ns).length := by rw [← h, List.length_map]
  refine ⟨by rw [h]; exact rowsF_drawn ns, by rw [hl]; exact rowsF_two ns, ?_⟩
  rw [hl]
  unfold rowsF
  have := foldl_len (fix3 ++ ns.map rowOf) (fun r hr => by
    rcases List.mem_append.mp hr with hr | hr
    · exact (rows39_len r (fix3_in r hr)).2
    · obtain ⟨n, _, rfl⟩ := List.mem_map.mp hr
      exact rowOf_len n) []
  simp only [List.length_append, List.length_map, List.length_nil] at this
  have e3 : fix3.length = 3 := rfl
  (first | lia | omega)
section
variable {w : World} {mean : ExcName → Option Value} {mg mb : Str → Option Value} {A A₀ : Around} {cn : Str} {nm : List (Str × NameKind)} {ig ic : Bool} {mo : List (Str × Const)} {a : Addr} {ccd : Value} {cl : List (Str × Addr)} {outer : List Env} {base h₀ : Heap} {L : Addr} {m : Str → Option Value} {s : Shared} {Q E : Value → Shared → Prop} {news : List (Addr × Obj)}
theorem rows_use {sl : Addr} {ws : List Value} {ms : List Int} {n : Nat}
    (B : Below A₀ base outer h₀) (F : Fr h₀ L s.heap m) (X : (frag w.params).In h₀) (N : News h₀ L s.heap news) (T : Top topProg LO mean mg mb h₀) (hh : A.handled = none)
    (hf : A.frames = some (envX cn { kind := .function, names := nm, isGenerator := ig, isCoroutine := ic, more := mo } L a ccd cl :: outer)) (hd' : Nat.ble A.depth 800 = true) (hu : Nat.ble A.units 8000 = true)
    (hm : (sl, listOf ws.toArray n) ∈ news) (hi : IntsAre ws (List.take 4 ms))
    (r : ∀ D rs h' tk', Got rs → Fr h₀ L h' m → News h₀ L h' ((D, rowsObj rs) :: (news ++ rowsLed rs)) → Q (.ref D) { s with heap := h', toks := tk' }) : wpAny (model PySem.Challenge.rw_in0152_01.row.prog w) A (call (.ref 268) [.ref sl]) Q E s := by
  have h4 : (List.take 4 ms).length ≤ 4 := List.length_take_le ..
  have hsz : ws.toArray.size ≤ sizeLine := by
    have := hi.length
    rw [List.size_toArray, this, sizeLine_eq]
    (first | lia | omega)
  refine CQ.use0 (law_rows_c w mean mg mb sl ws.toArray n (List.take 4 ms) (by simpa using hi) hsz h4) B F X N T hh hf hd' hu (List.ne_nil_of_mem hm) (fun p hp => by rw [List.mem_singleton.mp hp]; exact hm) fun v h' tk' ⟨D, rs, e, hrow, NR⟩ F' N' => ?_
  subst e
  refine r D rs h' tk' (got_of hrow h4) F' fun p hp => ?_
  rcases List.mem_cons.mp hp with rfl | hp
  · exact NR _ (.head _)
  rcases List.mem_append.mp hp with hp | hp
  · exact N' _ hp
  · exact NR _ (.tail _ hp)
theorem red_use {x : Addr} {xs : List (Str × Tok)} {n : Nat} (h39 : sFst xs ∈ rows39)
    (B : Below A₀ base outer h₀) (F : Fr h₀ L s.heap m) (X : (frag w.params).In h₀) (N : News h₀ L s.heap news) (T : Top topProg LO mean mg mb h₀) (hh : A.handled = none)
    (hf : A.frames = some (envX cn { kind := .function, names := nm, isGenerator := ig, isCoroutine := ic, more := mo } L a ccd cl :: outer)) (hd' : Nat.ble A.depth 800 = true) (hu : Nat.ble A.units 8000 = true)
    (hm : (x, sList xs n) ∈ news)
    (r : ∀ t h' tk', Fr h₀ L h' m → News h₀ L h' news → Q (.str (pth (sFst xs)) t) { s with heap := h', toks := tk' }) : wpAny (model PySem.Challenge.rw_in0152_01.row.prog w) A (call (.ref 37) [.ref 251, .ref x]) Q E s :=
  CP.use (reduce_row w mean mg mb x xs n h39) B F X N T hh hf hd' hu (List.ne_nil_of_mem hm) (fun p hp => by rw [List.mem_singleton.mp hp]; exact hm) fun v h' tk' ⟨t, e⟩ F' N' => by
    subst e
    exact r t h' tk' F' N'
theorem key_use {rs : List RowAt} {ps : List (Str × Tok)} {D D2 : Addr} (G : Got rs) (hp : sFst ps = rs.map fun r => pth r.row)
    (B : Below A₀ base outer h₀) (F : Fr h₀ L s.heap m) (X : (frag w.params).In h₀) (N : News h₀ L s.heap news) (T : Top topProg LO mean mg mb h₀) (hh : A.handled = none)
    (hf : A.frames = some (envX cn { kind := .function, names := nm, isGenerator := ig, isCoroutine := ic, more := mo } L a ccd cl :: outer)) (hd' : Nat.ble A.depth 750 = true) (hu : Nat.ble A.units 7500 = true)
    (h23 : (23, tabObj #[]) ∈ news) (hD2 : (D2, lst (strValues ps)) ∈ news) (hD : (D, rowsObj rs) ∈ news) (hR : ∀ p ∈ rowsLed rs, p ∈ news)
    (r : ∀ aK ts h' tk', KMade h₀ L ((mg (Str.ofString "__name__")).getD .none) 273 h' aK → Fr h₀ L h' m → News h₀ L h' ((D2, lst (strValues ps)) :: (D, rowsObj rs) :: (23, tabObj ts) :: rowsLed rs) → Q (.ref aK) { s with heap := h', toks := tk' }) : wpAny (model PySem.Challenge.rw_in0152_01.row.prog w) A (call (.ref 28) [.ref 273]) Q E s := by
  have ne : ∀ p ∈ news, p.2.cls = .type "list" → ¬ p.1 = 23 := fun p hp hc e => by
    have h1 := (N p hp).1
    have h2 := (N _ h23).1
    rw [e] at h1
    have h3 : p.2 = tabObj #[] := Option.some.inj (h1.symm.trans h2)
    rw [h3] at hc
    exact nomatch hc
  refine CC.use (to_key_c w mean mg mb) B F X (fun p hp => by rw [List.mem_singleton.mp hp]; exact N _ h23) T hh hf hd' hu ⟨⟨_, fun p hp => by rw [List.mem_singleton.mp hp]; exact N _ hD, ne _ hD rfl⟩, fun v h' tk' ⟨aK, e, K, ts, NT⟩ F' k => ?_⟩
  subst e
  refine r aK ts h' tk' K F' fun p hp => ?_
  have one : ∀ p ∈ news, p.2.cls = .type "list" → _ := fun p hp hc => k p (fun q hq => by rw [List.mem_singleton.mp hq]; exact N p hp) (ne p hp hc) p (.head _)
  revert p
  refine fa_cons (one _ hD2 rfl) ?_
  refine fa_cons (one _ hD rfl) ?_
  refine fa_cons (NT _ (.head _)) ?_
  intro p hp
  · exact one _ (hR p hp) (by obtain ⟨r, _, rfl⟩ := List.mem_map.mp hp; rfl)
theorem told_use {rs : List RowAt} {ps : List (Str × Tok)} {l aK : Addr} {pm : Value} {n : Nat} (G : Got rs) (hp : sFst ps = rs.map fun r => pth r.row)
    (B : Below A₀ base outer h₀) (F : Fr h₀ L s.heap m) (X : (frag w.params).In h₀) (N : News h₀ L s.heap news) (T : Top topProg LO mean mg mb h₀) (hh : A.in1.in1.handled = none)
    (hf : A.in1.in1.frames = some (envX cn { kind := .function, names := nm, isGenerator := ig, isCoroutine := ic, more := mo } L a ccd cl :: outer)) (hd' : Nat.ble A.in1.in1.depth 700 = true) (hu : Nat.ble A.in1.in1.units 7000 = true)
    (KM : KMade h₀ L pm 273 s.heap aK) (hm : (l, ({ cls := .type "list", data := .seq (strValues ps).toArray n } : Obj)) ∈ news)
    (r : ∀ D h' tk c0, Fr h₀ L h' m → News h₀ L h' ((D, sList (ordP ps (rs.map RowAt.row)) c0) :: news) → Q (.ref D) { s with heap := h', toks := tk }) :
    wpAny (model PySem.Challenge.rw_in0152_01.row.prog w) A (call (.builtin "sorted") [.ref l] [(Str.ofString "key", .ref aK)]) Q E s := by
  have hp' : sFst ps = (rs.map RowAt.row).map pth := by rw [hp, List.map_map]; rfl
  have hl : ps.length = rs.length := by have := congrArg List.length hp; simpa [sFst] using this
  have hn : 1 ≤ (rs.map RowAt.row).length := by rw [List.length_map]; exact Nat.le_trans (by decide) G.h2
  have h2 := G.h2
  have h64 := G.h64
  refine told_sorted B F X N T hh hf hd' hu KM ⟨_, (N _ hm).1, rfl, _, rfl⟩ (by (first | lia | omega)) (by (first | lia | omega)) (fun q hq => ?_) fun D h' tk c0 F' N' lt => ?_
  · have h1 : q.1 ∈ sFst ps := List.mem_map_of_mem (f := Prod.fst) hq
    rw [hp'] at h1
    obtain ⟨row, hrow, e⟩ := List.mem_map.mp h1
    rw [← e]
    exact good_of (rows_good _ (G.dr.sub _ hrow))
  · rw [out_told hp' G.dr.sub G.dr.nodup hn] at N'
    exact r D h' tk c0 F' N'
theorem drawn_use {prog : Program} {rs : List RowAt} {l : Addr} {c : Nat} (G : Got rs) (hu : A.in1.in1.units < cLine) (F : Fr h₀ L s.heap m) (N : News h₀ L s.heap news) (hl : (l, listOf (refsR rs).toArray c) ∈ news) (hm : ∀ p ∈ rowsLed rs, p ∈ news)
    (h : ∀ D h' c0, Fr h₀ L h' m → News h₀ L h' ((D, listOf (refsR (ordA rs)).toArray c0) :: news) → Q (.ref D) { s with heap := h' }) :
    wpAny (model prog w) A (call (.builtin "sorted") [.ref l]) Q E s := by
  refine drawn_sorted hu F N ⟨_, (N _ hl).1, rfl, _, rfl⟩ (fun r hr => hm _ (led_mem hr)) G.h2 (Nat.lt_of_le_of_lt G.h64 (by decide)) G.dr.nodup fun D h' c0 F' N' lt => h D h' c0 F' ?_
  have e : refsR (ordA rs) = (ordR (rs.map RowAt.row)).map fun i => Value.ref (rs.getD i row0).a := by
    unfold refsR ordA
    rw [List.map_map]
    rfl
  rw [e]
  exact N'
theorem eq_use {prog : Program} {rs : List RowAt} {ps qs : List (Str × Tok)} {l b : Addr} {n n2 : Nat} (G : Got rs) (hp : sFst ps = rs.map fun r => pth r.row) (hq : sFst qs = (ordA rs).map fun r => pth r.row) (hu : A.units < cLine) (N : News h₀ L s.heap news) (hl : (l, sList (ordP ps (rs.map RowAt.row)) n) ∈ news) (hb : (b, ({ cls := .type "list", data := .seq (strValues qs).toArray n2 } : Obj)) ∈ news) (h : Q (.bool true) s) :
    wpAny (model prog w) A (richCompare .Eq (.ref l) (.ref b)) Q E s := by
  refine cmp_eq hu (N _ hl).1 (N _ hb).1 ?_
  have hn : 1 ≤ rs.length := Nat.le_trans (by decide) G.h2
  have hp' : sFst ps = (rs.map RowAt.row).map pth := by rw [hp, List.map_map]; rfl
  have e : sFst (ordP ps (rs.map RowAt.row)) = sFst qs := by
    rw [ordP_fst hp' G.dr.nodup (by rw [List.length_map]; exact hn), hq, ← ordA_row G.dr.nodup hn, List.map_map]
    rfl
  rw [decide_eq_true e]
  exact h
theorem eq_op {prog : Program} {rs : List RowAt} {ps qs : List (Str × Tok)} {l b : Addr} {n n2 : Nat} (G : Got rs) (hp : sFst ps = rs.map fun r => pth r.row) (hq : sFst qs = (ordA rs).map fun r => pth r.row) (hu : A.units < cLine) (N : News h₀ L s.heap news) (hl : (l, sList (ordP ps (rs.map RowAt.row)) n) ∈ news) (hb : (b, ({ cls := .type "list", data := .seq (strValues qs).toArray n2 } : Obj)) ∈ news) (h : Q (.bool true) s) :
    wpAny (model prog w) A (compareOp .Eq (.ref l) (.ref b)) Q E s := eq_use G hp hq hu N hl hb h
end
noncomputable def LetC : Prop := ∀ (w : World) (mean : ExcName → Option Value) (mg mb : Str → Option Value) (x : Addr) (qs : List (Str × Tok)) (n : Nat) (rows : List (List Str)), Drawn rows → 1 ≤ rows.length → rows.length ≤ 21 → sFst qs = (sortR rows).map pth → CP 700 7000 w mean mg mb 278 [(x, sList qs n)] [.ref x] (fun v => v = .bool true)
theorem let_use {w : World} {mean : ExcName → Option Value} {mg mb : Str → Option Value} {A A₀ : Around} {cn : Str} {nm : List (Str × NameKind)} {ig ic : Bool} {mo : List (Str × Const)} {a : Addr} {ccd : Value} {cl : List (Str × Addr)} {outer : List Env} {base h₀ : Heap} {L : Addr} {m : Str → Option Value} {s : Shared} {Q E : Value → Shared → Prop} {news : List (Addr × Obj)} {rs : List RowAt} {ps : List (Str × Tok)} {l : Addr} {n : Nat} (C : LetC) (G : Got rs) (hp : sFst ps = rs.map fun r => pth r.row)
    (B : Below A₀ base outer h₀) (F : Fr h₀ L s.heap m) (X : (frag w.params).In h₀) (N : News h₀ L s.heap news) (T : Top topProg LO mean mg mb h₀) (hh : A.handled = none)
    (hf : A.frames = some (envX cn { kind := .function, names := nm, isGenerator := ig, isCoroutine := ic, more := mo } L a ccd cl :: outer)) (hd' : Nat.ble A.depth 700 = true) (hu : Nat.ble A.units 7000 = true)
    (hm : (l, sList (ordP ps (rs.map RowAt.row)) n) ∈ news)
    (r : ∀ h' tk', Fr h₀ L h' m → News h₀ L h' news → Q (.bool true) { s with heap := h', toks := tk' }) : wpAny (model PySem.Challenge.rw_in0152_01.row.prog w) A (call (.ref 278) [.ref l]) Q E s := by
  have hn : 1 ≤ (rs.map RowAt.row).length := by rw [List.length_map]; exact Nat.le_trans (by decide) G.h2
  have hp' : sFst ps = (rs.map RowAt.row).map pth := by rw [hp, List.map_map]; rfl
  refine CP.use (C w mean mg mb l _ n (rs.map RowAt.row) G.dr hn (by rw [List.length_map]; exact G.h64) (ordP_fst hp' G.dr.nodup hn)) B F X N T hh hf hd' hu (List.ne_nil_of_mem hm) (fun p hp => by rw [List.mem_singleton.mp hp]; exact hm) fun v h' tk' e F' N' => by
    subst e
    exact r h' tk' F' N'
end Mine
end

section
open PySem PySem.W PySem.W.X PyProof.Rows PySem.Calls
set_option Elab.async false
set_option maxRecDepth 100000
set_option maxHeartbeats 4000000
set_option linter.unusedVariables false
namespace Mine
theorem lnV1 : True := by
  k_with_none
  trivial
section
variable {prog : Program} {w : World} {A : Around} {E : Value → Shared → Prop} {s : Shared} {env : Env}
theorem call_star {o : Expr} {name : Str} {apos pos : Pos} {args : List Expr} {Q : Value → Shared → Prop}
    (hbase : attributeBase o name env (eval o env) = eval o env)
    (hmany : methodCallForm (args.length + ([] : List Keyword).length) (backTo pos (starEach args env)) (backToKw pos (keywordEach [] env)) = false)
    (h : wpAny (model prog w) A (eval o env) (fun ov s₁ => wpAny (model prog w) A (getAttr ov name true) (fun f s₂ => wpAny (model prog w) A (callWith pos f [] (backTo pos (starEach args env)) []) Q E s₂) E s₁) E s) :
    wpAny (model prog w) A (eval (.Call (.Attribute o name apos) args [] pos) env) Q E s := by
  rw [arm_eval_Call, hbase]
  refine wpAny_bind (wpAny_mono h (fun ov s₁ h₁ => ?_) fun _ _ e => e)
  refine wpAny_bind (wpAny_standAt ?_)
  unfold methodCall
  rw [hmany]
  unfold calleeOf
  refine wpAny_bind (wpAny_holding ?_)
  refine wpAny_bind (wpAny_mono h₁ (fun f s₂ h₂ => ?_) fun _ _ e => e)
  refine wpAny_pure ?_
  unfold methodCallPos
  refine wpAny_bind (wpAny_pure ?_)
  exact h₂
theorem callWith_SM {K : Frag} {h₀ : Heap} {L : Addr} {news : List (Addr × Obj)} {q g : Addr} {self : Value} {e : Expr} {rest : List Expr} {pos : Pos} {first : List Value} {Q : Value → Shared → Prop} {M : Model} (_X : K.In h₀) (_N : News h₀ L s.heap news) (_q : (q, methodObj (.ref g) self) ∈ news) (hf : fnIn K g = true)
    (h : wpAny M A (spliced (backTo pos (starEach (e :: rest) env))) (fun vs s₁ => MethP K q g self s₁.heap ∧ wpAny M A (call (.ref q) (first ++ vs)) Q E s₁) E s)
    (he : starEach (e :: rest) env = (false, eval e env) :: starEach rest env := by rfl) (hst : (backTo pos (starEach rest env)).any (·.1) = true := by rfl) :
    wpAny M A (callWith pos (.ref q) first (backTo pos (starEach (e :: rest) env)) []) Q E s := by
  rw [he] at h ⊢
  exact ks_call (by show (false || (backTo pos (starEach rest env)).any (·.1)) = true; rw [hst]; rfl) (keeps_M hf) (evalArgs_plain h)
end
noncomputable def DirIs (p q : Str) : Prop := p.length ≤ 1048576 ∧ dirF p = q
theorem dir_use {w : World} {mean : ExcName → Option Value} {mg mb : Str → Option Value} {A A₀ : Around} {cn : Str} {nm : List (Str × NameKind)} {ig ic : Bool} {mo : List (Str × Const)} {a : Addr} {ccd : Value} {cl : List (Str × Addr)} {outer : List Env} {base h₀ : Heap} {L : Addr} {m : Str → Option Value} {s : Shared} {Q E : Value → Shared → Prop} {news : List (Addr × Obj)} {p q : Str} {t : Tok} (D : DirIs p q)
    (B : Below A₀ base outer h₀) (F : Fr h₀ L s.heap m) (X : (frag w.params).In h₀) (N : News h₀ L s.heap news) (T : Top topProg LO mean mg mb h₀) (hh : A.handled = none)
    (hf : A.frames = some (envX cn { kind := .function, names := nm, isGenerator := ig, isCoroutine := ic, more := mo } L a ccd cl :: outer)) (hd' : Nat.ble A.depth 850 = true) (hu : Nat.ble A.units 8500 = true)
    (r : ∀ t h' tk', Fr h₀ L h' m → News h₀ L h' news → Q (.str q t) { s with heap := h', toks := tk' }) : wpAny (model PySem.Challenge.rw_in0152_01.row.prog w) A (call (.ref 258) [.str p t]) Q E s :=
  CC.use (dirname_c w mean mg mb p t news D.1) B F X N T hh hf hd' hu fun t h' tk' F' N' => by
    rw [D.2]
    exact r t h' tk' F' N'
end Mine
end

section
open PySem PySem.W PySem.W.X PyProof.Rows PySem.Calls
set_option Elab.async false
set_option maxRecDepth 100000
set_option maxHeartbeats 4000000
set_option linter.unusedVariables false
namespace Mine
theorem lnV2 : True := by
  k_with_none
  trivial
noncomputable abbrev theProg : Program := PySem.Challenge.rw_in0152_01.row.prog
noncomputable abbrev sorterD (w : World) (t1 t2 t3 t4 : Tok) (n2i rd : Value) (np : Int) (u3 : Tok) (nf : Int) (u4 : Tok) (n : Nat) : Obj :=
  dictOf [⟨PyData.keyHash w.params (Str.ofString "_node2info"), .str (Str.ofString "_node2info") t1, n2i⟩, ⟨PyData.keyHash w.params (Str.ofString "_ready_nodes"), .str (Str.ofString "_ready_nodes") t2, rd⟩,
    ⟨PyData.keyHash w.params (Str.ofString "_npassedout"), .str (Str.ofString "_npassedout") t3, .int np u3⟩, ⟨PyData.keyHash w.params (Str.ofString "_nfinished"), .str (Str.ofString "_nfinished") t4, .int nf u4⟩] n
noncomputable abbrev infoObj (d : Addr) (p : Str) (t : Tok) (np : Int) (tk : Tok) (l : Addr) : Obj := { cls := .ref 56, dict := some d, slots := #[some (.str p t), some (.int np tk), some (.ref l)] }
theorem valueAt_stored_ne {K : Type} [DecidableEq K] {kvs : List (K × Value)} {k q : K} {v x : Value} (h : valueAt kvs k = none) (hq : valueAt kvs q = some x) : valueAt (stored kvs k v) q = some x := by
  rw [stored_absent h]
  unfold valueAt at hq ⊢
  rw [List.find?_append]
  cases e : kvs.find? (fun y => decide (y.1 = q)) with
  | none => rw [e] at hq; cases hq
  | some y => rw [e] at hq; simpa using hq
theorem ne_tail {x : Addr} {rest news : List (Addr × Obj)} (l : ∀ p ∈ news, p.1 < x) (sub : ∀ p ∈ rest, p ∈ news) : ∀ p ∈ rest, p.1 ≠ x := fun p hp => Nat.ne_of_lt (l p (sub p hp))
theorem ne_tail2 {x d : Addr} {rest news : List (Addr × Obj)} (h : d < x) (l : ∀ p ∈ news, p.1 < d) (sub : ∀ p ∈ rest, p ∈ news) : ∀ p ∈ rest, p.1 ≠ x := fun p hp => Nat.ne_of_lt (Nat.lt_trans (l p (sub p hp)) h)
theorem lt_tail2 {x d : Addr} {q : Addr × Obj} {news : List (Addr × Obj)} (h : d < x) (l : ∀ p ∈ news, p.1 < d) (hq : q ∈ news) : q.1 < x := Nat.lt_trans (l q hq) h
end Mine
end

section
open PySem PySem.W PySem.W.X PyProof.Rows PySem.Calls
set_option Elab.async false
set_option maxRecDepth 100000
set_option maxHeartbeats 4000000
set_option linter.unusedVariables false
namespace Mine
theorem lnV3 : True := by
  k_with_none
  trivial
inductive Drop1 (I : Addr) (it : Obj) : List (Addr × Obj) → List (Addr × Obj) → Prop
  | skip {r} : (∀ p ∈ r, p.1 ≠ I) → Drop1 I it ((I, it) :: r) r
  | keep {p r r'} : p.1 ≠ I → Drop1 I it r r' → Drop1 I it (p :: r) (p :: r')
theorem Drop1.facts {I : Addr} {it : Obj} : ∀ {l l' : List (Addr × Obj)}, Drop1 I it l l' → (I, it) ∈ l ∧ (∀ p ∈ l', p ∈ l) ∧ ∀ p ∈ l', p.1 ≠ I
  | _, _, .skip h => ⟨.head _, fun p hp => .tail _ hp, h⟩
  | _, _, .keep h d => by
    obtain ⟨a, b, c⟩ := d.facts
    refine ⟨.tail _ a, fun p hp => ?_, fun p hp => ?_⟩
    · rcases List.mem_cons.mp hp with rfl | hp
      · exact .head _
      · exact .tail _ (b p hp)
    · rcases List.mem_cons.mp hp with rfl | hp
      · exact h
      · exact c p hp
section
variable {h₀ : Heap} {L I : Addr} {it : Obj} {s₁ : Shared} {h' : Heap} {tk : Nat} {m' : Str → Option Value} {all news' : List (Addr × Obj)} {rest : (Str → Option Value) → List (Addr × Obj) → Prop}
theorem turnW_end (F : Fr h₀ L h' m') (N : News h₀ L h' all) (D : Drop1 I it all news') (r : rest m' news') : UnrEndW h₀ L s₁ [(I, it)] rest { s₁ with heap := h', toks := tk } := by
  obtain ⟨a, b, c⟩ := D.facts
  refine ⟨h', tk, m', news', rfl, F, fun p hp => ?_, fun p hp q hq => ?_, r⟩
  · rcases List.mem_append.mp hp with hp | hp
    · rw [List.mem_singleton.mp hp]; exact N _ a
    · exact N _ (b p hp)
  · rw [List.mem_singleton.mp hq]; exact c p hp
theorem turn_end (F : Fr h₀ L h' m') (N : News h₀ L h' all) (D : Drop1 I it all news') (r : rest m' news') : UnrEnd h₀ L s₁ I it rest { s₁ with heap := h', toks := tk } := by
  obtain ⟨a, b, c⟩ := D.facts
  refine ⟨h', tk, m', news', rfl, F, fun p hp => ?_, fun p hp => c p hp, r⟩
  rcases List.mem_cons.mp hp with rfl | hp
  · exact N _ a
  · exact N _ (b p hp)
end
end Mine
end

section
open PySem PySem.W PySem.W.X PyProof.Rows PySem.Calls
set_option Elab.async false
set_option maxRecDepth 100000
set_option maxHeartbeats 0
namespace Mine
theorem lnW0 : True := by
  k_with_none
  trivial
noncomputable def CCc (dp un : Nat) (w : World) (mean : ExcName → Option Value) (mg mb : Str → Option Value) (f : Addr) (news : List (Addr × Obj)) (vs : List Value) (Ret : (Value → Shared → Prop) → Heap → Addr → (Str → Option Value) → Shared → Prop) : Prop :=
  ∀ (gd : Option (List Code)) (cn : Str) (nm : List (Str × NameKind)) (ig ic : Bool) (mo : List (Str × Const)) (a : Addr) (ccd : Value) (cl : List (Str × Addr)) (outer : List Env) (A₀ : Around) (base h₀ : Heap) (L : Addr) (m : Str → Option Value) (s : Shared) (Q E : Value → Shared → Prop),
    Below A₀ base outer h₀ → Fr h₀ L s.heap m → (frag w.params).In h₀ → News h₀ L s.heap news → Top topProg LO mean mg mb h₀ → Ret Q h₀ L m s →
      codeAny (model PySem.Challenge.rw_in0152_01.row.prog w) (ktrTop dp un gd cn { kind := .function, names := nm, isGenerator := ig, isCoroutine := ic, more := mo } L a ccd cl outer) (.call (.ref f) ⟨vs, []⟩) (fun r s' => match r with | .ok (.ret v) => Q v s' | .ok _ => False | .error e => E e s') s
theorem weakenC {M : Model} {A : Around} {c : Code} {R : Result → Shared → Prop} {s : Shared} {d u : Nat} (h : codeAny M { A with depth := d, units := u } c R s) (hd : Nat.ble A.depth d = true) (hu : Nat.ble A.units u = true) :
    codeAny M A c R s := fun Γ p hc hΓ => h Γ p hc ⟨hΓ.1, Nat.le_trans hΓ.2.1 (Nat.le_of_ble_eq_true hd), hΓ.2.2.1, hΓ.2.2.2.1, Nat.le_trans hΓ.2.2.2.2 (Nat.le_of_ble_eq_true hu)⟩
theorem CCc.use {dp un : Nat} {w : World} {mean : ExcName → Option Value} {mg mb : Str → Option Value} {f : Addr} {news : List (Addr × Obj)} {vs : List Value} {Ret : (Value → Shared → Prop) → Heap → Addr → (Str → Option Value) → Shared → Prop}
    (c : CCc dp un w mean mg mb f news vs Ret) {A A₀ : Around} {cn : Str} {nm : List (Str × NameKind)} {ig ic : Bool} {mo : List (Str × Const)} {a : Addr} {ccd : Value} {cl : List (Str × Addr)} {outer : List Env} {base h₀ : Heap} {L : Addr} {m : Str → Option Value} {s : Shared} {Q E : Value → Shared → Prop}
    (B : Below A₀ base outer h₀) (F : Fr h₀ L s.heap m) (X : (frag w.params).In h₀) (N : News h₀ L s.heap news) (T : Top topProg LO mean mg mb h₀) (hh : A.handled = none)
    (hf : A.frames = some (envX cn { kind := .function, names := nm, isGenerator := ig, isCoroutine := ic, more := mo } L a ccd cl :: outer)) (hd' : Nat.ble A.depth dp = true) (hu : Nat.ble A.units un = true)
    (r : Ret Q h₀ L m s) : codeAny (model PySem.Challenge.rw_in0152_01.row.prog w) A (.call (.ref f) ⟨vs, []⟩) (fun r s' => match r with | .ok (.ret v) => Q v s' | .ok _ => False | .error e => E e s') s := by
  refine weakenC (d := dp) (u := un) ?_ hd' hu
  have e : ({ A with depth := dp, units := un } : Around) = ktrTop dp un A.guards cn { kind := .function, names := nm, isGenerator := ig, isCoroutine := ic, more := mo } L a ccd cl outer := by
    obtain ⟨x1, x2, x3, x4, x5⟩ := A
    dsimp only at hh hf ⊢
    rw [hh, hf]
  rw [e]
  exact c _ _ _ _ _ _ _ _ _ _ _ _ _ _ _ _ _ _ B F X N T r
end Mine
end

section
open PySem PySem.W PySem.W.X PyProof.Rows PySem.Calls
set_option Elab.async false
set_option maxRecDepth 100000
set_option maxHeartbeats 4000000
set_option linter.unusedVariables false
namespace Mine
theorem lnW2 : True := by
  k_with_none
  trivial
structure Nd where
  p : Str
  t : Tok
  i : Addr
  d : Addr
  l : Addr
  kids : List (Str × Tok)
  c : Nat
noncomputable abbrev NpF := Str → Int × Tok
noncomputable def Nd.led (f : NpF) (n : Nd) : List (Addr × Obj) := [(n.i, infoObj n.d n.p n.t (f n.p).1 (f n.p).2 n.l), (n.d, dictOf [] 0), (n.l, sList n.kids n.c)]
noncomputable def ndsLed (f : NpF) : List Nd → List (Addr × Obj)
  | [] => []
  | n :: ns => n.led f ++ ndsLed f ns
noncomputable def ndKvs (ns : List Nd) : List (Str × Value) := ns.map fun n => (n.p, .ref n.i)
noncomputable def setF (f : NpF) (p : Str) (v : Int × Tok) : NpF := fun q => if q = p then v else f q
theorem ndsLed_mem {f : NpF} {q : Addr × Obj} : ∀ {ns : List Nd}, q ∈ ndsLed f ns ↔ ∃ n ∈ ns, q ∈ n.led f
  | [] => ⟨fun h => (nomatch h), fun ⟨_, h, _⟩ => (nomatch h)⟩
  | n :: ns => by
    unfold ndsLed
    rw [List.mem_append, ndsLed_mem (ns := ns)]
    constructor
    · rintro (h | ⟨m, h, k⟩)
      · exact ⟨n, .head _, h⟩
      · exact ⟨m, .tail _ h, k⟩
    · rintro ⟨m, h, k⟩
      rcases List.mem_cons.mp h with rfl | h
      · exact .inl k
      · exact .inr ⟨m, h, k⟩
theorem Nd.led_mem {f : NpF} {n : Nd} {q : Addr × Obj} : q ∈ n.led f ↔ q = (n.i, infoObj n.d n.p n.t (f n.p).1 (f n.p).2 n.l) ∨ q = (n.d, dictOf [] 0) ∨ q = (n.l, sList n.kids n.c) := by
  unfold Nd.led
  simp only [List.mem_cons, List.not_mem_nil, or_false]
theorem ndsLed_addr {f g : NpF} {ns : List Nd} {q : Addr × Obj} (h : q ∈ ndsLed f ns) : ∃ o, (q.1, o) ∈ ndsLed g ns := by
  obtain ⟨n, hn, hq⟩ := ndsLed_mem.mp h
  rcases Nd.led_mem.mp hq with rfl | rfl | rfl
  · exact ⟨_, ndsLed_mem.mpr ⟨n, hn, Nd.led_mem.mpr (.inl rfl)⟩⟩
  · exact ⟨_, ndsLed_mem.mpr ⟨n, hn, Nd.led_mem.mpr (.inr (.inl rfl))⟩⟩
  · exact ⟨_, ndsLed_mem.mpr ⟨n, hn, Nd.led_mem.mpr (.inr (.inr rfl))⟩⟩
theorem ndsLed_congr {f g : NpF} : ∀ {ns : List Nd}, (∀ n ∈ ns, f n.p = g n.p) → ndsLed f ns = ndsLed g ns
  | [], _ => rfl
  | n :: ns, h => by
    unfold ndsLed Nd.led
    rw [h n (.head _), ndsLed_congr fun m hm => h m (.tail _ hm)]
noncomputable def ndRest (f : NpF) (a : List Nd) (n : Nd) (b : List Nd) : List (Addr × Obj) := (n.d, dictOf [] 0) :: (n.l, sList n.kids n.c) :: (ndsLed f a ++ ndsLed f b)
theorem ndsLed_append {f : NpF} : ∀ {a b : List Nd}, ndsLed f (a ++ b) = ndsLed f a ++ ndsLed f b
  | [], _ => rfl
  | n :: a, b => by
    show n.led f ++ ndsLed f (a ++ b) = (n.led f ++ ndsLed f a) ++ ndsLed f b
    rw [ndsLed_append, List.append_assoc]
theorem pick_mem {f : NpF} {a b : List Nd} {n : Nd} {q : Addr × Obj} : q ∈ ndsLed f (a ++ n :: b) ↔ q ∈ (n.i, infoObj n.d n.p n.t (f n.p).1 (f n.p).2 n.l) :: ndRest f a n b := by
  rw [ndsLed_append, show ndsLed f (n :: b) = n.led f ++ ndsLed f b from rfl]
  unfold ndRest
  simp only [List.mem_cons, List.mem_append, Nd.led_mem]
  constructor
  · rintro (h | (h | h | h) | h)
    · exact .inr (.inr (.inr (.inl h)))
    · exact .inl h
    · exact .inr (.inl h)
    · exact .inr (.inr (.inl h))
    · exact .inr (.inr (.inr (.inr h)))
  · rintro (h | h | h | h | h)
    · exact .inr (.inl (.inl h))
    · exact .inr (.inl (.inr (.inl h)))
    · exact .inr (.inl (.inr (.inr h)))
    · exact .inl h
    · exact .inr (.inr h)
theorem ndRest_set {f : NpF} {a b : List Nd} {n : Nd} {v : Int × Tok} (hn : ((a ++ n :: b).map Nd.p).Nodup) : ndRest (setF f n.p v) a n b = ndRest f a n b := by
  rw [List.map_append, List.map_cons] at hn
  have h1 := List.nodup_append.mp hn
  have h2 := List.nodup_cons.mp h1.2.1
  unfold ndRest
  rw [ndsLed_congr (f := setF f n.p v) (g := f) (ns := a) fun m hm => ?_, ndsLed_congr (f := setF f n.p v) (g := f) (ns := b) fun m hm => ?_]
  · unfold setF
    rw [if_neg fun (e : m.p = n.p) => h2.1 (e ▸ List.mem_map_of_mem (f := Nd.p) hm)]
  · unfold setF
    rw [if_neg fun e => h1.2.2 m.p (List.mem_map_of_mem (f := Nd.p) hm) n.p (.head _) e]
theorem nd_pick {ns : List Nd} {p : Str} (h : p ∈ ns.map Nd.p) : ∃ a n b, ns = a ++ n :: b ∧ n.p = p := by
  obtain ⟨n, hn, rfl⟩ := List.mem_map.mp h
  obtain ⟨a, b, rfl⟩ := List.append_of_mem hn
  exact ⟨a, n, b, rfl, rfl⟩
theorem ndKvs_at {a b : List Nd} {n : Nd} (hn : ((a ++ n :: b).map Nd.p).Nodup) : valueAt (ndKvs (a ++ n :: b)) n.p = some (.ref n.i) := by
  unfold valueAt ndKvs
  rw [List.map_append, List.map_cons] at hn
  have h1 := (List.nodup_append.mp hn).2.2
  rw [List.map_append, List.find?_append]
  have e : (a.map fun n => (n.p, Value.ref n.i)).find? (fun kv => decide (kv.1 = n.p)) = none := by
    rw [List.find?_eq_none]
    intro x hx
    obtain ⟨m, hm, rfl⟩ := List.mem_map.mp hx
    simpa using fun e => h1 m.p (List.mem_map_of_mem (f := Nd.p) hm) n.p (.head _) e
  rw [e]
  simp
theorem ndKvs_none {ns : List Nd} {p : Str} (h : p ∉ ns.map Nd.p) : valueAt (ndKvs ns) p = none := by
  unfold valueAt ndKvs
  have e : (ns.map fun n => (n.p, Value.ref n.i)).find? (fun kv => decide (kv.1 = p)) = none := by
    rw [List.find?_eq_none]
    intro x hx
    obtain ⟨m, hm, rfl⟩ := List.mem_map.mp hx
    simpa using fun (e : m.p = p) => h (e ▸ List.mem_map_of_mem (f := Nd.p) hm)
  rw [e]
  rfl
theorem ne_obj {h₀ h : Heap} {L : Addr} {news : List (Addr × Obj)} (N : News h₀ L h news) {p q : Addr × Obj} (hp : p ∈ news) (hq : q ∈ news) (e : p.2 ≠ q.2) : p.1 ≠ q.1 := fun z => e (by
  have h1 := (N p hp).1
  have h2 := (N q hq).1
  rw [z] at h1
  exact Option.some.inj (h1.symm.trans h2))
theorem rest_ne {h₀ h : Heap} {L : Addr} {news : List (Addr × Obj)} {f : NpF} {a b : List Nd} {n : Nd} (N : News h₀ L h news) (hn : ((a ++ n :: b).map Nd.p).Nodup) (sub : ∀ q ∈ ndsLed f (a ++ n :: b), q ∈ news) : ∀ q ∈ ndRest f a n b, q.1 ≠ n.i := by
  have hin := sub _ (pick_mem.mpr (.head _))
  rw [List.map_append, List.map_cons] at hn
  have h1 := List.nodup_append.mp hn
  have h2 := List.nodup_cons.mp h1.2.1
  have other : ∀ m : Nd, m.p ≠ n.p → ∀ q ∈ m.led f, q ∈ news → q.1 ≠ n.i := by
    intro m hm q hq hqn
    refine ne_obj N hqn hin fun e => ?_
    rcases Nd.led_mem.mp hq with rfl | rfl | rfl
    · have e' := congrArg (fun o : Obj => o.slots[0]?) e
      simp at e'
      exact hm e'.1
    · exact nomatch congrArg Obj.cls e
    · exact nomatch congrArg Obj.cls e
  intro q hq
  have hqn := sub q (pick_mem.mpr (.tail _ hq))
  unfold ndRest at hq
  rcases List.mem_cons.mp hq with rfl | hq
  · exact ne_obj N hqn hin fun e => nomatch congrArg Obj.cls e
  rcases List.mem_cons.mp hq with rfl | hq
  · exact ne_obj N hqn hin fun e => nomatch congrArg Obj.cls e
  rcases List.mem_append.mp hq with hq | hq
  · obtain ⟨m, hm, hq⟩ := ndsLed_mem.mp hq
    exact other m (fun e => h1.2.2 m.p (List.mem_map_of_mem (f := Nd.p) hm) n.p (.head _) e) q hq hqn
  · obtain ⟨m, hm, hq⟩ := ndsLed_mem.mp hq
    exact other m (fun e => h2.1 (e ▸ List.mem_map_of_mem (f := Nd.p) hm)) q hq hqn
section
variable {prog : Program} {w : World} {A : Around} {E : Value → Shared → Prop} {s : Shared} {env : Env} {h₀ : Heap} {target : Expr} {body : List Stmt} {Q : Flow → Shared → Prop}
theorem items_ind {ws : List (Addr × String)} {keep : List (Addr × Obj)} {xs : List Itm} {m : Str → Option Value} {news : List (Addr × Obj)} (J : Nat → (Str → Option Value) → List (Addr × Obj) → Prop) (h0 : J 0 m news)
    (step : ∀ i a m news, xs[i]? = some a → J i m news → ∀ v h tk, a.Is v h → Fr h₀ env.locals h m → AllObj ws (fun its => News h₀ env.locals h (its ++ news) →
      wpAny (model prog w) A (assign target env v) (fun _ s₂ => wpAny (model prog w) A (execs body env) (UnrPostW h₀ env.locals { s with heap := h, toks := tk } its (fun m' n' => SubL keep n' ∧ J (i + 1) m' n') Q) E s₂) E { s with heap := h, toks := tk }))
    (fin : ∀ m news h tk, J xs.length m news → Fr h₀ env.locals h m → News h₀ env.locals h news → Q .next { s with heap := h, toks := tk }) :
    ItemsRest prog w A E h₀ env target body Q s ws keep xs m news := by
  have mono : ∀ {its : List (Addr × Obj)} {s₁ : Shared} {r1 r2 : (Str → Option Value) → List (Addr × Obj) → Prop}, (∀ m n, r1 m n → r2 m n) → ∀ f s₂, UnrPostW h₀ env.locals s₁ its r1 Q f s₂ → UnrPostW h₀ env.locals s₁ its r2 Q f s₂ := by
    intro its s₁ r1 r2 hr f s₂ hp
    have go : UnrEndW h₀ env.locals s₁ its r1 s₂ → UnrEndW h₀ env.locals s₁ its r2 s₂ := by
      rintro ⟨h', tk, m', n', e, F, N, o, r⟩
      exact ⟨h', tk, m', n', e, F, N, o, hr _ _ r⟩
    cases f with
    | ret v => exact hp
    | brk => exact hp
    | next => exact go hp
    | cont => exact go hp
  have go : ∀ k i, k + i = xs.length → ∀ m news, J i m news → ItemsRest prog w A E h₀ env target body Q s ws keep (xs.drop i) m news := by
    intro k
    induction k with
    | zero =>
      intro i hi m news hj
      have hi' : i = xs.length := by (first | lia | omega)
      subst hi'
      rw [List.drop_length]
      exact fun h tk F N => fin m news h tk hj F N
    | succ k ih =>
      intro i hi m news hj
      have hlt : i < xs.length := by (first | lia | omega)
      rw [List.drop_eq_getElem_cons hlt]
      intro v h tk ha F
      have z := step i xs[i] m news (List.getElem?_eq_getElem hlt) hj v h tk ha F
      have up : ∀ (ws : List (Addr × String)) (k1 k2 : List (Addr × Obj) → Prop), (∀ its, k1 its → k2 its) → AllObj ws k1 → AllObj ws k2 := by
        intro ws
        induction ws with
        | nil => exact fun k1 k2 h hk => h _ hk
        | cons w ws ihw => exact fun k1 k2 h hk o ho => ihw _ _ (fun its => h _) (hk o ho)
      refine up ws _ _ (fun its hk N => ?_) z
      refine wpAny_mono (hk N) (fun _ s₂ h₂ => wpAny_mono h₂ (mono fun m' n' hj => ⟨hj.1, ih (i + 1) (by (first | lia | omega)) m' n' hj.2⟩) fun _ _ e => e) fun _ _ e => e
  exact go xs.length 0 (by (first | lia | omega)) m news h0
theorem m_eq3 {m : Str → Option Value} {y z x : Str} {v u r : Value} (h : m y = some v) (h2 : m z = some u) (h3 : m x = some r) : m = fun a => if a = y then some v else if a = z then some u else if a = x then some r else m a := by
  funext a
  by_cases e : a = y
  · rw [if_pos e, e, h]
  · rw [if_neg e]
    by_cases e : a = z
    · rw [if_pos e, e, h2]
    · rw [if_neg e]
      by_cases e : a = x
      · rw [if_pos e, e, h3]
      · rw [if_neg e]
end
end Mine
end

section
open PySem PySem.W PySem.W.X PyProof.Rows PySem.Calls
local macro_rules | `(tactic| k_lt $h:ident) => `(tactic| ((have lraw := $h); replace $h := allLt_of $h; simp only [AllLt, and_true] at $h:ident))
section
open PySem PySem.W PySem.W.X PyProof.Rows PySem.Calls
set_option Elab.async false
set_option maxRecDepth 100000
set_option maxHeartbeats 0
namespace Mine
theorem lnW1 : True := by
  k_with_none
  k_with "zf" => (first | (k_here; k_fold; refine letA ?_; intro aX; (with_reducible rename Fr _ _ _ _ => kF); refine letM kF ?_; clear kF; intro mX kF) | (k_here; k_fold; refine letA ?_; intro aX) | (k_here; k_fold) | (k_here; with_reducible first | refine genT1 fun tk => ?_ | refine genT2 fun tk => ?_) | fail)
  k_with "execs cons" => (first | walk_at "zf" | fail)
  k_with "execs" => (first | walk_at "zf" | fail)
  k_with "execs nil" => (first | (k_here; with_reducible first | refine genT1 fun tk => ?_ | refine genT2 fun tk => ?_) | fail)
  k_with "k_ne" => (first | (refine neN ?_; first | (with_reducible first | assumption | exact Ne.symm (by assumption) | exact ca0 (by assumption) | exact cb0 (by assumption) | exact cc0 (by assumption) | exact cd0 (by assumption) | exact ca1 (by assumption) | exact cb1 (by assumption) | exact cc1 (by assumption) | exact cd1 (by assumption) | exact ca2 (by assumption) | exact cb2 (by assumption) | exact cc2 (by assumption) | exact cd2 (by assumption) | exact ca3 (by assumption) | exact cb3 (by assumption) | exact cc3 (by assumption) | exact cd3 (by assumption) | exact ca4 (by assumption) | exact cb4 (by assumption) | exact cc4 (by assumption) | exact cd4 (by assumption) | exact ca5 (by assumption) | exact cb5 (by assumption) | exact cc5 (by assumption) | exact cd5 (by assumption) | exact ca6 (by assumption) | exact cb6 (by assumption) | exact cc6 (by assumption) | exact cd6 (by assumption) | exact ca7 (by assumption) | exact cb7 (by assumption) | exact cc7 (by assumption) | exact cd7 (by assumption) | exact ca8 (by assumption) | exact cb8 (by assumption) | exact cc8 (by assumption) | exact cd8 (by assumption) | exact ca9 (by assumption) | exact cb9 (by assumption) | exact cc9 (by assumption) | exact cd9 (by assumption) | exact ca10 (by assumption) | exact cb10 (by assumption) | exact cc10 (by assumption) | exact cd10 (by assumption) | exact ca11 (by assumption) | exact cb11 (by assumption) | exact cc11 (by assumption) | exact cd11 (by assumption)) | (refine Nat.ne_of_lt (ltm (o := _) (by with_reducible assumption) ?_); k_mem; done) | (refine Nat.ne_of_gt (ltm (o := _) (by with_reducible assumption) ?_); k_mem; done) | ((try dsimp only); omega)) | fail)
  k_with "r tails" => first | (intro p hp; (repeat (first | exact hp | refine List.mem_cons_of_mem _ ?_)); done) | fail
  k_with "k_all" => first | with_reducible assumption | (refine' ne_tail ?la ?sa; (case la => with_reducible assumption); (case sa => walk_at "r tails")) | (refine' ne_tail2 ?ha ?la ?sa; (case ha => with_reducible assumption); (case la => with_reducible assumption); (case sa => walk_at "r tails")) | fail
  k_with "getMethod ref" => first | (k_here; (with_reducible show wpAny _ _ (getMethod (Value.ref _) (Str.ofString "get") _) _ _ _); k_dflt (refine kdg_method (knd := PySem.strKind _ _) (by k_asm) (by k_mem) (by k_asm) ?_)) | fail
  k_with "call builtin:dict.get" => first | (k_here; k_dflt (refine' kdg_get1 (knd := PySem.strKind _ _) ?N ?m ?d ?lo (strKind_is _ _ _ _) _ ?v ?_; (case N => k_asm); (case m => k_mem); (case d => k_asm); (case lo => k_asm); (case v => first | with_reducible assumption | (refine' valueAt_stored_ne ?va ?vb; (case va => with_reducible assumption); (case vb => with_reducible assumption)))); (try dsimp only [Option.getD])) | fail
  k_with "setItem ref str" => first | (k_here; k_dflt (refine' kda_set (knd := PySem.strKind _ _) ?F ?N ?U ?d (strKind_is _ _ _ _) ?z ?_; (case F => k_asm); (case N => k_asm); (case U => k_updF); (case d => k_asm); (case z => rw [sizeLine_eq]; (first | lia | omega))); intro h' o' F' N' hd'; (try dsimp only at N')) | fail
  k_with "exec For Name Name cons nil" => first | (k_here; (rename Fr _ _ _ _ => lF'); (with_unfolding_all refine' For_turns lF' ?_; k_whole)) | fail
  k_with "pyIter ref" => first | (k_here; (with_reducible show wpAny _ _ (pyIter (Value.ref _)) (fun it s₂ => TurnsAt _ _ _ _ _ _ _ _ _ it s₂) _ _); (rename Fr _ _ _ _ => lF'); (rename News _ _ _ _ => lN'); (with_unfolding_all refine iter_tupTurns (lo := { cls := .type "tuple", data := .seq _ }) (by rfl) lF' lN' (by k_mem) (by rfl) (by rfl) ?_); clear lF' lN'; intro i' l1; (try k_lt l1)) | fail
  k_with "drop one" => first | (refine' Drop1.skip ?ds; (case ds => k_all)) | (refine' Drop1.keep ?dk ?dr; (case dk => k_ne); (case dr => walk_at "drop one")) | fail
  k_with "UnrEndW" => first | (k_dflt (refine' turnW_end ?F ?N ?D ?_; (case F => k_asm); (case N => k_asm); (case D => walk_at "drop one")); (refine ⟨by k_subL, ?_⟩)) | fail
  k_with "call builtin:list.append" => first | (k_here; (with_reducible show wpAny _ _ (call (Value.builtin _) [Value.ref _, _]) _ _ _); k_dflt (refine' append_K ?k1 ?k2 ?k3 ?_ ?z; (case k1 => k_asm); (case k2 => k_asm); (case k3 => k_upd); (case z => ((try simp only [List.size_toArray, strValues, List.length_map, sizeLine_eq]); (first | lia | omega))); k_whole); intro h' F' N') | fail
  trivial
theorem led7 {h₀ h : Heap} {L : Addr} {a b c e f g i : Addr × Obj} {rest : List (Addr × Obj)} (N : News h₀ L h (a :: b :: c :: e :: f :: g :: i :: rest)) : News h₀ L h (f :: g :: i :: b :: c :: a :: rest) := by
  have hs : ∀ q ∈ f :: g :: i :: b :: c :: a :: rest, q ∈ a :: b :: c :: e :: f :: g :: i :: rest := fa_cons (.tail _ (.tail _ (.tail _ (.tail _ (.head _))))) (fa_cons (.tail _ (.tail _ (.tail _ (.tail _ (.tail _ (.head _)))))) (fa_cons (.tail _ (.tail _ (.tail _ (.tail _ (.tail _ (.tail _ (.head _))))))) (fa_cons (.tail _ (.head _)) (fa_cons (.tail _ (.tail _ (.head _))) (fa_cons (.head _) (fun q h => .tail _ (.tail _ (.tail _ (.tail _ (.tail _ (.tail _ (.tail _ (h)))))))))))))
  exact fun q hq => N q (hs q hq)
noncomputable def New3 (x d l : Addr) (led : List (Addr × Obj)) : Prop := (∀ q ∈ led, q.1 < d) ∧ @LT.lt Nat _ d x ∧ @LT.lt Nat _ x l
theorem add0_c (w : World) (mean : ExcName → Option Value) (mg mb : Str → Option Value) (S dx D : Addr) (t1 t2 t3 t4 u3 u4 : Tok) (np nf : Int) (n : Nat) (oD : Obj) (kvs : List (Str × Value)) (p : Str) (t : Tok) (rest : List (Addr × Obj))
   (hD : oD.IsDictOf (PySem.strKind theProg w) kvs) (hlo : (D == sysModules) = false) (hk : kvs.length ≤ 64) (hp : valueAt kvs p = none) (hr : ∀ q ∈ rest, q.1 ≠ D) (hSD : @Ne Nat S D) (hdD : @Ne Nat dx D) :
  CCc 750 7500 w mean mg mb 103 ((S, instObj 153 dx) :: (dx, sorterD w t1 t2 t3 t4 (.ref D) .none np u3 nf u4 n) :: (D, oD) :: rest) [.ref S, .str p t] (fun Q h₀ L m s => ∀ x d l o' tk h' tk', Fr h₀ L h' m → News h₀ L h' ((S, instObj 153 dx) :: (dx, sorterD w t1 t2 t3 t4 (.ref D) .none np u3 nf u4 n) :: (D, o') :: (x, infoObj d p t (0 + 0) tk l) :: (d, dictOf [] 0) :: (l, listOf #[] 0) :: rest) → o'.IsDictOf (PySem.strKind theProg w) (stored kvs p (.ref x)) → New3 x d l ((S, instObj 153 dx) :: (dx, sorterD w t1 t2 t3 t4 (.ref D) .none np u3 nf u4 n) :: (D, oD) :: rest) → Q .none { s with heap := h', toks := tk' }) := by
  unfold CCc
  k_fill
  intro gd cn nm ig ic mo a ccd cl outer A₀ base h₀ L m s Q E B F X N T hret
  k_enter
  k_steps
  rename News h₀ L _ _ => kN9
  refine hret _ _ _ _ _ _ _ (by k_asm) (led7 kN9) (by k_asm) (And.intro ?_ (And.intro ?_ ?_))
  · refine fun q hq => List.forall_mem_cons.mp (by with_reducible assumption) |>.2 q hq
  · with_reducible assumption
  · (first | lia | omega)
theorem led11 {h₀ h : Heap} {L : Addr} {l x d T a b c e f g : Addr × Obj} {rest : List (Addr × Obj)} (N : News h₀ L h (l :: x :: d :: T :: a :: b :: c :: e :: f :: g :: rest)) : News h₀ L h (a :: b :: c :: x :: d :: l :: e :: f :: g :: rest) := by
  have hs : ∀ q ∈ a :: b :: c :: x :: d :: l :: e :: f :: g :: rest, q ∈ l :: x :: d :: T :: a :: b :: c :: e :: f :: g :: rest := fa_cons (.tail _ (.tail _ (.tail _ (.tail _ (.head _))))) (fa_cons (.tail _ (.tail _ (.tail _ (.tail _ (.tail _ (.head _)))))) (fa_cons (.tail _ (.tail _ (.tail _ (.tail _ (.tail _ (.tail _ (.head _))))))) (fa_cons (.tail _ (.head _)) (fa_cons (.tail _ (.tail _ (.head _))) (fa_cons (.head _) (fa_cons (.tail _ (.tail _ (.tail _ (.tail _ (.tail _ (.tail _ (.tail _ (.head _)))))))) (fa_cons (.tail _ (.tail _ (.tail _ (.tail _ (.tail _ (.tail _ (.tail _ (.tail _ (.head _))))))))) (fa_cons (.tail _ (.tail _ (.tail _ (.tail _ (.tail _ (.tail _ (.tail _ (.tail _ (.tail _ (.head _)))))))))) (fun q h => .tail _ (.tail _ (.tail _ (.tail _ (.tail _ (.tail _ (.tail _ (.tail _ (.tail _ (.tail _ (h)))))))))))))))))))
  exact fun q hq => N q (hs q hq)
theorem add1_c (w : World) (mean : ExcName → Option Value) (mg mb : Str → Option Value) (S dx D : Addr) (t1 t2 t3 t4 u3 u4 : Tok) (np nf : Int) (n : Nat) (oD : Obj) (kvs : List (Str × Value)) (p : Str) (t : Tok) (qi qd ql : Addr) (q : Str) (tq tq2 qtk : Tok) (qn : Int) (kids : List (Str × Tok)) (c : Nat) (rest : List (Addr × Obj))
   (hD : oD.IsDictOf (PySem.strKind theProg w) kvs) (hlo : (D == sysModules) = false) (hk : kvs.length ≤ 64) (hp : valueAt kvs p = none) (hq : valueAt kvs q = some (.ref qi)) (hkids : kids.length ≤ 64) (hql : ∀ q ∈ rest, q.1 ≠ ql) (n1 : @Ne Nat qi D) (n2 : @Ne Nat ql D) (n3 : @Ne Nat S ql) (n4 : @Ne Nat dx ql) (n5 : @Ne Nat qi ql) (n6 : @Ne Nat qd D) (n7 : @Ne Nat qd ql) (hr : ∀ q ∈ rest, q.1 ≠ D) (hSD : @Ne Nat S D) (hdD : @Ne Nat dx D) :
  CCc 750 7500 w mean mg mb 103 ((S, instObj 153 dx) :: (dx, sorterD w t1 t2 t3 t4 (.ref D) .none np u3 nf u4 n) :: (D, oD) :: (qi, infoObj qd q tq qn qtk ql) :: (qd, dictOf [] 0) :: (ql, sList kids c) :: rest) [.ref S, .str p t, .str q tq2] (fun Q h₀ L m s => ∀ x d l o' tk h' tk', Fr h₀ L h' m → News h₀ L h' ((S, instObj 153 dx) :: (dx, sorterD w t1 t2 t3 t4 (.ref D) .none np u3 nf u4 n) :: (D, o') :: (x, infoObj d p t (0 + 1) tk l) :: (d, dictOf [] 0) :: (l, listOf #[] 0) :: (qi, infoObj qd q tq qn qtk ql) :: (qd, dictOf [] 0) :: (ql, W.listOf ((strValues kids).toArray.push (.str p t)) (c + 1)) :: rest) → o'.IsDictOf (PySem.strKind theProg w) (stored kvs p (.ref x)) → New3 x d l ((S, instObj 153 dx) :: (dx, sorterD w t1 t2 t3 t4 (.ref D) .none np u3 nf u4 n) :: (D, oD) :: (qi, infoObj qd q tq qn qtk ql) :: (qd, dictOf [] 0) :: (ql, sList kids c) :: rest) → Q .none { s with heap := h', toks := tk' }) := by
  unfold CCc
  k_fill
  intro gd cn nm ig ic mo a ccd cl outer A₀ base h₀ L m s Q E B F X N T hret
  k_enter
  k_steps
  rename News h₀ L _ _ => kN9
  refine hret _ _ _ _ _ _ _ (by k_asm) (led11 kN9) (by k_asm) (And.intro ?_ (And.intro ?_ ?_))
  · refine fun q hq => List.forall_mem_cons.mp (by with_reducible assumption) |>.2 q hq
  · with_reducible assumption
  · (first | lia | omega)
end Mine
end

section
open PySem PySem.W PySem.W.X PyProof.Rows PySem.Calls
set_option Elab.async false
set_option maxRecDepth 100000
set_option maxHeartbeats 0
set_option linter.unusedVariables false
namespace Mine
theorem ne_cls {h₀ h : Heap} {L : Addr} {news : List (Addr × Obj)} (N : News h₀ L h news) {p q : Addr × Obj} (hp : p ∈ news) (hq : q ∈ news) (e : p.2.cls ≠ q.2.cls) : @Ne Nat p.1 q.1 := ne_obj N hp hq fun z => e (congrArg Obj.cls z)
theorem dict_cls {w : World} {o : Obj} {kvs : List (Str × Value)} (hD : o.IsDictOf (PySem.strKind theProg w) kvs) : o.cls = .type "dict" := by
  obtain ⟨_, _, ⟨e', _⟩, _⟩ := hD
  exact e'
theorem typ_ne {a b : String} (h : a ≠ b) : Value.type a ≠ Value.type b := fun e => h (Value.type.inj e)
theorem ref_typ {a : Addr} {b : String} : Value.ref a ≠ Value.type b := fun e => nomatch e
theorem dict_ne {w : World} {o : Obj} {kvs : List (Str × Value)} (hD : o.IsDictOf (PySem.strKind theProg w) kvs) {v : Value} (h : Value.type "dict" ≠ v) : o.cls ≠ v := by rw [dict_cls hD]; exact h
theorem len_tup {prog : Program} {w : World} {A : Around} {E : Value → Shared → Prop} {s : Shared} {h₀ : Heap} {L l : Addr} {news : List (Addr × Obj)} {rs : List (Str × Tok)} {Q : Value → Shared → Prop} (N : News h₀ L s.heap news) (hm : (l, ({ cls := .type "tuple", data := .seq (strValues rs).toArray } : Obj)) ∈ news) (hz : rs.length ≤ 64) (h : ∀ t k, Q (.int rs.length t) { s with toks := k }) :
    wpAny (model prog w) A (call (.builtin "len") [.ref l]) Q E s := by
  refine len_tuple (N.isTup hm) ?_ ?_
  · simp only [List.size_toArray, strValues, List.length_map]; (first | lia | omega)
  · have e : ((strValues rs).toArray.size : Int) = rs.length := by simp [strValues]
    rw [e]
    exact h _ _
theorem clear_any {prog : Program} {w : World} {A : Around} {E : Value → Shared → Prop} {s : Shared} {h₀ : Heap} {L D : Addr} {m : Str → Option Value} {news : List (Addr × Obj)} {g : Obj → List (Addr × Obj)} {its : Array Value} {n : Nat} {Q : Value → Shared → Prop} (F : Fr h₀ L s.heap m) (N : News h₀ L s.heap news) (U : UpdF D (listOf its n) news g) (hz : its.size ≤ sizeLine)
    (h : ∀ c' h', Fr h₀ L h' m → News h₀ L h' (g (listOf #[] c')) → Q .none { s with heap := h' }) : wpAny (model prog w) A (call (.builtin "list.clear") [.ref D]) Q E s := by
  obtain ⟨pre, post, rfl, hg, a, c⟩ := U.split
  have z := N (D, listOf its n) (List.mem_append.mpr (.inr (.head _)))
  refine call_meets PySem.F.slot_list_clear ⟨_, z.1, rfl⟩ PySem.F.entry_list_clear (PySem.F.args_list_clear_1 _) (PySem.AutoSeq1.list_clear_list_0 D its n hz) ⟨z.1, ?_⟩
  exact h _ _ (F.change (Heap.SameBut.update ..) z.2.1 z.2.2) (hg _ ▸ News.setIn N a c (Heap.SameBut.update ..) (PySem.IsL.update z.1 fun _ => #[]))
theorem lnW3 : True := by
  k_with_none
  k_with "zf" => (first | (k_here; k_fold; refine letA ?_; intro aX; (with_reducible rename Fr _ _ _ _ => kF); refine letM kF ?_; clear kF; intro mX kF) | (k_here; k_fold; refine letA ?_; intro aX) | (k_here; k_fold) | (k_here; with_reducible first | refine genT1 fun tk => ?_ | refine genT2 fun tk => ?_) | fail)
  k_with "execs cons" => (first | walk_at "zf" | fail)
  k_with "execs" => (first | walk_at "zf" | fail)
  k_with "execs nil" => (first | (k_here; with_reducible first | refine genT1 fun tk => ?_ | refine genT2 fun tk => ?_) | fail)
  k_with "k_ne" => (first | (refine neN ?_; first | (with_reducible first | assumption | exact Ne.symm (by assumption) | exact ca0 (by assumption) | exact cb0 (by assumption) | exact cc0 (by assumption) | exact cd0 (by assumption) | exact ca1 (by assumption) | exact cb1 (by assumption) | exact cc1 (by assumption) | exact cd1 (by assumption) | exact ca2 (by assumption) | exact cb2 (by assumption) | exact cc2 (by assumption) | exact cd2 (by assumption) | exact ca3 (by assumption) | exact cb3 (by assumption) | exact cc3 (by assumption) | exact cd3 (by assumption) | exact ca4 (by assumption) | exact cb4 (by assumption) | exact cc4 (by assumption) | exact cd4 (by assumption) | exact ca5 (by assumption) | exact cb5 (by assumption) | exact cc5 (by assumption) | exact cd5 (by assumption) | exact ca6 (by assumption) | exact cb6 (by assumption) | exact cc6 (by assumption) | exact cd6 (by assumption) | exact ca7 (by assumption) | exact cb7 (by assumption) | exact cc7 (by assumption) | exact cd7 (by assumption) | exact ca8 (by assumption) | exact cb8 (by assumption) | exact cc8 (by assumption) | exact cd8 (by assumption) | exact ca9 (by assumption) | exact cb9 (by assumption) | exact cc9 (by assumption) | exact cd9 (by assumption) | exact ca10 (by assumption) | exact cb10 (by assumption) | exact cc10 (by assumption) | exact cd10 (by assumption) | exact ca11 (by assumption) | exact cb11 (by assumption) | exact cc11 (by assumption) | exact cd11 (by assumption)) | (refine Nat.ne_of_lt (ltm (o := _) (by with_reducible assumption) ?_); k_mem; done) | (refine Nat.ne_of_gt (ltm (o := _) (by with_reducible assumption) ?_); k_mem; done) | ((try dsimp only); omega)) | fail)
  k_with "r tails" => first | (intro p hp; (repeat (first | exact hp | refine List.mem_cons_of_mem _ ?_)); done) | fail
  k_with "k_all" => first | with_reducible assumption | (refine' ne_tail ?la ?sa; (case la => with_reducible assumption); (case sa => walk_at "r tails")) | (refine' ne_tail2 ?ha ?la ?sa; (case ha => with_reducible assumption); (case la => with_reducible assumption); (case sa => walk_at "r tails")) | fail
  k_with "call type:tuple" => first | (k_here; (with_reducible show wpAny _ _ (call (Value.type _) [Value.ref _]) _ _ _); k_dflt (refine' kde_tupleOf ?k1 ?k2 ?k3 ?k4 ?k5 ?_; (case k1 => k_asm); (case k2 => k_asm); (case k3 => exact News.isList (by k_asm) (by k_mem)); (case k4 => (simp only [List.size_toArray, strValues, List.length_map]; (first | lia | omega))); (case k5 => rfl)); intro D' h' F' N' l1; (try k_lt l1)) | fail
  k_with "exec For Name Name cons nil" => first | (k_here; (rename Fr _ _ _ _ => lF'); (with_unfolding_all refine' For_turns lF' ?_; k_whole)) | fail
  k_with "pyIter ref" => first | (k_here; (with_reducible show wpAny _ _ (pyIter (Value.ref _)) (fun it s₂ => TurnsAt _ _ _ _ _ _ _ _ _ it s₂) _ _); (rename Fr _ _ _ _ => lF'); (rename News _ _ _ _ => lN'); (with_unfolding_all refine iter_tupTurns (lo := { cls := .type "tuple", data := .seq _ }) (by rfl) lF' lN' (by k_mem) (by rfl) (by rfl) ?_); clear lF' lN'; intro i' l1) | fail
  k_with "subscriptTail" => first | (k_here; (with_reducible show wpAny _ _ (subscriptTail _ _ (Value.ref _) (Value.str _ _)) _ _ _); k_dflt (refine' kda_item (knd := PySem.strKind _ _) ?k1 ?k2 ?k3 (strKind_is _ _ _ _) ?k4 ?_; (case k1 => k_asm); (case k2 => k_mem); (case k3 => k_asm); (case k4 => with_reducible assumption))) | fail
  k_with "call builtin:list.clear" => first | (k_here; (with_reducible show wpAny _ _ (call (Value.builtin _) [Value.ref _]) _ _ _); k_dflt (refine' clear_any ?F ?N ?U ?z ?_; (case F => k_asm); (case N => k_asm); (case U => k_updF); (case z => (simp only [List.size_toArray, strValues, List.length_map, sizeLine_eq]; (first | lia | omega)))); intro c' h' F' N'; (try dsimp only at N')) | fail
  k_with "call builtin:len" => first | (k_here; (with_reducible show wpAny _ _ (call (Value.builtin "len") [Value.ref _]) _ _ _); k_dflt (refine' len_tup ?N ?m ?z ?_; (case N => k_asm); (case m => k_mem); (case z => with_reducible assumption)); intro t' k') | fail
  trivial

noncomputable abbrev tupS (rs : List (Str × Tok)) : Obj := { cls := .type "tuple", data := .seq (strValues rs).toArray }
theorem val_at {rs : List (Str × Tok)} {i : Nat} {a : Itm} (h : (List.map Itm.val (strValues rs))[i]? = some a) : ∃ r, rs[i]? = some r ∧ a = .val (.str r.1 r.2) := by
  unfold strValues at h
  rw [List.getElem?_map, List.getElem?_map] at h
  cases e : rs[i]? with
  | none => rw [e] at h; cases h
  | some r => rw [e] at h; exact ⟨r, rfl, (Option.some.inj h).symm⟩
theorem nd_turn_end {h₀ : Heap} {L I : Addr} {it : Obj} {s₁ : Shared} {h' : Heap} {tk : Nat} {m' : Str → Option Value} {all heads : List (Addr × Obj)} {rest : (Str → Option Value) → List (Addr × Obj) → Prop} {f : NpF} {a b : List Nd} {n : Nd} (v : Int × Tok)
    (F : Fr h₀ L h' m') (N : News h₀ L h' all) (hn : ((a ++ n :: b).map Nd.p).Nodup) (sub : ∀ q ∈ (I, it) :: (heads ++ ((n.i, infoObj n.d n.p n.t v.1 v.2 n.l) :: ndRest f a n b)), q ∈ all) (off : ∀ q ∈ heads ++ ndsLed f (a ++ n :: b), q.1 ≠ I) (r : rest m' (heads ++ ndsLed (setF f n.p v) (a ++ n :: b))) : UnrEndW h₀ L s₁ [(I, it)] rest { s₁ with heap := h', toks := tk } := by
  refine ⟨h', tk, m', _, rfl, F, fun q hq => N q (sub q ?_), fun q hq p hp => ?_, r⟩
  · rcases List.mem_append.mp hq with hq | hq
    · rw [List.mem_singleton.mp hq]; exact .head _
    refine .tail _ ?_
    rcases List.mem_append.mp hq with hq | hq
    · exact List.mem_append_left _ hq
    · refine List.mem_append_right _ ?_
      have z := pick_mem.mp hq
      rw [ndRest_set hn] at z
      unfold setF at z
      rw [if_pos rfl] at z
      exact z
  · rw [List.mem_singleton.mp hp]
    rcases List.mem_append.mp hq with hq | hq
    · exact off q (List.mem_append_left _ hq)
    · obtain ⟨o, ho⟩ := ndsLed_addr (g := f) hq
      exact off (q.1, o) (List.mem_append_right _ ho)
noncomputable abbrev kSelf : Str := Str.ofString "self"
theorem take_mem_succ {l : List Str} {i : Nat} {x q : Str} (h : l[i]? = some x) : (q ∈ l.take (i + 1)) ↔ (q ∈ l.take i ∨ q = x) := by
  rw [List.take_add_one, h]
  simp
theorem sFst_at {rs : List (Str × Tok)} {i : Nat} {r : Str × Tok} (h : rs[i]? = some r) : (sFst rs)[i]? = some r.1 := by
  unfold sFst
  rw [List.getElem?_map, h]
  rfl
theorem News.sub {h₀ h : Heap} {L : Addr} {news l : List (Addr × Obj)} (N : News h₀ L h news) (s : ∀ q ∈ l, q ∈ news) : News h₀ L h l := fun q hq => N q (s q hq)
theorem News.drop2 {h₀ h : Heap} {L : Addr} {a b : Addr × Obj} {l : List (Addr × Obj)} (N : News h₀ L h (a :: b :: l)) : News h₀ L h (a :: l) := News.sub N fun q hq => by
  rcases List.mem_cons.mp hq with h | hq
  · exact List.mem_cons.mpr (.inl h)
  · exact .tail _ (.tail _ hq)
theorem sub_pick {f : NpF} {a b : List Nd} {n : Nd} : ∀ {heads : List (Addr × Obj)}, ∀ q ∈ heads ++ ((n.i, infoObj n.d n.p n.t (f n.p).1 (f n.p).2 n.l) :: ndRest f a n b), q ∈ heads ++ ndsLed f (a ++ n :: b) := fun q hq => by
  rcases List.mem_append.mp hq with hq | hq
  · exact List.mem_append_left _ hq
  · exact List.mem_append_right _ (pick_mem.mpr hq)
theorem getr_c (w : World) (mean : ExcName → Option Value) (mg mb : Str → Option Value) (S dx D R : Addr) (t1 t2 t3 t4 u3 u4 : Tok) (np nf : Int) (oD : Obj) (rs : List (Str × Tok)) (c : Nat) (ns : List Nd) (f : NpF)
   (hn : (ns.map Nd.p).Nodup) (hin : ∀ r ∈ rs, r.1 ∈ ns.map Nd.p) (hD : oD.IsDictOf (PySem.strKind theProg w) (ndKvs ns)) (hlo : (D == sysModules) = false) (hk : ns.length ≤ 64) (hrs : rs.length ≤ 64) (hSD : @Ne Nat S D) (hdD : @Ne Nat dx D) (hdn : ∀ q ∈ ndsLed f ns, q.1 ≠ dx) (hRn : ∀ q ∈ ndsLed f ns, q.1 ≠ R) :
  CQ 750 7500 w mean mg mb 115 ((S, instObj 153 dx) :: (dx, sorterD w t1 t2 t3 t4 (.ref D) (.ref R) np u3 nf u4 4) :: (D, oD) :: (R, sList rs c) :: ndsLed f ns) (fun b => b = dx ∨ b = R ∨ ∃ n ∈ ns, b = n.i) [.ref S] (fun h₀ L v h' => ∃ T f' c' u3', v = .ref T ∧ (∀ q, (f' q).1 = if q ∈ sFst rs then -1 else (f q).1) ∧ News h₀ L h' ((T, tupS rs) :: (S, instObj 153 dx) :: (dx, sorterD w t1 t2 t3 t4 (.ref D) (.ref R) (np + rs.length) u3' nf u4 4) :: (D, oD) :: (R, listOf #[] c') :: ndsLed f' ns)) := by
  refine CQ.of fun b o hb => ?_
  have b1 : @Ne Nat b dx := fun e => hb (.inl e)
  have b2 : @Ne Nat b R := fun e => hb (.inr (.inl e))
  have b3 : ∀ n ∈ ns, b ≠ n.i := fun n hn e => hb (.inr (.inr ⟨n, hn, e⟩))
  clear hb
  unfold CC
  k_fill
  intro gd cn nm ig ic mo a ccd cl outer A₀ base h₀ L m s Q E B F X N T hret
  generalize hrest : ndsLed f ns = rest at N hdn
  k_steps
  subst hrest
  rename_i h1 h2 _ _ _
  refine items_ind (J := fun i m nw => ∃ f' : NpF, (∀ q, (f' q).1 = if q ∈ (sFst rs).take i then -1 else (f q).1) ∧ m kSelf = some (.ref S) ∧ m (Str.ofString "result") = some (.ref D') ∧ m (Str.ofString "n2i") = some (.ref D) ∧
    nw = [(D', tupS rs), (b, o), (S, instObj 153 dx), (dx, sorterD w t1 t2 t3 t4 (.ref D) (.ref R) np u3 nf u4 4), (D, oD), (R, sList rs c)] ++ ndsLed f' ns) ?h0 ?step ?fin
  case h0 =>
    exact ⟨f, fun q => by rw [if_neg (by simp)], by with_unfolding_all rfl, by with_unfolding_all rfl, by with_unfolding_all rfl, rfl⟩
  case step =>
    rintro i a m nw ha ⟨f', hf', m1, m2, m3, rfl⟩ v h tk hv F
    obtain ⟨r, hr, rfl⟩ := val_at ha
    obtain ⟨a', nd, b', rfl, hp⟩ := nd_pick (hin r (List.mem_of_getElem? hr))
    have hv' : v = .str nd.p r.2 := by rw [hp]; exact hv
    subst hv'
    rw [m_eq3 m1 m2 m3] at F
    refine AllObj.cons fun it hit => AllObj.nil fun N => ?_
    have hmem : ∀ q ∈ ndsLed f' (a' ++ nd :: b'), q ∈ [((i', "tuple_iterator").fst, it)] ++ ([(D', tupS rs), (b, o), (S, instObj 153 dx), (dx, sorterD w t1 t2 t3 t4 (.ref D) (.ref R) np u3 nf u4 4), (D, oD), (R, sList rs c)] ++ ndsLed f' (a' ++ nd :: b')) := fun q hq => List.mem_append_right _ (List.mem_append_right _ hq)
    have hT : ∀ q ∈ ndRest f' a' nd b', q.1 ≠ nd.i := rest_ne N hn hmem
    have hX : ∀ q ∈ ndRest f' a' nd b', q.1 ≠ dx := fun q hq => by
      obtain ⟨o', ho'⟩ := ndsLed_addr (g := f) (pick_mem.mpr (.tail _ hq))
      exact hdn (q.1, o') ho'
    have hi := hmem _ (pick_mem.mpr (.head _))
    have e1 : @Ne Nat D' nd.i := ne_obj N (.tail _ (.head _)) hi fun e => nomatch congrArg Obj.cls e
    have e2 : @Ne Nat S nd.i := ne_obj N (.tail _ (.tail _ (.tail _ (.head _)))) hi fun e => by cases congrArg Obj.cls e
    have e3 : @Ne Nat dx nd.i := ne_obj N (.tail _ (.tail _ (.tail _ (.tail _ (.head _))))) hi fun e => nomatch congrArg Obj.cls e
    have e4 : @Ne Nat D nd.i := ne_obj N (.tail _ (.tail _ (.tail _ (.tail _ (.tail _ (.head _)))))) hi fun e => by
      obtain ⟨_, _, ⟨e', _⟩, _⟩ := hD
      have e2 := congrArg Obj.cls e
      dsimp only at e2
      rw [e'] at e2
      cases e2
    have e5 : @Ne Nat R nd.i := ne_obj N (.tail _ (.tail _ (.tail _ (.tail _ (.tail _ (.tail _ (.head _))))))) hi fun e => nomatch congrArg Obj.cls e
    have e6 : @Ne Nat b nd.i := b3 nd (List.mem_append_right _ (.head _))
    have e7 : @Ne Nat i' nd.i := fun e => by
      obtain ⟨o', ho'⟩ := ndsLed_addr (g := f) (f := f') (ns := a' ++ nd :: b') (pick_mem.mpr (.head _))
      have z := l1 _ (.tail _ (.tail _ (.tail _ (.tail _ (.tail _ (.tail _ ho'))))))
      exact absurd (Nat.ne_of_lt z) (fun h => h e.symm)
    have hat := ndKvs_at hn
    have N1 := News.sub N (l := ((i', it) :: (D', tupS rs) :: (b, o) :: (S, instObj 153 dx) :: (dx, sorterD w t1 t2 t3 t4 (.ref D) (.ref R) np u3 nf u4 4) :: (D, oD) :: (R, sList rs c) :: (nd.i, infoObj nd.d nd.p nd.t (f' nd.p).1 (f' nd.p).2 nd.l) :: ndRest f' a' nd b')) (sub_pick (heads := [(i', it), (D', tupS rs), (b, o), (S, instObj 153 dx), (dx, sorterD w t1 t2 t3 t4 (.ref D) (.ref R) np u3 nf u4 4), (D, oD), (R, sList rs c)]))
    clear N
    k_steps
    refine nd_turn_end (heads := [(D', tupS rs), (b, o), (S, instObj 153 dx), (dx, sorterD w t1 t2 t3 t4 (.ref D) (.ref R) np u3 nf u4 4), (D, oD), (R, sList rs c)]) (-1, _) (by k_asm) (by k_asm) hn (fun q hq => hq) (fun q hq => ?_) ⟨?_, setF f' nd.p (-1, _), fun q => ?_, ?_, ?_, ?_, rfl⟩
    · rcases List.mem_append.mp hq with hq | hq
      · exact Nat.ne_of_lt (l1 q (List.mem_append_left (as := [_, _, _, _, _, _]) _ hq))
      · obtain ⟨o', ho'⟩ := ndsLed_addr (g := f) hq
        exact Nat.ne_of_lt (l1 (q.1, o') (List.mem_append_right [_, _, _, _, _, _] ho'))
    · exact ⟨.head _, trivial⟩
    · unfold setF
      have z := take_mem_succ (q := q) (sFst_at hr)
      rw [← hp] at z
      by_cases e : q = nd.p
      · rw [if_pos e, if_pos (z.mpr (.inr e))]
      · rw [if_neg e, hf' q]
        by_cases e2 : q ∈ (sFst rs).take i
        · rw [if_pos e2, if_pos (z.mpr (.inl e2))]
        · rw [if_neg e2, if_neg fun h => (z.mp h).elim e2 e]
    · with_unfolding_all rfl
    · with_unfolding_all rfl
    · with_unfolding_all rfl
  case fin =>
    rintro m nw h tk ⟨f', hf', m1, m2, m3, rfl⟩ F N
    rw [m_eq3 m1 m2 m3] at F
    generalize hrest : ndsLed f' ns = rest at N
    have hX : ∀ q ∈ rest, q.1 ≠ dx := fun q hq => by
      rw [← hrest] at hq
      obtain ⟨o', ho'⟩ := ndsLed_addr (g := f) hq
      exact hdn (q.1, o') ho'
    simp only [List.cons_append, List.nil_append] at N
    have hY : ∀ q ∈ rest, q.1 ≠ R := fun q hq => by
      rw [← hrest] at hq
      obtain ⟨o', ho'⟩ := ndsLed_addr (g := f) hq
      exact hRn (q.1, o') ho'
    have e2 : @Ne Nat S R := ne_obj N (.tail _ (.tail _ (.head _))) (.tail _ (.tail _ (.tail _ (.tail _ (.tail _ (.head _)))))) fun e => by cases congrArg Obj.cls e
    have e3 : @Ne Nat dx R := ne_cls N (.tail _ (.tail _ (.tail _ (.head _)))) (.tail _ (.tail _ (.tail _ (.tail _ (.tail _ (.head _)))))) (typ_ne (by decide))
    have e4 : @Ne Nat D R := ne_cls N (.tail _ (.tail _ (.tail _ (.tail _ (.head _))))) (.tail _ (.tail _ (.tail _ (.tail _ (.tail _ (.head _)))))) (dict_ne hD (typ_ne (by decide)))
    have e5 : @Ne Nat S dx := ne_obj N (.tail _ (.tail _ (.head _))) (.tail _ (.tail _ (.tail _ (.head _)))) fun e => by cases congrArg Obj.cls e
    dsimp only
    k_steps
    subst hrest
    rename News h₀ L _ _ => kN9
    refine hret _ _ _ ⟨D', f', c', _, rfl, fun q => ?_, News.drop2 kN9⟩ (by k_asm) (News.sub kN9 fun q hq => ?_)
    · rw [hf' q, List.take_of_length_le (by simp [strValues, sFst])]
    · rw [List.mem_singleton.mp hq]; exact .tail _ (.head _)
end Mine
end

section
open PySem PySem.W PySem.W.X PyProof.Rows PySem.Calls
set_option Elab.async false
set_option maxRecDepth 100000
set_option maxHeartbeats 0
set_option linter.unusedVariables false
namespace Mine
theorem lnW4 : True := by
  k_with_none
  k_with "zf" => (first | (k_here; k_fold; refine letA ?_; intro aX; (with_reducible rename Fr _ _ _ _ => kF); refine letM kF ?_; clear kF; intro mX kF) | (k_here; k_fold; refine letA ?_; intro aX) | (k_here; k_fold) | (k_here; with_reducible first | refine genT1 fun tk => ?_ | refine genT2 fun tk => ?_) | fail)
  k_with "execs cons" => (first | walk_at "zf" | fail)
  k_with "execs" => (first | walk_at "zf" | fail)
  k_with "execs nil" => (first | (k_here; with_reducible first | refine genT1 fun tk => ?_ | refine genT2 fun tk => ?_) | fail)
  k_with "k_ne" => (first | (refine neN ?_; first | (with_reducible first | assumption | exact Ne.symm (by assumption) | exact ca0 (by assumption) | exact cb0 (by assumption) | exact cc0 (by assumption) | exact cd0 (by assumption) | exact ca1 (by assumption) | exact cb1 (by assumption) | exact cc1 (by assumption) | exact cd1 (by assumption) | exact ca2 (by assumption) | exact cb2 (by assumption) | exact cc2 (by assumption) | exact cd2 (by assumption) | exact ca3 (by assumption) | exact cb3 (by assumption) | exact cc3 (by assumption) | exact cd3 (by assumption) | exact ca4 (by assumption) | exact cb4 (by assumption) | exact cc4 (by assumption) | exact cd4 (by assumption) | exact ca5 (by assumption) | exact cb5 (by assumption) | exact cc5 (by assumption) | exact cd5 (by assumption) | exact ca6 (by assumption) | exact cb6 (by assumption) | exact cc6 (by assumption) | exact cd6 (by assumption) | exact ca7 (by assumption) | exact cb7 (by assumption) | exact cc7 (by assumption) | exact cd7 (by assumption) | exact ca8 (by assumption) | exact cb8 (by assumption) | exact cc8 (by assumption) | exact cd8 (by assumption) | exact ca9 (by assumption) | exact cb9 (by assumption) | exact cc9 (by assumption) | exact cd9 (by assumption) | exact ca10 (by assumption) | exact cb10 (by assumption) | exact cc10 (by assumption) | exact cd10 (by assumption) | exact ca11 (by assumption) | exact cb11 (by assumption) | exact cc11 (by assumption) | exact cd11 (by assumption)) | (refine Nat.ne_of_lt (ltm (o := _) (by with_reducible assumption) ?_); k_mem; done) | (refine Nat.ne_of_gt (ltm (o := _) (by with_reducible assumption) ?_); k_mem; done) | ((try dsimp only); omega)) | fail)
  k_with "r tails" => first | (intro p hp; (repeat (first | exact hp | refine List.mem_cons_of_mem _ ?_)); done) | fail
  k_with "k_all" => first | with_reducible assumption | (refine' ne_tail ?la ?sa; (case la => with_reducible assumption); (case sa => walk_at "r tails")) | (refine' ne_tail2 ?ha ?la ?sa; (case ha => with_reducible assumption); (case la => with_reducible assumption); (case sa => walk_at "r tails")) | fail
  k_with "exec For Name Name cons nil" => first | (k_here; (rename Fr _ _ _ _ => lF'); (with_unfolding_all refine' For_turns lF' ?_; k_whole)) | fail
  k_with "subscriptTail" => first | (k_here; (with_reducible show wpAny _ _ (subscriptTail _ _ (Value.ref _) (Value.str _ _)) _ _ _); k_dflt (refine' kda_item (knd := PySem.strKind _ _) ?k1 ?k2 ?k3 (strKind_is _ _ _ _) ?k4 ?_; (case k1 => k_asm); (case k2 => k_mem); (case k3 => k_asm); (case k4 => with_reducible assumption))) | fail
  k_with "getMethod ref" => first | (k_here; (with_reducible show wpAny _ _ (getMethod (Value.ref _) (Str.ofString "get") _) _ _ _); k_dflt (refine kdg_method (knd := PySem.strKind _ _) (by k_asm) (by k_mem) (by k_asm) ?_)) | fail
  k_with "call builtin:dict.get" => first | (k_here; k_dflt (refine' kdg_get1 (knd := PySem.strKind _ _) ?N ?m ?d ?lo (strKind_is _ _ _ _) _ ?v ?_; (case N => k_asm); (case m => k_mem); (case d => k_asm); (case lo => k_asm); (case v => first | with_reducible assumption | (refine' valueAt_stored_ne ?va ?vb; (case va => with_reducible assumption); (case vb => with_reducible assumption)))); (try dsimp only [Option.getD])) | fail
  k_with "drop one" => first | (refine' Drop1.skip ?ds; (case ds => k_all)) | (refine' Drop1.keep ?dk ?dr; (case dk => k_ne); (case dr => walk_at "drop one")) | fail
  k_with "exec For Name Attribute cons nil" => first | (k_here; (rename Fr _ _ _ _ => lF'); (with_unfolding_all refine' For_turns lF' ?_; k_whole)) | fail
  k_with "pyIter ref" => first | (k_here; (with_reducible show wpAny _ _ (pyIter (Value.ref _)) (fun it s₂ => TurnsAt _ _ _ _ _ _ _ _ _ it s₂) _ _); (rename Fr _ _ _ _ => lF'); (rename News _ _ _ _ => lN'); (with_unfolding_all refine iter_tupTurns (lo := { cls := .type "tuple", data := .seq _ }) (by rfl) lF' lN' (by k_mem) (by rfl) (by rfl) ?_); clear lF' lN'; intro iT lT; (have lU := lT); (try k_lt lU)) | fail
  k_with "pyIter ref" => first | (k_here; (with_reducible show wpAny _ _ (pyIter (Value.ref _)) (fun it s₂ => TurnsAt _ _ _ _ _ _ _ _ _ it s₂) _ _); (rename Fr _ _ _ _ => lF'); (rename News _ _ _ _ => lN'); (with_unfolding_all refine iter_listTurns (lo := sList _ _) (by rfl) lF' lN' (by k_mem) (by rfl) (by rfl) ?_); clear lF' lN'; intro i' l1) | fail
  k_with "call builtin:list.append" => first | (k_here; (with_reducible show wpAny _ _ (call (Value.builtin _) [Value.ref _, _]) _ _ _); k_dflt (refine' append_K ?k1 ?k2 ?k3 ?_ ?z; (case k1 => k_asm); (case k2 => k_asm); (case k3 => k_upd); (case z => ((try simp only [List.size_toArray, strValues, List.length_map, List.length_take, sizeLine_eq]); (first | lia | omega))); k_whole); intro h' F' N') | fail
  trivial
theorem sList_push {l : List (Str × Tok)} {i : Nat} {r : Str × Tok} {c : Nat} (h : l[i]? = some r) : listOf ((strValues (l.take i)).toArray.push (.str r.1 r.2)) (c + 1) = sList (l.take (i + 1)) (c + 1) := by
  show listOf _ _ = listOf _ _
  congr 1
  rw [List.take_add_one, h]
  simp [strValues]
theorem fst_take {l : List (Str × Tok)} {i : Nat} : sFst (l.take i) = (sFst l).take i := by
  unfold sFst
  rw [List.map_take]
theorem nodup_take {l : List Str} {i : Nat} {x : Str} (hn : l.Nodup) (h : l[i]? = some x) : x ∉ l.take i := by
  intro hx
  obtain ⟨j, hj, e⟩ := List.mem_iff_getElem.mp hx
  rw [List.length_take] at hj
  rw [List.getElem_take] at e
  obtain ⟨hi, e2⟩ := List.getElem?_eq_some_iff.mp h
  have := (List.nodup_iff_pairwise_ne.mp hn)
  exact (List.pairwise_iff_getElem.mp this) j i (by (first | lia | omega)) hi (by (first | lia | omega)) (e.trans e2.symm)
theorem ne_info {h₀ h : Heap} {L : Addr} {news : List (Addr × Obj)} (N : News h₀ L h news) {i j d e l k : Addr} {p q : Str} {t u : Tok} {v z : Int} {s r : Tok} (hp : (i, infoObj d p t v s l) ∈ news) (hq : (j, infoObj e q u z r k) ∈ news) (hne : p ≠ q) : @Ne Nat i j := ne_obj N hp hq fun e => by
  have e' := congrArg (fun o : Obj => o.slots[0]?) e
  simp at e'
  exact hne e'.1
theorem News.at4 {h₀ h : Heap} {L : Addr} {a b c d : Addr × Obj} {x y : List (Addr × Obj)} (e : x = y) (N : News h₀ L h (a :: b :: c :: d :: y)) : News h₀ L h (a :: b :: c :: d :: x) := e ▸ N
theorem News.tl2 {h₀ h : Heap} {L : Addr} {a b : Addr × Obj} {l : List (Addr × Obj)} (N : News h₀ L h (a :: b :: l)) : News h₀ L h l := News.sub N fun q hq => .tail _ (.tail _ hq)
theorem off_addr {l l' : List (Addr × Obj)} {I : Addr} {q : Addr × Obj} (h : ∀ q ∈ l, q.1 < I) (hq : q ∈ l') (e : l'.map Prod.fst = l.map Prod.fst) : q.1 ≠ I := by
  have z := List.mem_map_of_mem (f := (Prod.fst : Addr × Obj → Addr)) hq
  rw [e] at z
  obtain ⟨x, hx, ex⟩ := List.mem_map.mp z
  rw [← ex]
  exact Nat.ne_of_lt (h x hx)
theorem done_c (w : World) (mean : ExcName → Option Value) (mg mb : Str → Option Value) (S dx D R : Addr) (t1 t2 t3 t4 u3 u4 : Tok) (np nf : Int) (oD : Obj) (c : Nat) (nd : Nd) (os : List Nd) (f : NpF) (kvs : List (Str × Value)) (t : Tok)
   (hn : ((nd :: os).map Nd.p).Nodup) (hin : ∀ r ∈ nd.kids, r.1 ∈ os.map Nd.p) (hkn : (sFst nd.kids).Nodup) (hD : oD.IsDictOf (PySem.strKind theProg w) kvs) (hlo : (D == sysModules) = false) (hat : valueAt kvs nd.p = some (.ref nd.i)) (hats : ∀ m ∈ os, valueAt kvs m.p = some (.ref m.i)) (hrs : nd.kids.length ≤ 64)
   (hout : (f nd.p).1 = -1) (hone : ∀ r ∈ nd.kids, (f r.1).1 = 1)
   (hSD : @Ne Nat S D) (hdD : @Ne Nat dx D) (hdn : ∀ q ∈ ndsLed f (nd :: os), q.1 ≠ dx) (hRn : ∀ q ∈ ndsLed f (nd :: os), q.1 ≠ R) :
  CQ 750 7500 w mean mg mb 136 ((S, instObj 153 dx) :: (dx, sorterD w t1 t2 t3 t4 (.ref D) (.ref R) np u3 nf u4 4) :: (D, oD) :: (R, listOf #[] c) :: ndsLed f (nd :: os)) (fun b => b = dx ∨ b = R ∨ ∃ n ∈ nd :: os, b = n.i) [.ref S, .str nd.p t] (fun h₀ L v h' => ∃ f' c' u4', v = .none ∧ (∀ q, (f' q).1 = if q = nd.p then -2 else if q ∈ sFst nd.kids then 0 else (f q).1) ∧ News h₀ L h' ((S, instObj 153 dx) :: (dx, sorterD w t1 t2 t3 t4 (.ref D) (.ref R) np u3 (nf + 1) u4' 4) :: (D, oD) :: (R, sList nd.kids c') :: ndsLed f' (nd :: os))) := by
  refine CQ.of fun b o hb => ?_
  have b1 : @Ne Nat b dx := fun e => hb (.inl e)
  have b2 : @Ne Nat b R := fun e => hb (.inr (.inl e))
  have b3 : ∀ n ∈ nd :: os, b ≠ n.i := fun n hn e => hb (.inr (.inr ⟨n, hn, e⟩))
  have b4 : @Ne Nat b nd.i := b3 nd (.head _)
  clear hb
  unfold CC
  k_fill
  intro gd cn nm ig ic mo a ccd cl outer A₀ base h₀ L m s Q E B F X N T hret
  have N0 : News h₀ L s.heap ((b, o) :: (S, instObj 153 dx) :: (dx, sorterD w t1 t2 t3 t4 (.ref D) (.ref R) np u3 nf u4 4) :: (D, oD) :: (R, listOf #[] c) :: (nd.i, infoObj nd.d nd.p nd.t (f nd.p).1 (f nd.p).2 nd.l) :: (nd.d, dictOf [] 0) :: (nd.l, sList nd.kids nd.c) :: ndsLed f os) := N
  have hT : ∀ q ∈ ndsLed f os, q.1 ≠ nd.i := fun q hq => rest_ne (a := []) N hn (fun q hq => .tail _ (.tail _ (.tail _ (.tail _ (.tail _ hq))))) q (.tail _ (.tail _ hq))
  have hXd : ∀ q ∈ ndsLed f os, q.1 ≠ dx := fun q hq => hdn q (List.mem_append_right _ hq)
  have hXR : ∀ q ∈ ndsLed f os, q.1 ≠ R := fun q hq => hRn q (List.mem_append_right _ hq)
  have e1 : @Ne Nat S nd.i := ne_cls N0 (.tail _ (.head _)) (.tail _ (.tail _ (.tail _ (.tail _ (.tail _ (.head _)))))) (fun e => by cases e)
  have e2 : @Ne Nat dx nd.i := ne_cls N0 (.tail _ (.tail _ (.head _))) (.tail _ (.tail _ (.tail _ (.tail _ (.tail _ (.head _)))))) (fun e => nomatch e)
  have e3 : @Ne Nat D nd.i := ne_cls N0 (.tail _ (.tail _ (.tail _ (.head _)))) (.tail _ (.tail _ (.tail _ (.tail _ (.tail _ (.head _)))))) (dict_ne hD fun e => nomatch e)
  have e4 : @Ne Nat R nd.i := ne_cls N0 (.tail _ (.tail _ (.tail _ (.tail _ (.head _))))) (.tail _ (.tail _ (.tail _ (.tail _ (.tail _ (.head _)))))) (fun e => nomatch e)
  have e5 : @Ne Nat nd.d nd.i := ne_cls N0 (.tail _ (.tail _ (.tail _ (.tail _ (.tail _ (.tail _ (.head _))))))) (.tail _ (.tail _ (.tail _ (.tail _ (.tail _ (.head _)))))) (fun e => nomatch e)
  have e6 : @Ne Nat nd.l nd.i := ne_cls N0 (.tail _ (.tail _ (.tail _ (.tail _ (.tail _ (.tail _ (.tail _ (.head _)))))))) (.tail _ (.tail _ (.tail _ (.tail _ (.tail _ (.head _)))))) (fun e => nomatch e)
  clear N
  rw [hout] at N0
  generalize hrest : ndsLed f os = rest at N0 hT hXd hXR
  k_steps
  rename_i T0 _ _ _ _ _ _ _ _ _ _ _ _ _ _ _ _ _ _ _ _ _ o1 ho1 _ _ _ _ _ _ _ _
  subst hrest
  refine items_ind (J := fun i m nw => ∃ (f' : NpF) (c' : Nat), (∀ q, (f' q).1 = if q ∈ (sFst nd.kids).take i then 0 else (f q).1) ∧ m kSelf = some (.ref S) ∧ m (Str.ofString "n2i") = some (.ref D) ∧
    nw = [(iT, o1), (T0, tupOf #[.str nd.p t]), (b, o), (S, instObj 153 dx), (dx, sorterD w t1 t2 t3 t4 (.ref D) (.ref R) np u3 nf u4 4), (D, oD), (R, sList (nd.kids.take i) c'), (nd.i, infoObj nd.d nd.p nd.t (-2) 224 nd.l), (nd.d, dictOf [] 0), (nd.l, sList nd.kids nd.c)] ++ ndsLed f' os) ?h0 ?step ?fin
  case h0 =>
    exact ⟨f, c, fun q => by rw [if_neg (by simp)], by with_unfolding_all rfl, by with_unfolding_all rfl, rfl⟩
  case step =>
    rintro i a m nw ha ⟨f', c', hf', m1, m2, rfl⟩ v h tk hv F
    obtain ⟨r, hr, rfl⟩ := val_at ha
    have hrk := List.mem_of_getElem? hr
    obtain ⟨a', kd, b', rfl, hp⟩ := nd_pick (hin r hrk)
    have hv' : v = .str kd.p r.2 := by rw [hp]; exact hv
    subst hv'
    have hv1 : (f' kd.p).1 = 1 := by
      rw [hf', if_neg (by rw [hp]; exact nodup_take hkn (sFst_at hr)), hp]
      exact hone r hrk
    have hil : i < nd.kids.length := (List.getElem?_eq_some_iff.mp hr).1
    rw [m_eq2 m1 m2] at F
    refine AllObj.cons fun it hit => AllObj.nil fun N => ?_
    have N1 := News.sub N (l := ((i', it) :: (iT, o1) :: (T0, tupOf #[.str nd.p t]) :: (b, o) :: (S, instObj 153 dx) :: (dx, sorterD w t1 t2 t3 t4 (.ref D) (.ref R) np u3 nf u4 4) :: (D, oD) :: (R, sList (nd.kids.take i) c') :: (nd.i, infoObj nd.d nd.p nd.t (-2) 224 nd.l) :: (nd.d, dictOf [] 0) :: (nd.l, sList nd.kids nd.c) :: (kd.i, infoObj kd.d kd.p kd.t (f' kd.p).1 (f' kd.p).2 kd.l) :: ndRest f' a' kd b')) (sub_pick (heads := [(i', it), (iT, o1), (T0, tupOf #[.str nd.p t]), (b, o), (S, instObj 153 dx), (dx, sorterD w t1 t2 t3 t4 (.ref D) (.ref R) np u3 nf u4 4), (D, oD), (R, sList (nd.kids.take i) c'), (nd.i, infoObj nd.d nd.p nd.t (-2) 224 nd.l), (nd.d, dictOf [] 0), (nd.l, sList nd.kids nd.c)]))
    have hno : ((a' ++ kd :: b').map Nd.p).Nodup := (List.nodup_cons.mp hn).2
    have hne : nd.p ≠ kd.p := fun e => (List.nodup_cons.mp hn).1 (e ▸ List.mem_map_of_mem (f := Nd.p) (List.mem_append_right _ (.head _)))
    have hT2 : ∀ q ∈ ndRest f' a' kd b', q.1 ≠ kd.i := rest_ne N hno fun q hq => List.mem_append_right _ (List.mem_append_right _ hq)
    have hX2 : ∀ q ∈ ndRest f' a' kd b', q.1 ≠ R := fun q hq => by
      obtain ⟨o', ho'⟩ := ndsLed_addr (g := f) (pick_mem.mpr (.tail _ hq))
      exact hXR (q.1, o') ho'
    have g1 : @Ne Nat iT kd.i := ne_cls N1 (.tail _ (.head _)) (List.mem_append_right [_, _, _, _, _, _, _, _, _, _, _] (.head _)) (by rw [ho1]; exact fun e => nomatch e)
    have g2 : @Ne Nat T0 kd.i := ne_cls N1 (.tail _ (.tail _ (.head _))) (List.mem_append_right [_, _, _, _, _, _, _, _, _, _, _] (.head _)) (fun e => nomatch e)
    have g3 : @Ne Nat b kd.i := b3 kd (.tail _ (List.mem_append_right _ (.head _)))
    have g4 : @Ne Nat S kd.i := ne_cls N1 (.tail _ (.tail _ (.tail _ (.tail _ (.head _))))) (List.mem_append_right [_, _, _, _, _, _, _, _, _, _, _] (.head _)) (fun e => by cases e)
    have g5 : @Ne Nat dx kd.i := ne_cls N1 (.tail _ (.tail _ (.tail _ (.tail _ (.tail _ (.head _)))))) (List.mem_append_right [_, _, _, _, _, _, _, _, _, _, _] (.head _)) (fun e => nomatch e)
    have g6 : @Ne Nat D kd.i := ne_cls N1 (.tail _ (.tail _ (.tail _ (.tail _ (.tail _ (.tail _ (.head _))))))) (List.mem_append_right [_, _, _, _, _, _, _, _, _, _, _] (.head _)) (dict_ne hD fun e => nomatch e)
    have g7 : @Ne Nat R kd.i := ne_cls N1 (.tail _ (.tail _ (.tail _ (.tail _ (.tail _ (.tail _ (.tail _ (.head _)))))))) (List.mem_append_right [_, _, _, _, _, _, _, _, _, _, _] (.head _)) (fun e => nomatch e)
    have g8 : @Ne Nat nd.i kd.i := ne_info N1 (List.mem_append_right [_, _, _, _, _, _, _, _] (.head _)) (List.mem_append_right [_, _, _, _, _, _, _, _, _, _, _] (.head _)) hne
    have g9 : @Ne Nat nd.d kd.i := ne_cls N1 (List.mem_append_right [_, _, _, _, _, _, _, _, _] (.head _)) (List.mem_append_right [_, _, _, _, _, _, _, _, _, _, _] (.head _)) (fun e => nomatch e)
    have g10 : @Ne Nat nd.l kd.i := ne_cls N1 (List.mem_append_right [_, _, _, _, _, _, _, _, _, _] (.head _)) (List.mem_append_right [_, _, _, _, _, _, _, _, _, _, _] (.head _)) (fun e => nomatch e)
    have g11 : @Ne Nat i' kd.i := ne_cls N1 (.head _) (List.mem_append_right [_, _, _, _, _, _, _, _, _, _, _] (.head _)) (by rw [hit]; exact fun e => nomatch e)
    have k1 : @Ne Nat i' R := Nat.ne_of_gt (l1 (R, listOf #[] c) (List.mem_append_right [_, _, _, _, _, _] (.head _)))
    have k2 : @Ne Nat S R := ne_cls N1 (.tail _ (.tail _ (.tail _ (.tail _ (.head _))))) (List.mem_append_right [_, _, _, _, _, _, _] (.head _)) (fun e => by cases e)
    have k3 : @Ne Nat dx R := ne_cls N1 (.tail _ (.tail _ (.tail _ (.tail _ (.tail _ (.head _)))))) (List.mem_append_right [_, _, _, _, _, _, _] (.head _)) (typ_ne (by decide))
    have k4 : @Ne Nat D R := ne_cls N1 (.tail _ (.tail _ (.tail _ (.tail _ (.tail _ (.tail _ (.head _))))))) (List.mem_append_right [_, _, _, _, _, _, _] (.head _)) (dict_ne hD (typ_ne (by decide)))
    have k5 : @Ne Nat nd.d R := hRn (nd.d, dictOf [] 0) (.tail _ (.head _))
    have k6 : @Ne Nat nd.l R := hRn (nd.l, sList nd.kids nd.c) (.tail _ (.tail _ (.head _)))
    have hatk := hats kd (List.mem_append_right _ (.head _))
    clear N
    rw [hv1] at N1
    k_steps
    have hr2 : nd.kids[i]? = some (kd.p, r.2) := by rw [hr, hp]
    have e3 := sList_push (c := c') hr2
    dsimp only at e3
    rw [e3] at N'
    refine nd_turn_end (heads := [(iT, o1), (T0, tupOf #[.str nd.p t]), (b, o), (S, instObj 153 dx), (dx, sorterD w t1 t2 t3 t4 (.ref D) (.ref R) np u3 nf u4 4), (D, oD), (R, sList (nd.kids.take (i + 1)) (c' + 1)), (nd.i, infoObj nd.d nd.p nd.t (-2) 224 nd.l), (nd.d, dictOf [] 0), (nd.l, sList nd.kids nd.c)]) (1 - 1, _) (by k_asm) N' hno (fun q hq => hq) (fun q hq => ?_) ⟨?_, setF f' kd.p (1 - 1, _), c' + 1, fun q => ?_, ?_, ?_, rfl⟩
    · rcases List.mem_append.mp hq with hq | hq
      · exact off_addr (l := [(iT, o1), (T0, tupOf #[.str nd.p t]), (b, o), (S, instObj 153 dx), (dx, sorterD w t1 t2 t3 t4 (.ref D) (.ref R) np u3 nf u4 4), (D, oD), (R, listOf #[] c), (nd.i, infoObj nd.d nd.p nd.t (-2) 224 nd.l), (nd.d, dictOf [] 0), (nd.l, sList nd.kids nd.c)]) (fun x hx => l1 x (List.mem_append_left (as := [_, _, _, _, _, _, _, _, _, _]) _ hx)) hq rfl
      · obtain ⟨o', ho'⟩ := ndsLed_addr (g := f) hq
        exact Nat.ne_of_lt (l1 (q.1, o') (List.mem_append_right [_, _, _, _, _, _, _, _, _, _] ho'))
    · exact ⟨.tail _ (.tail _ (.tail _ (.tail _ (.tail _ (.tail _ (.tail _ (.tail _ (.tail _ (.head _))))))))), trivial⟩
    · unfold setF
      have z := take_mem_succ (q := q) (sFst_at hr)
      rw [← hp] at z
      by_cases e : q = kd.p
      · rw [if_pos e, if_pos (z.mpr (.inr e))]
        rfl
      · rw [if_neg e, hf' q]
        by_cases e2 : q ∈ (sFst nd.kids).take i
        · rw [if_pos e2, if_pos (z.mpr (.inl e2))]
        · rw [if_neg e2, if_neg fun h => (z.mp h).elim e2 e]
    · with_unfolding_all rfl
    · with_unfolding_all rfl
  case fin =>
    rintro m nw h tk ⟨f', c', hf', m1, m2, rfl⟩ F N
    rw [m_eq2 m1 m2] at F
    have hX : ∀ q ∈ ndsLed f' os, q.1 ≠ dx := fun q hq => by
      obtain ⟨o', ho'⟩ := ndsLed_addr (g := f) hq
      exact hXd (q.1, o') ho'
    have hI : ∀ q ∈ ndsLed f' os, q.1 ≠ iT := fun q hq => by
      obtain ⟨o', ho'⟩ := ndsLed_addr (g := f) hq
      exact Nat.ne_of_lt (lT (q.1, o') (List.mem_append_right [_, _, _, _, _, _, _, _, _] ho'))
    rw [List.take_of_length_le (by simp [strValues])] at N
    generalize hrest : ndsLed f' os = rest at N hX hI
    have k2 : @Ne Nat S dx := ne_cls N (.tail _ (.tail _ (.tail _ (.head _)))) (.tail _ (.tail _ (.tail _ (.tail _ (.head _))))) (fun e => by cases e)
    have k3 : @Ne Nat dx R := ne_cls N (.tail _ (.tail _ (.tail _ (.tail _ (.head _))))) (.tail _ (.tail _ (.tail _ (.tail _ (.tail _ (.tail _ (.head _))))))) (typ_ne (by decide))
    have k5 : @Ne Nat nd.d dx := hdn (nd.d, dictOf [] 0) (.tail _ (.head _))
    have k6 : @Ne Nat nd.l dx := hdn (nd.l, sList nd.kids nd.c) (.tail _ (.tail _ (.head _)))
    simp only [List.cons_append, List.nil_append] at N
    dsimp only
    k_steps
    refine turnW_end (by k_asm) (by k_asm) (Drop1.skip fun q hq => ?_) ⟨by k_subL, ?_⟩
    · rcases List.mem_append (s := [_, _, _, _, _, _, _, _, _]).mp hq with hq | hq
      · exact off_addr (l := [(T0, tupOf #[.str nd.p t]), (b, o), (S, instObj 153 dx), (dx, sorterD w t1 t2 t3 t4 (.ref D) (.ref R) np u3 nf u4 4), (D, oD), (R, listOf #[] c), (nd.i, infoObj nd.d nd.p nd.t (-1) (f nd.p).2 nd.l), (nd.d, dictOf [] 0), (nd.l, sList nd.kids nd.c)]) (fun x hx => lT x (List.mem_append_left (as := [_, _, _, _, _, _, _, _, _]) _ hx)) hq rfl
      · exact hI q hq
    k_steps
    subst hrest
    rename News h₀ L _ _ => kN9
    have hf2 : ∀ q, (setF f' nd.p (-2, 224) q).1 = if q = nd.p then -2 else if q ∈ sFst nd.kids then 0 else (f q).1 := fun q => by
      unfold setF
      by_cases e : q = nd.p
      · rw [if_pos e, if_pos e]
      · rw [if_neg e, if_neg e, hf' q, List.take_of_length_le (by simp [strValues, sFst])]
    have e5 : ndsLed (setF f' nd.p (-2, 224)) (nd :: os) = (nd.i, infoObj nd.d nd.p nd.t (-2) 224 nd.l) :: (nd.d, dictOf [] 0) :: (nd.l, sList nd.kids nd.c) :: ndsLed f' os := by
      show [(nd.i, infoObj nd.d nd.p nd.t (setF f' nd.p (-2, 224) nd.p).1 (setF f' nd.p (-2, 224) nd.p).2 nd.l), (nd.d, dictOf [] 0), (nd.l, sList nd.kids nd.c)] ++ ndsLed (setF f' nd.p (-2, 224)) os = _
      rw [ndsLed_congr (f := setF f' nd.p (-2, 224)) (g := f') (ns := os) fun m hm => by
        unfold setF
        rw [if_neg fun (e : m.p = nd.p) => (List.nodup_cons.mp hn).1 (e ▸ List.mem_map_of_mem (f := Nd.p) hm)]]
      unfold setF
      rw [if_pos rfl]
      rfl
    refine hret _ _ _ ⟨setF f' nd.p (-2, 224), c', _, rfl, hf2, News.at4 e5 (News.tl2 kN9)⟩ (by k_asm) (News.sub kN9 fun q hq => ?_)
    · rw [List.mem_singleton.mp hq]; exact .tail _ (.head _)
end Mine
end
end

section
open PySem PySem.W PySem.W.X PyProof.Rows PySem.Calls
set_option Elab.async false
set_option maxRecDepth 100000
set_option maxHeartbeats 0
set_option linter.unusedVariables false
namespace Mine
theorem bool_x (R : Addr) : Meets (Builtin.«bool.__new__» ⟨[.type "bool", .ref R], []⟩) (fun _ P s => s.heap.IsList R #[] ∧ ∀ tk, P (.ok (.ret (.bool false))) { s with toks := tk }) :=
  Meets.of_wp fun prog w A P s hs => by
    obtain ⟨hp, g, d, tk, os⟩ := s
    obtain ⟨hl, hs⟩ := hs
    have f1 := F.conv_sub_bool
    repeat (any_goals (first | assumption | (with_reducible refine wpAny_truthy_list hl (by decide) ?_) | wp_step))
    all_goals first | exact ⟨_, rfl, hs _⟩ | exact hs _ | skip
theorem bool_K {prog : Program} {w : World} {A : Around} {E : Value → Shared → Prop} {s : Shared} {h₀ : Heap} {L : Addr} {m : Str → Option Value} {news : List (Addr × Obj)} {Q : Value → Shared → Prop} {R : Addr} {c : Nat}
    (F : Fr h₀ L s.heap m) (N : News h₀ L s.heap news) (hm : (R, listOf #[] c) ∈ news)
    (h : ∀ h' tk', Fr h₀ L h' m → News h₀ L h' news → Q (.bool false) { s with heap := h', toks := tk' }) :
    wpAny (model prog w) A (call (.type "bool") [.ref R]) Q E s :=
  call_bool_1 (bool_x R) ⟨⟨_, (N _ hm).1, rfl, _, rfl⟩, fun tk => ⟨rfl, h s.heap tk F N⟩⟩
theorem lnW5 : True := by
  k_with_none
  k_with "zf" => (first | (k_here; k_fold; refine letA ?_; intro aX; (with_reducible rename Fr _ _ _ _ => kF); refine letM kF ?_; clear kF; intro mX kF) | (k_here; k_fold; refine letA ?_; intro aX) | (k_here; k_fold) | (k_here; with_reducible first | refine genT1 fun tk => ?_ | refine genT2 fun tk => ?_) | fail)
  k_with "execs cons" => (first | walk_at "zf" | fail)
  k_with "execs" => (first | walk_at "zf" | fail)
  k_with "execs nil" => (first | (k_here; with_reducible first | refine genT1 fun tk => ?_ | refine genT2 fun tk => ?_) | fail)
  k_with "k_ne" => (first | (refine neN ?_; first | (with_reducible first | assumption | exact Ne.symm (by assumption) | exact ca0 (by assumption) | exact cb0 (by assumption) | exact cc0 (by assumption) | exact cd0 (by assumption) | exact ca1 (by assumption) | exact cb1 (by assumption) | exact cc1 (by assumption) | exact cd1 (by assumption) | exact ca2 (by assumption) | exact cb2 (by assumption) | exact cc2 (by assumption) | exact cd2 (by assumption) | exact ca3 (by assumption) | exact cb3 (by assumption) | exact cc3 (by assumption) | exact cd3 (by assumption) | exact ca4 (by assumption) | exact cb4 (by assumption) | exact cc4 (by assumption) | exact cd4 (by assumption) | exact ca5 (by assumption) | exact cb5 (by assumption) | exact cc5 (by assumption) | exact cd5 (by assumption) | exact ca6 (by assumption) | exact cb6 (by assumption) | exact cc6 (by assumption) | exact cd6 (by assumption) | exact ca7 (by assumption) | exact cb7 (by assumption) | exact cc7 (by assumption) | exact cd7 (by assumption) | exact ca8 (by assumption) | exact cb8 (by assumption) | exact cc8 (by assumption) | exact cd8 (by assumption) | exact ca9 (by assumption) | exact cb9 (by assumption) | exact cc9 (by assumption) | exact cd9 (by assumption) | exact ca10 (by assumption) | exact cb10 (by assumption) | exact cc10 (by assumption) | exact cd10 (by assumption) | exact ca11 (by assumption) | exact cb11 (by assumption) | exact cc11 (by assumption) | exact cd11 (by assumption)) | (refine Nat.ne_of_lt (ltm (o := _) (by with_reducible assumption) ?_); k_mem; done) | (refine Nat.ne_of_gt (ltm (o := _) (by with_reducible assumption) ?_); k_mem; done) | ((try dsimp only); omega)) | fail)
  k_with "call type:bool" => first | (k_here; (k_dflt (refine' bool_K ?F ?N ?m ?_; (case F => k_asm); (case N => k_asm); (case m => k_mem); k_whole)); intro h' tk' F' N') | fail
  trivial
theorem active_c (w : World) (mean : ExcName → Option Value) (mg mb : Str → Option Value) (S dx R : Addr) (t1 t2 t3 t4 u3 u4 : Tok) (n2i : Value) (k : Int) (c : Nat) :
  CP 750 7500 w mean mg mb 122 [(S, instObj 153 dx), (dx, sorterD w t1 t2 t3 t4 n2i (.ref R) k u3 k u4 4), (R, listOf #[] c)] [.ref S] (fun v => v = .bool false) := by
  refine CP.of fun b o => ?_
  unfold CC
  k_fill
  intro gd cn nm ig ic mo a ccd cl outer A₀ base h₀ L m s Q E B F X N T hret
  k_steps
  · exact absurd (show k < k by with_reducible assumption) (Int.lt_irrefl k)
  · rename News h₀ L _ _ => kN9
    exact hret _ _ _ rfl (by k_asm) (News.sub kN9 fun q hq => by rw [List.mem_singleton.mp hq]; exact .head _)
end Mine
end

section
open PySem PySem.W PySem.W.X PyProof.Rows PySem.Calls PyProof.V PySem.Spec
set_option Elab.async false
set_option maxRecDepth 100000
set_option maxHeartbeats 4000000
set_option linter.unusedVariables false
namespace Mine
theorem lnW6 : True := by
  k_with_none
  trivial
open PyProof.Rows.LCg PyProof.Rows.LCt
section
variable {prog : Program} {w : World} {A : Around} {E : Value → Shared → Prop} {s : Shared} {h₀ : Heap} {L : Addr} {m : Str → Option Value} {env : Env} {K : Type} [DecidableEq K] {knd : KeyKind prog w K}
noncomputable def SrcV (knd : KeyKind prog w K) (A : Around) (h₀ : Heap) (L : Addr) (m : Str → Option Value) (env : Env) (ct elt : Expr) (x : Str) (scope : Scope) (cl : List (Str × Addr)) (Q : Value → Shared → Prop) (xv : Value) (s₁ : Shared) : Prop :=
  ∃ (vw d : Addr) (od : Obj) (kvs : List (K × Value)) (news : List (Addr × Obj)), xv = .ref vw ∧ A.handled = none ∧ Fr h₀ L s₁.heap m ∧ News h₀ L s₁.heap news ∧ s₁.heap.IsValuesView vw d ∧ (d, od) ∈ news ∧ od.IsDictOf knd kvs ∧ kvs.length ≤ sizeLine ∧
    ∀ g, CompRestT prog w A h₀ L m env ct elt x scope cl { s₁ with heap := g } (fun nw => (d, od) ∈ nw) (fun i v => ∃ k, kvs[i]? = some (k, v)) (FinE h₀ L m { s₁ with heap := g } Q) kvs.length 0 [] news
theorem ListComp_V {ct elt iter : Expr} {x : Str} {px : Pos} {scope : Scope} {cl : List (Str × Addr)} {pos : Pos} {Q : Value → Shared → Prop} (F₀ : Fr h₀ L s.heap m)
    (hclos : closureFor scope env = pure cl) (hcell : ∀ y ∈ scope.names, y.2 ≠ .cell) (hkind : scope.kind = .function)
    (hnames : ∀ y ∈ scope.names, y.2 = .local → scope.names.lookup y.1 = some .local) (hx : scope.names.lookup x = some .local)
    (h : wpAny (model prog w) A (eval iter env) (SrcV knd A h₀ L m env ct elt x scope cl Q) E s)
    (hs : ∀ x, foldedSetIterable iter env x = pure x := by intro _; rfl) :
    wpAny (model prog w) A (eval (.ListComp elt [⟨.Name x px, iter, [ct], 0⟩] scope pos) env) Q E s := by
  rw [eval_ListComp]
  refine wpAny_comprehension_free (use := none) rfl hs hclos hkind hnames (wpAny_mono h (fun xv s₁ h₁ => ?_) fun _ _ e => e)
  obtain ⟨vw, d, od, kvs, news, rfl, hh, F, N, hv, hm, hdo, hsz, R⟩ := h₁
  obtain ⟨es, ep, d1, d2, d3, d4, d5⟩ := id hdo
  have hax := N _ hm
  have hat : s₁.heap.DictAt knd d kvs ep := ⟨od, es, hax.1, d1, d2, d3, d4, d5⟩
  have hlt : d < s₁.heap.objs.size := Heap.lt_size hax.1
  have hne : d ≠ s₁.heap.objs.size := Nat.ne_of_lt hlt
  refine wpAny_pyIter_values hv hat ?_
  have up : ∀ b o, s₁.heap.get? b = some o → (s₁.heap.push { cls := .type "dict_valueiterator", data := .fields #[.ref d, .int 0 0, .int kvs.length 0, .int ep 0] }).get? b = some o := fun b o e => Heap.get?_push_of_some _ e
  refine block_T (S := fun nw => (d, od) ∈ nw) (Walks.dictValues (knd := knd) hh s₁.heap.objs.size d hne kvs ep) hsz (fun i h st => by obtain ⟨o, e, _⟩ := st.1; exact ⟨o, e⟩) (fun i h h' o nw st e e' k N S => ?_) hcell hkind hx ⟨⟨_, Heap.get?_push_size _ rfl, rfl, rfl⟩, hat.push _⟩ (fun b hb => ?_)
    (F.keeps up) (N.grown up) (Nat.ne_of_lt F.ns.lt) (next_is_new F) (fun p hp => Nat.ne_of_lt (Heap.lt_size (N p hp).1)) hm (R _) ?_
  · obtain ⟨o', q, r⟩ := st.1
    rw [e] at q
    cases q
    exact ⟨⟨o, e', r⟩, od, es, (N _ S).1, d1, d2, d3, d4, d5⟩
  · show b < (s₁.heap.push _).objs.size
    rw [Heap.size_push]
    rcases List.mem_cons.mp hb with rfl | hb
    · exact Nat.lt_succ_self _
    · rw [List.mem_singleton.mp hb]; exact Nat.lt_succ_of_lt hlt
  · intro D C h tk m' ys news' F' N' o1 hn hC₀ hD₀ hCL hDL hCD offC fin
    refine ⟨m', hn, fun h'' hs'' => fin D h'' tk (F'.change hs'' hCL hC₀) (fun p hp => ?_) o1⟩
    refine ⟨hs''.extBut _ _ ?_ (N' p hp).1, (N' p hp).2⟩
    rcases List.mem_cons.mp hp with rfl | hp
    · exact Ne.symm hCD
    · exact offC p hp
theorem compT_ind {ct elt : Expr} {x : Str} {scope : Scope} {cl : List (Str × Addr)} {S : List (Addr × Obj) → Prop} {P : Nat → Value → Prop} {Fin : List Value → List (Addr × Obj) → Prop} {n : Nat} {news : List (Addr × Obj)} (J : Nat → List Value → List (Addr × Obj) → Prop) (h0 : J 0 [] news)
    (step : ∀ i ys news, i < n → J i ys news → ∀ v I oI C oC D m₂ h tk (E' : Value → Shared → Prop), P i v → NsObj oC m₂ → m₂ x = some v → Fr h₀ L h m → News h₀ L h ((I, oI) :: (C, oC) :: (D, lst ys) :: news) → Off3 I C D news → ((@Ne Nat I C) ∧ (@Ne Nat I D) ∧ (@Ne Nat C D)) →
      wpAny (model prog w) A (isTrue ct (compEnvC scope cl C env) (eval ct (compEnvC scope cl C env))) (fun ok s' => if ok = true then
        wpAny (model prog w) A (eval elt (compEnvC scope cl C env)) (CompEnd h₀ L m { s with heap := h, toks := tk } I oI C oC D (lst ys) S (fun y news' => J (i + 1) (ys ++ [y]) news')) E' s'
        else CompEnd h₀ L m { s with heap := h, toks := tk } I oI C oC D (lst ys) S (fun _ news' => J (i + 1) ys news') Value.none s') E' { s with heap := h, toks := tk })
    (fin : ∀ ys news, J n ys news → Fin ys news) : CompRestT prog w A h₀ L m env ct elt x scope cl s S P Fin n 0 [] news := by
  have mono : ∀ {s₁ : Shared} {I : Addr} {oI : Obj} {C : Addr} {oC : Obj} {D : Addr} {oD : Obj} {r1 r2 : Value → List (Addr × Obj) → Prop} {y : Value} {s₂ : Shared}, (∀ y n, r1 y n → r2 y n) → CompEnd h₀ L m s₁ I oI C oC D oD S r1 y s₂ → CompEnd h₀ L m s₁ I oI C oC D oD S r2 y s₂ := by
    rintro s₁ I oI C oC D oD r1 r2 y s₂ hr ⟨h', tk, n', e, F, N, o, hS, r⟩
    exact ⟨h', tk, n', e, F, N, o, hS, hr _ _ r⟩
  have go : ∀ k i, k + i = n → ∀ ys news, J i ys news → CompRestT prog w A h₀ L m env ct elt x scope cl s S P Fin k i ys news := by
    intro k
    induction k with
    | zero =>
      intro i hi ys news hj
      have hi' : i = n := by (first | lia | omega)
      subst hi'
      exact CompRestT.zero (fin ys news hj)
    | succ k ih =>
      intro i hi ys news hj
      refine CompRestT.succ fun v I oI C oC D m₂ h tk E' a1 a2 a3 a4 a5 a6 a7 => ?_
      refine wpAny_mono (step i ys news (by (first | lia | omega)) hj v I oI C oC D m₂ h tk E' a1 a2 a3 a4 a5 a6 a7) (fun ok s' hq => ?_) fun _ _ e => e
      cases ok with
      | true =>
        simp only [if_true] at hq ⊢
        exact wpAny_mono hq (fun y s₂ he => mono (fun y n' hj => ih (i + 1) (by (first | lia | omega)) _ _ hj) he) fun _ _ e => e
      | false =>
        simp only [Bool.false_eq_true, if_false] at hq ⊢
        exact mono (fun y n' hj => ih (i + 1) (by (first | lia | omega)) _ _ hj) hq
  exact go n 0 (by (first | lia | omega)) [] news h0
end
end Mine
end

section
open PySem PySem.W PySem.W.X PyProof.Rows PySem.Calls PyProof.V PySem.Spec
set_option Elab.async false
set_option maxRecDepth 100000
set_option maxHeartbeats 4000000
set_option linter.unusedVariables false
namespace Mine
theorem lnW7 : True := by
  k_with_none
  trivial
noncomputable def mwObj (it : Addr) : Obj := { cls := .type "method-wrapper", data := .fields #[.builtin "list_iterator.__next__", .ref it] }
theorem next_x (prog : Program) (w : World) (A : Around) (s : Shared) (it l : Addr) (i : Int) (t : Tok) (ht : s.heap.get? it = some ⟨.type "list_iterator", none, .fields #[.ref l, .int i 0], #[]⟩) :
   wpAny (model prog w) (AX A) (call (.builtin "object.__getattribute__") [.ref it, .str (Str.ofString "__next__") t]) (fun v s' => ∃ q h' tk, v = .ref q ∧ s' = { s with heap := h', toks := tk } ∧ Mem s.heap h' [] [(q, ⟨.type "method-wrapper", none, .fields #[.builtin "list_iterator.__next__", .ref it], #[]⟩)]) (fun _ _ => False) s := by
  k_with_none
  k_with "zf" => (first | (k_here; k_fold; refine letA ?_; intro aX; (with_reducible rename Fr _ _ _ _ => kF); refine letM kF ?_; clear kF; intro mX kF) | (k_here; k_fold; refine letA ?_; intro aX) | (k_here; k_fold) | (k_here; with_reducible first | refine genT1 fun tk => ?_ | refine genT2 fun tk => ?_) | fail)
  k_with "execs cons" => (first | walk_at "zf" | fail)
  k_with "execs" => (first | walk_at "zf" | fail)
  k_with "execs nil" => (first | (k_here; with_reducible first | refine genT1 fun tk => ?_ | refine genT2 fun tk => ?_) | fail)
  k_with "k_ne" => (first | (refine neN ?_; first | (with_reducible first | assumption | exact Ne.symm (by assumption) | exact ca0 (by assumption) | exact cb0 (by assumption) | exact cc0 (by assumption) | exact cd0 (by assumption) | exact ca1 (by assumption) | exact cb1 (by assumption) | exact cc1 (by assumption) | exact cd1 (by assumption) | exact ca2 (by assumption) | exact cb2 (by assumption) | exact cc2 (by assumption) | exact cd2 (by assumption) | exact ca3 (by assumption) | exact cb3 (by assumption) | exact cc3 (by assumption) | exact cd3 (by assumption) | exact ca4 (by assumption) | exact cb4 (by assumption) | exact cc4 (by assumption) | exact cd4 (by assumption) | exact ca5 (by assumption) | exact cb5 (by assumption) | exact cc5 (by assumption) | exact cd5 (by assumption) | exact ca6 (by assumption) | exact cb6 (by assumption) | exact cc6 (by assumption) | exact cd6 (by assumption) | exact ca7 (by assumption) | exact cb7 (by assumption) | exact cc7 (by assumption) | exact cd7 (by assumption) | exact ca8 (by assumption) | exact cb8 (by assumption) | exact cc8 (by assumption) | exact cd8 (by assumption) | exact ca9 (by assumption) | exact cb9 (by assumption) | exact cc9 (by assumption) | exact cd9 (by assumption) | exact ca10 (by assumption) | exact cb10 (by assumption) | exact cc10 (by assumption) | exact cd10 (by assumption) | exact ca11 (by assumption) | exact cb11 (by assumption) | exact cc11 (by assumption) | exact cd11 (by assumption)) | (refine Nat.ne_of_lt (ltm (o := _) (by with_reducible assumption) ?_); k_mem; done) | (refine Nat.ne_of_gt (ltm (o := _) (by with_reducible assumption) ?_); k_mem; done) | ((try dsimp only); omega)) | fail)
  k_with "x_close" => first | exact ⟨_, _, _, rfl, rfl, by assumption⟩ | fail
  x_run
theorem slot_li : Slot "list_iterator" "__getattribute__" "object.__getattribute__" :=
  .of (owner := "object") (n := "__getattribute__") (by rw [typeLookup_type, builtinLookup_eq_fast]; kernel_rfl) (by decide +kernel) (by decide +kernel) (by decide +kernel)
    (by first | exact .inl (by decide +kernel) | exact .inr (by decide +kernel)) (by rw [isSubtype_type]; kernel_rfl)
theorem check_next (it : Addr) : checkBoundCall "list_iterator.__next__" ⟨[.ref it], []⟩ = pure () := by first | kernel_rfl | rfl
theorem quiet_next (it : Addr) : (Code.builtin "list_iterator.__next__" ⟨[.ref it], []⟩).quiet = true := Code.quiet_builtin _ (by decide +kernel)
section
variable {prog : Program} {w : World} {A : Around} {E : Value → Shared → Prop} {s : Shared} {h₀ : Heap} {L : Addr} {m : Str → Option Value} {news : List (Addr × Obj)}
theorem get_next {Q : Value → Shared → Prop} {it l : Addr} {i : Nat} (F : Fr h₀ L s.heap m) (N : News h₀ L s.heap news) (hm : (it, itAt l i) ∈ news) (hd : Nat.ble A.depth 950 = true) (hu : Nat.ble A.units 9500 = true)
    (h : ∀ q h' tk', Fr h₀ L h' m → News h₀ L h' ((q, mwObj it) :: news) → (∀ p ∈ news, p.1 ≠ q) → Q (.ref q) { s with heap := h', toks := tk' }) :
    wpAny (model prog w) A (getAttr (.ref it) (Str.ofString "__next__") true) Q E s := by
  have hit := (N _ hm).1
  have hT : ∀ tk, ({ s with toks := tk } : Shared).TypeIs (.ref it) "list_iterator" := fun _ => ⟨_, hit, rfl⟩
  have hlk := slot_li.lookup
  unfold getAttr getAttrBy
  refine wpAny_bind (wpAny_mkText (wpAny_holding (wpAny_bind (wpAny_typeOf (hT _) (wpAny_bind (wpAny_of_eq hlk ?_))))))
  show wpAny _ _ (getAttrByItsOwn (.ref it) (.str (Str.ofString "__next__") s.toks) (.type "list_iterator") (.builtin "object.__getattribute__") true true) _ _ _
  unfold getAttrByItsOwn hookBefore callGetattribute boundAndCalled
  refine wpAny_bind (wpAny_of_eq (show (if onTheHeap (.type "list_iterator") then typeLookup (.type "list_iterator") "__getattr__" else pure none) = pure none from rfl) ?_)
  refine wpAny_bind (wpAny_attempt (wpAny_holding ?_))
  show wpAny _ _ (bindSpecial (.builtin "object.__getattribute__") (.ref it) >>= _) _ _ _
  refine wpAny_bind (wpAny_of_eq (slot_li.bind _) ?_)
  refine in_AX (wpAny_mono (next_x prog w A { s with toks := s.toks + 1 } it l i s.toks hit) (fun v s' ⟨q, h', tk, e1, e2, D⟩ => ?_) fun _ _ f => f.elim) hd hu
  subst e1 e2
  exact wpAny_pure (h q h' tk (mem_fr F D) (mem_news F N D) (mem_ne N D (.head _)))
theorem mw_item {Q : Value → Shared → Prop} {q it l : Addr} {lo : Obj} {vs : List Value} {n i : Nat} {v : Value} {g : Obj → List (Addr × Obj)} (F : Fr h₀ L s.heap m) (N : News h₀ L s.heap news) (U : UpdF it (itAt l i) news g) (hq : (q, mwObj it) ∈ news) (hp : (l, lo) ∈ news) (hc : lo.cls = .type "list") (hd : lo.data = .seq vs.toArray n) (hx : vs[i]? = some v)
    (h : ∀ h', Fr h₀ L h' m → News h₀ L h' (g (itAt l (i + 1))) → Q v { s with heap := h' }) :
    wpAny (model prog w) A (call (.ref q) []) Q E s := by
  obtain ⟨pre, post, hl, hg, a, b⟩ := U.split
  have hmem : (it, itAt l i) ∈ news := by rw [hl]; exact List.mem_append_right _ (.head _)
  have hm := N _ hmem
  have hit : s.heap.IsListIter it l i := ⟨_, hm.1, rfl, rfl⟩
  have hol := (N _ hp).1
  refine wpAny_call (codeAny_of_tree ?_)
  show wpAny _ A.in1 (callAny (.ref q) ⟨[], []⟩) _ _ s
  simp only [callAny]
  refine wpAny_bind (wpAny_load (N _ hq).1 ?_)
  simp only [mwObj, show (Value.type "method-wrapper" == Value.type "method" || Value.type "method-wrapper" == Value.type "builtin_function_or_method" || Value.type "method-wrapper" == Value.type "method-wrapper") = true by decide, if_true]
  refine PySem.W.KFB.if_so (by decide) ?_
  refine wpAny_bind (wpAny_of_eq (a := ()) (check_next it) ?_)
  refine wpAny_bind (wpAny_pure (wpAny_pure ⟨quiet_next it, codeAny_builtin entry_listiter_next ?_⟩))
  show wpAny _ _ (field (.ref it) 0 >>= _) _ _ s
  refine wpAny_bind (wpAny_field hm.1 rfl (x := .ref l) rfl ?_)
  show wpAny _ _ (if (Value.ref l == Value.none) = true then _ else _) _ _ s
  rw [if_neg (show ¬ ((Value.ref l == Value.none) = true) from Bool.false_ne_true)]
  show wpAny _ _ (field (.ref it) 1 >>= _) _ _ s
  refine wpAny_bind (wpAny_field hm.1 rfl (x := .int i 0) rfl ?_)
  show wpAny _ _ (seqItems? (.ref l) >>= _) _ _ s
  refine wpAny_bind (wpAny_seqItems hol hd ?_)
  have hx' : (vs.toArray)[i]? = some v := by simpa using hx
  simp only [Int.toNat_natCast, hx']
  have hn : (s.heap.update it (Obj.mapFields (·.setIfInBounds 1 (rawInt ((i : Int) + 1))))).get? it = some (itAt l (i + 1)) := by
    rw [Heap.get?_update_self _ hm.1 rfl]
    rfl
  refine wpAny_bind (wpAny_setField hm.1 rfl (by simp) (wpAny_pure ?_))
  exact h _ (F.change (Heap.SameBut.update ..) hm.2.1 hm.2.2) (hg _ ▸ News.setIn (by rw [← hl]; exact N) a b (Heap.SameBut.update ..) hn)
end
end Mine
end

section
open PySem PySem.W PySem.W.X PyProof.Rows PySem.Calls PyProof.V PySem.Spec
set_option Elab.async false
set_option maxRecDepth 100000
set_option maxHeartbeats 4000000
set_option linter.unusedVariables false
namespace Mine
theorem lnW8 : True := by
  k_with_none
  trivial
theorem lnzW8 : True := by
  k_with_none
  k_with "zf" => (first | (k_here; k_fold; refine letA ?_; intro aX; (with_reducible rename Fr _ _ _ _ => kF); refine letM kF ?_; clear kF; intro mX kF) | (k_here; k_fold; refine letA ?_; intro aX) | (k_here; k_fold) | (k_here; with_reducible first | refine genT1 fun tk => ?_ | refine genT2 fun tk => ?_) | fail)
  k_with "execs cons" => (first | walk_at "zf" | fail)
  k_with "execs" => (first | walk_at "zf" | fail)
  k_with "execs nil" => (first | (k_here; with_reducible first | refine genT1 fun tk => ?_ | refine genT2 fun tk => ?_) | fail)
  k_with "k_ne" => (first | (refine neN ?_; first | (with_reducible first | assumption | exact Ne.symm (by assumption) | exact ca0 (by assumption) | exact cb0 (by assumption) | exact cc0 (by assumption) | exact cd0 (by assumption) | exact ca1 (by assumption) | exact cb1 (by assumption) | exact cc1 (by assumption) | exact cd1 (by assumption) | exact ca2 (by assumption) | exact cb2 (by assumption) | exact cc2 (by assumption) | exact cd2 (by assumption) | exact ca3 (by assumption) | exact cb3 (by assumption) | exact cc3 (by assumption) | exact cd3 (by assumption) | exact ca4 (by assumption) | exact cb4 (by assumption) | exact cc4 (by assumption) | exact cd4 (by assumption) | exact ca5 (by assumption) | exact cb5 (by assumption) | exact cc5 (by assumption) | exact cd5 (by assumption) | exact ca6 (by assumption) | exact cb6 (by assumption) | exact cc6 (by assumption) | exact cd6 (by assumption) | exact ca7 (by assumption) | exact cb7 (by assumption) | exact cc7 (by assumption) | exact cd7 (by assumption) | exact ca8 (by assumption) | exact cb8 (by assumption) | exact cc8 (by assumption) | exact cd8 (by assumption) | exact ca9 (by assumption) | exact cb9 (by assumption) | exact cc9 (by assumption) | exact cd9 (by assumption) | exact ca10 (by assumption) | exact cb10 (by assumption) | exact cc10 (by assumption) | exact cd10 (by assumption) | exact ca11 (by assumption) | exact cb11 (by assumption) | exact cc11 (by assumption) | exact cd11 (by assumption)) | (refine Nat.ne_of_lt (ltm (o := _) (by with_reducible assumption) ?_); k_mem; done) | (refine Nat.ne_of_gt (ltm (o := _) (by with_reducible assumption) ?_); k_mem; done) | ((try dsimp only); omega)) | fail)
  trivial
section
variable {prog : Program} {w : World} {A₀ : Around} {E : Value → Shared → Prop} {s' : Shared} {base g h : Heap} {outer : List Env} {L a e : Addr} {m : Str → Option Value} {name : Str} {scope : Scope} {cd : Value} {Q : Flow → Shared → Prop} {news : List (Addr × Obj)} {hs : List ExceptHandler}
theorem own_look {cls : String} (K : Below A₀ base outer g) (hx : Heap.NewExc h s'.heap e cls) (F : Fr g L h m) (N : News g L h news) (hk : scope.kind = .function)
    (k : ∀ G h', Fr g L G m → RaisedSN base G (envOf name scope L a cd :: outer) e (.type cls) news h' → G.UpToSlots h' → wpAny (model prog w) (A₀.deeper (envOf name scope L a cd)) (handleBy (.ref e) (envOf name scope L a cd) hs) Q E { s' with heap := h' }) :
    wpAny (model prog w) (A₀.deeper (envOf name scope L a cd)) (noteFrame (.ref e) (envOf name scope L a cd))
      (fun _ s₂ => wpAny (model prog w) (A₀.deeper (envOf name scope L a cd)) (setFlight (.ref e) none) (fun _ s₃ =>
        wpAny (model prog w) (A₀.deeper (envOf name scope L a cd)) (handleBy (.ref e) (envOf name scope L a cd) hs) Q E s₃) E s₂) E s' := by
  have K' := K.push (name := name) (a := a) (cd := cd) F hk
  obtain ⟨ob, tp, he, hcls, hd⟩ := hx.there
  let B := hideAll h ((envOf name scope L a cd :: outer).filterMap (·.frame))
  have hin : ∀ env ∈ (envOf name scope L a cd :: outer), ∀ b, env.frame = some b → b ∈ (envOf name scope L a cd :: outer).filterMap (·.frame) := fun env he b hb => List.mem_filterMap.mpr ⟨env, he, hb⟩
  have st : base.StaysIn B := fun b o q => hideAll_get _ (K'.stays b o q) fun hm => by
    have z := (K'.frames.mem hm).1
    rw [q] at z
    cases z
  have sg : ∀ b o, (hideAll h (news.map (·.1))).get? b = some o → b ∉ (envOf name scope L a cd :: outer).filterMap (·.frame) → B.get? b = some o := fun b o q nm => hideAll_get _ (of_hideAll _ q) nm
  have hl : ∀ q ∈ news, B.get? q.1 = some q.2 ∧ (hideAll h (news.map (·.1))).get? q.1 = none ∧ base.get? q.1 = none := fun q hq => by
    refine ⟨hideAll_get _ (N q hq).1 fun hm => ?_, hideAll_none _ (List.mem_map_of_mem hq), fresh_of_stays K.stays (N q hq).2.2⟩
    rcases kts_mem hm with z | z
    · exact (N q hq).2.1 z
    · obtain ⟨o, ho, _⟩ := (K.frames.mem z).2
      rw [(N q hq).2.2] at ho
      cases ho
  have hff : s'.heap.FunFrames B (envOf name scope L a cd :: outer) := (funFrames_hide K'.frames hin).of_keeps fun b o hb _ => ⟨o, hx.keeps b o hb, rfl⟩
  have hen : B.get? e = none := by
    cases q : B.get? e with
    | none => rfl
    | some o =>
      have z := of_hideAll _ q
      rw [hx.new] at z
      cases z
  unfold noteFrame
  simp only [show (envOf name scope L a cd).frame = some L from rfl]
  refine wpAny_bind (wpAny_field he hd (x := .none) rfl ?_)
  rw [if_neg (by decide)]
  refine wpAny_entryW (a0 := tp) K'.stack hff rfl he (fun b o eb => hx.keeps b o (of_hideAll _ eb)) hen hd (by show 1 < 6; decide) rfl fun h4 hN => ?_
  obtain ⟨k1, k2, k3, k4⟩ := hN
  rw [hcls] at k3
  have held : Heap.HeldW B (envOf name scope L a cd :: outer) e (.type cls) tp L h4 := ⟨k1, hen, k2, k3⟩
  refine wpAny_landsW (s := { s' with heap := h4 }) held fun h5 fl sm5 => ?_
  obtain ⟨oL, es, ep, hL, hLd, hLk, hLf⟩ := F.ns
  have nL : L ∉ news.map (·.1) := fun q => by
    obtain ⟨p, hp, e⟩ := List.mem_map.mp q
    exact (N p hp).2.1 e
  have FG : Fr g L (hideAll h (news.map (·.1))) m := ⟨⟨oL, es, ep, hideAll_get _ hL nL, hLd, hLk, hLf⟩, (fun b o e => hideAll_get _ (F.keep b o e) fun q => by
    obtain ⟨p, hp, e2⟩ := List.mem_map.mp q
    have z := (N p hp).2.2
    rw [e2, e] at z
    exact nomatch z), F.above⟩
  exact k _ h5 FG ⟨B, tp, st, sg, hl, fl⟩ (((Heap.UpToSlots.of_keeps fun b o e => hx.keeps b o (of_hideAll _ e)).trans k4).trans sm5)
end
section
variable {prog : Program} {w : World} {A : Around} {E : Value → Shared → Prop} {s : Shared} {h₀ : Heap} {L : Addr} {m : Str → Option Value} {news : List (Addr × Obj)}
noncomputable def itDead (i : Nat) : Obj := { cls := .type "list_iterator", data := .fields #[.none, .int i 0] }
theorem mw_stop {Q : Value → Shared → Prop} {q it l : Addr} {lo : Obj} {vs : List Value} {n i : Nat} {g : Obj → List (Addr × Obj)} (hh : A.handled = none) (F : Fr h₀ L s.heap m) (N : News h₀ L s.heap news) (U : UpdF it (itAt l i) news g) (hq : (q, mwObj it) ∈ news) (hp : (l, lo) ∈ news) (hc : lo.cls = .type "list") (hd : lo.data = .seq vs.toArray n) (hx : vs[i]? = none)
    (h : ∀ h1 h' e, Fr h₀ L h1 m → News h₀ L h1 (g (itDead i)) → Heap.NewExc h1 h' e "StopIteration" → E (.ref e) { s with heap := h' }) :
    wpAny (model prog w) A (call (.ref q) []) Q E s := by
  obtain ⟨pre, post, hl, hg, a, b⟩ := U.split
  have hmem : (it, itAt l i) ∈ news := by rw [hl]; exact List.mem_append_right _ (.head _)
  have hm := N _ hmem
  have hol := (N _ hp).1
  refine wpAny_call (codeAny_of_tree ?_)
  show wpAny _ A.in1 (callAny (.ref q) ⟨[], []⟩) _ _ s
  simp only [callAny]
  refine wpAny_bind (wpAny_load (N _ hq).1 ?_)
  simp only [mwObj, show (Value.type "method-wrapper" == Value.type "method" || Value.type "method-wrapper" == Value.type "builtin_function_or_method" || Value.type "method-wrapper" == Value.type "method-wrapper") = true by decide, if_true]
  refine PySem.W.KFB.if_so (by decide) ?_
  refine wpAny_bind (wpAny_of_eq (a := ()) (check_next it) ?_)
  refine wpAny_bind (wpAny_pure (wpAny_pure ⟨quiet_next it, codeAny_builtin entry_listiter_next ?_⟩))
  show wpAny _ _ (field (.ref it) 0 >>= _) _ _ s
  refine wpAny_bind (wpAny_field hm.1 rfl (x := .ref l) rfl ?_)
  show wpAny _ _ (if (Value.ref l == Value.none) = true then _ else _) _ _ s
  rw [if_neg (show ¬ ((Value.ref l == Value.none) = true) from Bool.false_ne_true)]
  show wpAny _ _ (field (.ref it) 1 >>= _) _ _ s
  refine wpAny_bind (wpAny_field hm.1 rfl (x := .int i 0) rfl ?_)
  show wpAny _ _ (seqItems? (.ref l) >>= _) _ _ s
  refine wpAny_bind (wpAny_seqItems hol hd ?_)
  have hx' : (vs.toArray)[i]? = none := by simpa using hx
  simp only [Int.toNat_natCast, hx']
  have hn : (s.heap.update it (Obj.mapFields (·.setIfInBounds 0 Value.none))).get? it = some (itDead i) := by
    rw [Heap.get?_update_self _ hm.1 rfl]
    rfl
  refine wpAny_bind (wpAny_rule (wpAny_bind (wpAny_setField hm.1 rfl (by simp) ?_)))
  show wpAny _ _ (newExc (.type "StopIteration") [] >>= _) _ _ _
  refine wpAny_bind ?_
  simp only [newExc, newTuple]
  refine wpAny_bind (wpAny_newObj_type ?_ (by size_fits))
  refine wpAny_bind (m := firstArgMember _ _) (wpAny_of_eq (a := Value.none) (by first | rfl | (simp only [firstArgMember]; rfl)) ?_)
  refine wpAny_newObj_type ?_ (by size_fits)
  simp only [raiseNew]
  refine wpAny_bind (wpAny_handled ?_)
  rw [show (A.under (Code.builtin "list_iterator.__next__" { pos := [#[Value.builtin "list_iterator.__next__", Value.ref it][1]] })).handled = none from hh]
  refine wpAny_throw (h _ _ _ (F.change (Heap.SameBut.update ..) hm.2.1 hm.2.2) (hg _ ▸ News.setIn (by rw [← hl]; exact N) a b (Heap.SameBut.update ..) hn) ⟨fun b o e => Heap.get?_push_of_some _ (Heap.get?_push_of_some _ e), ?_, _, .ref _, Heap.get?_push_size _ rfl, rfl, rfl⟩)
  exact Heap.get?_none_of_le (by rw [Heap.size_push]; exact Nat.le_succ _)
end
section
variable {prog : Program} {w : World} {A : Around} {E : Value → Shared → Prop} {s : Shared} {h₀ : Heap} {L D : Addr} {m : Str → Option Value} {news : List (Addr × Obj)} {g : Obj → List (Addr × Obj)}
theorem app_L {vs : List Value} {n : Nat} {x : Value} {Q : Value → Shared → Prop} (F : Fr h₀ L s.heap m) (N : News h₀ L s.heap news) (U : UpdF D (listOf vs.toArray n) news g) (hz : vs.length ≤ 65)
    (h : ∀ h', Fr h₀ L h' m → News h₀ L h' (g (listOf (vs ++ [x]).toArray (n + 1))) → Q .none { s with heap := h' }) : wpAny (model prog w) A (call (.builtin "list.append") [.ref D, x]) Q E s := by
  obtain ⟨pre, post, rfl, hg, a, b⟩ := U.split
  have z := N (D, listOf vs.toArray n) (List.mem_append.mpr (.inr (.head _)))
  refine append_at (hsz := by rw [List.size_toArray, sizeLine_eq]; (first | lia | omega)) z.1 fun h' hs ho' => h h' (F.change hs z.2.1 z.2.2) (hg _ ▸ News.setIn N a b hs ?_)
  rw [ho', List.push_toArray]
theorem pop_L {vs : List Value} {n : Nat} {x : Value} {Q : Value → Shared → Prop} (F : Fr h₀ L s.heap m) (N : News h₀ L s.heap news) (U : UpdF D (listOf (vs ++ [x]).toArray n) news g) (hz : vs.length ≤ 65)
    (h : ∀ h', Fr h₀ L h' m → News h₀ L h' (g (listOf vs.toArray (n + 1))) → Q x { s with heap := h' }) : wpAny (model prog w) A (call (.builtin "list.pop") [.ref D]) Q E s := by
  obtain ⟨pre, post, rfl, hg, a, b⟩ := U.split
  have z := N (D, listOf (vs ++ [x]).toArray n) (List.mem_append.mpr (.inr (.head _)))
  have hz' : (vs ++ [x]).toArray.size ≤ sizeLine := by rw [List.size_toArray, List.length_append, sizeLine_eq]; simp; (first | lia | omega)
  have hk : (vs ++ [x]).toArray.size - 1 = vs.length := by rw [List.size_toArray, List.length_append]; rfl
  have hy : (vs ++ [x]).toArray[(vs ++ [x]).toArray.size - 1]? = some x := by rw [hk]; simp
  have he : (vs ++ [x]).toArray.eraseIdxIfInBounds ((vs ++ [x]).toArray.size - 1) = vs.toArray := by rw [hk, kl_erase, List.append_nil]
  refine call_meets PySem.F.slot_list_pop ⟨_, z.1, rfl⟩ PySem.F.entry_list_pop (PySem.F.args_list_pop_1 _) (PySem.MeetsSeq.list_pop_last D _ n x hy hz') ⟨z.1, h _ (F.change (Heap.SameBut.update ..) z.2.1 z.2.2) (hg _ ▸ News.setIn N a b (Heap.SameBut.update ..) ?_)⟩
  have q := PySem.IsL.update z.1 (fun xs => xs.eraseIdxIfInBounds ((vs ++ [x]).toArray.size - 1))
  rw [he] at q
  refine q.trans ?_
  rw [if_neg (by simp)]
theorem last_L {value slice : PySem.Expr} {vs : List Value} {n : Nat} {t : Tok} {x : Value} {Q : Value → Shared → Prop} (N : News h₀ L s.heap news) (hm : (D, listOf (vs ++ [x]).toArray n) ∈ news) (h : Q x s)
    (hs : subscripted slice false (.ref D) (.int (-1) t) = operate [.ref D, .int (-1) t] (getItem (.ref D) (.int (-1) t)) := by with_unfolding_all rfl) :
    wpAny (model prog w) A (subscriptTail value slice (.ref D) (.int (-1) t)) Q E s := by
  have hl : s.heap.IsList D (vs ++ [x]).toArray := ⟨_, (N _ hm).1, rfl, _, rfl⟩
  refine tail_any hl.typeIs slot_list_getitem.lookup (wpAny_getItem_list_neg hl (by decide) ?_ (by decide) ?_ h) hs
  · rw [List.size_toArray, List.length_append]; simp; (first | lia | omega)
  · have e : ((-1 : Int) + ((vs ++ [x]).toArray.size : Int)).toNat = vs.length := by rw [List.size_toArray, List.length_append]; simp; (first | lia | omega)
    rw [e]
    simp
theorem truth_L {vs : List Value} {n : Nat} {x : Value} {Q : Bool → Shared → Prop} (N : News h₀ L s.heap news) (hm : (D, listOf (vs ++ [x]).toArray n) ∈ news) (hz : vs.length ≤ 65) (h : Q true { s with toks := s.toks + 1 + 1 }) :
    wpAny (model prog w) A (truthy (.ref D)) Q E s := by
  have hl : s.heap.IsList D (vs ++ [x]).toArray := ⟨_, (N _ hm).1, rfl, _, rfl⟩
  refine wpAny_truthy_list hl (by rw [List.size_toArray, List.length_append]; simp; (first | lia | omega)) ?_
  have e : (!(vs ++ [x]).toArray.isEmpty) = true := by simp
  rw [e]
  exact h
theorem in_set {K : Str → Bool} {n : Nat} {k : Str} {t : Tok} {so : Obj} {Q : Value → Shared → Prop} {w : World} (b : Bool) (N : News h₀ L s.heap news) (U : UpdF D so news g) (hso : so.SetObjOf (PySem.strKind theProg w) K n) (hb : n ≤ 64) (hk : K k = b) (h : Q (.bool b) { s with toks := s.toks + 1 }) :
    wpAny (model theProg w) A (compareOp .In (.str k t) (.ref D)) Q E s :=
  kse_in (knd := PySem.strKind _ _) N U hso (by unfold scanBound; (first | lia | omega)) (strKind_is _ _ _ _) rfl (by rw [hk]; exact h)
theorem add_set {K : Str → Bool} {n : Nat} {k : Str} {t : Tok} {so : Obj} {Q : Value → Shared → Prop} {w : World} (F : Fr h₀ L s.heap m) (N : News h₀ L s.heap news) (U : UpdF D so news g) (hso : so.SetObjOf (PySem.strKind theProg w) K n) (hb : n ≤ 64) (hk : K k = false)
    (h : ∀ h' so', Fr h₀ L h' m → News h₀ L h' (g so') → so'.SetObjOf (PySem.strKind theProg w) (fun k' => K k' || decide (k' = k)) (n + 1) → Q .none { s with heap := h', toks := s.toks + 1 }) :
    wpAny (model theProg w) A (call (.builtin "set.add") [.ref D, .str k t]) Q E s :=
  kse_add (knd := PySem.strKind _ _) F N U hso (by unfold scanBound; (first | lia | omega)) (strKind_is _ _ _ _) rfl fun h' so' F' N' z => h h' so' F' N' (by rw [hk] at z; exact z)
end
section
variable {prog : Program} {w : World} {A : Around} {E : Value → Shared → Prop} {s : Shared} {env : Env} {test : PySem.Expr} {body orelse : List Stmt} {Q : Flow → Shared → Prop} {α : Type}
noncomputable def WhlJ (Inv : α → Shared → Prop) (r : α → α → Prop) (a : α) (Q : Flow → Shared → Prop) (f : Flow) (s : Shared) : Prop :=
  match f with
  | .next => ∃ b, r b a ∧ Inv b s
  | .cont => ∃ b, r b a ∧ Inv b s
  | .brk => Q .next s
  | .ret v => Q (.ret v) s
theorem whl_ind {r : α → α → Prop} (wf : WellFounded r) (Inv : α → Shared → Prop) (hE : PassesOwn (model prog w) A env E)
    (turn : ∀ a s, Inv a s → wpAny (model prog w) A (isTrue test env (eval test env)) (fun b s₂ => WhlIf b (wpAny (model prog w) A (execs body env) (WhlJ Inv r a Q) E s₂) (wpAny (model prog w) A (execs orelse env) Q E s₂)) E s) :
    ∀ k a s, Inv a s → WhlRest prog w A E env test body orelse Q k s := by
  intro k a
  induction a using wf.induction with
  | _ a ih =>
    intro s h
    refine whl_turn (k := k) hE (wpAny_mono (turn a s h) (fun b s₂ hb => ?_) fun _ _ e => e)
    cases b with
    | false => exact WhlIf.no rfl (by unfold WhlIf at hb; rw [if_neg Bool.false_ne_true] at hb; exact hb)
    | true =>
      refine WhlIf.yes rfl ?_
      unfold WhlIf at hb
      rw [if_pos rfl] at hb
      refine wpAny_mono hb (fun f s₃ hf => ?_) fun _ _ e => e
      cases f with
      | next => obtain ⟨b, hr, hi⟩ := hf; exact ih b hr s₃ hi
      | cont => obtain ⟨b, hr, hi⟩ := hf; exact ih b hr s₃ hi
      | brk => exact hf
      | ret v => exact hf
end
end Mine
end

section
open PySem PySem.W PySem.W.X PyProof.Rows PySem.Calls PyProof.V PySem.Spec
set_option Elab.async false
set_option maxRecDepth 100000
set_option maxHeartbeats 4000000
set_option linter.unusedVariables false
namespace Mine
theorem lnW9 : True := by
  k_with_none
  trivial
noncomputable def KeyIt (d : Addr) (i n ep : Nat) (o : Obj) : Prop := o.cls = .type "dict_keyiterator" ∧ o.data = .fields #[.ref d, .int i 0, .int n 0, .int ep 0]
section
variable {prog : Program} {w : World} {A : Around} {E : Value → Shared → Prop} {s : Shared} {env : Env} {target : Expr} {body : List Stmt} {Q : Flow → Shared → Prop}
theorem for_keys {d I : Addr} {kvs : List (Str × Value)} {ep : Nat} (hh : A.handled = none) (hE : PassesOwn (model prog w) A env E) (Inv : Nat → Shared → Prop)
    (itr : ∀ i s, Inv i s → i ≤ kvs.length ∧ s.heap.IsKeyIter I d i kvs.length ep ∧ s.heap.DictAt (PySem.strKind prog w) d kvs ep)
    (turn : ∀ i s k v t h' it, Inv i s → kvs[i]? = some (k, v) → h'.get? I = some it → KeyIt d (i + 1) kvs.length ep it → Heap.SameBut I s.heap h' →
      wpAny (model prog w) A (assign target env (.str k t)) (fun _ s₂ => wpAny (model prog w) A (execs body env) (fun f s₃ => match f with
        | .next => Inv (i + 1) s₃
        | .cont => Inv (i + 1) s₃
        | .brk => Q .next s₃
        | .ret v => Q (.ret v) s₃) E s₂) E { s with heap := h' })
    (fin : ∀ s h', Inv kvs.length s → Heap.ExtBut I s.heap h' → Q .next { s with heap := h' }) (h0 : Inv 0 s) (ht : ∀ v, letOwnedTupleGo target (.ref I) v = pure () := by intro _; rfl) :
    codeAny (model prog w) A (.forLoop target (.ref I) body [] env) (fun r s' => match r with | .ok f => Q f s' | .error e => cameBackBy (model prog w) A env E e s') s := by
  refine codeAny_forLoop (fun n s => ∃ i, n + i = kvs.length ∧ Inv i s) (fun n s hI => ?_) kvs.length ⟨0, rfl, h0⟩ ht
  obtain ⟨i, hi, hinv⟩ := hI
  obtain ⟨hle, hit, hd⟩ := itr i s hinv
  cases n with
  | zero =>
    have hi' : i = kvs.length := by (first | lia | omega)
    subst hi'
    refine wpAny_pyNext_dict_end hh hit hd (by simp) fun h' hx => ?_
    exact wpAny_mono (wpAny_execs_nil (Q := Q) (E := E) (fin s h' hinv hx)) (fun _ _ q => q) hE
  | succ n =>
    have hlt : i < kvs.length := by (first | lia | omega)
    refine wpAny_pyNext_dict_item hit hd (List.getElem?_eq_getElem hlt) fun key h' hkey hit' hs' => ?_
    obtain ⟨t, rfl⟩ := Value.isStrOf_shape hkey
    obtain ⟨o, ho, hc, hdat⟩ := hit'
    refine wpAny_mono (turn i s kvs[i].1 kvs[i].2 t h' o hinv (List.getElem?_eq_getElem hlt) ho ⟨hc, hdat⟩ hs') (fun _ s₂ h₂ => wpAny_mono h₂ (fun f s₃ h₃ => ?_) hE) hE
    cases f with
    | next => exact ⟨n, Nat.lt_succ_self _, i + 1, by (first | lia | omega), h₃⟩
    | cont => exact ⟨n, Nat.lt_succ_self _, i + 1, by (first | lia | omega), h₃⟩
    | brk => exact h₃
    | ret v => exact h₃
theorem iter_keys {h₀ : Heap} {L d : Addr} {m : Str → Option Value} {od : Obj} {kvs : List (Str × Value)} {news : List (Addr × Obj)} {Q : Value → Shared → Prop} (F : Fr h₀ L s.heap m) (N : News h₀ L s.heap news) (hm : (d, od) ∈ news) (hdo : od.IsDictOf (PySem.strKind prog w) kvs) (lo : (d == sysModules) = false)
    (h : ∀ I it h' ep, Fr h₀ L h' m → News h₀ L h' ((I, it) :: news) → (∀ p ∈ news, p.1 < I) → KeyIt d 0 kvs.length ep it → (∀ g : Heap, g.get? d = some od → g.DictAt (PySem.strKind prog w) d kvs ep) → Q (.ref I) { s with heap := h' }) :
    wpAny (model prog w) A (pyIter (.ref d)) Q E s := by
  obtain ⟨es, ep, d1, d2, d3, d4, d5⟩ := hdo
  refine wpAny_pyIter_dict lo (ep := ep) ⟨od, es, (N _ hm).1, d1, d2, d3, d4, d5⟩ ?_
  exact h _ _ _ ep (F.push _) (News.push F N _ rfl) (fun q hq => Heap.lt_size (N q hq).1) ⟨rfl, rfl⟩ fun g hg => ⟨od, es, hg, d1, d2, d3, d4, d5⟩
end
structure Fq where
  nd : Nd
  t : Tok
  b : Addr
  it : Addr
  i : Nat
noncomputable def fsLed : List Fq → List (Addr × Obj)
  | [] => []
  | g :: r => (g.b, mwObj g.it) :: (g.it, itAt g.nd.l g.i) :: fsLed r
noncomputable def fsStr (fs : List Fq) : List Value := fs.map fun g => .str g.nd.p g.t
noncomputable def fsRef (fs : List Fq) : List Value := fs.map fun g => .ref g.b
noncomputable def fsRem : List Fq → Nat
  | [] => 0
  | g :: r => (g.nd.kids.length - g.i) + fsRem r
theorem fsLed_append : ∀ {a b : List Fq}, fsLed (a ++ b) = fsLed a ++ fsLed b
  | [], _ => rfl
  | g :: a, b => by show _ :: _ :: fsLed (a ++ b) = _; rw [fsLed_append]; rfl
theorem fsRem_append : ∀ {a b : List Fq}, fsRem (a ++ b) = fsRem a + fsRem b
  | [], b => by show fsRem b = 0 + fsRem b; (first | lia | omega)
  | g :: a, b => by show _ + fsRem (a ++ b) = (_ + fsRem a) + fsRem b; rw [fsRem_append]; (first | lia | omega)
theorem fsLed_cls : ∀ {fs : List Fq}, ∀ q ∈ fsLed fs, q.2.cls = .type "method-wrapper" ∨ q.2.cls = .type "list_iterator"
  | [], _, h => nomatch h
  | g :: r, q, h => by
    rcases List.mem_cons.mp h with rfl | h
    · exact .inl rfl
    rcases List.mem_cons.mp h with rfl | h
    · exact .inr rfl
    · exact fsLed_cls q h
structure Forest (ns : List Nd) : Prop where
  nodup : (ns.map Nd.p).Nodup
  len : ns.length ≤ 64
  kin : ∀ n ∈ ns, ∀ r ∈ n.kids, r.1 ∈ ns.map Nd.p
  klen : ∀ n ∈ ns, n.kids.length ≤ 64
  up : ∀ n ∈ ns, ∀ r ∈ n.kids, n.p.length < r.1.length
structure Dfs (w : World) (ns : List Nd) (fs : List Fq) (sn : List Str) (oS oN : Obj) : Prop where
  snd : sn.Nodup
  sub : ∀ x ∈ sn, x ∈ ns.map Nd.p
  set : ∃ K, (∀ k, K k = decide (k ∈ sn)) ∧ oS.SetObjOf (PySem.strKind theProg w) K sn.length
  nds : ∀ g ∈ fs, g.nd ∈ ns
  its : fs.Pairwise fun a b => a.it ≠ b.it
  long : fs.Pairwise fun a b => a.nd.p.length < b.nd.p.length
  map : ∃ kv, kv.map Prod.fst = fs.map (fun g => g.nd.p) ∧ oN.IsDictOf (PySem.strKind theProg w) kv
theorem sub_len : ∀ {l k : List Str}, l.Nodup → (∀ x ∈ l, x ∈ k) → l.length ≤ k.length
  | [], _, _, _ => Nat.zero_le _
  | x :: l, k, hn, h => by
    have h1 := List.nodup_cons.mp hn
    have hx := h x (.head _)
    have h2 := sub_len (k := k.erase x) h1.2 fun y hy => (List.mem_erase_of_ne fun (e : y = x) => h1.1 (e ▸ hy)).mpr (h y (.tail _ hy))
    rw [List.length_erase_of_mem hx] at h2
    have := List.length_pos_of_mem hx
    rw [List.length_cons]
    (first | lia | omega)
theorem Dfs.sn_len {w : World} {ns : List Nd} {fs : List Fq} {sn : List Str} {oS oN : Obj} (X : Forest ns) (H : Dfs w ns fs sn oS oN) : sn.length ≤ ns.length := by
  have := sub_len H.snd H.sub
  rwa [List.length_map] at this
theorem Dfs.fs_nodup {w : World} {ns : List Nd} {fs : List Fq} {sn : List Str} {oS oN : Obj} (H : Dfs w ns fs sn oS oN) : (fs.map fun g => g.nd.p).Nodup := by
  refine List.pairwise_map.mpr (H.long.imp fun h e => ?_)
  rw [e] at h
  exact Nat.lt_irrefl _ h
theorem Dfs.fs_len {w : World} {ns : List Nd} {fs : List Fq} {sn : List Str} {oS oN : Obj} (X : Forest ns) (H : Dfs w ns fs sn oS oN) : fs.length ≤ 64 := by
  have := sub_len H.fs_nodup (k := ns.map Nd.p) fun x hx => by
    obtain ⟨g, hg, rfl⟩ := List.mem_map.mp hx
    exact List.mem_map_of_mem (f := Nd.p) (H.nds g hg)
  rw [List.length_map, List.length_map] at this
  have := X.len
  (first | lia | omega)
theorem fsRem_le {ns : List Nd} (X : Forest ns) : ∀ {fs : List Fq}, (∀ g ∈ fs, g.nd ∈ ns) → fsRem fs ≤ 64 * fs.length
  | [], _ => Nat.le_refl _
  | g :: r, h => by
    have h1 := X.klen _ (h g (.head _))
    have h2 := fsRem_le X (fs := r) fun q hq => h q (.tail _ hq)
    show (g.nd.kids.length - g.i) + fsRem r ≤ 64 * (r.length + 1)
    (first | lia | omega)
theorem valueAt_miss {kv : List (Str × Value)} {x : Str} (h : x ∉ kv.map Prod.fst) : valueAt kv x = none := by
  unfold valueAt
  have e : kv.find? (fun p => decide (p.1 = x)) = none := by
    rw [List.find?_eq_none]
    intro p hp
    simpa using fun (e : p.1 = x) => h (e ▸ List.mem_map_of_mem (f := Prod.fst) hp)
  rw [e]
  rfl
theorem without_last {kv : List (Str × Value)} {l : List Str} {x : Str} (h : kv.map Prod.fst = l ++ [x]) (hx : x ∉ l) : (without kv x).map Prod.fst = l := by
  have e : (without kv x).map Prod.fst = (kv.map Prod.fst).filter fun y => decide (y ≠ x) := by
    rw [List.filter_map]
    rfl
  rw [e, h, List.filter_append]
  have e1 : l.filter (fun y => decide (y ≠ x)) = l := List.filter_eq_self.mpr fun y hy => decide_eq_true fun (z : y = x) => hx (z ▸ hy)
  rw [e1]
  simp
theorem stored_last {kv : List (Str × Value)} {l : List Str} {x : Str} {v : Value} (h : kv.map Prod.fst = l) (hx : x ∉ l) : (stored kv x v).map Prod.fst = l ++ [x] := by
  rw [stored_absent (valueAt_miss (by rw [h]; exact hx)), List.map_append, h]
  rfl
theorem Dfs.pop {w : World} {ns : List Nd} {fs : List Fq} {g : Fq} {sn : List Str} {oS oN : Obj} (H : Dfs w ns (fs ++ [g]) sn oS oN) {kv : List (Str × Value)} {oN' : Obj} (e : kv.map Prod.fst = (fs ++ [g]).map fun g => g.nd.p) (h : oN'.IsDictOf (PySem.strKind theProg w) (without kv g.nd.p)) : Dfs w ns fs sn oS oN' := by
  have hn := H.fs_nodup
  rw [List.map_append] at hn e
  refine ⟨H.snd, H.sub, H.set, fun q hq => H.nds q (List.mem_append_left _ hq), (List.pairwise_append.mp H.its).1, (List.pairwise_append.mp H.long).1, _, without_last e fun hx => (List.nodup_append.mp hn).2.2 _ hx _ (.head _) rfl, h⟩
theorem Dfs.step {w : World} {ns : List Nd} {fs : List Fq} {g : Fq} {sn : List Str} {oS oN : Obj} (H : Dfs w ns (fs ++ [g]) sn oS oN) : Dfs w ns (fs ++ [{ g with i := g.i + 1 }]) sn oS oN := by
  refine ⟨H.snd, H.sub, H.set, fun q hq => ?_, ?_, ?_, ?_⟩
  · rcases List.mem_append.mp hq with hq | hq
    · exact H.nds q (List.mem_append_left _ hq)
    · rw [List.mem_singleton.mp hq]
      exact H.nds g (List.mem_append_right _ (.head _))
  · have z := List.pairwise_append.mp H.its
    refine List.pairwise_append.mpr ⟨z.1, List.pairwise_singleton .., fun a ha b hb => ?_⟩
    rw [List.mem_singleton.mp hb]
    exact z.2.2 a ha g (.head _)
  · have z := List.pairwise_append.mp H.long
    refine List.pairwise_append.mpr ⟨z.1, List.pairwise_singleton .., fun a ha b hb => ?_⟩
    rw [List.mem_singleton.mp hb]
    exact z.2.2 a ha g (.head _)
  · obtain ⟨kv, e, h⟩ := H.map
    exact ⟨kv, by rw [e, List.map_append, List.map_append]; rfl, h⟩
theorem Dfs.push {w : World} {ns : List Nd} {fs : List Fq} {g : Fq} {sn : List Str} {oS oN oS' oN' : Obj} {K : Str → Bool} {kv : List (Str × Value)} {v : Value} (H : Dfs w ns fs sn oS oN) (hg : g.nd ∈ ns) (hit : ∀ q ∈ fs, q.it ≠ g.it) (hlong : ∀ q ∈ fs, q.nd.p.length < g.nd.p.length) (hsn : g.nd.p ∉ sn)
    (hK : ∀ k, K k = decide (k ∈ sn)) (hS : oS'.SetObjOf (PySem.strKind theProg w) (fun k' => K k' || decide (k' = g.nd.p)) (sn.length + 1)) (e : kv.map Prod.fst = fs.map fun g => g.nd.p) (hN : oN'.IsDictOf (PySem.strKind theProg w) (stored kv g.nd.p v)) : Dfs w ns (fs ++ [g]) (g.nd.p :: sn) oS' oN' := by
  refine ⟨List.nodup_cons.mpr ⟨hsn, H.snd⟩, fun x hx => ?_, ⟨_, fun k => ?_, hS⟩, fun q hq => ?_, List.pairwise_append.mpr ⟨H.its, List.pairwise_singleton .., fun a ha b hb => ?_⟩, List.pairwise_append.mpr ⟨H.long, List.pairwise_singleton .., fun a ha b hb => ?_⟩, _, ?_, hN⟩
  · rcases List.mem_cons.mp hx with rfl | hx
    · exact List.mem_map_of_mem (f := Nd.p) hg
    · exact H.sub x hx
  · rw [hK]
    by_cases h1 : k ∈ sn
    · rw [decide_eq_true h1, decide_eq_true (List.mem_cons_of_mem _ h1)]; rfl
    · by_cases h2 : k = g.nd.p
      · rw [decide_eq_true h2, decide_eq_true (List.mem_cons.mpr (.inl h2)), Bool.or_true]
      · rw [decide_eq_false h1, decide_eq_false h2, decide_eq_false fun h => (List.mem_cons.mp h).elim h2 h1]; rfl
  · rcases List.mem_append.mp hq with hq | hq
    · exact H.nds q hq
    · rw [List.mem_singleton.mp hq]; exact hg
  · rw [List.mem_singleton.mp hb]; exact hit a ha
  · rw [List.mem_singleton.mp hb]; exact hlong a ha
  · rw [stored_last e fun hx => ?_, List.map_append]
    · rfl
    · obtain ⟨q, hq, eq⟩ := List.mem_map.mp hx
      have := hlong q hq
      rw [eq] at this
      exact Nat.lt_irrefl _ this
end Mine
end

section
open PySem PySem.W PySem.W.X PyProof.Rows PySem.Calls PyProof.V PySem.Spec
set_option Elab.async false
set_option maxRecDepth 100000
set_option maxHeartbeats 0
set_option linter.unusedVariables false
namespace Mine
theorem lnW10 : True := by
  k_with_none
  trivial
noncomputable def CS (dp un : Nat) (w : World) (mean : ExcName → Option Value) (mg mb : Str → Option Value) (f : Addr) (led : List (Addr × Obj)) (vs : List Value) (Rel : Value → List (Addr × Obj) → Prop) : Prop :=
  ∀ (gd : Option (List Code)) (cn : Str) (nm : List (Str × NameKind)) (ig ic : Bool) (mo : List (Str × Const)) (a : Addr) (ccd : Value) (outer : List Env) (A₀ : Around) (base g₀ h₀ : Heap) (L : Addr) (m : Str → Option Value) (s : Shared) (Q E : Value → Shared → Prop),
    Below A₀ base outer h₀ → Fr h₀ L s.heap m → (frag w.params).In h₀ → News h₀ L s.heap led → Top topProg LO mean mg mb h₀ → (frag w.params).In base → Top topProg LO mean mg mb base → KtsDicts (outer.filterMap (·.frame)) h₀ → KtsTurn (outer.filterMap (·.frame)) g₀ h₀ →
    (∀ v led' h' tk' h₀', Rel v led' → KtsTurn (outer.filterMap (·.frame)) g₀ h₀' → Fr h₀' L h' m → News h₀' L h' led' → Below A₀ base outer h₀' → (frag w.params).In h₀' → Top topProg LO mean mg mb h₀' → KtsDicts (outer.filterMap (·.frame)) h₀' → Q v { s with heap := h', toks := tk' }) →
      wpAny (model PySem.Challenge.rw_in0152_01.row.prog w) (ktrTop dp un gd cn { kind := .function, names := nm, isGenerator := ig, isCoroutine := ic, more := mo } L a ccd [] outer) (call (.ref f) vs) Q E s
noncomputable def Gr (w : World) (mean : ExcName → Option Value) (mg mb : Str → Option Value) (FS : List Addr) (A₁ : Around) (base : Heap) (out : List Env) (g γ : Heap) : Prop := KtsTurn FS g γ ∧ Below A₁ base out γ ∧ (frag w.params).In γ ∧ Top topProg LO mean mg mb γ ∧ KtsDicts FS γ
structure CycM (m : Str → Option Value) (D SK IT SN NS : Addr) : Prop where
  a : m (Str.ofString "n2i") = some (.ref D)
  b : m (Str.ofString "stack") = some (.ref SK)
  c : m (Str.ofString "itstack") = some (.ref IT)
  d : m (Str.ofString "seen") = some (.ref SN)
  e : m (Str.ofString "node2stacki") = some (.ref NS)
theorem CycM.eq {m : Str → Option Value} {D SK IT SN NS : Addr} (M : CycM m D SK IT SN NS) : m = fun y => if y = Str.ofString "n2i" then some (.ref D) else if y = Str.ofString "stack" then some (.ref SK) else if y = Str.ofString "itstack" then some (.ref IT) else if y = Str.ofString "seen" then some (.ref SN) else if y = Str.ofString "node2stacki" then some (.ref NS) else m y := by
  funext y
  by_cases e : y = Str.ofString "n2i"
  · rw [if_pos e, e, M.a]
  rw [if_neg e]
  by_cases e : y = Str.ofString "stack"
  · rw [if_pos e, e, M.b]
  rw [if_neg e]
  by_cases e : y = Str.ofString "itstack"
  · rw [if_pos e, e, M.c]
  rw [if_neg e]
  by_cases e : y = Str.ofString "seen"
  · rw [if_pos e, e, M.d]
  rw [if_neg e]
  by_cases e : y = Str.ofString "node2stacki"
  · rw [if_pos e, e, M.e]
  rw [if_neg e]
noncomputable def cycLed (I SK IT SN NS D : Addr) (it oS oN oD : Obj) (c1 c2 : Nat) (fs : List Fq) (led : List (Addr × Obj)) : List (Addr × Obj) :=
  (I, it) :: (SK, listOf (fsStr fs).toArray c1) :: (IT, listOf (fsRef fs).toArray c2) :: (SN, oS) :: (NS, oN) :: (D, oD) :: (fsLed fs ++ led)
inductive Cyc (w : World) (gr : Heap → Prop) (ns : List Nd) (L I SK IT SN NS D : Addr) (it oD : Obj) (led : List (Addr × Obj)) (fs : List Fq) (sn : List Str) (m : Str → Option Value) (h : Heap) : Prop
  | mk (γ : Heap) (oS oN : Obj) (c1 c2 : Nat) : gr γ → Fr γ L h m → CycM m D SK IT SN NS → Dfs w ns fs sn oS oN → (∀ g ∈ fs, ∀ q ∈ led, q.1 ≠ g.it) → News γ L h (cycLed I SK IT SN NS D it oS oN oD c1 c2 fs led) → Cyc w gr ns L I SK IT SN NS D it oD led fs sn m h
inductive CJ1 (w : World) (gr : Heap → Prop) (ns : List Nd) (L I SK IT SN NS D : Addr) (oD : Obj) (led : List (Addr × Obj)) (ep : Nat) (s : Shared) (i : Nat) (sx : Shared) : Prop
  | mk (h : Heap) (tk : Nat) (m : Str → Option Value) (it : Obj) (sn : List Str) : sx = { s with heap := h, toks := tk } → i ≤ (ndKvs ns).length → KeyIt D i (ndKvs ns).length ep it → Cyc w gr ns L I SK IT SN NS D it oD led [] sn m h → CJ1 w gr ns L I SK IT SN NS D oD led ep s i sx
inductive CJ2 (w : World) (gr : Heap → Prop) (ns : List Nd) (L I SK IT SN NS D : Addr) (it oD : Obj) (led : List (Addr × Obj)) (s : Shared) (a : Nat) (sx : Shared) : Prop
  | mk (h : Heap) (tk : Nat) (m : Str → Option Value) (fs : List Fq) (sn : List Str) (x : Str) (t : Tok) : a = (ns.length - sn.length) * 5000 + fsRem fs → sx = { s with heap := h, toks := tk } → Cyc w gr ns L I SK IT SN NS D it oD led fs sn m h → m (Str.ofString "node") = some (.str x t) → x ∈ ns.map Nd.p → (∀ g ∈ fs, g.nd.p.length < x.length) → CJ2 w gr ns L I SK IT SN NS D it oD led s a sx
inductive CJ3 (w : World) (gr : Heap → Prop) (ns : List Nd) (L I SK IT SN NS D : Addr) (it oD : Obj) (led : List (Addr × Obj)) (s : Shared) (fs : List Fq) (sn : List Str) (fl : Flow) (sx : Shared) : Prop
  | mk (h : Heap) (tk : Nat) (fs2 : List Fq) (sn2 : List Str) (m : Str → Option Value) : fl = Flow.next → sx = { s with heap := h, toks := tk } → Cyc w gr ns L I SK IT SN NS D it oD led fs2 sn2 m h → fsRem fs2 + (ns.length - sn2.length) * 5000 ≤ (ns.length - sn.length) * 5000 + fsRem fs → CJ3 w gr ns L I SK IT SN NS D it oD led s fs sn fl sx
inductive CJ4 (w : World) (gr : Heap → Prop) (ns : List Nd) (L I SK IT SN NS D : Addr) (it oD : Obj) (led : List (Addr × Obj)) (s : Shared) (fs2 : List Fq) (sn2 : List Str) (a : Nat) (sx : Shared) : Prop
  | mk (h : Heap) (tk : Nat) (fs : List Fq) (m : Str → Option Value) : a = fs.length → sx = { s with heap := h, toks := tk } → Cyc w gr ns L I SK IT SN NS D it oD led fs sn2 m h → fsRem fs ≤ fsRem fs2 → CJ4 w gr ns L I SK IT SN NS D it oD led s fs2 sn2 a sx
theorem AllLt.at {d : Addr} : ∀ {l : List (Addr × Obj)}, AllLt d l → ∀ p ∈ l, p.1 < d
  | [], _, _, h => nomatch h
  | _ :: _, x, p, h => by
    rcases List.mem_cons.mp h with rfl | h
    · exact x.1
    · exact AllLt.at x.2 p h
theorem Dfs.clsS {w : World} {ns : List Nd} {fs : List Fq} {sn : List Str} {oS oN : Obj} (H : Dfs w ns fs sn oS oN) : oS.cls = .type "set" := by
  obtain ⟨K, _, h, _⟩ := H.set
  exact h.1
theorem Dfs.clsN {w : World} {ns : List Nd} {fs : List Fq} {sn : List Str} {oS oN : Obj} (H : Dfs w ns fs sn oS oN) : oN.cls = .type "dict" := by
  obtain ⟨kv, _, h⟩ := H.map
  exact dict_cls h
theorem cyc_ne {γ h : Heap} {L I SK IT SN NS D : Addr} {it oS oN oD : Obj} {c1 c2 : Nat} {fs : List Fq} {led : List (Addr × Obj)} (N : News γ L h (cycLed I SK IT SN NS D it oS oN oD c1 c2 fs led)) (hS : oS.cls = .type "set") (hN : oN.cls = .type "dict") (l : ∀ q ∈ led, q.1 < SK) (o1 : @LT.lt Nat _ SK IT) (o2 : @LT.lt Nat _ IT SN) (o3 : @LT.lt Nat _ SN NS) :
    (∀ q ∈ fsLed fs ++ led, q.1 ≠ SK) ∧ (∀ q ∈ fsLed fs ++ led, q.1 ≠ IT) ∧ (∀ q ∈ fsLed fs ++ led, q.1 ≠ SN) ∧ (∀ q ∈ fsLed fs ++ led, q.1 ≠ NS) := by
  have hf : ∀ (p : Addr × Obj), p ∈ cycLed I SK IT SN NS D it oS oN oD c1 c2 fs led → p.2.cls ≠ .type "method-wrapper" → p.2.cls ≠ .type "list_iterator" → ∀ q ∈ fsLed fs, q.1 ≠ p.1 := fun p hp h1 h2 q hq => by
    refine ne_cls N (.tail _ (.tail _ (.tail _ (.tail _ (.tail _ (.tail _ (List.mem_append_left _ hq))))))) hp ?_
    rcases fsLed_cls q hq with e | e
    · rw [e]; exact Ne.symm h1
    · rw [e]; exact Ne.symm h2
  refine ⟨fun q hq => ?_, fun q hq => ?_, fun q hq => ?_, fun q hq => ?_⟩ <;> rcases List.mem_append.mp hq with hq | hq
  · exact hf (SK, _) (.tail _ (.head _)) (typ_ne (by decide)) (typ_ne (by decide)) q hq
  · exact Nat.ne_of_lt (l q hq)
  · exact hf (IT, _) (.tail _ (.tail _ (.head _))) (typ_ne (by decide)) (typ_ne (by decide)) q hq
  · exact Nat.ne_of_lt (Nat.lt_trans (l q hq) o1)
  · exact hf (SN, _) (.tail _ (.tail _ (.tail _ (.head _)))) (by rw [hS]; exact typ_ne (by decide)) (by rw [hS]; exact typ_ne (by decide)) q hq
  · exact Nat.ne_of_lt (Nat.lt_trans (Nat.lt_trans (l q hq) o1) o2)
  · exact hf (NS, _) (.tail _ (.tail _ (.tail _ (.tail _ (.head _))))) (by rw [hN]; exact typ_ne (by decide)) (by rw [hN]; exact typ_ne (by decide)) q hq
  · exact Nat.ne_of_lt (Nat.lt_trans (Nat.lt_trans (Nat.lt_trans (l q hq) o1) o2) o3)
theorem ndKvs_of {ns : List Nd} {nd : Nd} (hn : (ns.map Nd.p).Nodup) (h : nd ∈ ns) : valueAt (ndKvs ns) nd.p = some (.ref nd.i) := by
  obtain ⟨a, b, rfl⟩ := List.append_of_mem h
  exact ndKvs_at hn
theorem Dfs.miss {w : World} {ns : List Nd} {fs : List Fq} {sn : List Str} {oS oN : Obj} {kv : List (Str × Value)} {x : Str} (e : kv.map Prod.fst = fs.map fun g => g.nd.p) (h : ∀ g ∈ fs, g.nd.p.length < x.length) : (valueAt kv x).isSome = false := by
  rw [valueAt_miss]
  · rfl
  · rw [e]
    intro hx
    obtain ⟨g, hg, eg⟩ := List.mem_map.mp hx
    have := h g hg
    rw [eg] at this
    exact Nat.lt_irrefl _ this
noncomputable def AllNo (d : Nat) : List (Addr × Obj) → Prop
  | [] => True
  | p :: r => @Ne Nat p.1 d ∧ AllNo d r
theorem allNo_of {d : Addr} : ∀ {l : List (Addr × Obj)}, (∀ p ∈ l, p.1 ≠ d) → AllNo d l
  | [], _ => trivial
  | p :: _, h => ⟨h p (.head _), allNo_of fun q hq => h q (.tail _ hq)⟩
theorem fsLed_it : ∀ {fs : List Fq} {g : Fq}, g ∈ fs → (g.it, itAt g.nd.l g.i) ∈ fsLed fs
  | _ :: _, g, h => by
    rcases List.mem_cons.mp h with rfl | h
    · exact .tail _ (.head _)
    · exact .tail _ (.tail _ (fsLed_it h))
theorem fsLed_mem {q : Addr × Obj} : ∀ (fs : List Fq), q ∈ fsLed fs → ∃ g ∈ fs, q = (g.b, mwObj g.it) ∨ q = (g.it, itAt g.nd.l g.i)
  | [], h => nomatch h
  | g :: r, h => by
    rcases List.mem_cons.mp h with h | h
    · exact ⟨g, .head _, .inl h⟩
    rcases List.mem_cons.mp h with h | h
    · exact ⟨g, .head _, .inr h⟩
    · obtain ⟨k, hk, e⟩ := fsLed_mem r h
      exact ⟨k, .tail _ hk, e⟩
theorem valueAt_hit {kv : List (Str × Value)} {x : Str} (h : x ∈ kv.map Prod.fst) : (valueAt kv x).isSome = true := by
  obtain ⟨p, hp, e⟩ := List.mem_map.mp h
  cases hf : kv.find? (fun p => decide (p.1 = x)) with
  | none => exact absurd (decide_eq_true e) (List.find?_eq_none.mp hf p hp)
  | some y => exact congrArg Option.isSome (show valueAt kv x = some y.2 from by unfold valueAt; rw [hf]; rfl)
theorem fsStr_append {a b : List Fq} : fsStr (a ++ b) = fsStr a ++ fsStr b := List.map_append
theorem fsRef_append {a b : List Fq} : fsRef (a ++ b) = fsRef a ++ fsRef b := List.map_append
theorem len_L {prog : Program} {w : World} {A : Around} {E : Value → Shared → Prop} {s : Shared} {h₀ : Heap} {L l : Addr} {news : List (Addr × Obj)} {vs : List Value} {n : Nat} {Q : Value → Shared → Prop} (N : News h₀ L s.heap news) (hm : (l, listOf vs.toArray n) ∈ news) (hz : vs.length ≤ 65) (h : ∀ t k, Q (.int vs.length t) { s with toks := k }) :
    wpAny (model prog w) A (call (.builtin "len") [.ref l]) Q E s := by
  refine call_len_list (N.isList hm) ?_ ?_
  · simp only [List.size_toArray]; (first | lia | omega)
  · have e : ((vs.toArray).size : Int) = vs.length := by simp
    rw [e]
    exact h _ _
theorem callWith_mw {prog : Program} {w : World} {A : Around} {E : Value → Shared → Prop} {s : Shared} {h₀ : Heap} {L q it : Addr} {news : List (Addr × Obj)} {pos : Pos} {env : Env} {Q : Value → Shared → Prop} (N : News h₀ L s.heap news) (hq : (q, mwObj it) ∈ news) (h : wpAny (model prog w) A (call (.ref q) []) Q E s) :
    wpAny (model prog w) A (callWith pos (.ref q) [] (backTo pos (starEach [] env)) []) Q E s := by
  have e : backTo pos (starEach [] env) = [] := rfl
  rw [e]
  unfold callWith
  refine wpAny_bind (wpAny_holding (PyProof.Rows.evalArgs_none (wpAny_bind (wpAny_standAt ?_))))
  simp only [List.any_nil, Bool.or_false]
  refine wpAny_bind (m := keeperOf (.ref q)) ?_
  unfold keeperOf
  refine wpAny_bind (wpAny_load (N _ hq).1 ?_)
  simp only [mwObj, show (Value.type "method-wrapper" != Value.type "method") = true by decide, show (Value.type "method-wrapper" == Value.type "builtin_function_or_method" || Value.type "method-wrapper" == Value.type "method-wrapper") = true by decide, if_true]
  refine wpAny_pure ?_
  exact wpAny_bind (wpAny_mono h (fun r s₂ hr => wpAny_bind (wpAny_holding (wpAny_point (wpAny_pure hr)))) fun _ _ x => x)
end Mine
end

section
open PySem PySem.W PySem.W.X PyProof.Rows PySem.Calls PyProof.V PySem.Spec
set_option Elab.async false
set_option maxRecDepth 100000
set_option maxHeartbeats 0
set_option linter.unusedVariables false
namespace Mine
theorem cn0 { B : Prop} {a b : Nat} (h : a ≠ b ∧ B) : a ≠ b := h.1
theorem cm0 {a b : Nat} (h : a ≠ b) : a ≠ b := h
theorem cn1 {A0 B : Prop} {a b : Nat} (h : A0 ∧ a ≠ b ∧ B) : a ≠ b := h.2.1
theorem cm1 {A0 : Prop} {a b : Nat} (h : A0 ∧ a ≠ b) : a ≠ b := h.2
theorem cn2 {A0 A1 B : Prop} {a b : Nat} (h : A0 ∧ A1 ∧ a ≠ b ∧ B) : a ≠ b := h.2.2.1
theorem cm2 {A0 A1 : Prop} {a b : Nat} (h : A0 ∧ A1 ∧ a ≠ b) : a ≠ b := h.2.2
theorem cn3 {A0 A1 A2 B : Prop} {a b : Nat} (h : A0 ∧ A1 ∧ A2 ∧ a ≠ b ∧ B) : a ≠ b := h.2.2.2.1
theorem cm3 {A0 A1 A2 : Prop} {a b : Nat} (h : A0 ∧ A1 ∧ A2 ∧ a ≠ b) : a ≠ b := h.2.2.2
theorem cn4 {A0 A1 A2 A3 B : Prop} {a b : Nat} (h : A0 ∧ A1 ∧ A2 ∧ A3 ∧ a ≠ b ∧ B) : a ≠ b := h.2.2.2.2.1
theorem cm4 {A0 A1 A2 A3 : Prop} {a b : Nat} (h : A0 ∧ A1 ∧ A2 ∧ A3 ∧ a ≠ b) : a ≠ b := h.2.2.2.2
theorem cn5 {A0 A1 A2 A3 A4 B : Prop} {a b : Nat} (h : A0 ∧ A1 ∧ A2 ∧ A3 ∧ A4 ∧ a ≠ b ∧ B) : a ≠ b := h.2.2.2.2.2.1
theorem cm5 {A0 A1 A2 A3 A4 : Prop} {a b : Nat} (h : A0 ∧ A1 ∧ A2 ∧ A3 ∧ A4 ∧ a ≠ b) : a ≠ b := h.2.2.2.2.2
theorem cn6 {A0 A1 A2 A3 A4 A5 B : Prop} {a b : Nat} (h : A0 ∧ A1 ∧ A2 ∧ A3 ∧ A4 ∧ A5 ∧ a ≠ b ∧ B) : a ≠ b := h.2.2.2.2.2.2.1
theorem cm6 {A0 A1 A2 A3 A4 A5 : Prop} {a b : Nat} (h : A0 ∧ A1 ∧ A2 ∧ A3 ∧ A4 ∧ A5 ∧ a ≠ b) : a ≠ b := h.2.2.2.2.2.2
theorem cn7 {A0 A1 A2 A3 A4 A5 A6 B : Prop} {a b : Nat} (h : A0 ∧ A1 ∧ A2 ∧ A3 ∧ A4 ∧ A5 ∧ A6 ∧ a ≠ b ∧ B) : a ≠ b := h.2.2.2.2.2.2.2.1
theorem cm7 {A0 A1 A2 A3 A4 A5 A6 : Prop} {a b : Nat} (h : A0 ∧ A1 ∧ A2 ∧ A3 ∧ A4 ∧ A5 ∧ A6 ∧ a ≠ b) : a ≠ b := h.2.2.2.2.2.2.2
theorem cn8 {A0 A1 A2 A3 A4 A5 A6 A7 B : Prop} {a b : Nat} (h : A0 ∧ A1 ∧ A2 ∧ A3 ∧ A4 ∧ A5 ∧ A6 ∧ A7 ∧ a ≠ b ∧ B) : a ≠ b := h.2.2.2.2.2.2.2.2.1
theorem cm8 {A0 A1 A2 A3 A4 A5 A6 A7 : Prop} {a b : Nat} (h : A0 ∧ A1 ∧ A2 ∧ A3 ∧ A4 ∧ A5 ∧ A6 ∧ A7 ∧ a ≠ b) : a ≠ b := h.2.2.2.2.2.2.2.2
theorem cn9 {A0 A1 A2 A3 A4 A5 A6 A7 A8 B : Prop} {a b : Nat} (h : A0 ∧ A1 ∧ A2 ∧ A3 ∧ A4 ∧ A5 ∧ A6 ∧ A7 ∧ A8 ∧ a ≠ b ∧ B) : a ≠ b := h.2.2.2.2.2.2.2.2.2.1
theorem cm9 {A0 A1 A2 A3 A4 A5 A6 A7 A8 : Prop} {a b : Nat} (h : A0 ∧ A1 ∧ A2 ∧ A3 ∧ A4 ∧ A5 ∧ A6 ∧ A7 ∧ A8 ∧ a ≠ b) : a ≠ b := h.2.2.2.2.2.2.2.2.2
theorem cn10 {A0 A1 A2 A3 A4 A5 A6 A7 A8 A9 B : Prop} {a b : Nat} (h : A0 ∧ A1 ∧ A2 ∧ A3 ∧ A4 ∧ A5 ∧ A6 ∧ A7 ∧ A8 ∧ A9 ∧ a ≠ b ∧ B) : a ≠ b := h.2.2.2.2.2.2.2.2.2.2.1
theorem cm10 {A0 A1 A2 A3 A4 A5 A6 A7 A8 A9 : Prop} {a b : Nat} (h : A0 ∧ A1 ∧ A2 ∧ A3 ∧ A4 ∧ A5 ∧ A6 ∧ A7 ∧ A8 ∧ A9 ∧ a ≠ b) : a ≠ b := h.2.2.2.2.2.2.2.2.2.2
theorem cn11 {A0 A1 A2 A3 A4 A5 A6 A7 A8 A9 A10 B : Prop} {a b : Nat} (h : A0 ∧ A1 ∧ A2 ∧ A3 ∧ A4 ∧ A5 ∧ A6 ∧ A7 ∧ A8 ∧ A9 ∧ A10 ∧ a ≠ b ∧ B) : a ≠ b := h.2.2.2.2.2.2.2.2.2.2.2.1
theorem cm11 {A0 A1 A2 A3 A4 A5 A6 A7 A8 A9 A10 : Prop} {a b : Nat} (h : A0 ∧ A1 ∧ A2 ∧ A3 ∧ A4 ∧ A5 ∧ A6 ∧ A7 ∧ A8 ∧ A9 ∧ A10 ∧ a ≠ b) : a ≠ b := h.2.2.2.2.2.2.2.2.2.2.2
theorem lnW11 : True := by
  k_with_none
  k_with "k_ne" => (first | (refine neN ?_; first | (with_reducible first | assumption | exact Ne.symm (by assumption) | exact ca0 (by assumption) | exact cb0 (by assumption) | exact cc0 (by assumption) | exact cd0 (by assumption) | exact ca1 (by assumption) | exact cb1 (by assumption) | exact cc1 (by assumption) | exact cd1 (by assumption) | exact ca2 (by assumption) | exact cb2 (by assumption) | exact cc2 (by assumption) | exact cd2 (by assumption) | exact ca3 (by assumption) | exact cb3 (by assumption) | exact cc3 (by assumption) | exact cd3 (by assumption) | exact ca4 (by assumption) | exact cb4 (by assumption) | exact cc4 (by assumption) | exact cd4 (by assumption) | exact ca5 (by assumption) | exact cb5 (by assumption) | exact cc5 (by assumption) | exact cd5 (by assumption) | exact ca6 (by assumption) | exact cb6 (by assumption) | exact cc6 (by assumption) | exact cd6 (by assumption) | exact ca7 (by assumption) | exact cb7 (by assumption) | exact cc7 (by assumption) | exact cd7 (by assumption) | exact ca8 (by assumption) | exact cb8 (by assumption) | exact cc8 (by assumption) | exact cd8 (by assumption) | exact ca9 (by assumption) | exact cb9 (by assumption) | exact cc9 (by assumption) | exact cd9 (by assumption) | exact ca10 (by assumption) | exact cb10 (by assumption) | exact cc10 (by assumption) | exact cd10 (by assumption) | exact ca11 (by assumption) | exact cb11 (by assumption) | exact cc11 (by assumption) | exact cd11 (by assumption)) | (refine Nat.ne_of_lt (ltm (o := _) (by with_reducible assumption) ?_); k_mem; done) | (refine Nat.ne_of_gt (ltm (o := _) (by with_reducible assumption) ?_); k_mem; done) | ((try dsimp only); omega)) | fail)
  k_with "k_ne" => (first | (refine neN ?_; first | exact cn0 (by with_reducible assumption) | exact Ne.symm (cn0 (by with_reducible assumption)) | exact cm0 (by with_reducible assumption) | exact Ne.symm (cm0 (by with_reducible assumption)) | exact cn1 (by with_reducible assumption) | exact Ne.symm (cn1 (by with_reducible assumption)) | exact cm1 (by with_reducible assumption) | exact Ne.symm (cm1 (by with_reducible assumption)) | exact cn2 (by with_reducible assumption) | exact Ne.symm (cn2 (by with_reducible assumption)) | exact cm2 (by with_reducible assumption) | exact Ne.symm (cm2 (by with_reducible assumption)) | exact cn3 (by with_reducible assumption) | exact Ne.symm (cn3 (by with_reducible assumption)) | exact cm3 (by with_reducible assumption) | exact Ne.symm (cm3 (by with_reducible assumption)) | exact cn4 (by with_reducible assumption) | exact Ne.symm (cn4 (by with_reducible assumption)) | exact cm4 (by with_reducible assumption) | exact Ne.symm (cm4 (by with_reducible assumption)) | exact cn5 (by with_reducible assumption) | exact Ne.symm (cn5 (by with_reducible assumption)) | exact cm5 (by with_reducible assumption) | exact Ne.symm (cm5 (by with_reducible assumption)) | exact cn6 (by with_reducible assumption) | exact Ne.symm (cn6 (by with_reducible assumption)) | exact cm6 (by with_reducible assumption) | exact Ne.symm (cm6 (by with_reducible assumption)) | exact cn7 (by with_reducible assumption) | exact Ne.symm (cn7 (by with_reducible assumption)) | exact cm7 (by with_reducible assumption) | exact Ne.symm (cm7 (by with_reducible assumption)) | exact cn8 (by with_reducible assumption) | exact Ne.symm (cn8 (by with_reducible assumption)) | exact cm8 (by with_reducible assumption) | exact Ne.symm (cm8 (by with_reducible assumption)) | exact cn9 (by with_reducible assumption) | exact Ne.symm (cn9 (by with_reducible assumption)) | exact cm9 (by with_reducible assumption) | exact Ne.symm (cm9 (by with_reducible assumption)) | exact cn10 (by with_reducible assumption) | exact Ne.symm (cn10 (by with_reducible assumption)) | exact cm10 (by with_reducible assumption) | exact Ne.symm (cm10 (by with_reducible assumption)) | exact cn11 (by with_reducible assumption) | exact Ne.symm (cn11 (by with_reducible assumption)) | exact cm11 (by with_reducible assumption) | exact Ne.symm (cm11 (by with_reducible assumption)) | fail) | fail)
  k_with "mem" => first | exact .head _ | exact .tail _ (.head _) | exact .tail _ (.tail _ (.head _)) | exact .tail _ (.tail _ (.tail _ (.head _))) | exact .tail _ (.tail _ (.tail _ (.tail _ (.head _)))) | exact .tail _ (.tail _ (.tail _ (.tail _ (.tail _ (.head _))))) | exact .tail _ (.tail _ (.tail _ (.tail _ (.tail _ (.tail _ (.head _)))))) | exact .tail _ (.tail _ (.tail _ (.tail _ (.tail _ (.tail _ (.tail _ (.head _))))))) | exact .tail _ (.tail _ (.tail _ (.tail _ (.tail _ (.tail _ (.tail _ (.tail _ (.head _)))))))) | exact .tail _ (.tail _ (.tail _ (.tail _ (.tail _ (.tail _ (.tail _ (.tail _ (.tail _ (.head _))))))))) | exact .tail _ (.tail _ (.tail _ (.tail _ (.tail _ (.tail _ (.tail _ (.tail _ (.tail _ (.tail _ (.head _)))))))))) | fail
  k_with "r tails" => first | (intro p hp; (repeat (first | exact hp | refine List.mem_cons_of_mem _ ?_)); done) | fail
  k_with "k_all" => first | with_reducible assumption | (refine' ne_tail ?la ?sa; (case la => with_reducible assumption); (case sa => walk_at "r tails")) | (refine' ne_tail2 ?ha ?la ?sa; (case ha => with_reducible assumption); (case la => with_reducible assumption); (case sa => walk_at "r tails")) | fail
  k_with "exec For Name Name cons nil" => first | (k_here; (try (k_fold; refine letA ?_; intro aX)); (with_unfolding_all refine wpAny_For ?_); k_whole) | fail
  k_with "pyIter ref" => first | (k_here; (with_reducible show wpAny _ _ (pyIter (Value.ref _)) (fun it s₂ => codeAny _ _ _ _ _) _ _); k_dflt (refine' iter_keys ?F ?N ?m ?d ?lo ?_; (case F => k_asm); (case N => k_asm); (case m => k_mem); (case d => with_reducible assumption); (case lo => with_reducible assumption)); intro I' it' h' ep' F' N' lI hit' hda') | fail
  k_with "exec While" => first | (k_here; (try (k_fold; refine letA ?_; intro aX)); refine Stop.go ?_) | fail
  k_with "exec While Constant nil cons" => first | (k_here; (try (k_fold; refine letA ?_; intro aX)); refine Stop.go ?_) | fail
  k_with "exec While Constant cons nil" => first | (k_here; (try (k_fold; refine letA ?_; intro aX)); refine Stop.go ?_) | fail
  k_with "exec While Name cons cons" => first | (k_here; (try (k_fold; refine letA ?_; intro aX)); refine Stop.go ?_) | fail
  k_with "exec If" => first | (k_here; (with_reducible show wpAny _ _ (exec (Stmt.If _ _ (_ :: _ :: _ :: _) _) _) _ _ _); (try (k_fold; refine letA ?_; intro aX)); refine Stop.go ?_) | fail
  k_with "compareOp In str ref" => first | (k_here; k_dflt (refine' in_set (n := _) _ ?N ?U ?d ?z ?b ?_; (case N => k_asm); (case U => k_updF); (case d => with_reducible assumption); (case b => with_reducible assumption); (case z => with_reducible assumption))) | (k_here; k_dflt (refine' kda_in (knd := PySem.strKind _ _) ?N ?m ?d ?lo (strKind_is _ _ _ _) false ?b ?_; (case N => k_asm); (case m => k_mem); (case d => with_reducible assumption); (case lo => with_reducible assumption); (case b => with_reducible assumption))) | fail
  k_with "call builtin:set.add" => first | (k_here; k_dflt (refine' add_set ?F ?N ?U ?d ?z ?b ?_; (case F => k_asm); (case N => k_asm); (case U => k_updF); (case d => with_reducible assumption); (case z => with_reducible assumption); (case b => with_reducible assumption)); intro h' oS' F' N' hS'; (try dsimp only at N')) | fail
  k_with "subscriptTail" => first | (k_here; (with_reducible show wpAny _ _ (subscriptTail _ _ (Value.ref _) (Value.str _ _)) _ _ _); k_dflt (refine' kda_item (knd := PySem.strKind _ _) ?k1 ?k2 ?k3 (strKind_is _ _ _ _) ?k4 ?_; (case k1 => k_asm); (case k2 => k_mem); (case k3 => with_reducible assumption); (case k4 => with_reducible assumption))) | (k_here; (with_reducible show wpAny _ _ (subscriptTail _ _ (Value.ref _) (Value.int _ _)) _ _ _); k_dflt (refine' last_L ?N ?m ?_; (case N => k_asm); (case m => k_mem))) | fail
  k_with "subscriptTail Name UnaryOp ref int" => first | (k_here; k_dflt (refine' last_L ?N ?m ?_; (case N => k_asm); (case m => k_mem))) | fail
  k_with "call builtin:iter" => first | (k_here; (with_reducible show wpAny _ _ (call (Value.builtin "iter") [Value.ref _]) _ _ _); k_dflt (refine' iter_list ?F ?N ?m ?c ?d ?_; (case F => k_asm); (case N => k_asm); (case m => k_mem); (case c => exact rfl); (case d => exact rfl); k_whole); intro iI h' F' N' lJ; (have lJ2 := lJ); (try k_lt lJ2)) | fail
  k_with "getAttr ref" => first | (k_here; (with_reducible show wpAny _ _ (getAttr (Value.ref _) (Str.ofString "__next__") true) _ _ _); k_dflt (refine' get_next ?F ?N ?m ?d ?u ?_; (case F => k_asm); (case N => k_asm); (case m => k_mem); (case d => exact rfl); (case u => exact rfl)); intro qI h' tk' F' N' neQ; (have nQ := allNo_of neQ); simp only [AllNo, and_true] at nQ) | fail
  k_with "call builtin:list.append" => first | (k_here; (with_reducible show wpAny _ _ (call (Value.builtin _) [Value.ref _, _]) _ _ _); k_dflt (refine' app_L ?k1 ?k2 ?k3 ?z ?_; (case k1 => k_asm); (case k2 => k_asm); (case k3 => k_updF); (case z => with_reducible assumption)); intro h' F' N'; (try dsimp only at N')) | fail
  k_with "call builtin:list.pop" => first | (k_here; (with_reducible show wpAny _ _ (call (Value.builtin _) [Value.ref _]) _ _ _); k_dflt (refine' pop_L ?k1 ?k2 ?k3 ?z ?_; (case k1 => k_asm); (case k2 => k_asm); (case k3 => k_updF); (case z => with_reducible assumption)); intro h' F' N'; (try dsimp only at N')) | fail
  k_with "call builtin:len" => first | (k_here; (with_reducible show wpAny _ _ (call (Value.builtin "len") [Value.ref _]) _ _ _); k_dflt (refine' len_L ?k1 ?k2 ?k3 ?_; (case k1 => k_asm); (case k2 => k_mem); (case k3 => with_reducible assumption)); intro t' k') | fail
  k_with "truthy ref" => first | (k_here; k_dflt (refine' truth_L ?k1 ?k2 ?k3 ?_; (case k1 => k_asm); (case k2 => k_mem); (case k3 => with_reducible assumption))) | fail
  k_with "setItem ref str" => first | (k_here; k_dflt (refine' kda_set (knd := PySem.strKind _ _) ?F ?N ?U ?d (strKind_is _ _ _ _) ?z ?_; (case F => k_asm); (case N => k_asm); (case U => k_updF); (case d => with_reducible assumption); (case z => rw [sizeLine_eq]; omega)); intro h' oN' F' N' hN'; (try dsimp only at N')) | fail
  k_with "delItem ref str" => first | (k_here; k_dflt (refine' kob_del (knd := PySem.strKind _ _) ?F ?N ?U ?d (strKind_is _ _ _ _) ?l ?z ?_; (case F => k_asm); (case N => k_asm); (case U => k_updF); (case d => with_reducible assumption); (case l => with_reducible assumption); (case z => rw [sizeLine_eq]; omega)); intro h' oN' F' N' hN'; (try dsimp only at N')) | fail
  k_with "call ref" => first | (k_here; (with_reducible show wpAny _ _ (call (Value.ref _) []) _ _ _); k_dflt (refine' mw_item (lo := sList _ _) ?F ?N ?U ?q ?l rfl rfl ?x ?_; (case F => k_asm); (case N => k_asm); (case q => k_mem); (case l => k_mem); (case U => k_updF); (case x => with_reducible assumption)); intro h' F' N'; (try dsimp only at N')) | (k_here; (with_reducible show wpAny _ _ (call (Value.ref _) []) _ _ _); k_dflt (refine' mw_stop (lo := sList _ _) rfl ?F ?N ?U ?q ?l rfl rfl ?x ?_; (case F => k_asm); (case N => k_asm); (case q => k_mem); (case l => k_mem); (case U => k_updF); (case x => with_reducible assumption)); intro h1' h' e' F' N' nX'; (try dsimp only at N')) | fail
  k_with "callWith ref nil nil" => first | (k_here; k_dflt (refine' callWith_mw ?N ?q ?_; (case N => k_asm); (case q => k_mem))) | fail
  k_with "callWith ref" => first | (k_here; k_dflt (refine' callWith_mw ?N ?q ?_; (case N => k_asm); (case q => k_mem))) | fail
  k_with "noteFrame ref" => first | (k_here; (rename Heap.NewExc _ _ _ _ => nX'); k_dflt (refine' own_look ?K nX' ?F ?N rfl ?_; (case K => k_asm); (case F => k_asm); (case N => k_asm)); clear nX'; intro G' h' FG' R' U') | fail
  trivial
theorem Stop.out {P : Prop} (h : P) : Stop P := h
theorem fa_mid {a b c tl : List (Addr × Obj)} {P : Addr × Obj → Prop} (e : tl = a ++ c) (hb : ∀ q ∈ b, P q) (ht : ∀ q ∈ tl, P q) : ∀ q ∈ (a ++ b) ++ c, P q := fun q hq => by
  subst e
  rcases List.mem_append.mp hq with hq | hq
  · rcases List.mem_append.mp hq with hq | hq
    · exact ht q (List.mem_append_left _ hq)
    · exact hb q hq
  · exact ht q (List.mem_append_right _ hq)
theorem len65 {α β : Type} {f : α → β} {l : List α} (h : l.length ≤ 64) : (l.map f).length ≤ 65 := by rw [List.length_map]; exact Nat.le_succ_of_le h
theorem len_kv {kv : List (Str × Value)} {fs : List Fq} (e : kv.map Prod.fst = fs.map fun g => g.nd.p) (h : fs.length ≤ 64) : kv.length ≤ 64 := by
  have z := congrArg List.length e
  rw [List.length_map, List.length_map] at z
  rw [z]
  exact h
theorem om_step {A r r1 r2 R : Nat} (h : r + r1 ≤ R) (h2 : r2 < r1) : A + (r + r2) < R + A := by omega
theorem om_rem {n k k2 r2 : Nat} (h : k + 1 = k2) (h2 : k2 ≤ n) (h3 : r2 ≤ 4999) (r : Nat) : (r + r2) + (n - k2) * 5000 ≤ (n - k) * 5000 + r := by omega
theorem cyc_c (w : World) (mean : ExcName → Option Value) (mg mb : Str → Option Value) (S dx D : Addr) (t1 t2 t3 t4 u3 u4 : Tok) (rd : Value) (np nf : Int) (oD : Obj) (ns : List Nd) (f : NpF) (rest : List (Addr × Obj))
   (X1 : Forest ns) (hD : oD.IsDictOf (PySem.strKind theProg w) (ndKvs ns)) (hlo : (D == sysModules) = false) (hSD : @Ne Nat S D) (hdD : @Ne Nat dx D) :
  CS 800 8000 w mean mg mb 143 ((S, instObj 153 dx) :: (dx, sorterD w t1 t2 t3 t4 (.ref D) rd np u3 nf u4 4) :: (D, oD) :: (ndsLed f ns ++ rest)) [.ref S] (fun v l => v = .none ∧ l = (S, instObj 153 dx) :: (dx, sorterD w t1 t2 t3 t4 (.ref D) rd np u3 nf u4 4) :: (D, oD) :: (ndsLed f ns ++ rest)) := by
  unfold CS
  k_fill
  intro gd cn nm ig ic mo a ccd outer A₀ base g₀ h₀ L m s Q E B F X N T XB TB DD TT hret
  generalize htail : ndsLed f ns ++ rest = tail at N hret
  k_steps
  rename_i g1 L4 _ FG1 B1 X2 T1 D1 _ _ _ SK _ lSK _ _ IT _ lIT _ SN _ led1 _ hSN lSN _ NS _ oN0 loN hNS _ _ _ lNS _ F0 N0
  let FS := List.filterMap (fun x => x.frame) (envOf cn { kind := ScopeKind.function, names := nm, isGenerator := ig, isCoroutine := ic, more := mo } L a ccd :: outer)
  obtain ⟨led, hled⟩ : ∃ l : List (Addr × Obj), l = (S, instObj 153 dx) :: (dx, sorterD w t1 t2 t3 t4 (.ref D) rd np u3 nf u4 4) :: tail := ⟨_, rfl⟩
  let gr := Gr w mean mg mb FS (ktrTop 800 8000 gd cn { kind := ScopeKind.function, names := nm, isGenerator := ig, isCoroutine := ic, more := mo } L a ccd [] outer) base (envOf cn { kind := ScopeKind.function, names := nm, isGenerator := ig, isCoroutine := ic, more := mo } L a ccd :: outer) g1
  obtain ⟨J1, hJ1⟩ : ∃ J : Nat → Shared → Prop, ∀ i sx, J i sx ↔ CJ1 w gr ns L4 I' SK IT SN NS D oD led ep' s i sx := ⟨_, fun _ _ => Iff.rfl⟩
  refine for_keys (kvs := ndKvs ns) (d := D) (ep := ep') rfl (by passes_own) (Inv := J1) ?itr ?turn ?fin ?h0
  case itr =>
    intro i sx hJ
    obtain ⟨h, tk, m, it, sn, rfl, hi, hk, γ, oS, oN, c1, c2, hgr, F, M, H, ho, N⟩ := (hJ1 _ _).mp hJ
    exact ⟨hi, ⟨it, (N _ (.head _)).1, hk⟩, hda' _ (N (D, oD) (.tail _ (.tail _ (.tail _ (.tail _ (.tail _ (.head _))))))).1⟩
  case h0 =>
    refine (hJ1 _ _).mpr ⟨_, _, _, it', [], rfl, Nat.zero_le _, hit', g1, _, oN0, 0, 0, ⟨KtsTurn.refl, B1, X2, T1, D1⟩, F', ⟨by with_unfolding_all rfl, by with_unfolding_all rfl, by with_unfolding_all rfl, by with_unfolding_all rfl, by with_unfolding_all rfl⟩, ⟨List.nodup_nil, fun x h => (nomatch h), ⟨fun _ => false, fun k => by simp, hSN⟩, fun g h => (nomatch h), List.Pairwise.nil, List.Pairwise.nil, [], rfl, hNS⟩, fun g h => (nomatch h), News.sub N' ?_⟩
    rw [hled]
    iterate 8 refine fa_cons (by walk_at "mem") ?_
    walk_at "r tails"
  case fin =>
    intro sx h2 hJ hx
    obtain ⟨h, tk, m, it, sn, rfl, hi, hk, γ, oS, oN, c1, c2, ⟨gT, gB, gX, gP, gD⟩, F, M, H, ho, N⟩ := (hJ1 _ _).mp hJ
    have hI : γ.get? I' = none := (N _ (.head _)).2.2
    have F2 : Fr γ L4 h2 m := ⟨F.ns.at' fun o e => hx _ o (Ne.symm (N _ (.head _)).2.1) e, fun b o e => hx b o (fun z => by rw [z, hI] at e; cases e) (F.keep b o e), F.above⟩
    have lI2 : ∀ q ∈ (D, oD) :: led, q.1 < I' := by
      rw [hled]
      iterate 3 refine fa_cons (lI _ (by walk_at "mem")) ?_
      refine fun q hq => lI q ?_
      revert q
      walk_at "r tails"
    have N2 : News γ L4 h2 ((D, oD) :: led) := fun q hq => by
      have z := N q (.tail _ (.tail _ (.tail _ (.tail _ (.tail _ hq)))))
      exact ⟨hx _ _ (Nat.ne_of_lt (lI2 q hq)) z.1, z.2⟩
    rw [M.eq] at F2
    try dsimp only
    k_steps
    rename_i kg kT kF kN kB kX0 kP kD kX
    refine hret _ _ _ _ kg ⟨rfl, rfl⟩ kT kF (News.sub kN ?_) kB kX0 kP kD
    rw [hled]
    iterate 3 refine fa_cons (by walk_at "mem") ?_
    walk_at "r tails"
  case turn =>
    intro i sx x v t hp it2 hJ hx hit2 hk2 hsb
    obtain ⟨h, tk, m, it, sn, rfl, hi, hk, γ, oS, oN, c1, c2, ⟨gT, gB, gX, gP, gD⟩, F, M, H, ho, N⟩ := (hJ1 _ _).mp hJ
    clear hJ
    have hi2 : i + 1 ≤ (ndKvs ns).length := (List.getElem?_eq_some_iff.mp hx).1
    have hxn : x ∈ ns.map Nd.p := by
      have z := List.mem_map_of_mem (f := Prod.fst) (List.mem_of_getElem? hx)
      unfold ndKvs at z
      rw [List.map_map] at z
      exact z
    have lL : ∀ q ∈ led, q.1 < SK := by
      rw [hled]
      exact fa_cons lSK.1 (fa_cons lSK.2.1 (AllLt.at lSK.2.2.2))
    have hIL := (N _ (.head _)).2
    have n0 : ∀ p ∈ (SK, listOf #[] c1) :: (IT, listOf #[] c2) :: (SN, oS) :: (NS, oN) :: (D, oD) :: led, @LT.lt Nat _ p.1 I' := by
      rw [hled]
      refine fa_cons (lI (SK, listOf #[] 0) (by walk_at "mem")) (fa_cons (lI (IT, listOf #[] 0) (by walk_at "mem")) (fa_cons (lI (SN, { cls := Value.type "set", data := Data.set #[] 0 (SetTable.fresh 0 0 led1) }) (by walk_at "mem")) (fa_cons (lI (NS, oN0) (by walk_at "mem")) (fa_cons (lI (D, oD) (by walk_at "mem")) (fa_cons (lI (S, instObj 153 dx) (by walk_at "mem")) (fa_cons (lI (dx, sorterD w t1 t2 t3 t4 (.ref D) rd np u3 nf u4 4) (by walk_at "mem")) ?_))))))
      refine fun q hq => lI q ?_
      revert q
      walk_at "r tails"
    have n1 : ∀ p ∈ (SK, listOf #[] c1) :: (IT, listOf #[] c2) :: (SN, oS) :: (NS, oN) :: (D, oD) :: led, p.1 ≠ I' := fun p hp => by
      exact Nat.ne_of_lt (n0 p hp)
    have N1 : News γ L4 hp ((I', it2) :: (SK, listOf #[] c1) :: (IT, listOf #[] c2) :: (SN, oS) :: (NS, oN) :: (D, oD) :: led) := News.setIn (own := []) (h := h) N (fun p hp => nomatch hp) n1 hsb hit2
    have F1 := F.change hsb hIL.1 hIL.2
    obtain ⟨K, hK, hSo⟩ := H.set
    have hKx := hK x
    have hsl := H.sn_len X1
    have hnl := X1.len
    have hs64 : sn.length ≤ 64 := Nat.le_trans hsl X1.len
    rw [M.eq] at F1
    have q1 : @LT.lt Nat _ SK I' := lI (SK, listOf #[] 0) (by walk_at "mem")
    have q2 : @LT.lt Nat _ IT I' := lI (IT, listOf #[] 0) (by walk_at "mem")
    have q3 : @LT.lt Nat _ SN I' := lI (SN, { cls := Value.type "set", data := Data.set #[] 0 (SetTable.fresh 0 0 led1) }) (by walk_at "mem")
    have q4 : @LT.lt Nat _ NS I' := lI (NS, oN0) (by walk_at "mem")
    have q5 : @LT.lt Nat _ SK IT := lIT.1
    have q6 : @LT.lt Nat _ IT SN := lSN.1
    have q7 : @LT.lt Nat _ SN NS := lNS.1
    have q8 : @LT.lt Nat _ D SK := lSK.2.2.1
    have q9 := Nat.lt_trans q8 q5
    have q10 := Nat.lt_trans q9 q6
    have q11 := Nat.lt_trans q10 q7
    have q12 := Nat.lt_trans q5 q6
    have q13 := Nat.lt_trans q12 q7
    have q14 := Nat.lt_trans q6 q7
    have q15 := Nat.lt_trans q8 q1
    obtain ⟨y1, y2, y3, y4⟩ := cyc_ne (fs := []) N1 H.clsS H.clsN lL q5 q6 q7
    rw [show fsLed [] ++ led = led from rfl] at y1 y2 y3 y4
    clear F N lI hret
    by_cases hxs : x ∈ sn
    · rw [decide_eq_true hxs] at hKx
      k_steps
      exact (hJ1 _ _).mpr ⟨_, _, _, it2, sn, rfl, hi2, hk2, γ, oS, oN, c1, c2, ⟨gT, gB, gX, gP, gD⟩, by k_asm, ⟨by with_unfolding_all rfl, by with_unfolding_all rfl, by with_unfolding_all rfl, by with_unfolding_all rfl, by with_unfolding_all rfl⟩, H, fun g h => (nomatch h), by assumption⟩
    · rw [decide_eq_false hxs] at hKx
      k_steps
      refine Stop.out ?_
      refine whl_start 0 ?_
      obtain ⟨J2, hJ2⟩ : ∃ J : Nat → Shared → Prop, ∀ a sx, J a sx ↔ CJ2 w gr ns L4 I' SK IT SN NS D it2 oD led s a sx := ⟨_, fun _ _ => Iff.rfl⟩
      refine whl_ind Nat.lt_wfRel.wf (Inv := J2) (by passes_own) ?turn2 0 ((ns.length - sn.length) * 5000 + fsRem []) _ ?init2
      case init2 =>
        exact (hJ2 _ _).mpr ⟨_, _, _, [], sn, x, t, rfl, rfl, ⟨γ, oS, oN, c1, c2, ⟨gT, gB, gX, gP, gD⟩, by k_asm, ⟨by with_unfolding_all rfl, by with_unfolding_all rfl, by with_unfolding_all rfl, by with_unfolding_all rfl, by with_unfolding_all rfl⟩, H, fun g h => (nomatch h), by assumption⟩, by with_unfolding_all rfl, hxn, fun g h => (nomatch h)⟩
      case turn2 =>
        try clear y1; try clear y2; try clear y3; try clear y4; try clear N1; try clear F1; try clear gT; try clear gB; try clear gX; try clear gP; try clear gD; try clear hxs; try clear hKx; try clear hSo; try clear hK; try clear hsl; try clear hs64; try clear n1; try clear hIL; try clear hsb
        intro a1 s1 hJ
        obtain ⟨h, tk, m, fs, sn, x, t, rfl, rfl, ⟨γ, oS, oN, c1, c2, ⟨gT, gB, gX, gP, gD⟩, F, M, H, ho, N⟩, hm, hxn, hlong⟩ := (hJ2 _ _).mp hJ
        clear hJ
        obtain ⟨K, hK, hSo⟩ := H.set
        obtain ⟨kv, hkv, hNo⟩ := H.map
        have hsl := H.sn_len X1
        have hs64 : sn.length ≤ 64 := Nat.le_trans hsl X1.len
        have hfl := H.fs_len X1
        have hkl : kv.length ≤ 64 := len_kv hkv hfl
        have zs : (fsStr fs).length ≤ 65 := len65 hfl
        have zr : (fsRef fs).length ≤ 65 := len65 hfl
        obtain ⟨y1, y2, y3, y4⟩ := cyc_ne N H.clsS H.clsN lL q5 q6 q7
        obtain ⟨nd, hnd, rfl⟩ := List.mem_map.mp hxn
        have hat := ndKvs_of X1.nodup hnd
        have hni : (nd.i, infoObj nd.d nd.p nd.t (f nd.p).1 (f nd.p).2 nd.l) ∈ led := by
          rw [hled, ← htail]
          exact .tail _ (.tail _ (List.mem_append_left _ (ndsLed_mem.mpr ⟨nd, hnd, Nd.led_mem.mpr (.inl rfl)⟩)))
        have hnl : (nd.l, sList nd.kids nd.c) ∈ led := by
          rw [hled, ← htail]
          exact .tail _ (.tail _ (List.mem_append_left _ (ndsLed_mem.mpr ⟨nd, hnd, Nd.led_mem.mpr (.inr (.inr rfl))⟩)))
        have hndd : (nd.d, dictOf [] 0) ∈ led := by
          rw [hled, ← htail]
          exact .tail _ (.tail _ (List.mem_append_left _ (ndsLed_mem.mpr ⟨nd, hnd, Nd.led_mem.mpr (.inr (.inl rfl))⟩)))
        have z3 : @LT.lt Nat _ nd.d SK := lL _ hndd
        have z1 : @LT.lt Nat _ nd.i SK := lL _ hni
        have z2 : @LT.lt Nat _ nd.l SK := lL _ hnl
        have zd1 := Nat.lt_trans z3 q5
        have zd2 := Nat.lt_trans zd1 q6
        have zd3 := Nat.lt_trans zd2 q7
        have zd4 := Nat.lt_trans z3 q1
        have zi1 := Nat.lt_trans z1 q5
        have zi2 := Nat.lt_trans zi1 q6
        have zi3 := Nat.lt_trans zi2 q7
        have zi4 := Nat.lt_trans z1 q1
        have zl1 := Nat.lt_trans z2 q5
        have zl2 := Nat.lt_trans zl1 q6
        have zl3 := Nat.lt_trans zl2 q7
        have zl4 := Nat.lt_trans z2 q1
        have hbx := Dfs.miss (w := w) (ns := ns) (sn := sn) (oS := oS) (oN := oN) hkv hlong
        obtain ⟨tl, htl⟩ : ∃ l : List (Addr × Obj), l = fsLed fs ++ led := ⟨_, rfl⟩
        have N1 : News γ L4 h ((I', it2) :: (SK, listOf (fsStr fs).toArray c1) :: (IT, listOf (fsRef fs).toArray c2) :: (SN, oS) :: (NS, oN) :: (D, oD) :: (nd.i, infoObj nd.d nd.p nd.t (f nd.p).1 (f nd.p).2 nd.l) :: (nd.d, dictOf [] 0) :: (nd.l, sList nd.kids nd.c) :: tl) := by
          have N0 : News γ L4 h ((I', it2) :: (SK, listOf (fsStr fs).toArray c1) :: (IT, listOf (fsRef fs).toArray c2) :: (SN, oS) :: (NS, oN) :: (D, oD) :: tl) := by rw [htl]; exact N
          refine News.sub N0 ?_
          iterate 6 refine fa_cons (by walk_at "mem") ?_
          refine fa_cons (.tail _ (.tail _ (.tail _ (.tail _ (.tail _ (.tail _ (htl ▸ List.mem_append_right _ hni))))))) (fa_cons (.tail _ (.tail _ (.tail _ (.tail _ (.tail _ (.tail _ (htl ▸ List.mem_append_right _ hndd))))))) (fa_cons (.tail _ (.tail _ (.tail _ (.tail _ (.tail _ (.tail _ (htl ▸ List.mem_append_right _ hnl))))))) ?_))
          walk_at "r tails"
        rw [← htl] at y1 y2 y3 y4
        rw [M.eq, m_eq hm] at F
        have hKx := hK nd.p
        clear N
        k_steps
        refine Stop.out ?_
        obtain ⟨J3, hJ3⟩ : ∃ J : Flow → Shared → Prop, ∀ fl s', J fl s' ↔ CJ3 w gr ns L4 I' SK IT SN NS D it2 oD led s fs sn fl s' := ⟨_, fun _ _ => Iff.rfl⟩
        refine wpAny_mono (Q := J3) ?ifp ?rst (fun _ _ e => e)
        case ifp =>
          refine wpAny_If ?_
          by_cases hxs : nd.p ∈ sn
          · rw [decide_eq_true hxs] at hKx
            k_steps
            exact (hJ3 _ _).mpr ⟨_, _, fs, sn, _, rfl, rfl, ⟨γ, oS, oN, c1, c2, ⟨gT, gB, gX, gP, gD⟩, by k_asm, ⟨by with_unfolding_all rfl, by with_unfolding_all rfl, by with_unfolding_all rfl, by with_unfolding_all rfl, by with_unfolding_all rfl⟩, H, ho, News.sub N1 (by
              show ∀ q ∈ _ :: _ :: _ :: _ :: _ :: _ :: (fsLed fs ++ led), _
              rw [← htl]
              iterate 6 refine fa_cons (by walk_at "mem") ?_
              walk_at "r tails")⟩, Nat.le_of_eq (Nat.add_comm _ _)⟩
          · rw [decide_eq_false hxs] at hKx
            k_steps
            have hit : ∀ q ∈ fs, q.it ≠ iI := fun q hq => Nat.ne_of_lt (lJ (q.it, itAt q.nd.l q.i) (List.mem_append_right [_, _, _, _, _, _, _, _, _] (htl ▸ List.mem_append_left _ (fsLed_it hq))))
            have H2 := Dfs.push (g := ⟨nd, t, qI, iI, 0⟩) H hnd hit hlong hxs hK hS' hkv hN'
            have hsl2 := H2.sn_len X1
            have hkn := X1.klen nd hnd
            rename News γ L4 _ _ => N9
            refine (hJ3 _ _).mpr ⟨_, _, fs ++ [⟨nd, t, qI, iI, 0⟩], nd.p :: sn, _, rfl, rfl, ⟨γ, oS', oN', c1 + 1, c2 + 1, ⟨gT, gB, gX, gP, gD⟩, by k_asm, ⟨by with_unfolding_all rfl, by with_unfolding_all rfl, by with_unfolding_all rfl, by with_unfolding_all rfl, by with_unfolding_all rfl⟩, H2, fun g hg q hq => ?_, News.sub N9 ?_⟩, ?_⟩
            · rcases List.mem_append.mp hg with hg | hg
              · exact ho g hg q hq
              · rw [List.mem_singleton.mp hg]
                exact Nat.ne_of_lt (lJ q (List.mem_append_right [_, _, _, _, _, _, _, _, _] (htl ▸ List.mem_append_right _ hq)))
            · show ∀ q ∈ _ :: _ :: _ :: _ :: _ :: _ :: (fsLed (fs ++ [_]) ++ led), _
              rw [fsStr_append, fsRef_append, fsLed_append]
              iterate 6 refine fa_cons (by walk_at "mem") ?_
              refine fa_mid htl (fa_cons (by walk_at "mem") (fa_cons (by walk_at "mem") fun _ h => nomatch h)) ?_
              walk_at "r tails"
            · rw [fsRem_append]
              refine om_rem rfl hsl2 ?_ _
              show nd.kids.length - 0 + 0 ≤ 4999
              exact Nat.le_trans hkn (by decide)
        case rst =>
          try clear y1 y2 y3 y4
          intro fl s1 hJ
          obtain ⟨h, tk, fs2, sn2, m, rfl, rfl, ⟨γ, oS, oN, c1, c2, ⟨gT, gB, gX, gP, gD⟩, F, M, H, ho, N⟩, hle⟩ := (hJ3 _ _).mp hJ
          clear hJ hJ3
          rw [M.eq] at F
          unfold cycLed at N
          skip
          k_steps
          refine Stop.out ?_
          refine whl_start 0 ?_
          obtain ⟨J4, hJ4⟩ : ∃ J : Nat → Shared → Prop, ∀ a sx, J a sx ↔ CJ4 w gr ns L4 I' SK IT SN NS D it2 oD led s fs2 sn2 a sx := ⟨_, fun _ _ => Iff.rfl⟩
          refine whl_ind Nat.lt_wfRel.wf (Inv := J4) (by passes_own) ?turn3 0 fs2.length _ ?init3
          case init3 =>
            exact (hJ4 _ _).mpr ⟨_, _, fs2, _, rfl, rfl, ⟨γ, oS, oN, c1, c2, ⟨gT, gB, gX, gP, gD⟩, by k_asm, ⟨by with_unfolding_all rfl, by with_unfolding_all rfl, by with_unfolding_all rfl, by with_unfolding_all rfl, by with_unfolding_all rfl⟩, H, ho, by assumption⟩, Nat.le_refl _⟩
          case turn3 =>
            try clear F N H M ho
            intro a2 s2 hJ
            obtain ⟨h, tk, fs, m, rfl, rfl, ⟨γ, oS, oN, c1, c2, ⟨gT, gB, gX, gP, gD⟩, F, M, H, ho, N⟩, hrem⟩ := (hJ4 _ _).mp hJ
            clear hJ
            rw [M.eq] at F
            have hkc := hk2.1
            rcases List.eq_nil_or_concat fs with rfl | ⟨fs', g, hfs⟩
            · have N1 : News γ L4 h ((I', it2) :: (SK, listOf #[] c1) :: (IT, listOf #[] c2) :: (SN, oS) :: (NS, oN) :: (D, oD) :: led) := N
              clear N
              k_steps
              try unfold WhlJ
              try dsimp only
              refine wpAny_execs_nil ?_
              try dsimp only
              exact (hJ1 _ _).mpr ⟨_, _, _, it2, sn2, rfl, hi2, hk2, γ, oS, oN, c1, c2, ⟨gT, gB, gX, gP, gD⟩, by k_asm, ⟨by with_unfolding_all rfl, by with_unfolding_all rfl, by with_unfolding_all rfl, by with_unfolding_all rfl, by with_unfolding_all rfl⟩, H, fun g h => (nomatch h), by assumption⟩
            · rw [List.concat_eq_append] at hfs
              subst hfs
              have hfl := H.fs_len X1
              rw [List.length_append] at hfl
              have hfl' : fs'.length ≤ 64 := Nat.le_trans (Nat.le_add_right _ _) hfl
              have zs : (fsStr fs').length ≤ 65 := len65 hfl'
              have zr : (fsRef fs').length ≤ 65 := len65 hfl'
              obtain ⟨y1, y2, y3, y4⟩ := cyc_ne N H.clsS H.clsN lL q5 q6 q7
              have hgn := H.nds g (List.mem_append_right _ (.head _))
              have hnl : (g.nd.l, sList g.nd.kids g.nd.c) ∈ led := by
                rw [hled, ← htail]
                exact .tail _ (.tail _ (List.mem_append_left _ (ndsLed_mem.mpr ⟨g.nd, hgn, Nd.led_mem.mpr (.inr (.inr rfl))⟩)))
              have z2 : @LT.lt Nat _ g.nd.l SK := lL _ hnl
              have zl1 := Nat.lt_trans z2 q5
              have zl2 := Nat.lt_trans zl1 q6
              have zl3 := Nat.lt_trans zl2 q7
              have zl4 := Nat.lt_trans z2 q1
              obtain ⟨tl, htl⟩ : ∃ l : List (Addr × Obj), l = fsLed fs' ++ led := ⟨_, rfl⟩
              have hsub : ∀ q ∈ tl, q ∈ fsLed (fs' ++ [g]) ++ led := fun q hq => by
                rw [htl] at hq
                rw [fsLed_append]
                rcases List.mem_append.mp hq with hq | hq
                · exact List.mem_append_left _ (List.mem_append_left _ hq)
                · exact List.mem_append_right _ hq
              have x1 : ∀ q ∈ tl, q.1 ≠ SK := fun q hq => y1 q (hsub q hq)
              have x2 : ∀ q ∈ tl, q.1 ≠ IT := fun q hq => y2 q (hsub q hq)
              have x3 : ∀ q ∈ tl, q.1 ≠ SN := fun q hq => y3 q (hsub q hq)
              have x4 : ∀ q ∈ tl, q.1 ≠ NS := fun q hq => y4 q (hsub q hq)
              have hgb : (g.b, mwObj g.it) ∈ fsLed (fs' ++ [g]) ++ led := by rw [fsLed_append]; exact List.mem_append_left _ (List.mem_append_right _ (.head _))
              have hgi : (g.it, itAt g.nd.l g.i) ∈ fsLed (fs' ++ [g]) ++ led := by rw [fsLed_append]; exact List.mem_append_left _ (List.mem_append_right _ (.tail _ (.head _)))
              have up : ∀ q ∈ fsLed (fs' ++ [g]) ++ led, q ∈ cycLed I' SK IT SN NS D it2 oS oN oD c1 c2 (fs' ++ [g]) led := fun q hq => .tail _ (.tail _ (.tail _ (.tail _ (.tail _ (.tail _ hq)))))
              have v1 : @Ne Nat g.b SK := y1 _ hgb
              have v2 : @Ne Nat g.b IT := y2 _ hgb
              have v3 : @Ne Nat g.b NS := y4 _ hgb
              have v4 : @Ne Nat g.it SK := y1 _ hgi
              have v5 : @Ne Nat g.it IT := y2 _ hgi
              have v6 : @Ne Nat g.it SN := y3 _ hgi
              have v7 : @Ne Nat g.it NS := y4 _ hgi
              have v8 : @Ne Nat g.b g.it := ne_cls N (up _ hgb) (up _ hgi) (typ_ne (by decide))
              have v9 : @Ne Nat I' g.it := ne_cls N (.head _) (up _ hgi) (by rw [hkc]; exact typ_ne (by decide))
              have v10 : @Ne Nat D g.it := ne_cls N (.tail _ (.tail _ (.tail _ (.tail _ (.tail _ (.head _)))))) (up _ hgi) (dict_ne hD (typ_ne (by decide)))
              have v11 : @Ne Nat g.nd.l g.it := ne_cls N (up _ (List.mem_append_right _ hnl)) (up _ hgi) (typ_ne (by decide))
              have hT : ∀ q ∈ tl, q.1 ≠ g.it := fun q hq => by
                rw [htl] at hq
                rcases List.mem_append.mp hq with hq | hq
                · obtain ⟨k, hk, e | e⟩ := fsLed_mem fs' hq
                  · exact ne_cls N (up _ (hsub q (htl ▸ List.mem_append_left _ hq))) (up _ hgi) (by rw [e]; exact typ_ne (by decide))
                  · rw [e]; exact (List.pairwise_append.mp H.its).2.2 k hk g (.head _)
                · exact ho g (List.mem_append_right _ (.head _)) q hq
              have N1 : News γ L4 h ((g.b, mwObj g.it) :: (g.it, itAt g.nd.l g.i) :: (I', it2) :: (SK, listOf (fsStr fs' ++ [Value.str g.nd.p g.t]).toArray c1) :: (IT, listOf (fsRef fs' ++ [Value.ref g.b]).toArray c2) :: (SN, oS) :: (NS, oN) :: (D, oD) :: (g.nd.l, sList g.nd.kids g.nd.c) :: tl) := News.sub N (fa_cons (up _ hgb) (fa_cons (up _ hgi) (fa_cons (.head _) (fa_cons (by rw [← show fsStr (fs' ++ [g]) = fsStr fs' ++ [Value.str g.nd.p g.t] from fsStr_append]; exact .tail _ (.head _)) (fa_cons (by rw [← show fsRef (fs' ++ [g]) = fsRef fs' ++ [Value.ref g.b] from fsRef_append]; exact .tail _ (.tail _ (.head _))) (fa_cons (.tail _ (.tail _ (.tail _ (.head _)))) (fa_cons (.tail _ (.tail _ (.tail _ (.tail _ (.head _))))) (fa_cons (.tail _ (.tail _ (.tail _ (.tail _ (.tail _ (.head _)))))) (fa_cons (up _ (List.mem_append_right _ hnl)) fun q hq => up _ (hsub q hq))))))))))
              obtain ⟨kv, hkv, hNo⟩ := H.map
              have hkl : kv.length ≤ 64 := len_kv hkv (by rw [List.length_append]; exact hfl)
              have hhas : (valueAt kv g.nd.p).isSome = true := valueAt_hit (by rw [hkv]; exact List.mem_map_of_mem (f := fun g : Fq => g.nd.p) (List.mem_append_right _ (.head _)))
              clear N
              by_cases hgl : g.i < g.nd.kids.length
              · have hr : g.nd.kids[g.i]? = some g.nd.kids[g.i] := List.getElem?_eq_getElem hgl
                have hx : (strValues g.nd.kids)[g.i]? = some (.str g.nd.kids[g.i].1 g.nd.kids[g.i].2) := by unfold strValues; rw [List.getElem?_map, hr]; rfl
                k_steps
                rename News γ L4 _ _ => N9
                try dsimp only
                try unfold WhlJ
                try dsimp only
                refine wpAny_execs_nil ?_
                try dsimp only
                refine ⟨(ns.length - sn2.length) * 5000 + fsRem (fs' ++ [{ g with i := g.i + 1 }]), ?_, (hJ2 _ _).mpr ⟨_, _, _, fs' ++ [{ g with i := g.i + 1 }], sn2, g.nd.kids[g.i].1, g.nd.kids[g.i].2, rfl, rfl, ⟨γ, oS, oN, c1, c2, ⟨gT, gB, gX, gP, gD⟩, by k_asm, ⟨by with_unfolding_all rfl, by with_unfolding_all rfl, by with_unfolding_all rfl, by with_unfolding_all rfl, by with_unfolding_all rfl⟩, H.step, fun k hk q hq => ?_, News.sub N9 ?_⟩, by with_unfolding_all rfl, X1.kin g.nd hgn _ (List.getElem_mem hgl), fun k hk => ?_⟩⟩
                · refine Nat.lt_of_lt_of_le ?_ hle
                  rw [fsRem_append] at hrem ⊢
                  exact om_step hrem (Nat.sub_succ_lt_self _ _ hgl)
                · rcases List.mem_append.mp hk with hk | hk
                  · exact ho k (List.mem_append_left _ hk) q hq
                  · rw [List.mem_singleton.mp hk]
                    exact ho g (List.mem_append_right _ (.head _)) q hq
                · show ∀ q ∈ _ :: _ :: _ :: _ :: _ :: _ :: (fsLed (fs' ++ [_]) ++ led), _
                  rw [fsStr_append, fsRef_append, fsLed_append]
                  iterate 6 refine fa_cons (by walk_at "mem") ?_
                  refine fa_mid htl (fa_cons (by walk_at "mem") (fa_cons (by walk_at "mem") fun _ h => nomatch h)) ?_
                  walk_at "r tails"
                · have z := X1.up g.nd hgn _ (List.getElem_mem hgl)
                  rcases List.mem_append.mp hk with hk | hk
                  · exact Nat.lt_trans ((List.pairwise_append.mp H.long).2.2 k hk g (.head _)) z
                  · rw [List.mem_singleton.mp hk]
                    exact z
              · have hx : (strValues g.nd.kids)[g.i]? = none := by unfold strValues; rw [List.getElem?_map, List.getElem?_eq_none (by omega)]; rfl
                k_steps
                rename_i g9 T9 F9 N9 K9 X9 P9 D9 h8 F8 N8 h7 F7 N7
                try unfold WhlJ
                exact ⟨fs'.length, by rw [List.length_append]; exact Nat.lt_succ_self _, (hJ4 _ _).mpr ⟨_, _, fs', _, rfl, rfl, ⟨g9, oS, oN', c1 + 1, c2 + 1, ⟨T9, K9, X9, P9, D9⟩, by k_asm, ⟨by with_unfolding_all rfl, by with_unfolding_all rfl, by with_unfolding_all rfl, by with_unfolding_all rfl, by with_unfolding_all rfl⟩, H.pop hkv hN', fun k hk => ho k (List.mem_append_left _ hk), News.sub N' (by
                  show ∀ q ∈ _ :: _ :: _ :: _ :: _ :: _ :: (fsLed fs' ++ led), _
                  rw [← htl]
                  iterate 6 refine fa_cons (by walk_at "mem") ?_
                  walk_at "r tails")⟩, by rw [fsRem_append] at hrem; exact Nat.le_trans (Nat.le_add_right _ _) hrem⟩⟩
end Mine
end

section
open PySem PySem.W PySem.W.X PyProof.Rows PySem.Calls PyProof.V PySem.Spec
set_option Elab.async false
set_option maxRecDepth 100000
set_option maxHeartbeats 0
set_option linter.unusedVariables false
namespace Mine
open PyProof.Rows.LCg PyProof.Rows.LCt
theorem lnW12 : True := by
  k_with_none
  k_with "zf" => (first | (k_here; k_fold; refine letA ?_; intro aX; (with_reducible rename Fr _ _ _ _ => kF); refine letM kF ?_; clear kF; intro mX kF) | (k_here; k_fold; refine letA ?_; intro aX) | (k_here; k_fold) | (k_here; with_reducible first | refine genT1 fun tk => ?_ | refine genT2 fun tk => ?_) | fail)
  k_with "execs cons" => (first | walk_at "zf" | fail)
  k_with "execs" => (first | walk_at "zf" | fail)
  k_with "execs nil" => (first | (k_here; with_reducible first | refine genT1 fun tk => ?_ | refine genT2 fun tk => ?_) | fail)
  k_with "k_ne" => (first | (refine neN ?_; first | (with_reducible first | assumption | exact Ne.symm (by assumption) | exact ca0 (by assumption) | exact cb0 (by assumption) | exact cc0 (by assumption) | exact cd0 (by assumption) | exact ca1 (by assumption) | exact cb1 (by assumption) | exact cc1 (by assumption) | exact cd1 (by assumption) | exact ca2 (by assumption) | exact cb2 (by assumption) | exact cc2 (by assumption) | exact cd2 (by assumption) | exact ca3 (by assumption) | exact cb3 (by assumption) | exact cc3 (by assumption) | exact cd3 (by assumption) | exact ca4 (by assumption) | exact cb4 (by assumption) | exact cc4 (by assumption) | exact cd4 (by assumption) | exact ca5 (by assumption) | exact cb5 (by assumption) | exact cc5 (by assumption) | exact cd5 (by assumption) | exact ca6 (by assumption) | exact cb6 (by assumption) | exact cc6 (by assumption) | exact cd6 (by assumption) | exact ca7 (by assumption) | exact cb7 (by assumption) | exact cc7 (by assumption) | exact cd7 (by assumption) | exact ca8 (by assumption) | exact cb8 (by assumption) | exact cc8 (by assumption) | exact cd8 (by assumption) | exact ca9 (by assumption) | exact cb9 (by assumption) | exact cc9 (by assumption) | exact cd9 (by assumption) | exact ca10 (by assumption) | exact cb10 (by assumption) | exact cc10 (by assumption) | exact cd10 (by assumption) | exact ca11 (by assumption) | exact cb11 (by assumption) | exact cc11 (by assumption) | exact cd11 (by assumption)) | (refine Nat.ne_of_lt (ltm (o := _) (by with_reducible assumption) ?_); k_mem; done) | (refine Nat.ne_of_gt (ltm (o := _) (by with_reducible assumption) ?_); k_mem; done) | ((try dsimp only); omega)) | fail)
  k_with "r tails" => first | (intro p hp; (repeat (first | exact hp | refine List.mem_cons_of_mem _ ?_)); done) | fail
  k_with "k_all" => first | with_reducible assumption | (refine' ne_tail ?la ?sa; (case la => with_reducible assumption); (case sa => walk_at "r tails")) | (refine' ne_tail2 ?ha ?la ?sa; (case ha => with_reducible assumption); (case la => with_reducible assumption); (case sa => walk_at "r tails")) | fail
  k_with "eval ListComp" => first | (k_here; refine Stop.go ?_) | fail
  k_with "call ref" => first | (k_here; (with_reducible show wpAny _ _ (call (Value.ref 143) _) _ _ _); refine Stop.go ?_) | fail
  trivial
theorem CS.use {dp un : Nat} {w : World} {mean : ExcName → Option Value} {mg mb : Str → Option Value} {f : Addr} {led : List (Addr × Obj)} {vs : List Value} {Rel : Value → List (Addr × Obj) → Prop}
    (c : CS dp un w mean mg mb f led vs Rel) {A A₀ : Around} {cn : Str} {nm : List (Str × NameKind)} {ig ic : Bool} {mo : List (Str × Const)} {a : Addr} {ccd : Value} {outer : List Env} {base g₀ h₀ : Heap} {L : Addr} {m : Str → Option Value} {s : Shared} {Q E : Value → Shared → Prop}
    (B : Below A₀ base outer h₀) (F : Fr h₀ L s.heap m) (X : (frag w.params).In h₀) (N : News h₀ L s.heap led) (T : Top topProg LO mean mg mb h₀) (XB : (frag w.params).In base) (TB : Top topProg LO mean mg mb base) (D : KtsDicts (outer.filterMap (·.frame)) h₀) (K : KtsTurn (outer.filterMap (·.frame)) g₀ h₀) (hh : A.handled = none)
    (hf : A.frames = some (envX cn { kind := .function, names := nm, isGenerator := ig, isCoroutine := ic, more := mo } L a ccd [] :: outer)) (hd' : Nat.ble A.depth dp = true) (hu : Nat.ble A.units un = true)
    (r : ∀ v led' h' tk' h₀', Rel v led' → KtsTurn (outer.filterMap (·.frame)) g₀ h₀' → Fr h₀' L h' m → News h₀' L h' led' → Below A₀ base outer h₀' → (frag w.params).In h₀' → Top topProg LO mean mg mb h₀' → KtsDicts (outer.filterMap (·.frame)) h₀' → Q v { s with heap := h', toks := tk' }) : wpAny (model PySem.Challenge.rw_in0152_01.row.prog w) A (call (.ref f) vs) Q E s := by
  refine weaken (d := dp) (u := un) ?_ hd' hu
  have e : ({ A with depth := dp, units := un } : Around) = ktrTop dp un A.guards cn { kind := .function, names := nm, isGenerator := ig, isCoroutine := ic, more := mo } L a ccd [] outer := by
    obtain ⟨x1, x2, x3, x4, x5⟩ := A
    dsimp only at hh hf ⊢
    rw [hh, hf]
  rw [e]
  exact c _ _ _ _ _ _ _ _ _ _ _ _ _ _ _ _ _ _ B F X N T XB TB D K r
noncomputable def rootsOf (f : NpF) (ns : List Nd) : List (Str × Tok) := (ns.filter fun n => decide ((f n.p).1 = 0)).map fun n => (n.p, n.t)
theorem roots_succ {f : NpF} {ns : List Nd} {i : Nat} {nd : Nd} (h : ns[i]? = some nd) : rootsOf f (ns.take (i + 1)) = rootsOf f (ns.take i) ++ (if (f nd.p).1 = 0 then [(nd.p, nd.t)] else []) := by
  unfold rootsOf
  rw [List.take_add_one, h]
  show List.map _ (List.filter _ (ns.take i ++ [nd])) = _
  rw [List.filter_append, List.map_append]
  by_cases e : (f nd.p).1 = 0
  · rw [if_pos e, List.filter_cons_of_pos (p := fun n : Nd => decide ((f n.p).1 = 0)) (decide_eq_true e)]
    rfl
  · rw [if_neg e, List.filter_cons_of_neg (p := fun n : Nd => decide ((f n.p).1 = 0)) (by rw [decide_eq_false e]; exact Bool.false_ne_true)]
    rfl
theorem sv_append {a b : List (Str × Tok)} : strValues (a ++ b) = strValues a ++ strValues b := List.map_append
theorem Off1.mem {D : Addr} : ∀ {l : List (Addr × Obj)}, Off1 D l → ∀ p ∈ l, p.1 ≠ D
  | [], _, _, h => nomatch h
  | _ :: _, x, p, h => by
    rcases List.mem_cons.mp h with rfl | h
    · exact x.1
    · exact Off1.mem x.2 p h
theorem prep_c (w : World) (mean : ExcName → Option Value) (mg mb : Str → Option Value) (S dx D : Addr) (t1 t2 t3 t4 u3 u4 : Tok) (oD : Obj) (ns : List Nd) (f : NpF) (rest : List (Addr × Obj))
   (X1 : Forest ns) (hD : oD.IsDictOf (PySem.strKind theProg w) (ndKvs ns)) (hlo : (D == sysModules) = false) (hSD : @Ne Nat S D) (hdD : @Ne Nat dx D) (hdn : ∀ q ∈ ndsLed f ns ++ rest, q.1 ≠ dx) :
  CS 750 7500 w mean mg mb 108 ((S, instObj 153 dx) :: (dx, sorterD w t1 t2 t3 t4 (.ref D) .none 0 u3 0 u4 4) :: (D, oD) :: (ndsLed f ns ++ rest)) [.ref S] (fun v l => ∃ R c, v = .none ∧ (∀ q ∈ ndsLed f ns ++ rest, q.1 ≠ R) ∧ l = (R, sList (rootsOf f ns) c) :: (S, instObj 153 dx) :: (dx, sorterD w t1 t2 t3 t4 (.ref D) (.ref R) 0 u3 0 u4 4) :: (D, oD) :: (ndsLed f ns ++ rest)) := by
  unfold CS
  k_fill
  intro gd cn nm ig ic mo a ccd outer A₀ base g₀ h₀ L m s Q E B F X N T XB TB DD TT hret
  generalize htail : ndsLed f ns ++ rest = tail at N hret hdn
  k_steps
  unfold Stop
  rename Fr _ _ _ _ => F9
  obtain ⟨m1, F8, hms⟩ : ∃ m1 : Str → Option Value, Fr _ _ _ m1 ∧ m1 kSelf = some (.ref S) := ⟨_, F9, by with_unfolding_all rfl⟩
  clear F9
  rw [m_eq hms] at F8
  refine ListComp_V (knd := PySem.strKind theProg w) F8 rfl (by decide) rfl (by decide) rfl ?_
  k_steps
  rename News _ _ _ _ => N7
  rename Fr _ _ _ _ => F7
  have hv := N7.get (.head _)
  refine ⟨_, D, oD, ndKvs ns, _, rfl, rfl, F7, News.sub N7 fun q hq => .tail _ hq, ⟨_, hv, rfl, rfl⟩, .tail _ (.tail _ (.head _)), hD, by rw [sizeLine_eq]; unfold ndKvs; rw [List.length_map]; have := X1.len; (first | lia | omega), fun g => ?_⟩
  have hkl : (ndKvs ns).length = ns.length := List.length_map ..
  rw [hkl]
  dsimp only
  refine compT_ind (J := fun i ys nw => nw = (S, instObj 153 dx) :: (dx, sorterD w t1 t2 t3 t4 (.ref D) .none 0 u3 0 u4 4) :: (D, oD) :: tail ∧ ys = strValues (rootsOf f (ns.take i))) ⟨rfl, rfl⟩ ?step ?fin
  case fin =>
    rintro ys nw ⟨rfl, rfl⟩ D1 h tk F N off
    rw [List.take_length] at N
    obtain ⟨o1, o2, o3, o4⟩ := off
    have hSx : @Ne Nat S dx := ne_cls N (.tail _ (.head _)) (.tail _ (.tail _ (.head _))) ref_typ
    have p1 : @Ne Nat D1 S := Ne.symm o1
    have p2 : @Ne Nat D1 dx := Ne.symm o2
    have p3 : @Ne Nat D1 D := Ne.symm o3
    clear F7 N7 F8 hv
    dsimp only
    k_steps
    unfold Stop
    rename News _ _ _ _ => N6
    show wpAny _ _ (call (.ref 143) [.ref S]) _ _ _
    refine CS.use (cyc_c w mean mg mb S dx D t1 t2 t3 t4 u3 u4 (.ref D1) 0 0 oD ns f ((D1, lst (strValues (rootsOf f ns))) :: rest) X1 hD hlo hSD hdD) (by k_asm) (by k_asm) (by k_asm) (News.sub N6 fun q hq => ?nsub) (by k_asm) XB TB (by k_asm) KtsTurn.refl rfl rfl rfl rfl ?rest
    case nsub =>
      rw [← htail]
      simp only [List.mem_cons, List.mem_append] at hq ⊢
      rcases hq with h | h | h | h | h | h <;> simp [h]
    case rest =>
      rintro v led' h9 tk9 g9 ⟨rfl, rfl⟩ T9 F9 N9 B9 X9 P9 D9
      dsimp only
      k_steps
      rename_i kg kT kF kN kB kX0 kP kD kX
      refine hret _ _ _ _ kg ⟨D1, (strValues (rootsOf f ns)).length, rfl, Off1.mem o4, rfl⟩ kT kF (News.sub kN fun q hq => ?_) kB kX0 kP kD
      rw [← htail] at hq
      simp only [List.mem_cons, List.mem_append] at hq ⊢
      rcases hq with h | h | h | h | h | h <;> simp [h]
  case step =>
    rintro i ys nw hi ⟨rfl, rfl⟩ v I oI C oC D1 m₂ h tk E' ⟨k, hk⟩ hC hx F N off ne
    obtain ⟨nd, hnd, rfl⟩ : ∃ nd, ns[i]? = some nd ∧ v = .ref nd.i := by
      unfold ndKvs at hk
      rw [List.getElem?_map, List.getElem?_eq_getElem hi] at hk
      exact ⟨ns[i], List.getElem?_eq_getElem hi, (congrArg Prod.snd (Option.some.inj hk)).symm⟩
    have hmem := List.mem_of_getElem? hnd
    have hni : (nd.i, infoObj nd.d nd.p nd.t (f nd.p).1 (f nd.p).2 nd.l) ∈ tail := htail ▸ List.mem_append_left _ (ndsLed_mem.mpr ⟨nd, hmem, Nd.led_mem.mpr (.inl rfl)⟩)
    have hndd : (nd.d, dictOf [] 0) ∈ tail := htail ▸ List.mem_append_left _ (ndsLed_mem.mpr ⟨nd, hmem, Nd.led_mem.mpr (.inr (.inl rfl))⟩)
    generalize hsd : sorterD w t1 t2 t3 t4 (.ref D) .none 0 u3 0 u4 4 = sd at N off
    generalize hys : strValues (rootsOf f (ns.take i)) = ys at N
    clear F7 N7 F8 hv
    have N1 : News _ _ h ((I, oI) :: (C, oC) :: (D1, lst ys) :: (nd.i, infoObj nd.d nd.p nd.t (f nd.p).1 (f nd.p).2 nd.l) :: (nd.d, dictOf [] 0) :: (S, instObj 153 dx) :: (dx, sd) :: (D, oD) :: tail) := News.sub N fun q hq => by
      simp only [List.mem_cons] at hq ⊢
      rcases hq with h | h | h | h | h | h
      · simp [h]
      · simp [h]
      · simp [h]
      · rw [h]; simp [hni]
      · rw [h]; simp [hndd]
      · simp [h]
    clear hret
    dsimp only
    k_steps
    · rename (f nd.p).1 = 0 => hz
      refine ⟨_, _, _, rfl, F, N, off, .tail _ (.tail _ (.head _)), rfl, ?_⟩
      rw [roots_succ hnd, if_pos hz, sv_append, hys]
      rfl
    · rename (f nd.p).1 ≠ 0 => hz
      refine ⟨_, _, _, rfl, F, N, off, .tail _ (.tail _ (.head _)), rfl, ?_⟩
      rw [roots_succ hnd, if_neg hz, List.append_nil]
      exact hys.symm
end Mine
end

section
open PySem PySem.W PySem.W.X PyProof.Rows PySem.Calls PyProof.V PySem.Spec
set_option Elab.async false
set_option maxRecDepth 100000
set_option maxHeartbeats 200000
set_option linter.unusedVariables false
namespace Mine
theorem lnW13a : True := by
  k_with_none
  trivial
open PyProof.Rows.LCg PyProof.Rows.LCt
section
variable {prog : Program} {w : World} {A : Around} {E : Value → Shared → Prop} {s : Shared} {h₀ : Heap} {L : Addr} {m : Str → Option Value} {env : Env}
theorem one_rest {c : Str} {p1 p2 p3 p4 : Pos} {k : Nat} {scope : Scope} {cl : List (Str × Addr)} {ax : Addr} {q : Str} {t : Tok} {news : List (Addr × Obj)} {Fin : List Value → List (Addr × Obj) → Prop} (hkind : scope.kind = .function) (hx : scope.names.lookup c = some .local) (hdb : (c == ("__debug__" : Str)) = false)
    {ys : List Value} (hm : SrcAt h₀ ax #[.str q t] news) (hy : (if q = Str.ofString "" then [] else [.str q t]) = ys) (h : Fin ys news) :
    CompRestT prog w A h₀ L m env (.Compare (.Name c p1) [.NotEq] [.Constant (.str (Str.ofString "")) k p3] p2) (.Name c p4) c scope cl s (SrcAt h₀ ax #[.str q t]) (fun i v => #[Value.str q t][i]? = some v) Fin 1 0 [] news := by
  refine CompRestT.succ fun v I oI C oC D m₂ h1 tk E' hP hC hxv F1 N1 off ne => ?_
  have hv : v = .str q t := (Option.some.inj hP).symm
  subst hv
  have hloc : (compEnvC scope cl C env).kindOf c = some .local := lookup_relabel_local hx
  refine wpAny_isTrue_Compare1 (LCgL.ld_own (s := { s with heap := h1, toks := tk }) N1 (.tail _ (.head _)) hC hxv ?_ hkind hloc hdb)
  refine Calls.Constant_str ?_
  refine ne_str ?_
  refine wpAny_truthy_bool ?_
  by_cases e : q = Str.ofString ""
  · rw [if_pos e] at hy
    subst hy
    subst e
    rw [if_neg (by simp)]
    exact CompEnd.intro F1 N1 news (fun p hp => hp) off hm h
  · rw [if_neg e] at hy
    subst hy
    rw [if_pos (by simpa using e)]
    refine LCgL.ld_own (s := { s with heap := h1, toks := _ }) N1 (.tail _ (.head _)) hC hxv ?_ hkind hloc hdb
    exact CompEnd.intro F1 N1 news (fun p hp => hp) off hm h
end
structure Paths (dr : Str → Str) (e0 : Str) (P : List Str) : Prop where
  nodup : P.Nodup
  len : P.length ≤ 21
  dir : ∀ i p, P[i]? = some p → dr p = e0 ∨ dr p ∈ P.take i
  sz : ∀ p ∈ P, p.length ≤ 1048576 ∧ p ≠ e0 ∧ (dr p).length < p.length
noncomputable def preds (dr : Str → Str) (e0 p : Str) : Int := if dr p = e0 then 0 else 1
noncomputable def adr : List Nd → List Addr
  | [] => []
  | n :: r => n.i :: n.d :: n.l :: adr r
theorem adr_append : ∀ {a b : List Nd}, adr (a ++ b) = adr a ++ adr b
  | [], _ => rfl
  | n :: a, b => by
    show n.i :: n.d :: n.l :: adr (a ++ b) = _
    rw [adr_append]
    rfl
theorem adr_led {f : NpF} {z : Addr × Obj} : ∀ (ns : List Nd), z ∈ ndsLed f ns → z.1 ∈ adr ns
  | [], h => nomatch h
  | n :: ns, h => by
    rcases List.mem_append.mp h with h | h
    · rcases Nd.led_mem.mp h with rfl | rfl | rfl
      · exact .head _
      · exact .tail _ (.head _)
      · exact .tail _ (.tail _ (.head _))
    · exact .tail _ (.tail _ (.tail _ (adr_led ns h)))
theorem adr_mem {f : NpF} {z : Addr} : ∀ (ns : List Nd), z ∈ adr ns → ∃ q ∈ ndsLed f ns, q.1 = z
  | [], h => nomatch h
  | n :: ns, h => by
    rcases List.mem_cons.mp h with rfl | h
    · exact ⟨_, List.mem_append_left _ (Nd.led_mem.mpr (.inl rfl)), rfl⟩
    rcases List.mem_cons.mp h with rfl | h
    · exact ⟨_, List.mem_append_left _ (Nd.led_mem.mpr (.inr (.inl rfl))), rfl⟩
    rcases List.mem_cons.mp h with rfl | h
    · exact ⟨_, List.mem_append_left _ (Nd.led_mem.mpr (.inr (.inr rfl))), rfl⟩
    obtain ⟨q, hq, e⟩ := adr_mem (f := f) ns h
    exact ⟨q, List.mem_append_right _ hq, e⟩
structure Built (dr : Str → Str) (e0 : Str) (P : List Str) (I : Addr) (i : Nat) (ns : List Nd) (f : NpF) : Prop where
  ps : ns.map Nd.p = P.take i
  kids : ∀ n ∈ ns, sFst n.kids = (P.take i).filter fun q => decide (dr q = n.p)
  np : ∀ n ∈ ns, (f n.p).1 = preds dr e0 n.p
  hi : ∀ z ∈ adr ns, @LT.lt Nat _ I z
  nd : (adr ns).Nodup
theorem Built.len {dr : Str → Str} {e0 : Str} {P : List Str} {I : Addr} {i : Nat} {ns : List Nd} {f : NpF} (X : Paths dr e0 P) (Bu : Built dr e0 P I i ns f) : ns.length ≤ 21 := by
  have z := congrArg List.length Bu.ps
  rw [List.length_map, List.length_take] at z
  rw [z]
  exact Nat.le_trans (Nat.min_le_right _ _) X.len
theorem Built.new {dr : Str → Str} {e0 : Str} {P : List Str} {I : Addr} {i : Nat} {ns : List Nd} {f : NpF} {p : Str} (X : Paths dr e0 P) (Bu : Built dr e0 P I i ns f) (hp : P[i]? = some p) : p ∉ ns.map Nd.p := by
  rw [Bu.ps]
  exact nodup_take X.nodup hp
theorem take_snoc {P : List Str} {i : Nat} {p : Str} (h : P[i]? = some p) : P.take (i + 1) = P.take i ++ [p] := by
  rw [List.take_add_one, h]
  rfl
theorem no_kids {dr : Str → Str} {e0 : Str} {P : List Str} (X : Paths dr e0 P) {i : Nat} {p : Str} (hp : P[i]? = some p) : (P.take (i + 1)).filter (fun q => decide (dr q = p)) = [] := by
  rw [List.filter_eq_nil_iff]
  intro q hq e
  have e' := of_decide_eq_true e
  obtain ⟨j, hj, ej⟩ := List.mem_iff_getElem.mp hq
  rw [List.getElem_take] at ej
  rw [List.length_take] at hj
  have hpm := List.mem_of_getElem? hp
  have hq' : P[j]? = some q := by rw [List.getElem?_eq_getElem (by (first | lia | omega)), ej]
  rcases X.dir j q hq' with h | h
  · exact (X.sz p hpm).2.1 (e' ▸ h)
  · rw [e'] at h
    have z := nodup_take X.nodup hp
    exact z ((List.take_sublist_take_left (by (first | lia | omega))).subset h)
theorem filter_snoc {dr : Str → Str} {l : List Str} {p x : Str} : (l ++ [p]).filter (fun q => decide (dr q = x)) = l.filter (fun q => decide (dr q = x)) ++ (if dr p = x then [p] else []) := by
  rw [List.filter_append]
  by_cases e : dr p = x
  · rw [if_pos e, List.filter_cons_of_pos (p := fun q => decide (dr q = x)) (decide_eq_true e)]; rfl
  · rw [if_neg e, List.filter_cons_of_neg (p := fun q => decide (dr q = x)) (by rw [decide_eq_false e]; exact Bool.false_ne_true)]; rfl
theorem adr_new {ns : List Nd} {x d l I : Addr} (h : (adr ns).Nodup) (hi : ∀ z ∈ adr ns, @LT.lt Nat _ I z) (hI : @LT.lt Nat _ I d) (lt : ∀ z ∈ adr ns, @LT.lt Nat _ z d) (h1 : @LT.lt Nat _ d x) (h2 : @LT.lt Nat _ x l) : (adr ns ++ [x, d, l]).Nodup ∧ ∀ z ∈ adr ns ++ [x, d, l], @LT.lt Nat _ I z := by
  refine ⟨List.nodup_append.mpr ⟨h, ?_, fun a ha b hb e => ?_⟩, fun z hz => ?_⟩
  · refine List.nodup_cons.mpr ⟨fun m => ?_, List.nodup_cons.mpr ⟨fun m => ?_, List.nodup_cons.mpr ⟨fun m => (nomatch m), List.nodup_nil⟩⟩⟩
    · rcases List.mem_cons.mp m with e | m
      · exact Nat.ne_of_lt h1 e.symm
      · exact Nat.ne_of_lt h2 (List.mem_singleton.mp m)
    · exact Nat.ne_of_lt (Nat.lt_trans h1 h2) (List.mem_singleton.mp m)
  · have la := lt a ha
    rcases List.mem_cons.mp hb with rfl | hb
    · exact Nat.ne_of_lt (Nat.lt_trans la h1) e
    rcases List.mem_cons.mp hb with rfl | hb
    · exact Nat.ne_of_lt la e
    · rw [List.mem_singleton.mp hb] at e
      exact Nat.ne_of_lt (Nat.lt_trans la (Nat.lt_trans h1 h2)) e
  · rcases List.mem_append.mp hz with hz | hz
    · exact hi z hz
    rcases List.mem_cons.mp hz with rfl | hz
    · exact Nat.lt_trans hI h1
    rcases List.mem_cons.mp hz with rfl | hz
    · exact hI
    · rw [List.mem_singleton.mp hz]
      exact Nat.lt_trans hI (Nat.lt_trans h1 h2)
theorem ndKvs_snoc {ns : List Nd} {n : Nd} (h : n.p ∉ ns.map Nd.p) : stored (ndKvs ns) n.p (.ref n.i) = ndKvs (ns ++ [n]) := by
  rw [stored_absent (ndKvs_none h)]
  unfold ndKvs
  rw [List.map_append]
  rfl
theorem setF_out {f : NpF} {ns : List Nd} {p : Str} {v : Int × Tok} (h : p ∉ ns.map Nd.p) : ndsLed (setF f p v) ns = ndsLed f ns := ndsLed_congr fun n hn => by
  unfold setF
  rw [if_neg fun (e : n.p = p) => h (e ▸ List.mem_map_of_mem (f := Nd.p) hn)]
theorem Built.root {dr : Str → Str} {e0 : Str} {P : List Str} {I : Addr} {i : Nat} {ns : List Nd} {f : NpF} {n : Nd} {tk : Tok} (X : Paths dr e0 P) (Bu : Built dr e0 P I i ns f) (hp : P[i]? = some n.p) (hr : dr n.p = e0) (hk : n.kids = []) (hI : @LT.lt Nat _ I n.d) (lt : ∀ z ∈ adr ns, @LT.lt Nat _ z n.d) (h1 : @LT.lt Nat _ n.d n.i) (h2 : @LT.lt Nat _ n.i n.l) :
    Built dr e0 P I (i + 1) (ns ++ [n]) (setF f n.p (0, tk)) := by
  have hnew := Bu.new X hp
  obtain ⟨a1, a2⟩ := adr_new Bu.nd Bu.hi hI lt h1 h2
  refine ⟨by rw [List.map_append, Bu.ps, take_snoc hp]; rfl, fun m hm => ?_, fun m hm => ?_, by rw [adr_append]; exact a2, by rw [adr_append]; exact a1⟩
  · rcases List.mem_append.mp hm with hm | hm
    · rw [Bu.kids m hm, take_snoc hp, filter_snoc, if_neg fun e => ?_, List.append_nil]
      have hmp : m.p ∈ P.take i := Bu.ps ▸ List.mem_map_of_mem (f := Nd.p) hm
      exact (X.sz m.p (List.mem_of_mem_take hmp)).2.1 (e ▸ hr)
    · rw [List.mem_singleton.mp hm, hk, no_kids X hp]
      rfl
  · unfold setF
    rcases List.mem_append.mp hm with hm | hm
    · rw [if_neg fun (e : m.p = n.p) => hnew (e ▸ List.mem_map_of_mem (f := Nd.p) hm)]
      exact Bu.np m hm
    · rw [List.mem_singleton.mp hm, if_pos rfl]
      unfold preds
      rw [if_pos hr]
noncomputable def Nd.kid (n : Nd) (p : Str) (t : Tok) : Nd := { n with kids := n.kids ++ [(p, t)], c := n.c + 1 }
theorem Built.kid {dr : Str → Str} {e0 : Str} {P : List Str} {I : Addr} {i : Nat} {a b : List Nd} {q n : Nd} {f : NpF} {tk : Tok} (X : Paths dr e0 P) (Bu : Built dr e0 P I i (a ++ q :: b) f) (hp : P[i]? = some n.p) (hr : dr n.p = q.p) (hk : n.kids = []) (hI : @LT.lt Nat _ I n.d) (lt : ∀ z ∈ adr (a ++ q :: b), @LT.lt Nat _ z n.d) (h1 : @LT.lt Nat _ n.d n.i) (h2 : @LT.lt Nat _ n.i n.l) :
    Built dr e0 P I (i + 1) (a ++ q.kid n.p n.t :: b ++ [n]) (setF f n.p (1, tk)) := by
  have hnew := Bu.new X hp
  obtain ⟨a1, a2⟩ := adr_new Bu.nd Bu.hi hI lt h1 h2
  have eadr : adr (a ++ q.kid n.p n.t :: b) = adr (a ++ q :: b) := by rw [adr_append, adr_append]; rfl
  have hqm : q.p ∈ P.take i := Bu.ps ▸ List.mem_map_of_mem (f := Nd.p) (List.mem_append_right _ (.head _))
  have hne := (X.sz q.p (List.mem_of_mem_take hqm)).2.1
  have hnd : ((a ++ q :: b).map Nd.p).Nodup := by rw [Bu.ps]; exact X.nodup.sublist (List.take_sublist ..)
  have old : ∀ m, m ∈ a ∨ m ∈ b → m ∈ a ++ q :: b := fun m h => h.elim (List.mem_append_left _) fun h => List.mem_append_right _ (.tail _ h)
  have off : ∀ m, m ∈ a ∨ m ∈ b → dr n.p ≠ m.p := fun m h e => by
    rw [hr] at e
    rw [List.map_append, List.map_cons] at hnd
    have z := List.nodup_append.mp hnd
    rcases h with h | h
    · exact z.2.2 m.p (List.mem_map_of_mem (f := Nd.p) h) q.p (.head _) e.symm
    · exact (List.nodup_cons.mp z.2.1).1 (e ▸ List.mem_map_of_mem (f := Nd.p) h)
  refine ⟨?_, fun m hm => ?_, fun m hm => ?_, ?_, ?_⟩
  · rw [take_snoc hp, ← Bu.ps]
    simp only [List.map_append, List.map_cons, List.map_nil]
    rfl
  · rcases List.mem_append.mp hm with hm | hm
    · rcases List.mem_append.mp hm with hm | hm
      · rw [Bu.kids m (old m (.inl hm)), take_snoc hp, filter_snoc, if_neg (off m (.inl hm)), List.append_nil]
      rcases List.mem_cons.mp hm with rfl | hm
      · show sFst (q.kids ++ [(n.p, n.t)]) = _
        rw [take_snoc hp, filter_snoc, if_pos (show dr n.p = (q.kid n.p n.t).p from hr)]
        have z := Bu.kids q (List.mem_append_right _ (.head _))
        show sFst (q.kids ++ [(n.p, n.t)]) = List.filter (fun x => decide (dr x = q.p)) (List.take i P) ++ [n.p]
        rw [← z]
        unfold sFst
        rw [List.map_append]
        rfl
      · rw [Bu.kids m (old m (.inr hm)), take_snoc hp, filter_snoc, if_neg (off m (.inr hm)), List.append_nil]
    · rw [List.mem_singleton.mp hm, hk, no_kids X hp]
      rfl
  · have keep : ∀ m, m ∈ a ++ q :: b → (setF f n.p (1, tk) m.p).1 = preds dr e0 m.p := fun m hm => by
      unfold setF
      rw [if_neg fun (e : m.p = n.p) => hnew (e ▸ List.mem_map_of_mem (f := Nd.p) hm)]
      exact Bu.np m hm
    rcases List.mem_append.mp hm with hm | hm
    · rcases List.mem_append.mp hm with hm | hm
      · exact keep m (old m (.inl hm))
      rcases List.mem_cons.mp hm with rfl | hm
      · exact keep q (List.mem_append_right _ (.head _))
      · exact keep m (old m (.inr hm))
    · rw [List.mem_singleton.mp hm]
      unfold setF preds
      rw [if_pos rfl, if_neg (by rw [hr]; exact hne)]
  · rw [adr_append, eadr]; exact a2
  · rw [adr_append, eadr]; exact a1
end Mine
end

section
open PySem PySem.W PySem.W.X PyProof.Rows PySem.Calls
set_option Elab.async false
set_option maxRecDepth 100000
set_option maxHeartbeats 400000
set_option linter.unusedVariables false
namespace Mine
theorem lnW13b : True := by
  k_with_none
  trivial
noncomputable abbrev emp : Str := Str.ofString ""
noncomputable abbrev sLed (w : World) (S dx D : Addr) (t1 t2 t3 t4 u3 u4 : Tok) (rd : Value) (np nf : Int) (oD : Obj) (r : List (Addr × Obj)) : List (Addr × Obj) :=
  (S, instObj 153 dx) :: (dx, sorterD w t1 t2 t3 t4 (.ref D) rd np u3 nf u4 4) :: (D, oD) :: r
section
variable {w : World} {mean : ExcName → Option Value} {mg mb : Str → Option Value} {A A₀ : Around} {cn : Str} {nm : List (Str × NameKind)} {ig ic : Bool} {mo : List (Str × Const)} {a : Addr} {ccd : Value} {cl : List (Str × Addr)} {outer : List Env} {base h₀ : Heap} {L : Addr} {m : Str → Option Value} {s : Shared} {Q E : Value → Shared → Prop}
variable {S dx D I : Addr} {t1 t2 t3 t4 u3 u4 : Tok} {oD : Obj} {ns : List Nd} {f : NpF} {P : List Str} {i : Nat} {p : Str} {t : Tok} {oth : List (Addr × Obj)}
theorem add_root (X : Paths dirF emp P) (Bu : Built dirF emp P I i ns f) (hp : P[i]? = some p) (hr : dirF p = emp) (hD : oD.IsDictOf (PySem.strKind theProg w) (ndKvs ns)) (hlo : (D == sysModules) = false) (hSD : @Ne Nat S D) (hdD : @Ne Nat dx D) (bD : @LT.lt Nat _ D I) (ho : ∀ q ∈ oth, q.1 ≠ D) (hI : ∃ o, (I, o) ∈ oth)
    (B : Below A₀ base outer h₀) (F : Fr h₀ L s.heap m) (KX : (frag w.params).In h₀) (T : Top topProg LO mean mg mb h₀) (hh : A.handled = none)
    (hf : A.frames = some (envX cn { kind := .function, names := nm, isGenerator := ig, isCoroutine := ic, more := mo } L a ccd cl :: outer)) (hd' : Nat.ble A.depth 750 = true) (hu : Nat.ble A.units 7500 = true)
    (N : News h₀ L s.heap (sLed w S dx D t1 t2 t3 t4 u3 u4 .none 0 0 oD (oth ++ ndsLed f ns)))
    (r : ∀ ns' f' oD' h' tk', Built dirF emp P I (i + 1) ns' f' → oD'.IsDictOf (PySem.strKind theProg w) (ndKvs ns') → Fr h₀ L h' m → News h₀ L h' (sLed w S dx D t1 t2 t3 t4 u3 u4 .none 0 0 oD' (oth ++ ndsLed f' ns')) → Q .none { s with heap := h', toks := tk' }) :
    codeAny (model PySem.Challenge.rw_in0152_01.row.prog w) A (.call (.ref 103) ⟨[.ref S, .str p t], []⟩) (fun r s' => match r with | .ok (.ret v) => Q v s' | .ok _ => False | .error e => E e s') s := by
  have hnew := Bu.new X hp
  have hk : (ndKvs ns).length ≤ 64 := by
    unfold ndKvs
    rw [List.length_map]
    exact Nat.le_trans (Bu.len X) (by decide)
  have hD' : ∀ q ∈ oth ++ ndsLed f ns, q.1 ≠ D := fun q hq => by
    rcases List.mem_append.mp hq with hq | hq
    · exact ho q hq
    · exact Nat.ne_of_gt (Nat.lt_trans bD (Bu.hi q.1 (adr_led ns hq)))
  refine CCc.use (add0_c w mean mg mb S dx D t1 t2 t3 t4 u3 u4 0 0 4 oD (ndKvs ns) p t (oth ++ ndsLed f ns) hD hlo hk (ndKvs_none hnew) hD' hSD hdD) B F KX N T hh hf hd' hu fun x d l oD' tk h' tk' F' N' hd2 hnw => ?_
  obtain ⟨o, hIo⟩ := hI
  have lt : ∀ z ∈ adr ns, @LT.lt Nat _ z d := fun z hz => by
    obtain ⟨q, hq, e⟩ := adr_mem (f := f) ns hz
    exact e ▸ hnw.1 q (.tail _ (.tail _ (.tail _ (List.mem_append_right _ hq))))
  have Bu' := Built.root (n := ⟨p, t, x, d, l, [], 0⟩) (tk := tk) X Bu hp hr rfl (hnw.1 (I, o) (.tail _ (.tail _ (.tail _ (List.mem_append_left _ hIo))))) lt hnw.2.1 hnw.2.2
  refine r _ _ oD' h' tk' Bu' ?_ F' (News.sub N' fun q hq => ?_)
  · rw [← ndKvs_snoc (n := ⟨p, t, x, d, l, [], 0⟩) hnew]
    exact hd2
  · revert q
    refine fa_cons (.head _) ?_
    refine fa_cons (.tail _ (.head _)) ?_
    refine fa_cons (.tail _ (.tail _ (.head _))) ?_
    intro q hq
    refine .tail _ (.tail _ (.tail _ ?_))
    rcases List.mem_append.mp hq with hq | hq
    · exact .tail _ (.tail _ (.tail _ (List.mem_append_left _ hq)))
    rw [ndsLed_append, setF_out hnew] at hq
    rcases List.mem_append.mp hq with hq | hq
    · exact .tail _ (.tail _ (.tail _ (List.mem_append_right _ hq)))
    rcases List.mem_append.mp hq with hq | hq
    · rcases Nd.led_mem.mp hq with rfl | rfl | rfl
      · unfold setF
        rw [if_pos rfl]
        exact .head _
      · exact .tail _ (.head _)
      · exact .tail _ (.tail _ (.head _))
    · exact nomatch hq
theorem sList_kid {l : List (Str × Tok)} {p : Str} {t : Tok} {c : Nat} : listOf ((strValues l).toArray.push (.str p t)) c = sList (l ++ [(p, t)]) c := by
  show listOf _ _ = listOf _ _
  congr 1
  unfold strValues
  rw [List.map_append, List.push_toArray]
  rfl
theorem add_kid {a' b' : List Nd} {pn : Nd} {tq : Tok} (X : Paths dirF emp P) (Bu : Built dirF emp P I i (a' ++ pn :: b') f) (hp : P[i]? = some p) (hr : dirF p = pn.p) (hD : oD.IsDictOf (PySem.strKind theProg w) (ndKvs (a' ++ pn :: b'))) (hlo : (D == sysModules) = false) (hSD : @Ne Nat S D) (hdD : @Ne Nat dx D) (bD : @LT.lt Nat _ D I) (bS : @LT.lt Nat _ S I) (bx : @LT.lt Nat _ dx I) (ho : ∀ q ∈ oth, q.1 ≠ D) (ho2 : ∀ q ∈ oth, @LE.le Nat _ q.1 I) (hI : ∃ o, (I, o) ∈ oth)
    (B : Below A₀ base outer h₀) (F : Fr h₀ L s.heap m) (KX : (frag w.params).In h₀) (T : Top topProg LO mean mg mb h₀) (hh : A.handled = none)
    (hf : A.frames = some (envX cn { kind := .function, names := nm, isGenerator := ig, isCoroutine := ic, more := mo } L a ccd cl :: outer)) (hd' : Nat.ble A.depth 750 = true) (hu : Nat.ble A.units 7500 = true)
    (N : News h₀ L s.heap (sLed w S dx D t1 t2 t3 t4 u3 u4 .none 0 0 oD (oth ++ ndsLed f (a' ++ pn :: b'))))
    (r : ∀ ns' f' oD' h' tk', Built dirF emp P I (i + 1) ns' f' → oD'.IsDictOf (PySem.strKind theProg w) (ndKvs ns') → Fr h₀ L h' m → News h₀ L h' (sLed w S dx D t1 t2 t3 t4 u3 u4 .none 0 0 oD' (oth ++ ndsLed f' ns')) → Q .none { s with heap := h', toks := tk' }) :
    codeAny (model PySem.Challenge.rw_in0152_01.row.prog w) A (.call (.ref 103) ⟨[.ref S, .str p t, .str pn.p tq], []⟩) (fun r s' => match r with | .ok (.ret v) => Q v s' | .ok _ => False | .error e => E e s') s := by
  have hnew := Bu.new X hp
  have hk : (ndKvs (a' ++ pn :: b')).length ≤ 64 := by
    unfold ndKvs
    rw [List.length_map]
    exact Nat.le_trans (Bu.len X) (by decide)
  have hmem : pn ∈ a' ++ pn :: b' := List.mem_append_right _ (.head _)
  have hnd : ((a' ++ pn :: b').map Nd.p).Nodup := by rw [Bu.ps]; exact X.nodup.sublist (List.take_sublist ..)
  have hat := ndKvs_at hnd
  have hkl : pn.kids.length ≤ 64 := by
    have z := congrArg List.length (Bu.kids pn hmem)
    unfold sFst at z
    rw [List.length_map] at z
    rw [z]
    exact Nat.le_trans (List.length_filter_le ..) (Nat.le_trans (List.length_take_le' ..) (Nat.le_trans X.len (by decide)))
  have ea : adr (a' ++ pn :: b') = adr a' ++ pn.i :: pn.d :: pn.l :: adr b' := adr_append
  have hi := Bu.hi
  have nd := Bu.nd
  rw [ea] at hi nd
  have i1 : @LT.lt Nat _ I pn.i := hi _ (List.mem_append_right _ (.head _))
  have i2 : @LT.lt Nat _ I pn.d := hi _ (List.mem_append_right _ (.tail _ (.head _)))
  have i3 : @LT.lt Nat _ I pn.l := hi _ (List.mem_append_right _ (.tail _ (.tail _ (.head _))))
  have nd1 := List.nodup_append.mp nd
  have nd2 := List.nodup_cons.mp nd1.2.1
  have nd3 := List.nodup_cons.mp nd2.2
  have nd4 := List.nodup_cons.mp nd3.2
  have hql : ∀ q ∈ oth ++ (ndsLed f a' ++ ndsLed f b'), q.1 ≠ pn.l := fun q hq e => by
    rcases List.mem_append.mp hq with hq | hq
    · exact absurd (e ▸ ho2 q hq) (Nat.not_le.mpr i3)
    rcases List.mem_append.mp hq with hq | hq
    · exact nd1.2.2 q.1 (adr_led a' hq) pn.l (.tail _ (.tail _ (.head _))) e
    · exact nd4.1 (e ▸ adr_led b' hq)
  have hD' : ∀ q ∈ oth ++ (ndsLed f a' ++ ndsLed f b'), q.1 ≠ D := fun q hq => by
    rcases List.mem_append.mp hq with hq | hq
    · exact ho q hq
    rcases List.mem_append.mp hq with hq | hq
    · exact Nat.ne_of_gt (Nat.lt_trans bD (hi q.1 (List.mem_append_left _ (adr_led a' hq))))
    · exact Nat.ne_of_gt (Nat.lt_trans bD (hi q.1 (List.mem_append_right _ (.tail _ (.tail _ (.tail _ (adr_led b' hq)))))))
  have N1 : News h₀ L s.heap (sLed w S dx D t1 t2 t3 t4 u3 u4 .none 0 0 oD ((pn.i, infoObj pn.d pn.p pn.t (f pn.p).1 (f pn.p).2 pn.l) :: (pn.d, dictOf [] 0) :: (pn.l, sList pn.kids pn.c) :: (oth ++ (ndsLed f a' ++ ndsLed f b')))) := News.sub N fun q hq => by
    revert q
    refine fa_cons (.head _) ?_
    refine fa_cons (.tail _ (.head _)) ?_
    refine fa_cons (.tail _ (.tail _ (.head _))) ?_
    intro q hq
    refine .tail _ (.tail _ (.tail _ ?_))
    revert q
    refine fa_cons (List.mem_append_right _ (pick_mem.mpr (.head _))) ?_
    refine fa_cons (List.mem_append_right _ (pick_mem.mpr (.tail _ (.head _)))) ?_
    refine fa_cons (List.mem_append_right _ (pick_mem.mpr (.tail _ (.tail _ (.head _))))) ?_
    intro q hq
    rcases List.mem_append.mp hq with hq | hq
    · exact List.mem_append_left _ hq
    · exact List.mem_append_right _ (pick_mem.mpr (.tail _ (.tail _ (.tail _ hq))))
  have fine := CCc.use (add1_c w mean mg mb S dx D t1 t2 t3 t4 u3 u4 0 0 4 oD (ndKvs (a' ++ pn :: b')) p t pn.i pn.d pn.l pn.p pn.t tq (f pn.p).2 (f pn.p).1 pn.kids pn.c (oth ++ (ndsLed f a' ++ ndsLed f b')) hD hlo hk (ndKvs_none hnew) hat hkl hql
    (Nat.ne_of_gt (Nat.lt_trans bD i1)) (Nat.ne_of_gt (Nat.lt_trans bD i3)) (Nat.ne_of_lt (Nat.lt_trans bS i3)) (Nat.ne_of_lt (Nat.lt_trans bx i3)) (fun e => nd2.1 (e ▸ .tail _ (.head _))) (Nat.ne_of_gt (Nat.lt_trans bD i2)) (fun e => nd3.1 (e ▸ .head _)) hD' hSD hdD) (E := E) (Q := Q) B F KX N1 T hh hf hd' hu
  refine fine fun x d l oD' tk h' tk' F' N' hd2 hnw => ?_
  obtain ⟨o, hIo⟩ := hI
  have lt : ∀ z ∈ adr (a' ++ pn :: b'), @LT.lt Nat _ z d := fun z hz => by
    obtain ⟨q, hq, e⟩ := adr_mem (f := f) _ hz
    rw [← e]
    refine hnw.1 q (.tail _ (.tail _ (.tail _ ?_)))
    rcases List.mem_cons.mp (pick_mem.mp hq) with rfl | hq
    · exact .head _
    rcases List.mem_cons.mp hq with rfl | hq
    · exact .tail _ (.head _)
    rcases List.mem_cons.mp hq with rfl | hq
    · exact .tail _ (.tail _ (.head _))
    · exact .tail _ (.tail _ (.tail _ (List.mem_append_right _ hq)))
  have Bu' := Built.kid (n := ⟨p, t, x, d, l, [], 0⟩) (tk := tk) X Bu hp hr rfl (hnw.1 (I, o) (.tail _ (.tail _ (.tail _ (.tail _ (.tail _ (.tail _ (List.mem_append_left _ hIo)))))))) lt hnw.2.1 hnw.2.2
  have hpn : pn.p ≠ p := fun e => hnew (e ▸ List.mem_map_of_mem (f := Nd.p) hmem)
  rw [List.map_append, List.map_cons] at hnew
  refine r _ _ oD' h' tk' Bu' ?_ F' (News.sub N' fun q hq => ?_)
  · have e : ndKvs (a' ++ pn.kid p t :: b') = ndKvs (a' ++ pn :: b') := by unfold ndKvs; rw [List.map_append, List.map_append]; rfl
    rw [← ndKvs_snoc (ns := a' ++ pn.kid p t :: b') (n := ⟨p, t, x, d, l, [], 0⟩) (by rw [List.map_append, List.map_cons]; exact hnew), e]
    exact hd2
  · revert q
    refine fa_cons (.head _) ?_
    refine fa_cons (.tail _ (.head _)) ?_
    refine fa_cons (.tail _ (.tail _ (.head _))) ?_
    intro q hq
    refine .tail _ (.tail _ (.tail _ ?_))
    rcases List.mem_append.mp hq with hq | hq
    · exact .tail _ (.tail _ (.tail _ (.tail _ (.tail _ (.tail _ (List.mem_append_left _ hq))))))
    rw [ndsLed_append, ndsLed_append, setF_out fun h => hnew (List.mem_append_left _ h)] at hq
    rcases List.mem_append.mp hq with hq | hq
    · rcases List.mem_append.mp hq with hq | hq
      · exact .tail _ (.tail _ (.tail _ (.tail _ (.tail _ (.tail _ (List.mem_append_right _ (List.mem_append_left _ hq)))))))
      rcases List.mem_append.mp hq with hq | hq
      · have e : setF f p (1, tk) pn.p = f pn.p := if_neg hpn
        rcases Nd.led_mem.mp hq with rfl | rfl | rfl
        · dsimp only [Nd.kid]
          rw [e]
          exact .tail _ (.tail _ (.tail _ (.head _)))
        · exact .tail _ (.tail _ (.tail _ (.tail _ (.head _))))
        · rw [sList_kid]
          exact .tail _ (.tail _ (.tail _ (.tail _ (.tail _ (.head _)))))
      · rw [setF_out fun h => hnew (List.mem_append_right _ (.tail _ h))] at hq
        exact .tail _ (.tail _ (.tail _ (.tail _ (.tail _ (.tail _ (List.mem_append_right _ (List.mem_append_right _ hq)))))))
    rcases List.mem_append.mp hq with hq | hq
    · rcases Nd.led_mem.mp hq with rfl | rfl | rfl
      · unfold setF
        rw [if_pos rfl]
        exact .head _
      · exact .tail _ (.head _)
      · exact .tail _ (.tail _ (.head _))
    · exact nomatch hq
end
end Mine
end

section
open PySem PySem.W PySem.W.X PyProof.Rows PySem.Calls
set_option Elab.async false
set_option maxRecDepth 100000
set_option maxHeartbeats 400000
set_option linter.unusedVariables false
namespace Mine
theorem lnW14 : True := by
  k_with_none
  trivial
section
variable {prog : Program} {w : World} {A : Around} {E : Value → Shared → Prop} {s : Shared} {h₀ : Heap} {L W T : Addr} {m : Str → Option Value} {news : List (Addr × Obj)} {g : Obj → List (Addr × Obj)} {ws ks : List (Str × Tok)} {c : Nat} {p : Str} {t : Tok} {Q : Value → Shared → Prop}
noncomputable def isP (p : Str) : Value → Bool
  | .str a _ => a == p
  | _ => false
theorem isP_gives {y : Value} (hy : y ∈ (strValues ws).toArray) : MeetsSeq.EqGives y (.str p t) (isP p y) := by
  rw [List.mem_toArray] at hy
  obtain ⟨r, _, rfl⟩ := List.mem_map.mp hy
  exact PyProof.Rows.eqGives_str _ _ _ _
theorem isP_any : (strValues ws).toArray.any (isP p) = decide (p ∈ sFst ws) := by
  rw [List.any_toArray]
  unfold strValues sFst
  rw [List.any_map]
  induction ws with
  | nil => rfl
  | cons r l ih =>
    rw [List.any_cons, ih, List.map_cons]
    show (r.1 == p || _) = _
    by_cases e : p = r.1
    · subst e
      rw [decide_eq_true (show r.1 ∈ r.1 :: List.map (fun x : Str × Tok => x.1) l from .head _)]
      simp
    · have e2 : (r.1 == p) = false := by simpa using fun h => e h.symm
      rw [e2, Bool.false_or]
      congr 1
      exact propext ⟨fun h => .tail _ h, fun h => (List.mem_cons.mp h).resolve_left e⟩
theorem erase_map {α β : Type} (f : α → β) : ∀ (l : List α) (j : Nat), (l.eraseIdx j).map f = (l.map f).eraseIdx j
  | [], _ => rfl
  | _ :: _, 0 => rfl
  | x :: l, j + 1 => congrArg (f x :: ·) (erase_map f l j)
theorem notin_s (N : News h₀ L s.heap news) (hm : (W, sList ws c) ∈ news) (h : Q (.bool (!decide (p ∈ sFst ws))) s) : wpAny (model prog w) A (compareOp .NotIn (.str p t) (.ref W)) Q E s :=
  SeqInW.notIn_listW (isP p) (fun y hy => isP_gives hy) ⟨_, (N _ hm).1, rfl, _, rfl⟩ (by rw [isP_any]; exact h)
theorem list_of_tup (F : Fr h₀ L s.heap m) (N : News h₀ L s.heap news) (hb : (T, tupS ks) ∈ news) (hz : ks.length ≤ 64)
    (h : ∀ D c h', Fr h₀ L h' m → News h₀ L h' ((D, sList ks c) :: news) → (∀ q ∈ news, q.1 < D) → Q (.ref D) { s with heap := h' }) : wpAny (model prog w) A (call (.type "list") [.ref T]) Q E s :=
  kup_listOfT F N hb rfl h (by
    show (strValues ks).length ≤ sizeLine
    unfold strValues
    rw [List.length_map, sizeLine_eq]
    omega)
theorem extend_s (F : Fr h₀ L s.heap m) (N : News h₀ L s.heap news) (U : UpdF W (sList ws c) news g) (hb : (T, tupS ks) ∈ news) (hz : ws.length ≤ 64) (hk : ks.length ≤ 64)
    (h : ∀ c' h', Fr h₀ L h' m → News h₀ L h' (g (sList (ws ++ ks) c')) → Q .none { s with heap := h' }) : wpAny (model prog w) A (call (.builtin "list.extend") [.ref W, .ref T]) Q E s := by
  obtain ⟨pre, post, rfl, hg, a, c⟩ := U.split
  have z := N (W, sList ws _) (List.mem_append.mpr (.inr (.head _)))
  have l1 : (strValues ws).toArray.size = ws.length := by rw [List.size_toArray]; exact List.length_map ..
  have l2 : (strValues ks).toArray.size = ks.length := by rw [List.size_toArray]; exact List.length_map ..
  have sl := sizeLine_eq
  refine call_meets PySem.F.slot_list_extend ⟨_, z.1, rfl⟩ PySem.F.entry_list_extend (PySem.F.args_list_extend_2 _ _) (PySem.AutoSeq1.list_extend_list_tuple_0 W (strValues ws).toArray _ T (strValues ks).toArray 0 ?_ ?_ ?_) ⟨z.1, (N _ hb).1, ?_⟩
  · rw [l1, l2]
    unfold Builtin.List.listTooLong
    rw [decide_eq_false (by omega), Bool.and_false]
    exact Bool.false_ne_true
  · rw [l1]; omega
  · rw [l1, l2]; omega
  · have e : (strValues ws).toArray ++ (strValues ks).toArray = (strValues (ws ++ ks)).toArray := by
      unfold strValues
      rw [List.map_append, List.append_toArray]
    have q := PySem.IsL.update z.1 fun x => x ++ (strValues ks).toArray
    rw [e] at q
    exact h _ _ (F.change (Heap.SameBut.update ..) z.2.1 z.2.2) (hg _ ▸ News.setIn N a c (Heap.SameBut.update ..) q)
theorem remove_s (F : Fr h₀ L s.heap m) (N : News h₀ L s.heap news) (U : UpdF W (sList ws c) news g) (hp : p ∈ sFst ws) (hz : ws.length ≤ 64)
    (h : ∀ ws' c' h', sFst ws' = (sFst ws).erase p → Fr h₀ L h' m → News h₀ L h' (g (sList ws' c')) → Q .none { s with heap := h' }) : wpAny (model prog w) A (call (.builtin "list.remove") [.ref W, .str p t]) Q E s := by
  obtain ⟨pre, post, rfl, hg, a, c⟩ := U.split
  have z := N (W, sList ws _) (List.mem_append.mpr (.inr (.head _)))
  have l1 : (strValues ws).toArray.size = ws.length := by rw [List.size_toArray]; exact List.length_map ..
  have l0 : (sFst ws).length = ws.length := List.length_map ..
  have hj := List.idxOf_lt_length_of_mem hp
  have sl := sizeLine_eq
  have at1 : ∀ i (hi : i < (strValues ws).toArray.size), isP p (strValues ws).toArray[i] = ((sFst ws)[i]'(by omega) == p) := fun i hi => by
    simp only [List.getElem_toArray]
    unfold strValues sFst
    simp only [List.getElem_map]
    rfl
  refine call_meets PySem.F.slot_list_remove ⟨_, z.1, rfl⟩ PySem.F.entry_list_remove (PySem.F.args_list_remove_2 _ _) (MeetsSeq.list_remove W (strValues ws).toArray _ (.str p t) (isP p) (fun y hy => isP_gives hy) ((sFst ws).idxOf p) (by omega) ?_ (fun i hi hlt => ?_) (by rw [l1]; omega)) ⟨z.1, ?_⟩
  · rw [at1]
    simp
  · rw [at1]
    have := List.not_of_lt_findIdx (p := (· == p)) (xs := sFst ws) hlt
    simpa using this
  · have e : (strValues ws).toArray.eraseIdxIfInBounds ((sFst ws).idxOf p) = (strValues (ws.eraseIdx ((sFst ws).idxOf p))).toArray := by
      unfold strValues
      rw [erase_map]
      simp
    have q := PySem.IsL.update z.1 fun x => x.eraseIdxIfInBounds ((sFst ws).idxOf p)
    rw [e] at q
    refine h (ws.eraseIdx ((sFst ws).idxOf p)) _ _ ?_ (F.change (Heap.SameBut.update ..) z.2.1 z.2.2) (hg _ ▸ News.setIn N a c (Heap.SameBut.update ..) q)
    rw [List.erase_eq_eraseIdx_of_idxOf rfl]
    unfold sFst
    rw [erase_map]
end
end Mine
end

section
open PySem PySem.W PySem.W.X PyProof.Rows PySem.Calls
set_option Elab.async false
set_option maxRecDepth 100000
set_option maxHeartbeats 400000
set_option linter.unusedVariables false
namespace Mine
theorem lnW15 : True := by
  k_with_none
  trivial
noncomputable def stat (dr : Str → Str) (e0 : Str) (D : List Str) (p : Str) : Int := if p ∈ D then -2 else if dr p = e0 ∨ dr p ∈ D then -1 else 1
structure Run (dr : Str → Str) (e0 : Str) (P : List Str) (k : Nat) (ns : List Nd) (f : NpF) (ws : List Str) : Prop where
  ps : ns.map Nd.p = P
  kids : ∀ n ∈ ns, sFst n.kids = P.filter fun q => decide (dr q = n.p)
  st : ∀ p ∈ P, (f p).1 = stat dr e0 (P.take k) p
  nd : ws.Nodup
  mem : ∀ p, p ∈ ws ↔ p ∈ P ∧ stat dr e0 (P.take k) p = -1
section
variable {dr : Str → Str} {e0 : Str} {P : List Str} {k : Nat} {ns : List Nd} {f : NpF} {ws : List Str} {p : Str}
theorem Run.has (X : Paths dr e0 P) (R : Run dr e0 P k ns f ws) (hp : P[k]? = some p) : p ∈ ws := by
  refine (R.mem p).mpr ⟨List.mem_of_getElem? hp, ?_⟩
  unfold stat
  rw [if_neg (nodup_take X.nodup hp), if_pos (X.dir k p hp)]
theorem kid_out (X : Paths dr e0 P) (hp : P[k]? = some p) {q : Str} (hq : dr q = p) : q ∉ P.take (k + 1) := fun h => by
  have z := List.filter_eq_nil_iff.mp (no_kids X hp) q h
  exact z (decide_eq_true hq)
theorem kid_out' (X : Paths dr e0 P) (hp : P[k]? = some p) {q : Str} (hq : dr q = p) : q ∉ P.take k := fun h => kid_out X hp hq (by rw [take_snoc hp]; exact List.mem_append_left _ h)
theorem stat_kid (X : Paths dr e0 P) (hp : P[k]? = some p) {q : Str} (hq : dr q = p) : stat dr e0 (P.take k) q = 1 := by
  unfold stat
  rw [if_neg (kid_out' X hp hq), if_neg]
  rintro (h | h)
  · exact (X.sz p (List.mem_of_getElem? hp)).2.1 (hq.symm.trans h)
  · exact nodup_take X.nodup hp (hq ▸ h)
theorem stat_next (X : Paths dr e0 P) (hp : P[k]? = some p) (q : Str) : stat dr e0 (P.take (k + 1)) q = if q = p then -2 else if dr q = p then -1 else stat dr e0 (P.take k) q := by
  have hm : ∀ x, x ∈ P.take (k + 1) ↔ (x ∈ P.take k ∨ x = p) := fun x => by rw [take_snoc hp]; simp
  unfold stat
  by_cases e : q = p
  · rw [if_pos e, if_pos ((hm q).mpr (.inr e))]
  rw [if_neg e]
  by_cases e2 : dr q = p
  · rw [if_pos e2, if_neg (kid_out X hp e2), if_pos (.inr ((hm _).mpr (.inr e2)))]
  rw [if_neg e2]
  by_cases e3 : q ∈ P.take k
  · rw [if_pos e3, if_pos ((hm q).mpr (.inl e3))]
  rw [if_neg e3, if_neg fun h => ((hm q).mp h).elim e3 e]
  by_cases e4 : dr q = e0 ∨ dr q ∈ P.take k
  · rw [if_pos e4, if_pos (e4.imp id fun h => (hm _).mpr (.inl h))]
  · rw [if_neg e4, if_neg fun h => e4 (h.imp id fun h => ((hm _).mp h).resolve_right e2)]
theorem dir_ne (X : Paths dr e0 P) (hp : P[k]? = some p) : dr p ≠ p := fun e => by
  have := (X.sz p (List.mem_of_getElem? hp)).2.2
  rw [e] at this
  exact Nat.lt_irrefl _ this
theorem Run.next (X : Paths dr e0 P) (R : Run dr e0 P k ns f ws) (hp : P[k]? = some p) {kids : List Str} (hk : kids = P.filter fun q => decide (dr q = p)) {f1 f2 : NpF} (h1 : ∀ q, (f1 q).1 = if q = p then -2 else if q ∈ kids then 0 else (f q).1) (h2 : ∀ q, (f2 q).1 = if q ∈ kids then -1 else (f1 q).1) :
    Run dr e0 P (k + 1) ns f2 (ws.erase p ++ kids) := by
  have hkm : ∀ q, q ∈ kids ↔ q ∈ P ∧ dr q = p := fun q => by rw [hk, List.mem_filter]; exact ⟨fun h => ⟨h.1, of_decide_eq_true h.2⟩, fun h => ⟨h.1, decide_eq_true h.2⟩⟩
  refine ⟨R.ps, R.kids, fun q hq => ?_, ?_, fun q => ?_⟩
  · rw [h2, stat_next X hp]
    by_cases e : dr q = p
    · rw [if_pos ((hkm q).mpr ⟨hq, e⟩), if_pos e, if_neg fun (h : q = p) => dir_ne X hp ((congrArg dr h).symm.trans e)]
    · rw [if_neg fun h => e ((hkm q).mp h).2, h1, if_neg e]
      by_cases e2 : q = p
      · rw [if_pos e2, if_pos e2]
      · rw [if_neg e2, if_neg e2, if_neg fun h => e ((hkm q).mp h).2, R.st q hq]
  · refine List.nodup_append.mpr ⟨R.nd.erase p, hk ▸ X.nodup.filter _, fun a ha b hb e => ?_⟩
    subst e
    have z := ((R.mem a).mp (List.mem_of_mem_erase ha)).2
    rw [stat_kid X hp ((hkm a).mp hb).2] at z
    exact absurd z (by decide)
  · rw [List.mem_append, hkm, R.nd.mem_erase_iff, R.mem, stat_next X hp]
    by_cases e : q = p
    · rw [if_pos e]
      constructor
      · rintro (h | h)
        · exact absurd e h.1
        · exact absurd (e ▸ h.2) (dir_ne X hp)
      · exact fun h => absurd h.2 (by decide)
    rw [if_neg e]
    by_cases e2 : dr q = p
    · rw [if_pos e2]
      constructor
      · rintro (h | h)
        · exact ⟨h.2.1, rfl⟩
        · exact ⟨h.1, rfl⟩
      · exact fun h => .inr ⟨h.1, e2⟩
    · rw [if_neg e2]
      constructor
      · rintro (h | h)
        · exact h.2
        · exact absurd h.2 e2
      · exact fun h => .inl ⟨e, h⟩
theorem Run.count (X : Paths dr e0 P) (R : Run dr e0 P k ns f ws) (hp : P[k]? = some p) {kids : List Str} : (ws.erase p ++ kids).length + 1 = ws.length + kids.length := by
  have z := List.length_erase_of_mem (R.has X hp)
  have := List.length_pos_of_mem (R.has X hp)
  rw [List.length_append, z]
  (first | lia | omega)
theorem Run.over (R : Run dr e0 P k ns f ws) (hk : P.length ≤ k) : ws = [] := by
  refine List.eq_nil_iff_forall_not_mem.mpr fun q hq => ?_
  obtain ⟨a, b⟩ := (R.mem q).mp hq
  rw [List.take_of_length_le hk] at b
  unfold stat at b
  rw [if_pos a] at b
  exact absurd b (by decide)
theorem Run.len (X : Paths dr e0 P) (R : Run dr e0 P k ns f ws) : ws.length ≤ 21 := Nat.le_trans (sub_len R.nd fun q hq => ((R.mem q).mp hq).1) X.len
theorem Run.start (X : Paths dr e0 P) {I : Addr} (Bu : Built dr e0 P I P.length ns f) {f1 : NpF} (h1 : ∀ q, (f1 q).1 = if q ∈ sFst (rootsOf f ns) then -1 else (f q).1) : Run dr e0 P 0 ns f1 (sFst (rootsOf f ns)) := by
  have hps := Bu.ps
  rw [List.take_length] at hps
  have e : sFst (rootsOf f ns) = (ns.filter fun n => decide ((f n.p).1 = 0)).map Nd.p := by
    unfold rootsOf sFst
    rw [List.map_map]
    rfl
  have hm : ∀ q, q ∈ sFst (rootsOf f ns) ↔ q ∈ P ∧ dr q = e0 := fun q => by
    rw [e, ← hps]
    constructor
    · intro h
      obtain ⟨n, hn, rfl⟩ := List.mem_map.mp h
      obtain ⟨a, b⟩ := List.mem_filter.mp hn
      refine ⟨List.mem_map_of_mem (f := Nd.p) a, ?_⟩
      have z := of_decide_eq_true b
      rw [Bu.np n a] at z
      unfold preds at z
      by_cases e : dr n.p = e0
      · exact e
      · rw [if_neg e] at z; exact absurd z (by decide)
    · rintro ⟨h, e⟩
      obtain ⟨n, hn, rfl⟩ := List.mem_map.mp h
      refine List.mem_map_of_mem (f := Nd.p) (List.mem_filter.mpr ⟨hn, decide_eq_true ?_⟩)
      rw [Bu.np n hn]
      unfold preds
      rw [if_pos e]
  have st0 : ∀ q, stat dr e0 (P.take 0) q = if dr q = e0 then -1 else 1 := fun q => by
    unfold stat
    rw [List.take_zero, if_neg (fun h => nomatch h)]
    by_cases e : dr q = e0
    · rw [if_pos e, if_pos (.inl e)]
    · rw [if_neg e, if_neg fun h => h.elim e fun h => nomatch h]
  have hkn := Bu.kids
  rw [List.take_length] at hkn
  refine ⟨hps, hkn, fun q hq => ?_, ?_, fun q => ?_⟩
  · rw [h1, st0]
    by_cases e : dr q = e0
    · rw [if_pos ((hm q).mpr ⟨hq, e⟩), if_pos e]
    · rw [if_neg fun h => e ((hm q).mp h).2, if_neg e]
      obtain ⟨n, hn, rfl⟩ := List.mem_map.mp (hps ▸ hq)
      rw [Bu.np n hn]
      unfold preds
      rw [if_neg e]
  · rw [e]
    have z : (ns.map Nd.p).Nodup := by rw [hps]; exact X.nodup
    exact z.sublist (List.Sublist.map Nd.p (List.filter_sublist ..))
  · rw [hm, st0]
    by_cases e : dr q = e0
    · rw [if_pos e]; exact ⟨fun h => ⟨h.1, rfl⟩, fun h => ⟨h.1, e⟩⟩
    · rw [if_neg e]; exact ⟨fun h => absurd h.2 e, fun h => absurd h.2 (by decide)⟩
theorem Built.forest (X : Paths dr e0 P) {I : Addr} (Bu : Built dr e0 P I P.length ns f) : Forest ns := by
  have hps := Bu.ps
  have hkn := Bu.kids
  rw [List.take_length] at hps hkn
  have hk : ∀ n ∈ ns, ∀ r ∈ n.kids, r.1 ∈ P ∧ dr r.1 = n.p := fun n hn r hr => by
    have z := List.mem_map_of_mem (f := Prod.fst) hr
    have e : List.map Prod.fst n.kids = sFst n.kids := rfl
    rw [e, hkn n hn] at z
    have := List.mem_filter.mp z
    exact ⟨this.1, of_decide_eq_true this.2⟩
  refine ⟨by rw [hps]; exact X.nodup, Nat.le_trans (Bu.len X) (by decide), fun n hn r hr => by rw [hps]; exact (hk n hn r hr).1, fun n hn => ?_, fun n hn r hr => ?_⟩
  · have z := congrArg List.length (hkn n hn)
    unfold sFst at z
    rw [List.length_map] at z
    rw [z]
    exact Nat.le_trans (List.length_filter_le ..) (Nat.le_trans X.len (by decide))
  · obtain ⟨a, b⟩ := hk n hn r hr
    rw [← b]
    exact (X.sz r.1 a).2.2
end
end Mine
end

section
open PySem PySem.W PySem.W.X PyProof.Rows PySem.Calls
set_option Elab.async false
set_option maxRecDepth 100000
set_option maxHeartbeats 400000
set_option linter.unusedVariables false
namespace Mine
theorem lnW16 : True := by
  k_with_none
  trivial
noncomputable abbrev rLed (w : World) (S dx D R : Addr) (t1 t2 t3 t4 u3 u4 : Tok) (np nf : Int) (oD : Obj) (rs : List (Str × Tok)) (c : Nat) (f : NpF) (ns : List Nd) (r : List (Addr × Obj)) : List (Addr × Obj) :=
  (S, instObj 153 dx) :: (dx, sorterD w t1 t2 t3 t4 (.ref D) (.ref R) np u3 nf u4 4) :: (D, oD) :: (R, sList rs c) :: (ndsLed f ns ++ r)
noncomputable def Apart (dx R : Addr) (ns : List Nd) (r : List (Addr × Obj)) : Prop := ∀ q ∈ r, q.1 ≠ dx ∧ q.1 ≠ R ∧ ∀ n ∈ ns, q.1 ≠ n.i
section
variable {w : World} {mean : ExcName → Option Value} {mg mb : Str → Option Value} {A A₀ : Around} {cn : Str} {nm : List (Str × NameKind)} {ig ic : Bool} {mo : List (Str × Const)} {a : Addr} {ccd : Value} {cl : List (Str × Addr)} {outer : List Env} {base h₀ : Heap} {L : Addr} {m : Str → Option Value} {s : Shared} {Q E : Value → Shared → Prop}
variable {S dx D R : Addr} {t1 t2 t3 t4 u3 u4 : Tok} {oD : Obj} {ns : List Nd} {f : NpF} {np nf : Int} {c : Nat} {rs : List (Str × Tok)} {r : List (Addr × Obj)}
theorem rLed_sub {h' : Heap} {x1 x2 x3 x4 : Addr × Obj} {l : List (Addr × Obj)} (N : News h₀ L h' (x1 :: x2 :: x3 :: x4 :: l)) (K : ∀ q ∈ r, News h₀ L h' [q]) : News h₀ L h' (x1 :: x2 :: x3 :: x4 :: (l ++ r)) := fun q hq => by
  revert q
  refine fa_cons (N _ (.head _)) ?_
  refine fa_cons (N _ (.tail _ (.head _))) ?_
  refine fa_cons (N _ (.tail _ (.tail _ (.head _)))) ?_
  refine fa_cons (N _ (.tail _ (.tail _ (.tail _ (.head _))))) ?_
  intro q hq
  rcases List.mem_append.mp hq with hq | hq
  · exact N _ (.tail _ (.tail _ (.tail _ (.tail _ hq))))
  · exact K q hq _ (.head _)
theorem getr_use (hn : (ns.map Nd.p).Nodup) (hin : ∀ r ∈ rs, r.1 ∈ ns.map Nd.p) (hD : oD.IsDictOf (PySem.strKind theProg w) (ndKvs ns)) (hlo : (D == sysModules) = false) (hk : ns.length ≤ 64) (hrs : rs.length ≤ 64) (hSD : @Ne Nat S D) (hdD : @Ne Nat dx D) (hdn : ∀ z ∈ adr ns, z ≠ dx) (hRn : ∀ z ∈ adr ns, z ≠ R) (hr : Apart dx R ns r) (hr0 : r ≠ [])
    (B : Below A₀ base outer h₀) (F : Fr h₀ L s.heap m) (KX : (frag w.params).In h₀) (T : Top topProg LO mean mg mb h₀) (hh : A.handled = none)
    (hf : A.frames = some (envX cn { kind := .function, names := nm, isGenerator := ig, isCoroutine := ic, more := mo } L a ccd cl :: outer)) (hd' : Nat.ble A.depth 750 = true) (hu : Nat.ble A.units 7500 = true)
    (N : News h₀ L s.heap (rLed w S dx D R t1 t2 t3 t4 u3 u4 np nf oD rs c f ns r))
    (k : ∀ T f' c' u3' h' tk', (∀ q, (f' q).1 = if q ∈ sFst rs then -1 else (f q).1) → Fr h₀ L h' m → News h₀ L h' ((T, tupS rs) :: rLed w S dx D R t1 t2 t3 t4 u3' u4 (np + rs.length) nf oD [] c' f' ns r) → Q (.ref T) { s with heap := h', toks := tk' }) :
    wpAny (model PySem.Challenge.rw_in0152_01.row.prog w) A (call (.ref 115) [.ref S]) Q E s := by
  have N1 : News h₀ L s.heap ((S, instObj 153 dx) :: (dx, sorterD w t1 t2 t3 t4 (.ref D) (.ref R) np u3 nf u4 4) :: (D, oD) :: (R, sList rs c) :: ndsLed f ns) := fun q hq => N q (List.mem_append_left (as := _ :: _ :: _ :: _ :: ndsLed f ns) _ hq)
  have Nr : ∀ q ∈ r, News h₀ L s.heap [q] := fun q hq z hz => by
    rw [List.mem_singleton.mp hz]
    exact N q (List.mem_append_right (_ :: _ :: _ :: _ :: ndsLed f ns) hq)
  have off : ∀ q ∈ r, ¬ (q.1 = dx ∨ q.1 = R ∨ ∃ n ∈ ns, q.1 = n.i) := fun q hq h => by
    obtain ⟨a1, a2, a3⟩ := hr q hq
    rcases h with h | h | ⟨n, hn, h⟩
    · exact a1 h
    · exact a2 h
    · exact a3 n hn h
  obtain ⟨q0, hq0⟩ := List.exists_mem_of_ne_nil r hr0
  refine CC.use (getr_c w mean mg mb S dx D R t1 t2 t3 t4 u3 u4 np nf oD rs c ns f hn hin hD hlo hk hrs hSD hdD (fun q hq => hdn _ (adr_led ns hq)) (fun q hq => hRn _ (adr_led ns hq))) B F KX N1 T hh hf hd' hu ⟨⟨q0, Nr q0 hq0, off q0 hq0⟩, fun v h' tk' ⟨T, f', c', u3', e, hf', N'⟩ F' kp => ?_⟩
  subst e
  refine k T f' c' u3' h' tk' hf' F' fun q hq => ?_
  rcases List.mem_cons.mp hq with rfl | hq
  · exact N' _ (.head _)
  · exact rLed_sub (News.sub N' fun q hq => .tail _ hq) (fun q hq => kp q (Nr q hq) (off q hq)) q hq
theorem done_use {a' b' : List Nd} {nd : Nd} {t : Tok} (hn : ((a' ++ nd :: b').map Nd.p).Nodup) (hin : ∀ r ∈ nd.kids, r.1 ∈ (a' ++ b').map Nd.p) (hkn : (sFst nd.kids).Nodup) (hD : oD.IsDictOf (PySem.strKind theProg w) (ndKvs (a' ++ nd :: b'))) (hlo : (D == sysModules) = false) (hrs : nd.kids.length ≤ 64) (hout : (f nd.p).1 = -1) (hone : ∀ r ∈ nd.kids, (f r.1).1 = 1)
    (hSD : @Ne Nat S D) (hdD : @Ne Nat dx D) (hdn : ∀ z ∈ adr (a' ++ nd :: b'), z ≠ dx) (hRn : ∀ z ∈ adr (a' ++ nd :: b'), z ≠ R) (hr : Apart dx R (a' ++ nd :: b') r) (hr0 : r ≠ [])
    (B : Below A₀ base outer h₀) (F : Fr h₀ L s.heap m) (KX : (frag w.params).In h₀) (T : Top topProg LO mean mg mb h₀) (hh : A.handled = none)
    (hf : A.frames = some (envX cn { kind := .function, names := nm, isGenerator := ig, isCoroutine := ic, more := mo } L a ccd cl :: outer)) (hd' : Nat.ble A.depth 750 = true) (hu : Nat.ble A.units 7500 = true)
    (N : News h₀ L s.heap (rLed w S dx D R t1 t2 t3 t4 u3 u4 np nf oD [] c f (a' ++ nd :: b') r))
    (k : ∀ f' c' u4' h' tk', (∀ q, (f' q).1 = if q = nd.p then -2 else if q ∈ sFst nd.kids then 0 else (f q).1) → Fr h₀ L h' m → News h₀ L h' (rLed w S dx D R t1 t2 t3 t4 u3 u4' np (nf + 1) oD nd.kids c' f' (a' ++ nd :: b') r) → Q .none { s with heap := h', toks := tk' }) :
    wpAny (model PySem.Challenge.rw_in0152_01.row.prog w) A (call (.ref 136) [.ref S, .str nd.p t]) Q E s := by
  have mv : ∀ (g : NpF) q, q ∈ ndsLed g (nd :: (a' ++ b')) ↔ q ∈ ndsLed g (a' ++ nd :: b') := fun g q => by
    rw [ndsLed_mem, ndsLed_mem]
    refine exists_congr fun n => and_congr ?_ Iff.rfl
    simp only [List.mem_cons, List.mem_append]
    exact ⟨fun h => h.elim (fun h => .inr (.inl h)) fun h => h.imp id .inr, fun h => h.elim (fun h => .inr (.inl h)) fun h => h.imp id .inr⟩
  have N1 : News h₀ L s.heap ((S, instObj 153 dx) :: (dx, sorterD w t1 t2 t3 t4 (.ref D) (.ref R) np u3 nf u4 4) :: (D, oD) :: (R, listOf #[] c) :: ndsLed f (nd :: (a' ++ b'))) := fun q hq => by
    rcases List.mem_append.mp (show q ∈ [_, _, _, _] ++ _ from hq) with hq | hq
    · exact N q (List.mem_append_left (as := [_, _, _, _]) _ hq)
    · exact N q (List.mem_append_right [_, _, _, _] (List.mem_append_left _ ((mv f q).mp hq)))
  have Nr : ∀ q ∈ r, News h₀ L s.heap [q] := fun q hq z hz => by
    rw [List.mem_singleton.mp hz]
    exact N q (List.mem_append_right (_ :: _ :: _ :: _ :: ndsLed f (a' ++ nd :: b')) hq)
  have mn : ∀ n, n ∈ nd :: (a' ++ b') → n ∈ a' ++ nd :: b' := fun n h => by
    rcases List.mem_cons.mp h with rfl | h
    · exact List.mem_append_right _ (.head _)
    rcases List.mem_append.mp h with h | h
    · exact List.mem_append_left _ h
    · exact List.mem_append_right _ (.tail _ h)
  have off : ∀ q ∈ r, ¬ (q.1 = dx ∨ q.1 = R ∨ ∃ n ∈ nd :: (a' ++ b'), q.1 = n.i) := fun q hq h => by
    obtain ⟨a1, a2, a3⟩ := hr q hq
    rcases h with h | h | ⟨n, hn, h⟩
    · exact a1 h
    · exact a2 h
    · exact a3 n (mn n hn) h
  have hn2 : ((nd :: (a' ++ b')).map Nd.p).Nodup := by
    refine (List.Perm.nodup_iff (List.Perm.map Nd.p ?_)).mp hn
    exact List.perm_middle
  obtain ⟨q0, hq0⟩ := List.exists_mem_of_ne_nil r hr0
  refine CC.use (done_c w mean mg mb S dx D R t1 t2 t3 t4 u3 u4 np nf oD c nd (a' ++ b') f (ndKvs (a' ++ nd :: b')) t hn2 hin hkn hD hlo (ndKvs_at hn) (fun n h => ndKvs_of hn (mn n (.tail _ h))) hrs hout hone hSD hdD (fun q hq => hdn _ (adr_led _ ((mv f q).mp hq))) (fun q hq => hRn _ (adr_led _ ((mv f q).mp hq)))) B F KX N1 T hh hf hd' hu ⟨⟨q0, Nr q0 hq0, off q0 hq0⟩, fun v h' tk' ⟨f', c', u4', e, hf', N'⟩ F' kp => ?_⟩
  subst e
  refine k f' c' u4' h' tk' hf' F' (rLed_sub (fun q hq => ?_) fun q hq => kp q (Nr q hq) (off q hq))
  rcases List.mem_append.mp (show q ∈ [_, _, _, _] ++ _ from hq) with hq | hq
  · exact N' q (List.mem_append_left (as := [_, _, _, _]) _ hq)
  · exact N' q (List.mem_append_right [_, _, _, _] ((mv f' q).mpr hq))
end
end Mine
end

section
open PySem PySem.W PySem.W.X PyProof.Rows PySem.Calls PyProof.V PySem.Spec
set_option Elab.async false
set_option maxRecDepth 100000
set_option maxHeartbeats 0
set_option linter.unusedVariables false
namespace Mine
inductive J1 (w : World) (S dx D x I : Addr) (qs : List (Str × Tok)) (n i : Nat) (m : Str → Option Value) (nw : List (Addr × Obj)) : Prop
  | mk (t1 t2 t3 t4 u3 u4 : Tok) (oD : Obj) (ns : List Nd) (f : NpF) : (Built dirF emp (sFst qs) I i ns f) → (oD.IsDictOf (PySem.strKind theProg w) (ndKvs ns)) → (m (Str.ofString "sorter") = some (.ref S)) → (m (Str.ofString "order") = some (.ref x)) → (nw = (D, oD) :: (S, instObj 153 dx) :: (dx, sorterD w t1 t2 t3 t4 (.ref D) .none 0 u3 0 u4 4) :: (x, sList qs n) :: ndsLed f ns) → J1 w S dx D x I qs n i m nw
noncomputable def LetC0 : Prop := ∀ (w : World) (mean : ExcName → Option Value) (mg mb : Str → Option Value) (x : Addr) (qs : List (Str × Tok)) (n : Nat), Paths dirF emp (sFst qs) →
  ∀ (gd : Option (List Code)) (cn : Str) (nm : List (Str × NameKind)) (ig ic : Bool) (mo : List (Str × Const)) (a : Addr) (ccd : Value) (A₀ : Around) (base h₀ : Heap) (L : Addr) (m : Str → Option Value) (s : Shared) (Q E : Value → Shared → Prop),
    Below A₀ base [] h₀ → Fr h₀ L s.heap m → (frag w.params).In h₀ → News h₀ L s.heap [(x, sList qs n)] → Top topProg LO mean mg mb h₀ →
    (∀ h' tk', Fr h₀ L h' m → Q (.bool true) { s with heap := h', toks := tk' }) →
      wpAny (model PySem.Challenge.rw_in0152_01.row.prog w) (ktrTop 700 7000 gd cn { kind := .function, names := nm, isGenerator := ig, isCoroutine := ic, more := mo } L a ccd [] []) (call (.ref 278) [.ref x]) Q E s
theorem lnW13 : True := by
  k_with_none
  k_with "zf" => (first | (k_here; k_fold; refine letA ?_; intro aX; (with_reducible rename Fr _ _ _ _ => kF); refine letM kF ?_; clear kF; intro mX kF) | (k_here; k_fold; refine letA ?_; intro aX) | (k_here; k_fold) | (k_here; with_reducible first | refine genT1 fun tk => ?_ | refine genT2 fun tk => ?_) | fail)
  k_with "execs cons" => (first | walk_at "zf" | fail)
  k_with "execs" => (first | walk_at "zf" | fail)
  k_with "execs nil" => (first | (k_here; with_reducible first | refine genT1 fun tk => ?_ | refine genT2 fun tk => ?_) | fail)
  k_with "k_ne" => (first | (refine neN ?_; first | (with_reducible first | assumption | exact Ne.symm (by assumption) | exact ca0 (by assumption) | exact cb0 (by assumption) | exact cc0 (by assumption) | exact cd0 (by assumption) | exact ca1 (by assumption) | exact cb1 (by assumption) | exact cc1 (by assumption) | exact cd1 (by assumption) | exact ca2 (by assumption) | exact cb2 (by assumption) | exact cc2 (by assumption) | exact cd2 (by assumption) | exact ca3 (by assumption) | exact cb3 (by assumption) | exact cc3 (by assumption) | exact cd3 (by assumption) | exact ca4 (by assumption) | exact cb4 (by assumption) | exact cc4 (by assumption) | exact cd4 (by assumption) | exact ca5 (by assumption) | exact cb5 (by assumption) | exact cc5 (by assumption) | exact cd5 (by assumption) | exact ca6 (by assumption) | exact cb6 (by assumption) | exact cc6 (by assumption) | exact cd6 (by assumption) | exact ca7 (by assumption) | exact cb7 (by assumption) | exact cc7 (by assumption) | exact cd7 (by assumption) | exact ca8 (by assumption) | exact cb8 (by assumption) | exact cc8 (by assumption) | exact cd8 (by assumption) | exact ca9 (by assumption) | exact cb9 (by assumption) | exact cc9 (by assumption) | exact cd9 (by assumption) | exact ca10 (by assumption) | exact cb10 (by assumption) | exact cc10 (by assumption) | exact cd10 (by assumption) | exact ca11 (by assumption) | exact cb11 (by assumption) | exact cc11 (by assumption) | exact cd11 (by assumption)) | (refine Nat.ne_of_lt (ltm (o := _) (by with_reducible assumption) ?_); k_mem; done) | (refine Nat.ne_of_gt (ltm (o := _) (by with_reducible assumption) ?_); k_mem; done) | ((try dsimp only); omega)) | fail)
  k_with "r tails" => first | (intro p hp; (repeat (first | exact hp | refine List.mem_cons_of_mem _ ?_)); done) | fail
  k_with "k_all" => first | with_reducible assumption | (refine' ne_tail ?la ?sa; (case la => with_reducible assumption); (case sa => walk_at "r tails")) | (refine' ne_tail2 ?ha ?la ?sa; (case ha => with_reducible assumption); (case la => with_reducible assumption); (case sa => walk_at "r tails")) | fail
  k_with "exec For Name Name cons nil" => first | (k_here; (rename Fr _ _ _ _ => lF'); (with_unfolding_all refine' For_turns lF' ?_; k_whole)) | fail
  k_with "pyIter ref" => first | (k_here; (with_reducible show wpAny _ _ (pyIter (Value.ref _)) (fun it s₂ => TurnsAt _ _ _ _ _ _ _ _ _ it s₂) _ _); (rename Fr _ _ _ _ => lF'); (rename News _ _ _ _ => lN'); (with_unfolding_all refine iter_listTurns (lo := sList _ _) (by rfl) lF' lN' (by k_mem) (by rfl) (by rfl) ?_); clear lF' lN'; intro i' l1) | fail
  k_with "eval Call Attribute" => first | (k_here; (with_reducible show wpAny _ _ (eval (Expr.Call (Expr.Attribute _ _ _) (_ :: Expr.Starred _ _ :: _) _ _) _) _ _ _); refine call_star rfl rfl ?_; k_whole) | fail
  k_with "call ref" => first | (k_here; (with_reducible show wpAny _ _ (call (Value.ref 258) _) _ _ _); k_dflt (refine' dir_use ?D ?k1 ?k2 ?k3 ?k4 ?k5 ?k6 ?k7 ?k8 ?k9 ?_; (case D => with_reducible assumption); (case k2 => k_asm); (case k1 => k_asm); (case k3 => k_asm); (case k4 => k_asm); (case k5 => k_asm); (case k6 => exact rfl); (case k7 => exact rfl); (case k8 => exact rfl); (case k9 => exact rfl); k_whole); intro t' h' tk' F' N') | (k_here; (with_reducible show wpAny _ _ (call (Value.ref 108) _) _ _ _); refine Stop.go ?_) | (k_here; (with_reducible show wpAny _ _ (call (Value.ref 115) _) _ _ _); refine Stop.go ?_) | (k_here; (with_reducible show wpAny _ _ (call (Value.ref 136) _) _ _ _); refine Stop.go ?_) | (k_here; (with_reducible show wpAny _ _ (call (Value.ref 122) _) _ _ _); refine Stop.go ?_) | (k_here; (with_reducible show wpAny _ _ (call (Value.ref _) (Value.str _ _ :: _)) _ _ _); k_dflt (refine' call_meth ?N ?q ?_; (case N => k_asm); (case q => k_mem)); refine Stop.go ?_) | fail
  k_with "callWith ref" => first | (k_here; (with_reducible show wpAny _ _ (callWith _ (Value.ref _) _ (backTo _ (starEach (_ :: _ :: _) _)) []) _ _ _); k_dflt (refine' callWith_SM ?X ?N ?q ?f ?_; (case X => k_asm); (case N => k_asm); (case q => k_mem); (case f => k_is); k_whole)) | fail
  k_with "And" => first | (k_here; (with_reducible show MethP _ _ _ _ _ ∧ _); k_dflt (refine' And.intro (methP ?N ?q ?X) ?_; (case N => k_asm); (case q => k_mem); (case X => k_in)); (try dsimp only [List.nil_append, List.cons_append])) | fail
  k_with "CompRestT" => first | (k_dflt (refine' one_rest rfl rfl rfl ?hm ?hy ?_; (case hm => exact .inr ⟨_, by k_mem, rfl, _, rfl⟩); (case hy => first | exact if_pos rfl | exact if_neg (by with_reducible assumption)); k_whole)) | fail
  k_with "call type:list" => first | (k_here; (with_reducible show wpAny _ _ (call (Value.type "list") [Value.ref _]) _ _ _); k_dflt (refine' list_of_tup ?F ?N ?b ?z ?_; (case F => k_asm); (case N => k_asm); (case b => k_mem); (case z => with_reducible assumption)); intro W' c' h' F' N' lW) | fail
  k_with "compareOp NotIn str ref" => first | (k_here; k_dflt (refine' notin_false ?k1 ?k2 ?k3 ?_; (case k1 => k_asm); (case k2 => k_mem); (case k3 => with_reducible assumption))) | fail
  k_with "call builtin:list.remove" => first | (k_here; k_dflt (refine' remove_s ?k1 ?k2 ?k3 ?k4 ?k5 ?_; (case k1 => k_asm); (case k2 => k_asm); (case k3 => k_updF); (case k4 => with_reducible assumption); (case k5 => with_reducible assumption)); intro ws' c' h' hws' F' N'; (try dsimp only at N')) | fail
  k_with "call builtin:list.extend" => first | (k_here; k_dflt (refine' extend_s ?k1 ?k2 ?k3 ?k4 ?k5 ?k6 ?_; (case k1 => k_asm); (case k2 => k_asm); (case k3 => k_updF); (case k4 => k_mem); (case k5 => with_reducible assumption); (case k6 => with_reducible assumption)); intro c' h' F' N'; (try dsimp only at N')) | fail
  k_with "compareOp Eq ref ref" => first | (k_here; k_dflt (refine' eq_nil ?k1 ?k2 ?k3 ?k4 ?_; (case k1 => exact Nat.le_of_ble_eq_true rfl); (case k2 => k_asm); (case k3 => k_mem); (case k4 => k_mem))) | fail
  trivial
theorem eq_nil {prog : Program} {w : World} {A : Around} {E : Value → Shared → Prop} {s : Shared} {h₀ : Heap} {L W l : Addr} {news : List (Addr × Obj)} {c n : Nat} {Q : Value → Shared → Prop} (hu : A.units < cLine) (N : News h₀ L s.heap news) (hm : (W, sList [] c) ∈ news) (hl : (l, listOf #[] n) ∈ news) (h : Q (.bool true) s) : wpAny (model prog w) A (compareOp .Eq (.ref W) (.ref l)) Q E s :=
  cmp_eq (xs := []) (ys := []) hu (N _ hm).1 (N _ hl).1 (by rw [decide_eq_true rfl]; exact h)
theorem notin_false {prog : Program} {w : World} {A : Around} {E : Value → Shared → Prop} {s : Shared} {h₀ : Heap} {L W : Addr} {news : List (Addr × Obj)} {ws : List (Str × Tok)} {c : Nat} {p : Str} {t : Tok} {Q : Value → Shared → Prop} (N : News h₀ L s.heap news) (hm : (W, sList ws c) ∈ news) (hp : p ∈ sFst ws) (h : Q (.bool false) s) : wpAny (model prog w) A (compareOp .NotIn (.str p t) (.ref W)) Q E s :=
  notin_s N hm (by rw [decide_eq_true hp]; exact h)
theorem roots_in {f : NpF} {ns : List Nd} : (∀ r ∈ rootsOf f ns, r.1 ∈ ns.map Nd.p) ∧ (rootsOf f ns).length ≤ ns.length := by
  unfold rootsOf
  refine ⟨fun r hr => ?_, by rw [List.length_map]; exact List.length_filter_le ..⟩
  obtain ⟨n, hn, rfl⟩ := List.mem_map.mp hr
  exact List.mem_map_of_mem (f := Nd.p) (List.mem_filter.mp hn).1
inductive J2 (w : World) (S dx D R W T x : Addr) (oD : Obj) (ns : List Nd) (r0 qs : List (Str × Tok)) (n i : Nat) (m : Str → Option Value) (nw : List (Addr × Obj)) : Prop
  | mk (t1 t2 t3 t4 u3 u4 : Tok) (f : NpF) (ws : List (Str × Tok)) (c c' : Nat) (np nf : Int) : (Run dirF emp (sFst qs) i ns f (sFst ws)) → (np = (i : Int) + ws.length) → (nf = (i : Int)) → (m (Str.ofString "sorter") = some (.ref S)) → (m (Str.ofString "waits") = some (.ref W)) → (nw = (W, sList ws c) :: (T, tupS r0) :: (x, sList qs n) :: (S, instObj 153 dx) :: (dx, sorterD w t1 t2 t3 t4 (.ref D) (.ref R) np u3 nf u4 4) :: (D, oD) :: (R, listOf #[] c') :: ndsLed f ns) → J2 w S dx D R W T x oD ns r0 qs n i m nw
theorem perm3 {q : Addr × Obj} {a b l : List (Addr × Obj)} : q ∈ a ++ (b ++ l) ↔ q ∈ b ++ (l ++ a) := by
  rw [List.mem_append, List.mem_append, List.mem_append, List.mem_append]
  exact ⟨fun h => h.elim (fun h => .inr (.inr h)) fun h => h.elim .inl fun h => .inr (.inl h), fun h => h.elim (fun h => .inr (.inl h)) fun h => h.elim (fun h => .inr (.inr h)) .inl⟩
theorem adr_info {n : Nd} : ∀ {ns : List Nd}, n ∈ ns → n.i ∈ adr ns
  | m :: r, h => by
    rcases List.mem_cons.mp h with rfl | h
    · exact .head _
    · exact .tail _ (.tail _ (.tail _ (adr_info h)))
theorem turn1_end {w : World} {S dx D x I L : Addr} {g h' : Heap} {s₁ : Shared} {tk : Nat} {t1 t2 t3 t4 u3 u4 : Tok} {oD it : Obj} {qs : List (Str × Tok)} {n i : Nat} {ns : List Nd} {f : NpF} {m : Str → Option Value} (b1 : @LT.lt Nat _ S I) (b2 : @LT.lt Nat _ dx I) (b3 : @LT.lt Nat _ D I) (b4 : @LT.lt Nat _ x I) (Bu : Built dirF emp (sFst qs) I (i + 1) ns f) (hD : oD.IsDictOf (PySem.strKind theProg w) (ndKvs ns))
    (F : Fr g L h' m) (N : News g L h' (sLed w S dx D t1 t2 t3 t4 u3 u4 .none 0 0 oD ([(I, it), (x, sList qs n)] ++ ndsLed f ns))) (m1 : m (Str.ofString "sorter") = some (.ref S)) (m2 : m (Str.ofString "order") = some (.ref x)) :
    UnrEndW g L s₁ [(I, it)] (fun m' n' => SubL [(x, sList qs n)] n' ∧ J1 w S dx D x I qs n (i + 1) m' n') { s₁ with heap := h', toks := tk } := by
  refine ⟨h', tk, m, (D, oD) :: (S, instObj 153 dx) :: (dx, sorterD w t1 t2 t3 t4 (.ref D) .none 0 u3 0 u4 4) :: (x, sList qs n) :: ndsLed f ns, rfl, F, News.sub N fun q hq => ?_, fun q hq z hz => ?_, ⟨.tail _ (.tail _ (.tail _ (.head _))), trivial⟩, t1, t2, t3, t4, u3, u4, oD, ns, f, Bu, hD, m1, m2, rfl⟩
  · revert q
    refine fa_cons (.tail _ (.tail _ (.tail _ (.head _)))) ?_
    refine fa_cons (.tail _ (.tail _ (.head _))) ?_
    refine fa_cons (.head _) ?_
    refine fa_cons (.tail _ (.head _)) ?_
    refine fa_cons (.tail _ (.tail _ (.tail _ (.tail _ (.head _))))) ?_
    intro q hq
    · exact .tail _ (.tail _ (.tail _ (.tail _ (.tail _ hq))))
  · rw [List.mem_singleton.mp hz]
    revert q
    refine fa_cons (Nat.ne_of_lt b3) ?_
    refine fa_cons (Nat.ne_of_lt b1) ?_
    refine fa_cons (Nat.ne_of_lt b2) ?_
    refine fa_cons (Nat.ne_of_lt b4) ?_
    intro q hq
    · exact Nat.ne_of_gt (Bu.hi _ (adr_led ns hq))
theorem sub1 {a b d e f g k l : Addr × Obj} {r : List (Addr × Obj)} : ∀ q ∈ e :: f :: d :: (b :: g :: r), q ∈ k :: l :: a :: b :: d :: e :: f :: g :: r := fun q hq => by
  revert q
  refine fa_cons (.tail _ (.tail _ (.tail _ (.tail _ (.tail _ (.head _)))))) ?_
  refine fa_cons (.tail _ (.tail _ (.tail _ (.tail _ (.tail _ (.tail _ (.head _))))))) ?_
  refine fa_cons (.tail _ (.tail _ (.tail _ (.tail _ (.head _))))) ?_
  refine fa_cons (.tail _ (.tail _ (.tail _ (.head _)))) ?_
  intro q hq
  · exact .tail _ (.tail _ (.tail _ (.tail _ (.tail _ (.tail _ (.tail _ hq))))))
theorem lt_of_mem {I a : Addr} {o : Obj} {l : List (Addr × Obj)} (h : ∀ p ∈ l, p.1 < I) (hm : (a, o) ∈ l) : a < I := h (a, o) hm
theorem let_c0 : LetC0 := by
  unfold LetC0
  k_fill
  intro w mean mg mb x qs n hP gd cn nm ig ic mo a ccd A₀ base h₀ L m s Q E B₀ F X N T hret
  have B : Below A₀ h₀ [] h₀ := ⟨B₀.stack, fun _ _ e => e, trivial⟩
  clear B₀
  k_steps
  rename_i g1 L1 _ FG1 B1 X1 T1 D1 qk1 ek1 _ S dx _ lxd lds _ _ _ _ _ _ _ D _ oD0 hlo hD0 _ _ _ lD _ _ _ _ _ _ _ F0 N0 _ _ _ _
  have b1 : @LT.lt Nat _ S i' := l1 _ (.tail _ (.head _))
  have b2 : @LT.lt Nat _ dx i' := l1 _ (.tail _ (.tail _ (.head _)))
  have b3 : @LT.lt Nat _ D i' := l1 _ (.head _)
  have b4 : @LT.lt Nat _ x i' := l1 _ (.tail _ (.tail _ (.tail _ (.head _))))
  have hSD : @Ne Nat S D := Nat.ne_of_lt lD.1
  have hdD : @Ne Nat dx D := Nat.ne_of_lt lD.2.1
  refine items_ind (J := fun i m nw => J1 w S dx D x i' qs n i m nw) ?h0 ?step ?fin
  case h0 =>
    exact ⟨_, _, _, _, _, _, oD0, [], fun _ => (0, 0), ⟨rfl, fun n h => (nomatch h), fun n h => (nomatch h), fun n h => (nomatch h), List.nodup_nil⟩, hD0, by with_unfolding_all rfl, by with_unfolding_all rfl, rfl⟩
  case step =>
    clear l1 F0 N0
    rintro i a m nw ha ⟨t1, t2, t3, t4, u3, u4, oD, ns, f, Bu, hD, m1, m2, rfl⟩ v h tk hv F
    obtain ⟨r, hr, rfl⟩ := val_at ha
    have hv' : v = .str r.1 r.2 := hv
    subst hv'
    have hPi := sFst_at hr
    rw [m_eq2 m1 m2] at F
    refine AllObj.cons fun it hit => AllObj.nil fun N => ?_
    have ho : ∀ q ∈ [(i', it), (x, sList qs n)], q.1 ≠ D := fun q hq => by
      rcases List.mem_cons.mp hq with rfl | hq
      · exact Nat.ne_of_gt b3
      · rw [List.mem_singleton.mp hq]; exact Nat.ne_of_lt lD.2.2
    have ho2 : ∀ q ∈ [(i', it), (x, sList qs n)], @LE.le Nat _ q.1 i' := fun q hq => by
      rcases List.mem_cons.mp hq with rfl | hq
      · exact Nat.le_refl _
      · rw [List.mem_singleton.mp hq]; exact Nat.le_of_lt b4
    have N1 : News g1 L1 h ((i', it) :: (D, oD) :: (S, instObj 153 dx) :: (dx, sorterD w t1 t2 t3 t4 (.ref D) .none 0 u3 0 u4 4) :: (x, sList qs n) :: ndsLed f ns) := N
    clear N
    rcases hP.dir _ _ hPi with hroot | hkid
    · generalize hT : ndsLed f ns = tail at N1
      have hdir : DirIs r.1 emp := ⟨(hP.sz _ (List.mem_of_getElem? hPi)).1, hroot⟩
      k_steps
      unfold Stop
      subst hT
      rename News _ _ _ _ => N9
      refine add_root hP Bu hPi hroot hD hlo hSD hdD b3 ho ⟨it, .head _⟩ (by k_asm) (by k_asm) (by k_asm) (by k_asm) rfl rfl rfl rfl (News.sub N9 fun q hq => sub1 q hq) fun ns' f' oD' h9 tk9 Bu' hD' F9 N10 => ?_
      refine wpAny_execs_nil ?_
      exact turn1_end b1 b2 b3 b4 Bu' hD' F9 N10 (by with_unfolding_all rfl) (by with_unfolding_all rfl)
    · rw [← Bu.ps] at hkid
      obtain ⟨a', pn, b', rfl, hpn⟩ := nd_pick hkid
      generalize hT : ndsLed f (a' ++ pn :: b') = tail at N1
      have hdir : DirIs r.1 pn.p := ⟨(hP.sz _ (List.mem_of_getElem? hPi)).1, hpn.symm⟩
      have hne : ¬ pn.p = emp := (hP.sz _ (List.mem_of_mem_take (Bu.ps ▸ List.mem_map_of_mem (f := Nd.p) (List.mem_append_right _ (.head _))))).2.1
      k_steps
      unfold Stop
      subst hT
      rename News _ _ _ _ => N9
      refine add_kid hP Bu hPi hpn.symm hD hlo hSD hdD b3 b1 b2 ho ho2 ⟨it, .head _⟩ (by k_asm) (by k_asm) (by k_asm) (by k_asm) rfl rfl rfl rfl (News.sub N9 fun q hq => sub1 q hq) fun ns' f' oD' h9 tk9 Bu' hD' F9 N10 => ?_
      refine wpAny_execs_nil ?_
      exact turn1_end b1 b2 b3 b4 Bu' hD' F9 N10 (by with_unfolding_all rfl) (by with_unfolding_all rfl)
  case fin =>
    rintro m nw h tk ⟨t1, t2, t3, t4, u3, u4, oD, ns, f, Bu, hD, m1, m2, rfl⟩ F N
    rw [m_eq2 m1 m2] at F
    clear l1 F0 N0
    have hl : (List.map Itm.val (strValues qs)).length = (sFst qs).length := by unfold strValues sFst; rw [List.length_map, List.length_map, List.length_map]
    rw [hl] at Bu
    have XF := Bu.forest hP
    have hdn : ∀ z ∈ adr ns, z ≠ dx := fun z hz => Nat.ne_of_gt (Nat.lt_trans b2 (Bu.hi z hz))
    have hdn2 : ∀ q ∈ ndsLed f ns ++ [(x, sList qs n)], q.1 ≠ dx := fun q hq => by
      rcases List.mem_append.mp hq with hq | hq
      · exact hdn _ (adr_led ns hq)
      · rw [List.mem_singleton.mp hq]; exact Nat.ne_of_lt lxd
    generalize hT : ndsLed f ns = tail at N
    dsimp only
    k_steps
    unfold Stop
    subst hT
    rename News _ _ _ _ => N9
    show wpAny _ _ (call (.ref 108) [.ref S]) _ _ _
    refine CS.use (prep_c w mean mg mb S dx D t1 t2 t3 t4 u3 u4 oD ns f [(x, sList qs n)] XF hD hlo hSD hdD hdn2) (by k_asm) (by k_asm) (by k_asm) (News.sub N9 fun q hq => ?nsub) (by k_asm) X T (by k_asm) KtsTurn.refl rfl rfl rfl rfl ?rest
    case nsub =>
      rcases List.mem_append.mp (show q ∈ [_, _, _] ++ _ from hq) with hq | hq
      · rcases List.mem_cons.mp hq with rfl | hq
        · exact .tail _ (.head _)
        rcases List.mem_cons.mp hq with rfl | hq
        · exact .tail _ (.tail _ (.head _))
        · rw [List.mem_singleton.mp hq]; exact .head _
      rcases List.mem_append.mp hq with hq | hq
      · exact .tail _ (.tail _ (.tail _ (.tail _ hq)))
      · rw [List.mem_singleton.mp hq]; exact .tail _ (.tail _ (.tail _ (.head _)))
    case rest =>
      rintro v led' h9 tk9 g9 ⟨R, c, rfl, hR, rfl⟩ T9 F9 N9 B9 X9 P9 D9
      obtain ⟨tl, htl⟩ : ∃ l, l = ndsLed f ns ++ [(x, sList qs n)] := ⟨_, rfl⟩
      rw [← htl] at N9
      dsimp only
      k_steps
      unfold Stop
      rename News _ _ _ _ => N8
      show wpAny _ _ (call (.ref 115) [.ref S]) _ _ _
      have hrl : (rootsOf f ns).length ≤ 64 := Nat.le_trans roots_in.2 XF.len
      have hRn : ∀ z ∈ adr ns, z ≠ R := fun z hz => by
        obtain ⟨q, hq, e⟩ := adr_mem (f := f) ns hz
        exact e ▸ hR q (List.mem_append_left _ hq)
      have hxR : @Ne Nat x R := hR (x, sList qs n) (List.mem_append_right _ (.head _))
      have hxi : ∀ n ∈ ns, @Ne Nat x n.i := fun n hn => Nat.ne_of_lt (Nat.lt_trans b4 (Bu.hi _ (adr_info hn)))
      refine getr_use (t1 := t1) (t2 := t2) (t3 := t3) (t4 := t4) (u3 := u3) (u4 := u4) (np := 0) (nf := 0) (c := c) (f := f) (rs := rootsOf f ns) (r := [(x, sList qs n)]) XF.nodup roots_in.1 hD hlo XF.len hrl hSD hdD hdn hRn (fun q hq => by rw [List.mem_singleton.mp hq]; exact ⟨Nat.ne_of_lt lxd, hxR, hxi⟩) (List.cons_ne_nil _ _) (by k_asm) (by k_asm) (by k_asm) (by k_asm) rfl rfl rfl rfl (News.sub N8 fun q hq => ?nsub) ?rest
      case nsub =>
        rw [htl]
        revert q
        refine fa_cons (.tail _ (.head _)) ?_
        refine fa_cons (.tail _ (.tail _ (.head _))) ?_
        refine fa_cons (.tail _ (.tail _ (.tail _ (.head _)))) ?_
        refine fa_cons (.head _) ?_
        intro q hq
        · exact .tail _ (.tail _ (.tail _ (.tail _ hq)))
      case rest =>
        intro T2 f1 c1 u5 h8 tk8 hf1 F8 N7
        have R0 := Run.start hP Bu hf1
        have N6 : News g9 L1 h8 ((T2, tupS (rootsOf f ns)) :: (x, sList qs n) :: (S, instObj 153 dx) :: (dx, sorterD w t1 t2 t3 t4 (.ref D) (.ref R) (0 + (rootsOf f ns).length) u5 0 u4 4) :: (D, oD) :: (R, listOf #[] c1) :: ndsLed f1 ns) := News.sub N7 fun q hq => by
          revert q
          refine fa_cons (.head _) ?_
          refine fa_cons (.tail _ (.tail _ (.tail _ (.tail _ (.tail _ (List.mem_append_right _ (.head _))))))) ?_
          intro q hq
          refine .tail _ ?_
          exact List.mem_append_left (as := _ :: _ :: _ :: _ :: ndsLed f1 ns) _ hq
        generalize hT : ndsLed f1 ns = tail at N6
        clear N7 N8 N9
        have hT2 : ∀ q : Addr × Obj, q ∈ (x, sList qs n) :: (S, instObj 153 dx) :: (dx, sorterD w t1 t2 t3 t4 (.ref D) (.ref R) (0 + (rootsOf f ns).length) u5 0 u4 4) :: (D, oD) :: (R, listOf #[] c1) :: tail → q.2.cls ≠ .type "tuple" → @Ne Nat T2 q.1 := fun q hq h => ne_cls N6 (.head _) (.tail _ hq) (Ne.symm h)
        have hTx : @Ne Nat T2 dx := hT2 _ (.tail _ (.tail _ (.head _))) (typ_ne (by decide))
        have hTR : @Ne Nat T2 R := hT2 (R, listOf #[] c1) (.tail _ (.tail _ (.tail _ (.tail _ (.head _))))) (typ_ne (by decide))
        have hTi : ∀ n ∈ ns, @Ne Nat T2 n.i := fun n hn => hT2 (n.i, infoObj n.d n.p n.t (f1 n.p).1 (f1 n.p).2 n.l) (.tail _ (.tail _ (.tail _ (.tail _ (.tail _ (hT ▸ ndsLed_mem.mpr ⟨n, hn, Nd.led_mem.mpr (.inl rfl)⟩)))))) ref_typ
        k_steps
        rename_i h7
        have w1 : @LT.lt Nat _ T2 W' := lW _ (.head _)
        have w2 : @LT.lt Nat _ x W' := lW _ (.tail _ (.head _))
        have w3 : @LT.lt Nat _ S W' := lW _ (.tail _ (.tail _ (.head _)))
        have w4 : @LT.lt Nat _ dx W' := lW _ (.tail _ (.tail _ (.tail _ (.head _))))
        have w5 : @LT.lt Nat _ D W' := lW _ (.tail _ (.tail _ (.tail _ (.tail _ (.head _)))))
        have w6 : @LT.lt Nat _ R W' := lW (R, listOf #[] c1) (.tail _ (.tail _ (.tail _ (.tail _ (.tail _ (.head _))))))
        have w7 : ∀ z ∈ adr ns, @LT.lt Nat _ z W' := fun z hz => by
          obtain ⟨q, hq, e⟩ := adr_mem (f := f1) ns hz
          exact e ▸ lW q (.tail _ (.tail _ (.tail _ (.tail _ (.tail _ (.tail _ (hT ▸ hq)))))))
        have w8 : @LT.lt Nat _ W' i' := l1 _ (.head _)
        clear hT2 lW
        refine items_ind (J := fun i m nw => J2 w S dx D R W' T2 x oD ns (rootsOf f ns) qs n i m nw) ?h0 ?step ?fin
        case h0 =>
          exact ⟨t1, t2, t3, t4, u5, u4, f1, rootsOf f ns, c', c1, 0 + (rootsOf f ns).length, 0, R0, rfl, rfl, by with_unfolding_all rfl, by with_unfolding_all rfl, by rw [hT]⟩
        case step =>
          clear l1 R0 hf1
          rintro i a m nw ha ⟨t1, t2, t3, t4, u3, u4, f, ws, c, c', np, nf, Rn, hnp, hnf, m1, m2, rfl⟩ v h tk hv F
          obtain ⟨r, hr, rfl⟩ := val_at ha
          have hPi := sFst_at hr
          obtain ⟨a', nd, b', rfl, hp⟩ := nd_pick (p := r.1) (by rw [Rn.ps]; exact List.mem_of_getElem? hPi)
          have hv' : v = .str nd.p r.2 := by rw [hp]; exact hv
          subst hv'
          rw [← hp] at hPi
          rw [m_eq2 m1 m2] at F
          refine AllObj.cons fun it hit => AllObj.nil fun N => ?_
          have hin := Rn.has hP hPi
          have hwl : ws.length ≤ 64 := by
            have z := Rn.len hP
            rw [show (sFst ws).length = ws.length from List.length_map ..] at z
            exact Nat.le_trans z (by decide)
          have hnd : nd ∈ a' ++ nd :: b' := List.mem_append_right _ (.head _)
          have N1 : News g9 L1 h ((i', it) :: (W', sList ws c) :: (T2, tupS (rootsOf _ _)) :: (x, sList qs n) :: (S, instObj 153 dx) :: (dx, sorterD w t1 t2 t3 t4 (.ref D) (.ref R) np u3 nf u4 4) :: (D, oD) :: (R, listOf #[] c') :: ndsLed f (a' ++ nd :: b')) := N
          clear N
          generalize hT : ndsLed f (a' ++ nd :: b') = tail at N1
          have v1 : ∀ q ∈ tail, q.1 ≠ W' := fun q hq => Nat.ne_of_lt (w7 _ (adr_led _ (hT ▸ hq)))
          have hkid : ∀ z ∈ nd.kids, z.1 ∈ sFst qs ∧ dirF z.1 = nd.p := fun z hz => by
            have y : z.1 ∈ sFst nd.kids := List.mem_map_of_mem (f := Prod.fst) hz
            rw [Rn.kids nd hnd] at y
            have := List.mem_filter.mp y
            exact ⟨this.1, of_decide_eq_true this.2⟩
          have hkn : (sFst nd.kids).Nodup := by rw [Rn.kids nd hnd]; exact hP.nodup.filter _
          have hkl := XF.klen nd hnd
          have hout : (f nd.p).1 = -1 := (Rn.st nd.p ((Rn.mem nd.p).mp hin).1).trans ((Rn.mem nd.p).mp hin).2
          have hone : ∀ z ∈ nd.kids, (f z.1).1 = 1 := fun z hz => (Rn.st z.1 (hkid z hz).1).trans (stat_kid hP hPi (hkid z hz).2)
          have hins : ∀ z ∈ nd.kids, z.1 ∈ (a' ++ b').map Nd.p := fun z hz => by
            have y := XF.kin nd hnd z hz
            rw [List.map_append, List.map_cons] at y
            rw [List.map_append]
            rcases List.mem_append.mp y with y | y
            · exact List.mem_append_left _ y
            rcases List.mem_cons.mp y with y | y
            · exact absurd ((congrArg dirF y).symm.trans (hkid z hz).2) (dir_ne hP hPi)
            · exact List.mem_append_right _ y
          have hap : ∀ ws2 c2 r2, Apart dx R (a' ++ nd :: b') [(i', it), (W', sList ws2 c2), (T2, tupS r2), (x, sList qs n)] := fun ws2 c2 r2 q hq => by
            revert q
            refine fa_cons (⟨Nat.ne_of_gt (Nat.lt_trans w4 w8), Nat.ne_of_gt (Nat.lt_trans w6 w8), fun n hn => Nat.ne_of_gt (Nat.lt_trans (w7 _ (adr_info hn)) w8)⟩) ?_
            refine fa_cons (⟨Nat.ne_of_gt w4, Nat.ne_of_gt w6, fun n hn => Nat.ne_of_gt (w7 _ (adr_info hn))⟩) ?_
            refine fa_cons (⟨hTx, hTR, hTi⟩) ?_
            intro q hq
            · rw [List.mem_singleton.mp hq]; exact ⟨Nat.ne_of_lt lxd, hxR, hxi⟩
          k_steps
          unfold Stop
          subst hT
          rename News _ _ _ _ => N2
          have hwl2 : ws'.length ≤ 64 := by
            have z := congrArg List.length hws'
            have y := List.length_erase_le (a := nd.p) (l := sFst ws)
            rw [show (sFst ws').length = ws'.length from List.length_map ..] at z
            rw [show (sFst ws).length = ws.length from List.length_map ..] at y
            rw [z]
            exact Nat.le_trans y hwl
          refine done_use (t1 := t1) (t2 := t2) (t3 := t3) (t4 := t4) (u3 := u3) (u4 := u4) (np := np) (nf := nf) (c := _) (f := f) (oD := oD) (r := [(i', it), (W', sList ws' c'), (T2, tupS _), (x, sList qs n)]) XF.nodup hins hkn hD hlo hkl hout hone hSD hdD hdn hRn (hap _ _ _) (List.cons_ne_nil _ _) (by k_asm) (by k_asm) (by k_asm) (by k_asm) rfl rfl rfl rfl (News.sub N2 fun q hq => (perm3 (a := [_, _, _, _]) (b := [_, _, _, _])).mpr hq) fun f2 c2 u6 h10 tk10 hf2 F10 N10 => ?_
          have N11 := News.sub N10 (l := [_, _, _, _] ++ ([_, _, _, _] ++ _)) fun q hq => perm3.mp hq
          simp only [List.cons_append, List.nil_append] at N11
          generalize hT : ndsLed f2 (a' ++ nd :: b') = tail at N11
          clear N10 N2
          have v1 : ∀ q ∈ tail, q.1 ≠ W' := fun q hq => Nat.ne_of_lt (w7 _ (adr_led _ (hT ▸ hq)))
          k_steps
          unfold Stop
          subst hT
          rename News _ _ _ _ => N2
          show wpAny _ _ (call (.ref 115) [.ref S]) _ _ _
          refine getr_use (t1 := t1) (t2 := t2) (t3 := t3) (t4 := t4) (u3 := u3) (u4 := u6) (np := np) (nf := nf + 1) (c := c2) (f := f2) (oD := oD) (rs := nd.kids) (r := [(i', it), (W', sList ws' c'), (T2, tupS _), (x, sList qs n)]) XF.nodup (XF.kin nd hnd) hD hlo XF.len hkl hSD hdD hdn hRn (hap _ _ _) (List.cons_ne_nil _ _) (by k_asm) (by k_asm) (by k_asm) (by k_asm) rfl rfl rfl rfl (News.sub N2 fun q hq => (perm3 (a := [_, _, _, _]) (b := [_, _, _, _])).mpr hq) fun T3 f3 c3 u7 h11 tk11 hf3 F11 N12 => ?_
          have N13 : News g9 L1 h11 ((T3, tupS nd.kids) :: (i', it) :: (W', sList ws' c') :: (T2, tupS (rootsOf _ _)) :: (x, sList qs n) :: (S, instObj 153 dx) :: (dx, sorterD w t1 t2 t3 t4 (.ref D) (.ref R) (np + nd.kids.length) u7 (nf + 1) u6 4) :: (D, oD) :: (R, listOf #[] c3) :: ndsLed f3 (a' ++ nd :: b')) := News.sub N12 fun q hq => by
            rcases List.mem_cons.mp hq with rfl | hq
            · exact .head _
            · exact .tail _ ((perm3 (a := [_, _, _, _]) (b := [_, _, _, _])).mp hq)
          have v3 : @Ne Nat T3 W' := ne_cls N13 (.head _) (.tail _ (.tail _ (.head _))) (typ_ne (by decide))
          generalize hT : ndsLed f3 (a' ++ nd :: b') = tail at N13
          clear N12 N2
          have v1 : ∀ q ∈ tail, q.1 ≠ W' := fun q hq => Nat.ne_of_lt (w7 _ (adr_led _ (hT ▸ hq)))
          k_steps
          subst hT
          rename News _ _ _ _ => N4
          have esf : sFst (ws' ++ nd.kids) = (sFst ws).erase nd.p ++ sFst nd.kids := by
            rw [← hws']
            exact List.map_append
          have Rn2 : Run dirF emp (sFst qs) (i + 1) (a' ++ nd :: b') f3 (sFst (ws' ++ nd.kids)) := by
            rw [esf]
            exact Rn.next hP hPi (Rn.kids nd hnd) hf2 hf3
          have hct := Rn.count hP hPi (kids := sFst nd.kids)
          rw [← esf, show (sFst (ws' ++ nd.kids)).length = (ws' ++ nd.kids).length from List.length_map .., show (sFst ws).length = ws.length from List.length_map .., show (sFst nd.kids).length = nd.kids.length from List.length_map ..] at hct
          refine ⟨_, _, _, _, rfl, by k_asm, News.sub N4 fun q hq => ?_, fun q hq z hz => ?_, ⟨.tail _ (.tail _ (.head _)), trivial⟩, t1, t2, t3, t4, u7, u6, f3, ws' ++ nd.kids, c', c3, np + nd.kids.length, nf + 1, Rn2, ?_, ?_, by with_unfolding_all rfl, by with_unfolding_all rfl, rfl⟩
          · rcases List.mem_cons.mp hq with rfl | hq
            · exact .tail _ (.head _)
            · exact .tail _ (.tail _ hq)
          · rw [List.mem_singleton.mp hz]
            refine Nat.ne_of_lt ?_
            rcases List.mem_cons.mp hq with rfl | hq
            · exact w8
            refine Nat.lt_trans ?_ w8
            rcases List.mem_cons.mp hq with rfl | hq
            · exact w1
            rcases List.mem_cons.mp hq with rfl | hq
            · exact w2
            rcases List.mem_cons.mp hq with rfl | hq
            · exact w3
            rcases List.mem_cons.mp hq with rfl | hq
            · exact w4
            rcases List.mem_cons.mp hq with rfl | hq
            · exact w5
            rcases List.mem_cons.mp hq with rfl | hq
            · exact w6
            · exact w7 _ (adr_led _ hq)
          · rw [hnp]
            clear hnp hnf
            (first | lia | omega)
          · rw [hnf]
            rfl
        case fin =>
          rintro m nw h tk ⟨t1, t2, t3, t4, u3, u4, f, ws, c, c', np, nf, Rn, hnp, hnf, m1, m2, rfl⟩ F N
          rw [m_eq2 m1 m2] at F
          clear l1 R0 hf1
          rw [hl] at Rn hnp hnf
          have hw := Rn.over (Nat.le_refl _)
          obtain rfl : ws = [] := List.map_eq_nil_iff.mp hw
          obtain rfl : np = nf := by rw [hnp, hnf]; rfl
          generalize hT : ndsLed f ns = tail at N
          dsimp only
          k_steps
          unfold Stop
          rename News _ _ _ _ => N5
          show wpAny _ _ (call (.ref 122) [.ref S]) _ _ _
          refine CP.use (active_c w mean mg mb S dx R t1 t2 t3 t4 u3 u4 (.ref D) np c') (by k_asm) (by k_asm) (by k_asm) N5 (by k_asm) rfl rfl rfl rfl (List.cons_ne_nil _ _) (fun q hq => ?_) fun v h6 tk6 e F6 N6 => ?_
          · revert q
            refine fa_cons (.tail _ (.tail _ (.tail _ (.tail _ (.head _))))) ?_
            refine fa_cons (.tail _ (.tail _ (.tail _ (.tail _ (.tail _ (.head _)))))) ?_
            intro q hq
            · rw [List.mem_singleton.mp hq]; exact .tail _ (.tail _ (.tail _ (.tail _ (.tail _ (.tail _ (.tail _ (.head _)))))))
          subst e
          dsimp only
          k_steps
          rename Fr h₀ L _ _ => kF9
          exact hret _ _ kF9
end Mine
end

section
open PySem PySem.W PySem.W.X PyProof.Rows PySem.Calls
set_option Elab.async false
set_option maxRecDepth 100000
set_option maxHeartbeats 400000
set_option linter.unusedVariables false
namespace Mine
theorem lnW17 : True := by
  k_with_none
  trivial
theorem pth_inj : ∀ r ∈ rows39, ∀ q ∈ rows39, pth r = pth q → r = q := by decide +kernel
theorem pth_sz : ∀ r ∈ rows39, (pth r).length ≤ 1048576 ∧ pth r ≠ emp ∧ (dirF (pth r)).length < (pth r).length := by decide +kernel
theorem emp_eq : Str.empty = emp := by decide +kernel
theorem paths_of {rows : List (List Str)} (D : Drawn rows) (hn : 1 ≤ rows.length) (h21 : rows.length ≤ 21) : Paths dirF emp ((sortR rows).map pth) := by
  have S := D.sort hn
  refine ⟨?_, ?_, fun i p hp => ?_, fun p hp => ?_⟩
  · refine List.pairwise_map.mpr (List.Pairwise.imp_of_mem (fun {a b} ha hb h e => ?_) S.nodup)
    exact h (pth_inj a (S.sub a ha) b (S.sub b hb) e)
  · rw [List.length_map, (sortR_perm D.nodup hn).length_eq]
    exact h21
  · rw [List.getElem?_map] at hp
    cases hr : (sortR rows)[i]? with
    | none => rw [hr] at hp; cases hp
    | some r =>
      rw [hr] at hp
      have hp' : pth r = p := Option.some.inj hp
      have hm := List.mem_of_getElem? hr
      have hd := dir_row r (S.sub r hm)
      rw [hp'] at hd
      rw [hd]
      by_cases h1 : r.length = 1
      · rw [if_pos h1]
        exact .inl emp_eq
      · rw [if_neg h1]
        obtain ⟨hi, e⟩ := List.getElem?_eq_some_iff.mp hr
        have e2 : sortR rows = (sortR rows).take i ++ r :: (sortR rows).drop (i + 1) := by
          rw [← e, List.getElem_cons_drop, List.take_append_drop]
        have hl := rows39_len r (S.sub r hm)
        have z := parent_ahead D hn e2 (by (first | lia | omega))
        refine .inr ?_
        rw [← List.map_take]
        exact List.mem_map_of_mem (f := pth) z
  · obtain ⟨r, hr, rfl⟩ := List.mem_map.mp hp
    exact pth_sz r (S.sub r hr)
theorem upd_get {h : Heap} {a b : Addr} {o x : Obj} (hx : o.isFreed = false) (e : (h.update a fun _ => o).get? b = some x) : (b = a ∧ x = o) ∨ (b ≠ a ∧ h.get? b = some x) := by
  by_cases hb : b = a
  · subst hb
    refine .inl ⟨rfl, ?_⟩
    have hl := Heap.lt_size e
    rw [Heap.size_after_update] at hl
    have e1 := (Heap.get?_some_iff.mp e).1
    cases h with
    | mk objs l =>
      simp only [Heap.update, Array.getElem?_modify, if_true] at e1
      rw [Array.getElem?_eq_getElem hl] at e1
      exact (Option.some.inj e1).symm
  · rw [Heap.get?_update_other h _ (fun q => hb q.symm)] at e
    exact .inr ⟨hb, e⟩
theorem upd_self {h : Heap} {a : Addr} {o : Obj} (hx : o.isFreed = false) (hl : a < h.objs.size) : (h.update a fun _ => o).get? a = some o := by
  refine Heap.get?_some_iff.mpr ⟨?_, hx⟩
  cases h with
  | mk objs l =>
    simp only [Heap.update, Array.getElem?_modify, if_true]
    rw [Array.getElem?_eq_getElem hl]
    rfl
section
open PyProof.Rows.LCg
theorem let_use0 {w : World} {mean : ExcName → Option Value} {mg mb : Str → Option Value} {A A₀ : Around} {cn : Str} {nm : List (Str × NameKind)} {ig ic : Bool} {mo : List (Str × Const)} {a : Addr} {ccd : Value} {base h₀ : Heap} {L : Addr} {m : Str → Option Value} {s : Shared} {Q E : Value → Shared → Prop} {news : List (Addr × Obj)} {rs : List RowAt} {ps : List (Str × Tok)} {l : Addr} {n : Nat} (G : Got rs) (hp : sFst ps = rs.map fun r => pth r.row)
    (B : Below A₀ base [] h₀) (F : Fr h₀ L s.heap m) (X : (frag w.params).In h₀) (N : News h₀ L s.heap news) (T : Top topProg LO mean mg mb h₀) (hh : A.handled = none)
    (hf : A.frames = some [envX cn { kind := .function, names := nm, isGenerator := ig, isCoroutine := ic, more := mo } L a ccd []]) (hd' : Nat.ble A.depth 700 = true) (hu : Nat.ble A.units 7000 = true)
    {ts : Array Value} (h23 : (23, tabObj ts) ∈ news) (hs : @LT.lt Nat _ 23 h₀.objs.size)
    (hm : (l, sList (ordP ps (rs.map RowAt.row)) n) ∈ news)
    (r : ∀ h' tk', Fr h₀ L h' m → News h₀ L h' [(23, tabObj ts)] → Q (.bool true) { s with heap := h', toks := tk' }) : wpAny (model PySem.Challenge.rw_in0152_01.row.prog w) A (call (.ref 278) [.ref l]) Q E s := by
  have hn : 1 ≤ (rs.map RowAt.row).length := by rw [List.length_map]; exact Nat.le_trans (by decide) G.h2
  have hp' : sFst ps = (rs.map RowAt.row).map pth := by rw [hp, List.map_map]; rfl
  refine weaken (d := 700) (u := 7000) ?_ hd' hu
  have e : ({ A with depth := 700, units := 7000 } : Around) = ktrTop 700 7000 A.guards cn { kind := .function, names := nm, isGenerator := ig, isCoroutine := ic, more := mo } L a ccd [] [] := by
    obtain ⟨x1, x2, x3, x4, x5⟩ := A
    dsimp only at hh hf ⊢
    rw [hh, hf]
  rw [e]
  have hx : (tabObj ts).isFreed = false := rfl
  have k0 : ∀ b o, h₀.get? b = some o → (h₀.update 23 fun _ => tabObj ts).get? b = some o := fun b o e => by
    rw [Heap.get?_update_other h₀ _ (fun q => by
      have := (N _ h23).2.2
      rw [← q] at e
      rw [e] at this
      cases this)]
    exact e
  have hl23 : l ≠ 23 := fun q => by
    have h1 := (N _ hm).1
    have h2 := (N _ h23).1
    rw [q] at h1
    have h3 := Option.some.inj (h1.symm.trans h2)
    have h4 := congrArg Obj.cls h3
    cases h4
  have B' : Below A₀ (h₀.update 23 fun _ => tabObj ts) [] (h₀.update 23 fun _ => tabObj ts) := ⟨B.stack, fun _ _ e => e, trivial⟩
  have F' : Fr (h₀.update 23 fun _ => tabObj ts) L s.heap m := ⟨F.ns, fun b o e => by
    rcases upd_get hx e with ⟨rfl, rfl⟩ | ⟨_, e⟩
    · exact (N _ h23).1
    · exact F.keep b o e, Nat.le_trans (Nat.le_of_eq (Heap.size_after_update ..)) F.above⟩
  have N' : News (h₀.update 23 fun _ => tabObj ts) L s.heap [(l, sList (ordP ps (rs.map RowAt.row)) n)] := fun q hq => by
    rw [List.mem_singleton.mp hq]
    refine ⟨(N _ hm).1, (N _ hm).2.1, ?_⟩
    rw [Heap.get?_update_other h₀ _ (fun q => hl23 q.symm)]
    exact (N _ hm).2.2
  refine let_c0 w mean mg mb l _ n (by rw [ordP_fst hp' G.dr.nodup hn]; exact paths_of G.dr hn (by rw [List.length_map]; exact G.h64)) _ _ _ _ _ _ _ _ _ _ _ _ _ _ _ _ B' F' (fun a o e => k0 a o (X a o e)) N' (T.keeps k0) fun h' tk' F9 => r h' tk' ⟨F9.ns, fun b o e => F9.keep b o (k0 b o e), F.above⟩ fun q hq => ?_
  rw [List.mem_singleton.mp hq]
  exact ⟨F9.keep _ _ (upd_self hx hs), (N _ h23).2.1, (N _ h23).2.2⟩
end
end Mine
end

section
open PySem PySem.W PySem.W.X PyProof.Rows PySem.Calls
set_option Elab.async false
set_option maxRecDepth 100000
set_option maxHeartbeats 0
namespace Mine
open PyProof.Rows.LCg
theorem lnW18 : True := by
  k_with_none
  k_with "zf" => (first | (k_here; k_fold; refine letA ?_; intro aX; (with_reducible rename Fr _ _ _ _ => kF); refine letM kF ?_; clear kF; intro mX kF) | (k_here; k_fold; refine letA ?_; intro aX) | (k_here; k_fold) | (k_here; with_reducible first | refine genT1 fun tk => ?_ | refine genT2 fun tk => ?_) | fail)
  k_with "execs cons" => (first | walk_at "zf" | fail)
  k_with "execs" => (first | walk_at "zf" | fail)
  k_with "execs nil" => (first | (k_here; with_reducible first | refine genT1 fun tk => ?_ | refine genT2 fun tk => ?_) | fail)
  k_with "k_ne" => (first | (refine neN ?_; first | (with_reducible first | assumption | exact Ne.symm (by assumption) | exact ca0 (by assumption) | exact cb0 (by assumption) | exact cc0 (by assumption) | exact cd0 (by assumption) | exact ca1 (by assumption) | exact cb1 (by assumption) | exact cc1 (by assumption) | exact cd1 (by assumption) | exact ca2 (by assumption) | exact cb2 (by assumption) | exact cc2 (by assumption) | exact cd2 (by assumption) | exact ca3 (by assumption) | exact cb3 (by assumption) | exact cc3 (by assumption) | exact cd3 (by assumption) | exact ca4 (by assumption) | exact cb4 (by assumption) | exact cc4 (by assumption) | exact cd4 (by assumption) | exact ca5 (by assumption) | exact cb5 (by assumption) | exact cc5 (by assumption) | exact cd5 (by assumption) | exact ca6 (by assumption) | exact cb6 (by assumption) | exact cc6 (by assumption) | exact cd6 (by assumption) | exact ca7 (by assumption) | exact cb7 (by assumption) | exact cc7 (by assumption) | exact cd7 (by assumption) | exact ca8 (by assumption) | exact cb8 (by assumption) | exact cc8 (by assumption) | exact cd8 (by assumption) | exact ca9 (by assumption) | exact cb9 (by assumption) | exact cc9 (by assumption) | exact cd9 (by assumption) | exact ca10 (by assumption) | exact cb10 (by assumption) | exact cc10 (by assumption) | exact cd10 (by assumption) | exact ca11 (by assumption) | exact cb11 (by assumption) | exact cc11 (by assumption) | exact cd11 (by assumption)) | (refine Nat.ne_of_lt (ltm (o := _) (by with_reducible assumption) ?_); k_mem; done) | (refine Nat.ne_of_gt (ltm (o := _) (by with_reducible assumption) ?_); k_mem; done) | ((try dsimp only); omega)) | fail)
  k_with "eval Name" => first | (k_here; (with_reducible show wpAny _ _ (eval (Expr.Name _ _) (compEnvC _ _ _ _)) _ _ _); k_dflt (refine LCgL.ld_global (by k_asm) (by k_asm) (by k_asm) (by k_is) ?_)) | fail
  k_with "eval Name" => first | (k_here; (with_reducible show wpAny _ _ (eval (Expr.Name _ _) (compEnvC _ _ _ _)) _ _ _); k_dflt (refine LCgL.ld_own (by k_asm) (by k_mem) (by with_reducible assumption) (by with_reducible assumption) ?_)) | fail
  k_with "r tails" => first | ((intro p hp; (repeat (first | exact hp | refine List.Mem.tail _ ?_)); done)) | fail
  k_with "r in" => first | (((repeat (first | exact led_mem' (by with_reducible assumption) | exact led_mem' (Got.mem (by with_reducible assumption) (by with_reducible assumption)) | refine List.Mem.tail _ ?_)); done)) | fail
  k_with "call ref" => first | ((k_here; (with_reducible show wpAny _ _ (call (Value.ref 268) _) _ _ _); (k_dflt (refine' rows_use ?k1 ?k2 ?k3 ?k4 ?k5 ?k6 ?k7 ?k8 ?k9 ?km ?ki ?_; (case k2 => k_asm); (case k1 => k_asm); (case k3 => k_asm); (case k4 => k_asm); (case k5 => k_asm); (case km => k_mem); (case ki => with_reducible assumption); (case k6 => exact rfl); (case k7 => exact rfl); (case k8 => exact rfl); (case k9 => exact rfl); k_whole)); intro D' rs' h' tk' G' F' N'; (simp only [List.cons_append, List.nil_append] at N'))) | fail
  k_with "call ref" => first | ((k_here; (with_reducible show wpAny _ _ (call (Value.ref 37) _) _ _ _); (k_dflt (refine' red_use ?k0 ?k1 ?k2 ?k3 ?k4 ?k5 ?k6 ?k7 ?k8 ?k9 ?km ?_; (case k2 => k_asm); (case k1 => k_asm); (case k3 => k_asm); (case k4 => k_asm); (case k5 => k_asm); (case km => walk_at "r in"); (case k0 => exact Got.h39 G' hin'); (case k6 => exact rfl); (case k7 => exact rfl); (case k8 => exact rfl); (case k9 => exact rfl); k_whole)); intro t' h' tk' F' N')) | fail
  k_with "call ref" => first | ((k_here; (with_reducible show wpAny _ _ (call (Value.ref 28) _) _ _ _); (k_dflt (refine' key_use ?kg ?kp ?k1 ?k2 ?k3 ?k4 ?k5 ?k6 ?k7 ?k8 ?k9 ?m1 ?m2 ?m3 ?m4 ?_; (case kg => with_reducible assumption); (case kp => with_reducible assumption); (case k2 => k_asm); (case k1 => k_asm); (case k3 => k_asm); (case k4 => k_asm); (case k5 => k_asm); (case m1 => k_mem); (case m2 => k_mem); (case m3 => k_mem); (case m4 => walk_at "r tails"); (case k6 => exact rfl); (case k7 => exact rfl); (case k8 => exact rfl); (case k9 => exact rfl); k_whole)); intro aK' ts' h' tk' KM' F' N')) | fail
  k_with "call ref" => first | ((k_here; (with_reducible show wpAny _ _ (call (Value.ref 278) _) _ _ _); (k_dflt (refine' let_use0 ?kg ?kp ?k1 ?k2 ?k3 ?k4 ?k5 ?k6 ?k7 ?k8 ?k9 ?h23 ?hs ?m1 ?_; (case kg => with_reducible assumption); (case kp => with_reducible assumption); (case k2 => k_asm); (case k1 => k_asm); (case k3 => k_asm); (case k4 => k_asm); (case k5 => k_asm); (case m1 => k_mem); (case h23 => k_mem); (case hs => exact Nat.lt_of_lt_of_eq (by with_reducible assumption) (hideAll_size _ _).symm); (case k6 => exact rfl); (case k7 => exact rfl); (case k8 => exact rfl); (case k9 => exact rfl); k_whole)); intro h' tk' F' N'; refine Stop.go ?_)) | fail
  k_with "eval ListComp" => first | ((k_here; k_dflt (refine LCg.ListComp_U (F₀ := by k_asm) (by rfl) (by decide) (by rfl) (by decide) (by rfl) ?_))) | fail
  k_with "CompSrc" => first | ((k_here; k_dflt (refine CompSrc.ledger (by rfl) (by k_asm) (by k_asm) (by k_mem) ?hsz (fun g => ?_); (case hsz => first | exact Got.sz (by with_reducible assumption) | exact Got.szA (by with_reducible assumption))))) | fail
  k_with "CompRest" => first | ((k_dflt (refine strs_comp (f := pth) ?_ ?_) <;> first | (intro ra' xs' n' ps' I' oI' C' oC' D' m' h' tk' E' hin' hC' hx' F' N' offR' off' ne'; (simp only [LCg.Off3] at off')) | (intro ps' hp'))) | fail
  k_with "CompRest Call nil nil cons" => first | ((k_dflt (refine strs_comp (f := pth) ?_ ?_) <;> first | (intro ra' xs' n' ps' I' oI' C' oC' D' m' h' tk' E' hin' hC' hx' F' N' offR' off' ne'; (simp only [LCg.Off3] at off')) | (intro ps' hp'))) | fail
  k_with "CompEnd" => first | ((k_dflt (refine' str_end ?h1 ?h2 ?h3 ?hS; (case h1 => with_reducible assumption); (case h2 => with_reducible assumption); (case h3 => with_reducible assumption); (case hS => exact Or.inr ⟨_, by k_mem, rfl, _, rfl⟩)))) | fail
  k_with "call builtin:sorted" => first | ((k_here; (with_reducible show wpAny _ _ (call (Value.builtin "sorted") _ _) _ _ _); (k_dflt (refine' told_use ?kg ?kp ?k1 ?k2 ?k3 ?k4 ?k5 ?k6 ?k7 ?k8 ?k9 ?m1 ?m2 ?_; (case kg => with_reducible assumption); (case kp => with_reducible assumption); (case k2 => k_asm); (case k1 => k_asm); (case k3 => k_asm); (case k4 => k_asm); (case k5 => k_asm); (case m1 => with_reducible assumption); (case m2 => k_mem); (case k6 => exact rfl); (case k7 => exact rfl); (case k8 => exact rfl); (case k9 => exact rfl); k_whole)); intro D' h' tk' c' F' N')) | fail
  k_with "call builtin:sorted" => first | ((k_here; (with_reducible show wpAny _ _ (call (Value.builtin "sorted") [Value.ref _]) _ _ _); (k_dflt (refine' drawn_use ?kg ?ku ?k1 ?k2 ?m1 ?m2 ?_; (case kg => with_reducible assumption); (case k1 => k_asm); (case k2 => k_asm); (case m1 => k_mem); (case m2 => walk_at "r tails"); (case ku => exact Nat.le_of_ble_eq_true rfl))); intro D' h' c' F' N')) | fail
  k_with "call builtin:str.join" => first | ((k_here; (k_dflt (show wpAny _ _ (call (Value.builtin "str.join") [_, Value.ref _]) _ _ _)); k_dflt (refine' join_s ?N ?m ?w ?x ?_; (case N => k_asm); (case m => walk_at "r in"); (case w => exact wt_row (Got.h39 G' (Got.mem G' hin'))); (case x => exact slash4)); intro t' k' hJ')) | fail
  k_with "compareOp Eq ref ref" => first | ((k_here; (with_reducible show wpAny _ _ (compareOp _ (Value.ref _) (Value.ref _)) _ _ _); (k_dflt (refine' eq_op ?g ?p ?q ?u ?N ?m1 ?m2 ?_; (case g => with_reducible assumption); (case p => with_reducible assumption); (case q => with_reducible assumption); (case u => exact Nat.le_of_ble_eq_true rfl); (case N => k_asm); (case m1 => k_mem); (case m2 => k_mem); k_whole)))) | fail
  trivial
theorem law_of : PySem.Challenge.rw_in0152_01.Holds := by
  refine holds_law said fun _ => ?_
  refine holds_open (q := view) (loose := loose) (Xt := fun s => xlAt view [] s && recOk (RowW.records PySem.Challenge.rw_in0152_01.row.toRowW) s) (XP := XL view []) (Yf := Hook.obs hook) (Ya := Hook.val hook) (YP := Hook.says hook) (N := 4276) left (Hook.of hook) (Hook.keeps hook) (fun s e => xl_of s (Bool.and_eq_true_iff.mp e).1) XL.keeps (by rfl) (by rfl) (by rfl) (fun s e => recFacts_of (Bool.and_eq_true_iff.mp e).2) (by rfl) (by first | assumption | decide +kernel) (by decide +kernel) ⟨rfl, rfl, rfl, rfl, rfl, by decide +kernel⟩ ?hw ?hc
  case hw => exact ⟨[WData.list []], by decide +kernel, by decide +kernel⟩
  unfold hook
  k_fill
  intro w s₀ s₁ mg mb G Y fa o pm cd doc dV kV ho hd hcd hD hmg hg args vals as hpre hlay hrd hwl hlo
  have KX := km_in_of Y
  km_tabs Y
  have X := (Ground.X G).1
  have V := (Ground.X G).2
  refine Ground.open G ?_
  intro T B D TE TW
  try (refine guard_noD D (by decide +kernel) ?_; clear D)
  km_lay T hmg ho hd cd
  clear hmg
  wrow_args hpre hlay hrd hwl hlo
  all_goals (
    first | refine callC_kw (enter_call ?_) | refine enter_call ?_
    w_top on
    kn_posts
    w_call any ho hd hcd hD T F
    clear hd
    kn_ghosts F T
    k_drop
    skip)
  (all_goals try k_fold)
  dsimp only
  k_steps
  unfold Stop
  refine And.intro ?_ (And.intro (GrownAt.of (by k_asm) (by k_mem)) True.intro)
  dsimp only
  refine goodW_bool (by with_reducible assumption) (by with_reducible assumption) (raisesW_false ?_) ?_
  · skip
    wrow_none_raised
  · skip
    wrow_post
end Mine
end

set_option maxRecDepth 100000 in
theorem PySem.Challenge.cw_in0152_01_holds : PySem.Challenge.rw_in0152_01.Holds := by
  exact Mine.law_of
