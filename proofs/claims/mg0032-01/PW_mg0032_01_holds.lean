import PyProof.Rows.All
import Wide.All
import OpenK.AllK
import Wide.FinOn
import KE.KSortAsk
import Lean
import PySem.Challenge.RW_mg0032_01
set_option Elab.async false
set_option maxRecDepth 100000
set_option maxHeartbeats 8000000
set_option compiler.extract_closed false
namespace Mine
section TopX_
open PySem PySem.W PyProof.Rows
set_option linter.unusedVariables false
section
local macro_rules | `(tactic| o_head $_) => `(tactic| assumption)
theorem top0 (H : PySem.Challenge.rw_mg0032_01.row.Holds) : PySem.Challenge.rw_mg0032_01.row.Holds := by x_head
end
noncomputable def esOf : Option Obj → List DictEntry
  | some ⟨_, _, .dict es _, _⟩ => es.toList
  | _ => []
noncomputable def enOf : Option Obj → Nat
  | some ⟨_, _, .dict _ n, _⟩ => n
  | _ => 0
noncomputable def bc0 (P : Params) : List DictEntry := by
  refine (?f : (a0 a1 a2 a3 a4 a5 a6 a7 : DictEntry) → ((esOf ((top0.heap_1 P).lookup 0)).drop 0).take 8 = [a0, a1, a2, a3, a4, a5, a6, a7] → List DictEntry) _ _ _ _ _ _ _ _ rfl
  exact fun a0 a1 a2 a3 a4 a5 a6 a7 _ => [a0, a1, a2, a3, a4, a5, a6, a7]
noncomputable def bc1 (P : Params) : List DictEntry := by
  refine (?f : (a0 a1 a2 a3 a4 a5 a6 a7 : DictEntry) → ((esOf ((top0.heap_1 P).lookup 0)).drop 8).take 8 = [a0, a1, a2, a3, a4, a5, a6, a7] → List DictEntry) _ _ _ _ _ _ _ _ rfl
  exact fun a0 a1 a2 a3 a4 a5 a6 a7 _ => [a0, a1, a2, a3, a4, a5, a6, a7]
noncomputable def bc2 (P : Params) : List DictEntry := by
  refine (?f : (a0 a1 a2 a3 a4 a5 a6 a7 : DictEntry) → ((esOf ((top0.heap_1 P).lookup 0)).drop 16).take 8 = [a0, a1, a2, a3, a4, a5, a6, a7] → List DictEntry) _ _ _ _ _ _ _ _ rfl
  exact fun a0 a1 a2 a3 a4 a5 a6 a7 _ => [a0, a1, a2, a3, a4, a5, a6, a7]
noncomputable def bc3 (P : Params) : List DictEntry := by
  refine (?f : (a0 a1 a2 a3 a4 a5 a6 a7 : DictEntry) → ((esOf ((top0.heap_1 P).lookup 0)).drop 24).take 8 = [a0, a1, a2, a3, a4, a5, a6, a7] → List DictEntry) _ _ _ _ _ _ _ _ rfl
  exact fun a0 a1 a2 a3 a4 a5 a6 a7 _ => [a0, a1, a2, a3, a4, a5, a6, a7]
noncomputable def bc4 (P : Params) : List DictEntry := by
  refine (?f : (a0 a1 a2 a3 a4 a5 a6 a7 : DictEntry) → ((esOf ((top0.heap_1 P).lookup 0)).drop 32).take 8 = [a0, a1, a2, a3, a4, a5, a6, a7] → List DictEntry) _ _ _ _ _ _ _ _ rfl
  exact fun a0 a1 a2 a3 a4 a5 a6 a7 _ => [a0, a1, a2, a3, a4, a5, a6, a7]
noncomputable def bc5 (P : Params) : List DictEntry := by
  refine (?f : (a0 a1 a2 a3 a4 a5 a6 a7 : DictEntry) → ((esOf ((top0.heap_1 P).lookup 0)).drop 40).take 8 = [a0, a1, a2, a3, a4, a5, a6, a7] → List DictEntry) _ _ _ _ _ _ _ _ rfl
  exact fun a0 a1 a2 a3 a4 a5 a6 a7 _ => [a0, a1, a2, a3, a4, a5, a6, a7]
noncomputable def bc6 (P : Params) : List DictEntry := by
  refine (?f : (a0 a1 a2 a3 a4 a5 a6 a7 : DictEntry) → ((esOf ((top0.heap_1 P).lookup 0)).drop 48).take 8 = [a0, a1, a2, a3, a4, a5, a6, a7] → List DictEntry) _ _ _ _ _ _ _ _ rfl
  exact fun a0 a1 a2 a3 a4 a5 a6 a7 _ => [a0, a1, a2, a3, a4, a5, a6, a7]
noncomputable def bc7 (P : Params) : List DictEntry := by
  refine (?f : (a0 a1 a2 a3 a4 a5 a6 a7 : DictEntry) → ((esOf ((top0.heap_1 P).lookup 0)).drop 56).take 8 = [a0, a1, a2, a3, a4, a5, a6, a7] → List DictEntry) _ _ _ _ _ _ _ _ rfl
  exact fun a0 a1 a2 a3 a4 a5 a6 a7 _ => [a0, a1, a2, a3, a4, a5, a6, a7]
noncomputable def bc8 (P : Params) : List DictEntry := by
  refine (?f : (a0 a1 a2 a3 a4 a5 a6 a7 : DictEntry) → ((esOf ((top0.heap_1 P).lookup 0)).drop 64).take 8 = [a0, a1, a2, a3, a4, a5, a6, a7] → List DictEntry) _ _ _ _ _ _ _ _ rfl
  exact fun a0 a1 a2 a3 a4 a5 a6 a7 _ => [a0, a1, a2, a3, a4, a5, a6, a7]
noncomputable def bc9 (P : Params) : List DictEntry := by
  refine (?f : (a0 a1 a2 a3 a4 a5 a6 a7 : DictEntry) → ((esOf ((top0.heap_1 P).lookup 0)).drop 72).take 8 = [a0, a1, a2, a3, a4, a5, a6, a7] → List DictEntry) _ _ _ _ _ _ _ _ rfl
  exact fun a0 a1 a2 a3 a4 a5 a6 a7 _ => [a0, a1, a2, a3, a4, a5, a6, a7]
noncomputable def bc10 (P : Params) : List DictEntry := by
  refine (?f : (a0 a1 a2 a3 a4 a5 a6 a7 : DictEntry) → ((esOf ((top0.heap_1 P).lookup 0)).drop 80).take 8 = [a0, a1, a2, a3, a4, a5, a6, a7] → List DictEntry) _ _ _ _ _ _ _ _ rfl
  exact fun a0 a1 a2 a3 a4 a5 a6 a7 _ => [a0, a1, a2, a3, a4, a5, a6, a7]
noncomputable def bc11 (P : Params) : List DictEntry := by
  refine (?f : (a0 a1 a2 a3 a4 a5 a6 a7 : DictEntry) → ((esOf ((top0.heap_1 P).lookup 0)).drop 88).take 8 = [a0, a1, a2, a3, a4, a5, a6, a7] → List DictEntry) _ _ _ _ _ _ _ _ rfl
  exact fun a0 a1 a2 a3 a4 a5 a6 a7 _ => [a0, a1, a2, a3, a4, a5, a6, a7]
noncomputable def bc12 (P : Params) : List DictEntry := by
  refine (?f : (a0 a1 a2 a3 a4 a5 a6 a7 : DictEntry) → ((esOf ((top0.heap_1 P).lookup 0)).drop 96).take 8 = [a0, a1, a2, a3, a4, a5, a6, a7] → List DictEntry) _ _ _ _ _ _ _ _ rfl
  exact fun a0 a1 a2 a3 a4 a5 a6 a7 _ => [a0, a1, a2, a3, a4, a5, a6, a7]
noncomputable def bc13 (P : Params) : List DictEntry := by
  refine (?f : (a0 a1 a2 a3 a4 a5 a6 a7 : DictEntry) → ((esOf ((top0.heap_1 P).lookup 0)).drop 104).take 8 = [a0, a1, a2, a3, a4, a5, a6, a7] → List DictEntry) _ _ _ _ _ _ _ _ rfl
  exact fun a0 a1 a2 a3 a4 a5 a6 a7 _ => [a0, a1, a2, a3, a4, a5, a6, a7]
noncomputable def bc14 (P : Params) : List DictEntry := by
  refine (?f : (a0 a1 a2 a3 a4 a5 a6 a7 : DictEntry) → ((esOf ((top0.heap_1 P).lookup 0)).drop 112).take 8 = [a0, a1, a2, a3, a4, a5, a6, a7] → List DictEntry) _ _ _ _ _ _ _ _ rfl
  exact fun a0 a1 a2 a3 a4 a5 a6 a7 _ => [a0, a1, a2, a3, a4, a5, a6, a7]
noncomputable def bc15 (P : Params) : List DictEntry := by
  refine (?f : (a0 a1 a2 a3 a4 a5 a6 a7 : DictEntry) → ((esOf ((top0.heap_1 P).lookup 0)).drop 120).take 8 = [a0, a1, a2, a3, a4, a5, a6, a7] → List DictEntry) _ _ _ _ _ _ _ _ rfl
  exact fun a0 a1 a2 a3 a4 a5 a6 a7 _ => [a0, a1, a2, a3, a4, a5, a6, a7]
noncomputable def bc16 (P : Params) : List DictEntry := by
  refine (?f : (a0 a1 a2 a3 a4 a5 a6 a7 : DictEntry) → ((esOf ((top0.heap_1 P).lookup 0)).drop 128).take 8 = [a0, a1, a2, a3, a4, a5, a6, a7] → List DictEntry) _ _ _ _ _ _ _ _ rfl
  exact fun a0 a1 a2 a3 a4 a5 a6 a7 _ => [a0, a1, a2, a3, a4, a5, a6, a7]
noncomputable def bc17 (P : Params) : List DictEntry := by
  refine (?f : (a0 a1 a2 a3 a4 a5 a6 a7 : DictEntry) → ((esOf ((top0.heap_1 P).lookup 0)).drop 136).take 8 = [a0, a1, a2, a3, a4, a5, a6, a7] → List DictEntry) _ _ _ _ _ _ _ _ rfl
  exact fun a0 a1 a2 a3 a4 a5 a6 a7 _ => [a0, a1, a2, a3, a4, a5, a6, a7]
noncomputable def bc18 (P : Params) : List DictEntry := by
  refine (?f : (a0 a1 a2 a3 a4 a5 a6 a7 : DictEntry) → ((esOf ((top0.heap_1 P).lookup 0)).drop 144).take 8 = [a0, a1, a2, a3, a4, a5, a6, a7] → List DictEntry) _ _ _ _ _ _ _ _ rfl
  exact fun a0 a1 a2 a3 a4 a5 a6 a7 _ => [a0, a1, a2, a3, a4, a5, a6, a7]
noncomputable def bc19 (P : Params) : List DictEntry := by
  refine (?f : (a0 a1 a2 a3 a4 a5 a6 : DictEntry) → ((esOf ((top0.heap_1 P).lookup 0)).drop 152).take 7 = [a0, a1, a2, a3, a4, a5, a6] → List DictEntry) _ _ _ _ _ _ _ rfl
  exact fun a0 a1 a2 a3 a4 a5 a6 _ => [a0, a1, a2, a3, a4, a5, a6]
noncomputable def bd0 (P : Params) : List DictEntry := bc0 P ++ (bc1 P ++ (bc2 P ++ (bc3 P ++ (bc4 P))))
noncomputable def bd1 (P : Params) : List DictEntry := bc5 P ++ (bc6 P ++ (bc7 P ++ (bc8 P ++ (bc9 P))))
noncomputable def bd2 (P : Params) : List DictEntry := bc10 P ++ (bc11 P ++ (bc12 P ++ (bc13 P ++ (bc14 P))))
noncomputable def bd3 (P : Params) : List DictEntry := bc15 P ++ (bc16 P ++ (bc17 P ++ (bc18 P ++ (bc19 P))))
noncomputable def o0 (P : Params) : Obj := { cls := .type "dict", data := .dict (bd0 P ++ (bd1 P ++ (bd2 P ++ (bd3 P)))).toArray 159 }
noncomputable def o1 (P : Params) : Obj := by
  refine (?f : (o : Obj) → (top0.heap_1 P).lookup 1 = some o → Obj) _ rfl
  exact fun o _ => o
noncomputable def o2 (P : Params) : Obj := by
  refine (?f : (o : Obj) → (top0.heap_1 P).lookup 2 = some o → Obj) _ rfl
  exact fun o _ => o
noncomputable def o3 (P : Params) : Obj := by
  refine (?f : (o : Obj) → (top0.heap_1 P).lookup 3 = some o → Obj) _ rfl
  exact fun o _ => o
noncomputable def o4 (P : Params) : Obj := by
  refine (?f : (o : Obj) → (top0.heap_1 P).lookup 4 = some o → Obj) _ rfl
  exact fun o _ => o
noncomputable def o5 (P : Params) : Obj := by
  refine (?f : (o : Obj) → (top0.heap_1 P).lookup 5 = some o → Obj) _ rfl
  exact fun o _ => o
noncomputable def o6 (P : Params) : Obj := by
  refine (?f : (o : Obj) → (top0.heap_1 P).lookup 6 = some o → Obj) _ rfl
  exact fun o _ => o
noncomputable def o7 (P : Params) : Obj := by
  refine (?f : (o : Obj) → (top0.heap_1 P).lookup 7 = some o → Obj) _ rfl
  exact fun o _ => o
noncomputable def o8 (P : Params) : Obj := by
  refine (?f : (o : Obj) → (top0.heap_1 P).lookup 8 = some o → Obj) _ rfl
  exact fun o _ => o
noncomputable def o9 (P : Params) : Obj := by
  refine (?f : (o : Obj) → (top0.heap_1 P).lookup 9 = some o → Obj) _ rfl
  exact fun o _ => o
noncomputable def o10 (P : Params) : Obj := by
  refine (?f : (o : Obj) → (top0.heap_1 P).lookup 10 = some o → Obj) _ rfl
  exact fun o _ => o
noncomputable def o11 (P : Params) : Obj := by
  refine (?f : (o : Obj) → (top0.heap_1 P).lookup 11 = some o → Obj) _ rfl
  exact fun o _ => o
noncomputable def o12 (P : Params) : Obj := by
  refine (?f : (o : Obj) → (top0.heap_1 P).lookup 12 = some o → Obj) _ rfl
  exact fun o _ => o
noncomputable def o13 (P : Params) : Obj := by
  refine (?f : (o : Obj) → (top0.heap_1 P).lookup 13 = some o → Obj) _ rfl
  exact fun o _ => o
noncomputable def o14 (P : Params) : Obj := by
  refine (?f : (o : Obj) → (top0.heap_1 P).lookup 14 = some o → Obj) _ rfl
  exact fun o _ => o
noncomputable def o15 (P : Params) : Obj := by
  refine (?f : (o : Obj) → (top0.heap_1 P).lookup 15 = some o → Obj) _ rfl
  exact fun o _ => o
noncomputable def o16 (P : Params) : Obj := by
  refine (?f : (o : Obj) → (top0.heap_1 P).lookup 16 = some o → Obj) _ rfl
  exact fun o _ => o
noncomputable def o17 (P : Params) : Obj := by
  refine (?f : (o : Obj) → (top0.heap_1 P).lookup 17 = some o → Obj) _ rfl
  exact fun o _ => o
noncomputable def o18 (P : Params) : Obj := by
  refine (?f : (o : Obj) → (top0.heap_1 P).lookup 18 = some o → Obj) _ rfl
  exact fun o _ => o
noncomputable def o19 (P : Params) : Obj := by
  refine (?f : (o : Obj) → (top0.heap_1 P).lookup 19 = some o → Obj) _ rfl
  exact fun o _ => o
noncomputable def o20 (P : Params) : Obj := by
  refine (?f : (o : Obj) → (top0.heap_1 P).lookup 20 = some o → Obj) _ rfl
  exact fun o _ => o
noncomputable def o21 (P : Params) : Obj := by
  refine (?f : (o : Obj) → (top0.heap_1 P).lookup 21 = some o → Obj) _ rfl
  exact fun o _ => o
noncomputable def o22 (P : Params) : Obj := by
  refine (?f : (o : Obj) → (top0.heap_1 P).lookup 22 = some o → Obj) _ rfl
  exact fun o _ => o
noncomputable def o23 (P : Params) : Obj := by
  refine (?f : (o : Obj) → (top0.heap_1 P).lookup 23 = some o → Obj) _ rfl
  exact fun o _ => o
noncomputable def o24 (P : Params) : Obj := by
  refine (?f : (o : Obj) → (top0.heap_1 P).lookup 24 = some o → Obj) _ rfl
  exact fun o _ => o
noncomputable def o25 (P : Params) : Obj := by
  refine (?f : (o : Obj) → (top0.heap_1 P).lookup 25 = some o → Obj) _ rfl
  exact fun o _ => o
noncomputable def o26 (P : Params) : Obj := by
  refine (?f : (o : Obj) → (top0.heap_1 P).lookup 26 = some o → Obj) _ rfl
  exact fun o _ => o
noncomputable def o27 (P : Params) : Obj := by
  refine (?f : (o : Obj) → (top0.heap_1 P).lookup 27 = some o → Obj) _ rfl
  exact fun o _ => o
noncomputable def o28 (P : Params) : Obj := by
  refine (?f : (o : Obj) → (top0.heap_1 P).lookup 28 = some o → Obj) _ rfl
  exact fun o _ => o
noncomputable def o29 (P : Params) : Obj := by
  refine (?f : (o : Obj) → (top0.heap_1 P).lookup 29 = some o → Obj) _ rfl
  exact fun o _ => o
noncomputable def o30 (P : Params) : Obj := by
  refine (?f : (o : Obj) → (top0.heap_1 P).lookup 30 = some o → Obj) _ rfl
  exact fun o _ => o
noncomputable def o31 (P : Params) : Obj := by
  refine (?f : (o : Obj) → (top0.heap_1 P).lookup 31 = some o → Obj) _ rfl
  exact fun o _ => o
noncomputable def o32 (P : Params) : Obj := by
  refine (?f : (o : Obj) → (top0.heap_1 P).lookup 32 = some o → Obj) _ rfl
  exact fun o _ => o
noncomputable def o33 (P : Params) : Obj := by
  refine (?f : (o : Obj) → (top0.heap_1 P).lookup 33 = some o → Obj) _ rfl
  exact fun o _ => o
noncomputable def o34 (P : Params) : Obj := by
  refine (?f : (o : Obj) → (top0.heap_1 P).lookup 34 = some o → Obj) _ rfl
  exact fun o _ => o
noncomputable def o35 (P : Params) : Obj := by
  refine (?f : (o : Obj) → (top0.heap_1 P).lookup 35 = some o → Obj) _ rfl
  exact fun o _ => o
noncomputable def o36 (P : Params) : Obj := by
  refine (?f : (o : Obj) → (top0.heap_1 P).lookup 36 = some o → Obj) _ rfl
  exact fun o _ => o
noncomputable def o37 (P : Params) : Obj := by
  refine (?f : (o : Obj) → (top0.heap_1 P).lookup 37 = some o → Obj) _ rfl
  exact fun o _ => o
noncomputable def o38 (P : Params) : Obj := by
  refine (?f : (o : Obj) → (top0.heap_1 P).lookup 38 = some o → Obj) _ rfl
  exact fun o _ => o
noncomputable def o39 (P : Params) : Obj := by
  refine (?f : (o : Obj) → (top0.heap_1 P).lookup 39 = some o → Obj) _ rfl
  exact fun o _ => o
noncomputable def o40 (P : Params) : Obj := by
  refine (?f : (o : Obj) → (top0.heap_1 P).lookup 40 = some o → Obj) _ rfl
  exact fun o _ => o
noncomputable def o41 (P : Params) : Obj := by
  refine (?f : (o : Obj) → (top0.heap_1 P).lookup 41 = some o → Obj) _ rfl
  exact fun o _ => o
noncomputable def o42 (P : Params) : Obj := by
  refine (?f : (o : Obj) → (top0.heap_1 P).lookup 42 = some o → Obj) _ rfl
  exact fun o _ => o
noncomputable def o43 (P : Params) : Obj := by
  refine (?f : (o : Obj) → (top0.heap_1 P).lookup 43 = some o → Obj) _ rfl
  exact fun o _ => o
noncomputable def o44 (P : Params) : Obj := by
  refine (?f : (o : Obj) → (top0.heap_1 P).lookup 44 = some o → Obj) _ rfl
  exact fun o _ => o
noncomputable def o45 (P : Params) : Obj := by
  refine (?f : (o : Obj) → (top0.heap_1 P).lookup 45 = some o → Obj) _ rfl
  exact fun o _ => o
noncomputable def o46 (P : Params) : Obj := by
  refine (?f : (o : Obj) → (top0.heap_1 P).lookup 46 = some o → Obj) _ rfl
  exact fun o _ => o
noncomputable def o47 (P : Params) : Obj := by
  refine (?f : (o : Obj) → (top0.heap_1 P).lookup 47 = some o → Obj) _ rfl
  exact fun o _ => o
noncomputable def o48 (P : Params) : Obj := by
  refine (?f : (o : Obj) → (top0.heap_1 P).lookup 48 = some o → Obj) _ rfl
  exact fun o _ => o
noncomputable def o49 (P : Params) : Obj := by
  refine (?f : (o : Obj) → (top0.heap_1 P).lookup 49 = some o → Obj) _ rfl
  exact fun o _ => o
noncomputable def o50 (P : Params) : Obj := by
  refine (?f : (o : Obj) → (top0.heap_1 P).lookup 50 = some o → Obj) _ rfl
  exact fun o _ => o
noncomputable def o51 (P : Params) : Obj := by
  refine (?f : (o : Obj) → (top0.heap_1 P).lookup 51 = some o → Obj) _ rfl
  exact fun o _ => o
noncomputable def o52 (P : Params) : Obj := by
  refine (?f : (o : Obj) → (top0.heap_1 P).lookup 52 = some o → Obj) _ rfl
  exact fun o _ => o
noncomputable def o53 (P : Params) : Obj := by
  refine (?f : (o : Obj) → (top0.heap_1 P).lookup 53 = some o → Obj) _ rfl
  exact fun o _ => o
noncomputable def o54 (P : Params) : Obj := by
  refine (?f : (o : Obj) → (top0.heap_1 P).lookup 54 = some o → Obj) _ rfl
  exact fun o _ => o
noncomputable def o55 (P : Params) : Obj := by
  refine (?f : (o : Obj) → (top0.heap_1 P).lookup 55 = some o → Obj) _ rfl
  exact fun o _ => o
noncomputable def o56 (P : Params) : Obj := by
  refine (?f : (o : Obj) → (top0.heap_1 P).lookup 56 = some o → Obj) _ rfl
  exact fun o _ => o
noncomputable def o57 (P : Params) : Obj := by
  refine (?f : (o : Obj) → (top0.heap_1 P).lookup 57 = some o → Obj) _ rfl
  exact fun o _ => o
noncomputable def o58 (P : Params) : Obj := by
  refine (?f : (o : Obj) → (top0.heap_1 P).lookup 58 = some o → Obj) _ rfl
  exact fun o _ => o
noncomputable def o59 (P : Params) : Obj := by
  refine (?f : (o : Obj) → (top0.heap_1 P).lookup 59 = some o → Obj) _ rfl
  exact fun o _ => o
noncomputable def o60 (P : Params) : Obj := by
  refine (?f : (o : Obj) → (top0.heap_1 P).lookup 60 = some o → Obj) _ rfl
  exact fun o _ => o
noncomputable def o61 (P : Params) : Obj := by
  refine (?f : (o : Obj) → (top0.heap_1 P).lookup 61 = some o → Obj) _ rfl
  exact fun o _ => o
noncomputable def o62 (P : Params) : Obj := by
  refine (?f : (o : Obj) → (top0.heap_1 P).lookup 62 = some o → Obj) _ rfl
  exact fun o _ => o
noncomputable def o63 (P : Params) : Obj := by
  refine (?f : (o : Obj) → (top0.heap_1 P).lookup 63 = some o → Obj) _ rfl
  exact fun o _ => o
noncomputable def o64 (P : Params) : Obj := by
  refine (?f : (o : Obj) → (top0.heap_1 P).lookup 64 = some o → Obj) _ rfl
  exact fun o _ => o
noncomputable def o65 (P : Params) : Obj := by
  refine (?f : (o : Obj) → (top0.heap_1 P).lookup 65 = some o → Obj) _ rfl
  exact fun o _ => o
noncomputable def o66 (P : Params) : Obj := by
  refine (?f : (o : Obj) → (top0.heap_1 P).lookup 66 = some o → Obj) _ rfl
  exact fun o _ => o
noncomputable def o67 (P : Params) : Obj := by
  refine (?f : (o : Obj) → (top0.heap_1 P).lookup 67 = some o → Obj) _ rfl
  exact fun o _ => o
noncomputable def o68 (P : Params) : Obj := by
  refine (?f : (o : Obj) → (top0.heap_1 P).lookup 68 = some o → Obj) _ rfl
  exact fun o _ => o
noncomputable def o69 (P : Params) : Obj := by
  refine (?f : (o : Obj) → (top0.heap_1 P).lookup 69 = some o → Obj) _ rfl
  exact fun o _ => o
noncomputable def o70 (P : Params) : Obj := by
  refine (?f : (o : Obj) → (top0.heap_1 P).lookup 70 = some o → Obj) _ rfl
  exact fun o _ => o
noncomputable def o71 (P : Params) : Obj := by
  refine (?f : (o : Obj) → (top0.heap_1 P).lookup 71 = some o → Obj) _ rfl
  exact fun o _ => o
noncomputable def o72 (P : Params) : Obj := by
  refine (?f : (o : Obj) → (top0.heap_1 P).lookup 72 = some o → Obj) _ rfl
  exact fun o _ => o
noncomputable def o73 (P : Params) : Obj := by
  refine (?f : (o : Obj) → (top0.heap_1 P).lookup 73 = some o → Obj) _ rfl
  exact fun o _ => o
noncomputable def o74 (P : Params) : Obj := by
  refine (?f : (o : Obj) → (top0.heap_1 P).lookup 74 = some o → Obj) _ rfl
  exact fun o _ => o
noncomputable def o75 (P : Params) : Obj := by
  refine (?f : (o : Obj) → (top0.heap_1 P).lookup 75 = some o → Obj) _ rfl
  exact fun o _ => o
noncomputable def o76 (P : Params) : Obj := by
  refine (?f : (o : Obj) → (top0.heap_1 P).lookup 76 = some o → Obj) _ rfl
  exact fun o _ => o
noncomputable def o77 (P : Params) : Obj := by
  refine (?f : (o : Obj) → (top0.heap_1 P).lookup 77 = some o → Obj) _ rfl
  exact fun o _ => o
noncomputable def o78 (P : Params) : Obj := by
  refine (?f : (o : Obj) → (top0.heap_1 P).lookup 78 = some o → Obj) _ rfl
  exact fun o _ => o
noncomputable def o79 (P : Params) : Obj := by
  refine (?f : (o : Obj) → (top0.heap_1 P).lookup 79 = some o → Obj) _ rfl
  exact fun o _ => o
noncomputable def o80 (P : Params) : Obj := by
  refine (?f : (o : Obj) → (top0.heap_1 P).lookup 80 = some o → Obj) _ rfl
  exact fun o _ => o
noncomputable def o81 (P : Params) : Obj := by
  refine (?f : (o : Obj) → (top0.heap_1 P).lookup 81 = some o → Obj) _ rfl
  exact fun o _ => o
noncomputable def o82 (P : Params) : Obj := by
  refine (?f : (o : Obj) → (top0.heap_1 P).lookup 82 = some o → Obj) _ rfl
  exact fun o _ => o
noncomputable def o83 (P : Params) : Obj := by
  refine (?f : (o : Obj) → (top0.heap_1 P).lookup 83 = some o → Obj) _ rfl
  exact fun o _ => o
noncomputable def o84 (P : Params) : Obj := by
  refine (?f : (o : Obj) → (top0.heap_1 P).lookup 84 = some o → Obj) _ rfl
  exact fun o _ => o
noncomputable def o85 (P : Params) : Obj := by
  refine (?f : (o : Obj) → (top0.heap_1 P).lookup 85 = some o → Obj) _ rfl
  exact fun o _ => o
noncomputable def o86 (P : Params) : Obj := by
  refine (?f : (o : Obj) → (top0.heap_1 P).lookup 86 = some o → Obj) _ rfl
  exact fun o _ => o
noncomputable def o87 (P : Params) : Obj := by
  refine (?f : (o : Obj) → (top0.heap_1 P).lookup 87 = some o → Obj) _ rfl
  exact fun o _ => o
noncomputable def o88 (P : Params) : Obj := by
  refine (?f : (o : Obj) → (top0.heap_1 P).lookup 88 = some o → Obj) _ rfl
  exact fun o _ => o
noncomputable def o89 (P : Params) : Obj := by
  refine (?f : (o : Obj) → (top0.heap_1 P).lookup 89 = some o → Obj) _ rfl
  exact fun o _ => o
noncomputable def o90 (P : Params) : Obj := by
  refine (?f : (o : Obj) → (top0.heap_1 P).lookup 90 = some o → Obj) _ rfl
  exact fun o _ => o
noncomputable def o91 (P : Params) : Obj := by
  refine (?f : (o : Obj) → (top0.heap_1 P).lookup 91 = some o → Obj) _ rfl
  exact fun o _ => o
noncomputable def o92 (P : Params) : Obj := by
  refine (?f : (o : Obj) → (top0.heap_1 P).lookup 92 = some o → Obj) _ rfl
  exact fun o _ => o
noncomputable def o93 (P : Params) : Obj := by
  refine (?f : (o : Obj) → (top0.heap_1 P).lookup 93 = some o → Obj) _ rfl
  exact fun o _ => o
noncomputable def o94 (P : Params) : Obj := by
  refine (?f : (o : Obj) → (top0.heap_1 P).lookup 94 = some o → Obj) _ rfl
  exact fun o _ => o
noncomputable def o95 (P : Params) : Obj := by
  refine (?f : (o : Obj) → (top0.heap_1 P).lookup 95 = some o → Obj) _ rfl
  exact fun o _ => o
noncomputable def o96 (P : Params) : Obj := by
  refine (?f : (o : Obj) → (top0.heap_1 P).lookup 96 = some o → Obj) _ rfl
  exact fun o _ => o
noncomputable def o97 (P : Params) : Obj := by
  refine (?f : (o : Obj) → (top0.heap_1 P).lookup 97 = some o → Obj) _ rfl
  exact fun o _ => o
noncomputable def o98 (P : Params) : Obj := by
  refine (?f : (o : Obj) → (top0.heap_1 P).lookup 98 = some o → Obj) _ rfl
  exact fun o _ => o
noncomputable def o99 (P : Params) : Obj := by
  refine (?f : (o : Obj) → (top0.heap_1 P).lookup 99 = some o → Obj) _ rfl
  exact fun o _ => o
noncomputable def o100 (P : Params) : Obj := by
  refine (?f : (o : Obj) → (top0.heap_1 P).lookup 100 = some o → Obj) _ rfl
  exact fun o _ => o
noncomputable def o101 (P : Params) : Obj := by
  refine (?f : (o : Obj) → (top0.heap_1 P).lookup 101 = some o → Obj) _ rfl
  exact fun o _ => o
noncomputable def o102 (P : Params) : Obj := by
  refine (?f : (o : Obj) → (top0.heap_1 P).lookup 102 = some o → Obj) _ rfl
  exact fun o _ => o
noncomputable def o103 (P : Params) : Obj := by
  refine (?f : (o : Obj) → (top0.heap_1 P).lookup 103 = some o → Obj) _ rfl
  exact fun o _ => o
noncomputable def kt0 (P : Params) : Frag := [(0, o0 P), (1, o1 P), (2, o2 P), (3, o3 P), (4, o4 P), (5, o5 P), (6, o6 P), (7, o7 P)]
noncomputable def kt1 (P : Params) : Frag := [(8, o8 P), (9, o9 P), (10, o10 P), (11, o11 P), (12, o12 P), (13, o13 P), (14, o14 P), (15, o15 P)]
noncomputable def kt2 (P : Params) : Frag := [(16, o16 P), (17, o17 P), (18, o18 P), (19, o19 P), (20, o20 P), (21, o21 P), (22, o22 P), (23, o23 P)]
noncomputable def kt3 (P : Params) : Frag := [(24, o24 P), (25, o25 P), (26, o26 P), (27, o27 P), (28, o28 P), (29, o29 P), (30, o30 P), (31, o31 P)]
noncomputable def kt4 (P : Params) : Frag := [(32, o32 P), (33, o33 P), (34, o34 P), (35, o35 P), (36, o36 P), (37, o37 P), (38, o38 P), (39, o39 P)]
noncomputable def kt5 (P : Params) : Frag := [(40, o40 P), (41, o41 P), (42, o42 P), (43, o43 P), (44, o44 P), (45, o45 P), (46, o46 P), (47, o47 P)]
noncomputable def kt6 (P : Params) : Frag := [(48, o48 P), (49, o49 P), (50, o50 P), (51, o51 P), (52, o52 P), (53, o53 P), (54, o54 P), (55, o55 P)]
noncomputable def kt7 (P : Params) : Frag := [(56, o56 P), (57, o57 P), (58, o58 P), (59, o59 P), (60, o60 P), (61, o61 P), (62, o62 P), (63, o63 P)]
noncomputable def kt8 (P : Params) : Frag := [(64, o64 P), (65, o65 P), (66, o66 P), (67, o67 P), (68, o68 P), (69, o69 P), (70, o70 P), (71, o71 P)]
noncomputable def kt9 (P : Params) : Frag := [(72, o72 P), (73, o73 P), (74, o74 P), (75, o75 P), (76, o76 P), (77, o77 P), (78, o78 P), (79, o79 P)]
noncomputable def kt10 (P : Params) : Frag := [(80, o80 P), (81, o81 P), (82, o82 P), (83, o83 P), (84, o84 P), (85, o85 P), (86, o86 P), (87, o87 P)]
noncomputable def kt11 (P : Params) : Frag := [(88, o88 P), (89, o89 P), (90, o90 P), (91, o91 P), (92, o92 P), (93, o93 P), (94, o94 P), (95, o95 P)]
noncomputable def kt12 (P : Params) : Frag := [(96, o96 P), (97, o97 P), (98, o98 P), (99, o99 P), (100, o100 P), (101, o101 P), (102, o102 P), (103, o103 P)]
noncomputable def KT (P : Params) : Frag := kt0 P ++ (kt1 P ++ (kt2 P ++ (kt3 P ++ (kt4 P ++ (kt5 P ++ (kt6 P ++ (kt7 P ++ (kt8 P ++ (kt9 P ++ (kt10 P ++ (kt11 P ++ (kt12 P))))))))))))
section
end
end TopX_
open PySem PySem.W PyProof.Rows
noncomputable abbrev pw : Program := PySem.Challenge.pw_mg0032_01
noncomputable def KB (P : Params) : Frag := (KT P).filter fun p => !(Nat.beq p.1 16) && !(Nat.beq p.1 100)
noncomputable abbrev St (h : Heap) (c : Shared) (t : Nat) : Shared := ⟨h, c.gens, c.drawn, t, c.os⟩
noncomputable def Keeps (h h' : Heap) : Prop := ∀ b o, h.get? b = some o → h'.get? b = some o
theorem Keeps.refl (h : Heap) : Keeps h h := fun _ _ e => e
theorem Keeps.trans {a b c : Heap} (x : Keeps a b) (y : Keeps b c) : Keeps a c := fun _ _ e => y _ _ (x _ _ e)
theorem Keeps.push (h : Heap) (o : Obj) : Keeps h (h.push o) := fun _ _ e => Heap.get?_push_of_some _ e
noncomputable def LL (h : Heap) (a : Addr) (vs : List Value) : Prop := ∃ n, h.get? a = some (listOf vs.toArray n)
theorem LL.is {h : Heap} {a : Addr} {vs : List Value} (x : LL h a vs) : h.IsList a vs.toArray := let ⟨_, e⟩ := x; ⟨_, e, rfl, _, rfl⟩
theorem LL.lt {h : Heap} {a : Addr} {vs : List Value} (x : LL h a vs) : a < h.objs.size := let ⟨_, e⟩ := x; Heap.lt_size e
theorem Keeps.list {h h' : Heap} (k : Keeps h h') {a : Addr} {vs : List Value} (x : LL h a vs) : LL h' a vs := let ⟨n, e⟩ := x; ⟨n, k _ _ e⟩
theorem LL.inj {h : Heap} {a : Addr} {vs us : List Value} (x : LL h a vs) (y : LL h a us) : vs = us := by
  obtain ⟨n, e⟩ := x
  obtain ⟨m, f⟩ := y
  rw [e] at f
  have := congrArg Obj.data (Option.some.inj f)
  simp only [Data.seq.injEq] at this
  simpa using this.1
theorem Keeps.size {h h' : Heap} (k : Keeps h h') {a : Addr} {o : Obj} (e : h.get? a = some o) : a < h'.objs.size := Heap.lt_size (k _ _ e)

theorem if_t {c : Prop} [Decidable c] {a b : Prop} (h : c) (x : a) : if c then a else b := by rw [if_pos h]; exact x
theorem if_f {c : Prop} [Decidable c] {a b : Prop} (h : ¬ c) (x : b) : if c then a else b := by rw [if_neg h]; exact x
noncomputable def Room (n : Nat) (A : Around) : Prop := A.depth + n < 900 ∧ A.units + 40 * n < 9000 ∧ A.handled = none
theorem Room.deeper {n : Nat} {A : Around} {env : Env} (r : Room (n + 1) A) : Room n (A.deeper env) := by
  obtain ⟨a, b, c⟩ := r
  refine ⟨?_, ?_, c⟩
  · show A.depth + 1 + n < 900; omega
  · show A.units + 3 + 40 * n < 9000; omega
theorem Room.le {n m : Nat} {A : Around} (r : Room n A) (h : m ≤ n) : Room m A := by
  obtain ⟨a, b, c⟩ := r
  exact ⟨by omega, by omega, c⟩
theorem Room.lim {n : Nat} {A : Around} (r : Room n A) : A.depth < recursionLimit := by
  have := r.1
  show A.depth < 1000
  omega

section
variable {P : Params} {h : Heap}
theorem ns_nil {a : Addr} {o : Obj} (e : h.get? a = some o) (hd : o.data = .dict #[] 0) : h.Ns a (fun _ => none) :=
  ⟨o, _, _, e, hd, fun e he => by simp at he, fun name => rfl⟩
theorem nolimit (KX : (KB P).In h) : h.NoLimit := ⟨_, ns_nil (KX 2 _ (by rfl)) rfl, rfl⟩
end

theorem Fr.grow {g h h' : Heap} {L : Addr} {m : Str → Option Value} (F : Fr g L h m) (k : Keeps h h') : Fr g L h' m := ⟨F.ns.keeps k, fun b o e => k _ _ (F.keep b o e), F.above⟩
theorem Fr.under {g g' h : Heap} {L : Addr} {m : Str → Option Value} (F : Fr g L h m) (k : Keeps g' g) (hs : g'.objs.size ≤ g.objs.size) : Fr g' L h m := ⟨F.ns, fun b o e => F.keep b o (k b o e), Nat.le_trans hs F.above⟩

theorem Fr.sz {g h : Heap} {L : Addr} {m : Str → Option Value} (F : Fr g L h m) : g.objs.size ≤ h.objs.size := Nat.le_trans F.above (Nat.le_of_lt F.ns.lt)

section
variable {w : World} {A : Around} {E : Value → Shared → Prop} {h : Heap} {c : Shared} {t : Nat} {env : Env} {g : Heap} {L : Addr} {m : Str → Option Value}

/-! statements one behind the other -/
noncomputable def Cont (w : World) (A : Around) (rest : List Stmt) (env : Env) (Q : Flow → Shared → Prop) (E : Value → Shared → Prop) (f : Flow) (s : Shared) : Prop := match f with
  | .next => wpAny (model pw w) A (execs rest env) Q E s
  | f => Q f s
theorem ex_cons {st : Stmt} {rest : List Stmt} {Q : Flow → Shared → Prop} {s : Shared} (H : wpAny (model pw w) A (exec st env) (Cont w A rest env Q E) E s) : wpAny (model pw w) A (execs (st :: rest) env) Q E s := by
  refine wpAny_execs_cons (wpAny_mono H (fun f s' h => ?_) fun _ _ x => x)
  cases f <;> exact h
theorem co_next {rest : List Stmt} {Q : Flow → Shared → Prop} {s : Shared} (H : wpAny (model pw w) A (execs rest env) Q E s) : Cont w A rest env Q E .next s := H
theorem co_ret {rest : List Stmt} {Q : Flow → Shared → Prop} {s : Shared} {v : Value} (H : Q (.ret v) s) : Cont w A rest env Q E (.ret v) s := H
theorem co_brk {rest : List Stmt} {Q : Flow → Shared → Prop} {s : Shared} (H : Q .brk s) : Cont w A rest env Q E .brk s := H
theorem co_cont {rest : List Stmt} {Q : Flow → Shared → Prop} {s : Shared} (H : Q .cont s) : Cont w A rest env Q E .cont s := H
theorem seq_cut {st : Stmt} {rest : List Stmt} {Q : Flow → Shared → Prop} {s : Shared} (P : Shared → Prop) (H1 : wpAny (model pw w) A (exec st env) (fun f s' => f = .next ∧ P s') E s)
    (H2 : ∀ s', P s' → wpAny (model pw w) A (execs rest env) Q E s') : wpAny (model pw w) A (execs (st :: rest) env) Q E s :=
  ex_cons (wpAny_mono H1 (fun f s' h => by obtain ⟨rfl, h⟩ := h; exact H2 s' h) fun _ _ x => x)
/-! names -/
theorem lv {x : Str} {pos : Pos} {v : Value} {Q : Value → Shared → Prop} (F : Fr g env.locals h m) (hv : m x = some v) (H : Q v (St h c t))
    (hk : env.scope.kind = .function) (hl : env.kindOf x = some .local) (hd : (x == ("__debug__" : Str)) = false) :
    wpAny (model pw w) A (eval (.Name x pos) env) Q E (St h c t) := wpAny_Name (wpAny_loadName_local hk hl F.ns hv H) hd
theorem sv {x : Str} {v : Value} {Q : Unit → Shared → Prop} (F : Fr g env.locals h m)
    (H : ∀ h' t', Fr g env.locals h' (fun y => if y = x then some v else m y) → Heap.SameBut env.locals h h' → Q () (St h' c t'))
    (hk : env.scope.kind = .function) (hl : env.kindOf x = some .local) :
    wpAny (model pw w) A (storeName env x v) Q E (St h c t) :=
  wpAny_storeName_local hl F.ns (fun h' hn hs => H h' _ (F.set hn hs) hs)
    (by show (env.scope.kind == .class || (env.scope.kind == .module && env.locals != env.globals)) = false; rw [hk]; rfl)
theorem gv {x : Str} {pos : Pos} {v : Value} {Q : Value → Shared → Prop} (KX : (KB w.params).In h) (hx : nsIn (KB w.params) 3 x = some (some v)) (H : Q v (St h c t))
    (hk : env.scope.kind = .function) (hl : env.kindOf x = some .globalImplicit) (hg : env.globals = 3) (hd : (x == ("__debug__" : Str)) = false) :
    wpAny (model pw w) A (eval (.Name x pos) env) Q E (St h c t) := by
  refine Calls.Name_function_global hk hl ?_ hd
  unfold loadGlobal
  rw [hg]
  refine wpAny_bind ((looks_nsIn KX hx).here (s := St h c t) ?_)
  exact wpAny_pure H
theorem bv {x : Str} {pos : Pos} {v : Value} {Q : Value → Shared → Prop} (KX : (KB w.params).In h) (hx : nsIn (KB w.params) 3 x = some none) (hx' : nsIn (KB w.params) 0 x = some (some v)) (H : Q v (St h c t))
    (hk : env.scope.kind = .function) (hl : env.kindOf x = some .globalImplicit) (hg : env.globals = 3) (hb : env.builtins = 0) (hd : (x == ("__debug__" : Str)) = false) :
    wpAny (model pw w) A (eval (.Name x pos) env) Q E (St h c t) := by
  refine Calls.Name_function_global hk hl ?_ hd
  unfold loadGlobal
  rw [hg, hb]
  refine wpAny_bind ((looks_nsIn KX hx).here (s := St h c t) ?_)
  refine wpAny_bind ?_
  refine (looks_nsIn KX hx').here (s := St h c t) ?_
  exact wpAny_pure H

/-! ints -/
variable {a b : Int} {u v : Tok} {Q : Value → Shared → Prop}
theorem c_int {i : Int} {k : Nat} {pos : Pos} (H : ∀ u t', Q (.int i u) (St h c t')) : wpAny (model pw w) A (eval (.Constant (.int i) k pos) env) Q E (St h c t) := wpAny_Constant_int (H _ _)
theorem i_add (H : ∀ u t', Q (.int (a + b) u) (St h c t')) : wpAny (model pw w) A (binaryOp .Add (.int a u) (.int b v)) Q E (St h c t) := PyProof.Rows.add_int (H _ _)
theorem i_sub (H : ∀ u t', Q (.int (a - b) u) (St h c t')) : wpAny (model pw w) A (binaryOp .Sub (.int a u) (.int b v)) Q E (St h c t) := PyProof.Rows.sub_int (H _ _)
theorem i_mul (H : ∀ u t', Q (.int (a * b) u) (St h c t')) (hm : IntMulOk a b) : wpAny (model pw w) A (binaryOp .Mult (.int a u) (.int b v)) Q E (St h c t) := PyProof.Rows.mul_int (H _ _) hm
theorem i_div2 (H : ∀ u t', Q (.int (a.fdiv 2) u) (St h c t')) : wpAny (model pw w) A (binaryOp .FloorDiv (.int a u) (.int 2 v)) Q E (St h c t) := floordiv_int (by decide) (H _ _)
theorem i_div3 (H : ∀ u t', Q (.int (a.fdiv 3) u) (St h c t')) : wpAny (model pw w) A (binaryOp .FloorDiv (.int a u) (.int 3 v)) Q E (St h c t) := floordiv_int (by decide) (H _ _)
theorem i_mod (hb : b ≠ 0) (H : ∀ u t', Q (.int (a.fmod b) u) (St h c t')) : wpAny (model pw w) A (binaryOp .Mod (.int a u) (.int b v)) Q E (St h c t) := PyProof.Rows.mod_int hb (H _ _)
theorem i_shr1 (H : ∀ u t', Q (.int (a.fdiv 2) u) (St h c t')) : wpAny (model pw w) A (binaryOp .RShift (.int a u) (.int 1 v)) Q E (St h c t) := rshift_int (by decide) (H _ _)
theorem i_len {l : Addr} {vs : List Value} (hl : LL h l vs) (hf : vs.length < 2 ^ 62) (H : ∀ u t', Q (.int vs.length u) (St h c t')) : wpAny (model pw w) A (call (.builtin "len") [.ref l]) Q E (St h c t) :=
  len_list (s := St h c t) hl.is (by simp; omega) (by simpa using H _ _)
/-! items of a list -/
theorem it0 {value slice : PySem.Expr} {l : Addr} {v0 : Value} {vs : List Value} (hl : LL h l (v0 :: vs)) (H : Q v0 (St h c t))
    (hs : subscripted slice false (.ref l) (.int 0 u) = operate [.ref l, .int 0 u] (getItem (.ref l) (.int 0 u))) : wpAny (model pw w) A (subscriptTail value slice (.ref l) (.int 0 u)) Q E (St h c t) :=
  tail_any (s := St h c t) hl.is.typeIs slot_list_getitem.lookup (wpAny_getItem_list hl.is (by decide) (by decide) (by simp) H) hs
theorem it1 {value slice : PySem.Expr} {l : Addr} {v0 v1 : Value} {vs : List Value} (hl : LL h l (v0 :: v1 :: vs)) (H : Q v1 (St h c t))
    (hs : subscripted slice false (.ref l) (.int 1 u) = operate [.ref l, .int 1 u] (getItem (.ref l) (.int 1 u))) : wpAny (model pw w) A (subscriptTail value slice (.ref l) (.int 1 u)) Q E (St h c t) :=
  tail_any (s := St h c t) hl.is.typeIs slot_list_getitem.lookup (wpAny_getItem_list hl.is (by decide) (by decide) (by simp) H) hs
theorem itk {value slice : PySem.Expr} {l : Addr} {k : Int} {x : Value} {vs : List Value} (hl : LL h l vs) (h0 : 0 ≤ k) (hk : k < 2 ^ 63) (hx : vs[k.toNat]? = some x) (H : Q x (St h c t))
    (hs : subscripted slice false (.ref l) (.int k u) = operate [.ref l, .int k u] (getItem (.ref l) (.int k u))) : wpAny (model pw w) A (subscriptTail value slice (.ref l) (.int k u)) Q E (St h c t) :=
  tail_any (s := St h c t) hl.is.typeIs slot_list_getitem.lookup (wpAny_getItem_list hl.is h0 hk (by simpa using hx) H) hs

theorem setk {l : Addr} {k : Int} {x : Value} {vs : List Value} {Q : Unit → Shared → Prop} (hl : LL h l vs) (h0 : 0 ≤ k) (hk : k < 2 ^ 63) (hn : k.toNat < vs.length)
    (H : ∀ h', LL h' l (vs.set k.toNat x) → Heap.SameBut l h h' → Q () (St h' c t)) : wpAny (model pw w) A (setItem (.ref l) (.int k u) x) Q E (St h c t) := by
  obtain ⟨n, ho⟩ := hl
  refine ki_setAt (s := St h c t) ho h0 hk (by simp; omega) (H _ ⟨n, ?_⟩ (Heap.SameBut.update ..))
  have q := PySem.IsL.update (n := n) ho (·.setIfInBounds k.toNat x)
  rw [if_pos (by simp)] at q
  rw [show (vs.set k.toNat x).toArray = vs.toArray.setIfInBounds k.toNat x from by simp]
  exact q
end

section
variable {w : World} {A : Around} {E : Value → Shared → Prop} {h : Heap} {c : Shared} {t : Nat} {env : Env} {Q : Flow → Shared → Prop}
noncomputable def WEnd (I : Nat → Shared → Prop) (n : Nat) (Q : Flow → Shared → Prop) (f : Flow) (s : Shared) : Prop := match f with
  | .next | .cont => ∃ m, m < n ∧ I m s
  | .brk => Q .next s
  | .ret v => Q (.ret v) s
theorem wend_next {I : Nat → Shared → Prop} {n : Nat} {s : Shared} (H : ∃ m, m < n ∧ I m s) : WEnd I n Q .next s := H
theorem wend_cont {I : Nat → Shared → Prop} {n : Nat} {s : Shared} (H : ∃ m, m < n ∧ I m s) : WEnd I n Q .cont s := H
theorem wend_brk {I : Nat → Shared → Prop} {n : Nat} {s : Shared} (H : Q .next s) : WEnd I n Q .brk s := H
theorem wh {test : PySem.Expr} {body : List Stmt} {pos : Pos} {s : Shared} (I : Nat → Shared → Prop) (n : Nat) (h0 : I n s)
    (turn : ∀ n s (E' : Value → Shared → Prop), I n s → wpAny (model pw w) A (isTrue test env (eval test env)) (fun b s₂ => if b = true then wpAny (model pw w) A (execs body env) (WEnd I n Q) E' s₂ else Q .next s₂) E' s) :
    wpAny (model pw w) A (exec (.While test body [] pos) env) Q E s := by
  refine wpAny_While (codeAny_whileLoop I (fun n s hI => ?_) n h0)
  refine wpAny_mono (turn n s _ hI) (fun b s₂ hb => ?_) fun _ _ x => x
  cases b with
  | true =>
    simp only [if_true] at hb ⊢
    refine wpAny_mono hb (fun f s₃ hf => ?_) fun _ _ x => x
    cases f <;> exact hf
  | false =>
    simp only [Bool.false_eq_true, if_false] at hb ⊢
    exact wpAny_execs_nil hb
theorem itr {A : Around} {value slice : PySem.Expr} {l : Addr} {i : Int} {u : Tok} {k : Nat} {ks : List Addr} {Q : Value → Shared → Prop} (hl : LL h l (ks.map Value.ref)) (hi : i = (k : Int)) (hk : k < ks.length) (hn : ks.length < 2 ^ 60) (H : Q (.ref (ks.getD k 0)) (St h c t))
    (hs : subscripted slice false (.ref l) (.int i u) = operate [.ref l, .int i u] (getItem (.ref l) (.int i u))) : wpAny (model pw w) A (subscriptTail value slice (.ref l) (.int i u)) Q E (St h c t) := by
  subst hi
  refine itk hl (by omega) (by omega) ?_ H hs
  rw [Int.toNat_natCast, List.getElem?_map, List.getD_eq_getElem?_getD, List.getElem?_eq_getElem hk]
  rfl
theorem setr {A : Around} {l : Addr} {i : Int} {u : Tok} {k : Nat} {x : Addr} {ks : List Addr} {Q : Unit → Shared → Prop} (hl : LL h l (ks.map Value.ref)) (hi : i = (k : Int)) (hk : k < ks.length) (hn : ks.length < 2 ^ 60)
    (H : ∀ h', LL h' l ((ks.set k x).map Value.ref) → Heap.SameBut l h h' → Q () (St h' c t)) : wpAny (model pw w) A (setItem (.ref l) (.int i u) (.ref x)) Q E (St h c t) := by
  subst hi
  refine setk hl (by omega) (by omega) (by simpa using hk) fun h' hl' hs => H h' ?_ hs
  rw [Int.toNat_natCast] at hl'
  rw [List.map_set]
  exact hl'
end

theorem Fr.but {g h h' : Heap} {L l : Addr} {m : Str → Option Value} (F : Fr g L h m) (hs : Heap.SameBut l h h') (hl : L ≠ l) (hg : g.get? l = none) : Fr g L h' m :=
  ⟨F.ns.sameBut hs hl, fun b o e => (hs.2 b (fun z => by subst z; rw [e] at hg; cases hg)).trans (F.keep b o e), F.above⟩
theorem list_but {h h' : Heap} {l a : Addr} {vs : List Value} (x : LL h a vs) (hs : Heap.SameBut l h h') (hne : a ≠ l) : LL h' a vs := let ⟨n, e⟩ := x; ⟨n, (hs.2 a hne).trans e⟩
structure Own (L : Addr) (h : Heap) (l : Addr) (ks : List Addr) : Prop where
  ne : l ≠ L
  ls : LL h l (ks.map Value.ref)
structure At (L : Addr) (h : Heap) (I : Addr) (o : Obj) : Prop where
  ne : I ≠ L
  at' : h.get? I = some o
theorem At.same {L I : Addr} {h h' : Heap} {o : Obj} (x : At L h I o) (hs : Heap.SameBut L h h') : At L h' I o := ⟨x.ne, (hs.2 I x.ne).trans x.at'⟩
theorem At.grow {L I : Addr} {h h' : Heap} {o : Obj} (x : At L h I o) (k : Keeps h h') : At L h' I o := ⟨x.ne, k _ _ x.at'⟩
theorem Own.same {L l : Addr} {h h' : Heap} {ks : List Addr} (x : Own L h l ks) (hs : Heap.SameBut L h h') : Own L h' l ks := ⟨x.ne, list_but x.ls hs x.ne⟩
theorem Own.grow {L l : Addr} {h h' : Heap} {ks : List Addr} (x : Own L h l ks) (k : Keeps h h') : Own L h' l ks := ⟨x.ne, k.list x.ls⟩
section
variable {w : World} {A : Around} {E : Value → Shared → Prop} {h : Heap} {c : Shared} {t : Nat} {env : Env} {g : Heap} {m : Str → Option Value}
theorem sv1 {x : Str} {v : Value} {l : Addr} {ks : List Addr} {Q : Unit → Shared → Prop} (F : Fr g env.locals h m) (B : Own env.locals h l ks)
    (H : ∀ h' t', Fr g env.locals h' (fun y => if y = x then some v else m y) → Own env.locals h' l ks → Q () (St h' c t'))
    (hk : env.scope.kind = .function) (hl : env.kindOf x = some .local) :
    wpAny (model pw w) A (storeName env x v) Q E (St h c t) := sv F (fun h' t' F' hs => H h' t' F' (B.same hs)) hk hl
theorem sv2 {x : Str} {v : Value} {l I : Addr} {o : Obj} {ks : List Addr} {Q : Unit → Shared → Prop} (F : Fr g env.locals h m) (B : Own env.locals h l ks) (C : At env.locals h I o)
    (H : ∀ h' t', Fr g env.locals h' (fun y => if y = x then some v else m y) → Own env.locals h' l ks → At env.locals h' I o → Q () (St h' c t'))
    (hk : env.scope.kind = .function) (hl : env.kindOf x = some .local) :
    wpAny (model pw w) A (storeName env x v) Q E (St h c t) := sv F (fun h' t' F' hs => H h' t' F' (B.same hs) (C.same hs)) hk hl
theorem lenr {l : Addr} {ks : List Addr} {Q : Value → Shared → Prop} (hl : LL h l (ks.map Value.ref)) (hf : ks.length < 2 ^ 60) (H : ∀ u t', Q (.int ks.length u) (St h c t')) : wpAny (model pw w) A (call (.builtin "len") [.ref l]) Q E (St h c t) :=
  i_len hl (by rw [List.length_map]; omega) (fun u t' => by rw [List.length_map]; exact H u t')
end

theorem i_neg {w : World} {A : Around} {E : Value → Shared → Prop} {h : Heap} {c : Shared} {t : Nat} {a : Int} {u : Tok} {Q : Value → Shared → Prop} (H : ∀ u t', Q (.int (-a) u) (St h c t')) : wpAny (model pw w) A (unaryOp .USub (.int a u)) Q E (St h c t) := PyProof.Rows.neg_int (H _ _)
section
variable {P : Params}
theorem nm_cmp_to_key : nsIn (KB P) 3 (Str.ofString "cmp_to_key") = some (some (.ref 21)) := by kernel_rfl
theorem nm_initial_missing : nsIn (KB P) 3 (Str.ofString "_initial_missing") = some (some (.ref 22)) := by kernel_rfl
theorem nm_reduce : nsIn (KB P) 3 (Str.ofString "reduce") = some (some (.ref 30)) := by kernel_rfl
theorem nm_heappop : nsIn (KB P) 3 (Str.ofString "heappop") = some (some (.ref 37)) := by kernel_rfl
theorem nm_heapreplace : nsIn (KB P) 3 (Str.ofString "heapreplace") = some (some (.ref 44)) := by kernel_rfl
theorem nm_heapify : nsIn (KB P) 3 (Str.ofString "heapify") = some (some (.ref 51)) := by kernel_rfl
theorem nm_siftdown : nsIn (KB P) 3 (Str.ofString "_siftdown") = some (some (.ref 58)) := by kernel_rfl
theorem nm_siftup : nsIn (KB P) 3 (Str.ofString "_siftup") = some (some (.ref 65)) := by kernel_rfl
theorem nm_law_rows : nsIn (KB P) 3 (Str.ofString "_law_rows") = some (some (.ref 72)) := by kernel_rfl
theorem nm_law_compare : nsIn (KB P) 3 (Str.ofString "_law_compare") = some (some (.ref 79)) := by kernel_rfl
theorem nm_law_signs : nsIn (KB P) 3 (Str.ofString "_law_signs") = some (some (.ref 86)) := by kernel_rfl
theorem nm_law_unlike : nsIn (KB P) 3 (Str.ofString "_law_unlike") = some (some (.ref 93)) := by kernel_rfl
theorem nm_law_merge : nsIn (KB P) 3 (Str.ofString "_law_merge") = some (some (.ref 98)) := by kernel_rfl
theorem n3_len : nsIn (KB P) 3 (Str.ofString "len") = some none := by kernel_rfl
theorem n0_len : nsIn (KB P) 0 (Str.ofString "len") = some (some (.builtin "len")) := by kernel_rfl
theorem n3_range : nsIn (KB P) 3 (Str.ofString "range") = some none := by kernel_rfl
theorem n0_range : nsIn (KB P) 0 (Str.ofString "range") = some (some (.type "range")) := by kernel_rfl
theorem n3_reversed : nsIn (KB P) 3 (Str.ofString "reversed") = some none := by kernel_rfl
theorem n0_reversed : nsIn (KB P) 0 (Str.ofString "reversed") = some (some (.type "reversed")) := by kernel_rfl
theorem n3_list : nsIn (KB P) 3 (Str.ofString "list") = some none := by kernel_rfl
theorem n0_list : nsIn (KB P) 0 (Str.ofString "list") = some (some (.type "list")) := by kernel_rfl
theorem n3_iter : nsIn (KB P) 3 (Str.ofString "iter") = some none := by kernel_rfl
theorem n0_iter : nsIn (KB P) 0 (Str.ofString "iter") = some (some (.builtin "iter")) := by kernel_rfl
theorem n3_next : nsIn (KB P) 3 (Str.ofString "next") = some none := by kernel_rfl
theorem n0_next : nsIn (KB P) 0 (Str.ofString "next") = some (some (.builtin "next")) := by kernel_rfl
theorem n3_max : nsIn (KB P) 3 (Str.ofString "max") = some none := by kernel_rfl
theorem n0_max : nsIn (KB P) 0 (Str.ofString "max") = some (some (.builtin "max")) := by kernel_rfl
theorem n3_sorted : nsIn (KB P) 3 (Str.ofString "sorted") = some none := by kernel_rfl
theorem n0_sorted : nsIn (KB P) 0 (Str.ofString "sorted") = some (some (.builtin "sorted")) := by kernel_rfl
theorem n3_zip : nsIn (KB P) 3 (Str.ofString "zip") = some none := by kernel_rfl
theorem n0_zip : nsIn (KB P) 0 (Str.ofString "zip") = some (some (.type "zip")) := by kernel_rfl
end

section
variable {w : World} {A : Around} {E : Value → Shared → Prop} {s : Shared} {env : Env}
/-! calls -/
noncomputable def RQ (Q : Value → Shared → Prop) (E : Value → Shared → Prop) (r : Result) (s : Shared) : Prop := match r with
  | .ok (.ret v) => Q v s
  | .ok _ => False
  | .error e => E e s
theorem rq_ret {Q : Value → Shared → Prop} {v : Value} (H : Q v s) : RQ Q E (.ok (.ret v)) s := H
theorem cl {f : Value} {args : List Value} {Q : Value → Shared → Prop} (H : codeAny (model pw w) A (.call f ⟨args, []⟩) (RQ Q E) s) : wpAny (model pw w) A (call f args) Q E s := by
  refine wpAny_call (codeAny_mono H fun r s' h => ?_)
  cases r with
  | error e => exact h
  | ok f => cases f <;> exact h
theorem cw_fn {pos : Pos} {e : PySem.Expr} {rest : List PySem.Expr} {f : Addr} {o : Obj} {fd : FuncData} {Q : Value → Shared → Prop} (hl : (KB w.params).lookup f = some o) (hdat : o.data = .func fd)
    (H : wpAny (model pw w) A (spliced (backTo pos (starEach (e :: rest) env))) (fun vs s₁ => (KB w.params).In s₁.heap ∧ wpAny (model pw w) A (call (.ref f) vs) Q E s₁) E s)
    (he : starEach (e :: rest) env = (false, eval e env) :: starEach rest env) : wpAny (model pw w) A (callWith pos (.ref f) [] (backTo pos (starEach (e :: rest) env)) []) Q E s :=
  callWith_def hdat (wpAny_mono H (fun vs s₁ h => ⟨h.1 f o hl, h.2⟩) fun _ _ x => x) he
theorem xp_none {e : PySem.Expr} {pos : Pos} {Q : Flow → Shared → Prop} (H : wpAny (model pw w) A (eval e env) (fun v s' => v = .none ∧ Q .next s') E s)
    (hi : interactive env = false) (hs : swapsWith e none pos.line env = pure false) : wpAny (model pw w) A (exec (.Expr e pos) env) Q E s :=
  wpAny_Expr (wpAny_mono H (fun v s' h => by obtain ⟨rfl, h⟩ := h; exact h) fun _ _ x => x) hi hs
end

local macro_rules | `(tactic| walk_at "lk") => `(tactic| first | assumption | with_unfolding_all rfl | ((try dsimp only); (repeat rw [if_neg (by decide +kernel)]); first | assumption | exact if_pos rfl))
local macro_rules | `(tactic| walk_at "KX") => `(tactic| first | assumption | exact Frag.In.keeps (by assumption) (Fr.keep (by assumption)))
local macro_rules | `(tactic| walk_at "go") => `(tactic| first | with_reducible (first | refine ex_cons ?_ | refine co_next ?_) | walk_at "st")
local macro_rules | `(tactic| walk_at "st") => `(tactic| first
  | with_reducible (first | refine co_ret ?_ | refine co_brk ?_ | refine co_cont ?_ | refine wpAny_execs_nil ?_ | refine wpAny_If ?_ | refine isTrue_and ?_ | refine isTrue_and_nil ?_ | refine isTrue_or ?_ | refine isTrue_or_nil ?_ | refine isTrue_not ?_ | refine wpAny_Return_some ?_ | refine wpAny_BinOp ?_ | refine Subscript_ ?_ | refine c_int (fun _ _ => ?_) | refine wpAny_truthy_bool ?_ | refine PyProof.Rows.ne_int ?_ | refine PyProof.Rows.eq_int ?_ | refine PyProof.Rows.gt_int ?_ | refine PyProof.Rows.lt_int ?_ | refine PyProof.Rows.le_int ?_ | refine PyProof.Rows.ge_int ?_ | refine i_add (fun _ _ => ?_) | refine i_sub (fun _ _ => ?_) | refine i_shr1 (fun _ _ => ?_) | refine i_div2 (fun _ _ => ?_) | refine i_div3 (fun _ _ => ?_) | refine i_neg fun _ _ => ?_ | refine PySem.SiftDown.continue_ ?_ | refine PySem.SiftDown.break_ ?_ | refine spliced_none ?_ | refine List_ ?_ | refine wpAny_Constant_none ?_ | refine wpAny_Constant_bool ?_ | refine wpAny_Slice ?_ | refine wpAny_evalPart_none ?_ | refine wpAny_evalPart_some ?_ | refine UnaryOp_ ?_ | refine IfExp_ ?_ | refine wpAny_Compare1 ?_ | refine BoolOp_or ?_ | refine BoolOp_one ?_)
  | ((with_reducible first | refine' spliced_more ?_ ?he | refine' Call_ ?_ ?he); (case he => rfl))
  | ((with_reducible refine' wpAny_isTrue_Compare1 ?_ ?hm); (case hm => with_unfolding_all rfl))
  | ((with_reducible first | refine' wpAny_Assign_Name ?_ ?hs | refine' wpAny_Assign_Subscript ?_ ?hs); (case hs => kernel_rfl!))
  | ((with_reducible first | refine' i_mod ?hb (fun _ _ => ?_) | refine' i_mul (fun _ _ => ?_) ?hb); (case hb => first | decide | mul_fits))
  | ((with_reducible refine' lv ?F ?hv ?_ ?hk ?hl ?hd); (case F => assumption); (case hv => walk_at "lk"); (case hk | hl | hd => kernel_rfl!))
  | ((with_reducible refine' sv2 ?F ?B ?C (fun _ _ _ _ _ => ?_) ?hk ?hl); (case F | B | C => assumption); (case hk | hl => kernel_rfl!))
  | ((with_reducible refine' sv1 ?F ?B (fun _ _ _ _ => ?_) ?hk ?hl); (case F | B => assumption); (case hk | hl => kernel_rfl!))
  | ((with_reducible refine' sv ?F (fun _ _ _ _ => ?_) ?hk ?hl); (case F => assumption); (case hk | hl => kernel_rfl!))
  | ((with_reducible refine' MethodCall_ ?_ ?he); rotate_left; (case he => rfl))
  | ((with_reducible refine' isTrue_plain ?_ ?he); (case he => rfl))
  | ((with_reducible refine' xp_none ?_ ?hk ?hl); (case hk | hl => kernel_rfl!))
  | ((with_reducible refine' gv ?KX ?hx ?_ ?hk ?hl ?hg ?hd); (case hx => walk_at "nm"); (case KX => walk_at "KX"); (case hk | hl | hg | hd => kernel_rfl!))
  | ((with_reducible refine' bv ?KX ?hx ?hy ?_ ?hk ?hl ?hg ?hb ?hd); (case hx => walk_at "n3"); (case hy => walk_at "n0"); (case KX => walk_at "KX"); (case hk | hl | hg | hb | hd => kernel_rfl!))
  | ((with_reducible first | refine' callWith_builtin1 ?_ ?he ?hp | refine' PyProof.Rows.callWith_type1 ?_ ?he ?hp); (case he | hp => rfl))
  | ((with_reducible refine' wpAny_For ?_ ?hs); (case hs => (intro _; rfl)))
  | ((with_reducible refine' cw_fn ?he ?hp ?_ ?hq); (case he | hp | hq => rfl)) | fail)
local macro_rules | `(tactic| walk_at "nm") => `(tactic| with_reducible (first | exact nm_cmp_to_key | exact nm_initial_missing | exact nm_reduce | exact nm_heappop | exact nm_heapreplace | exact nm_heapify | exact nm_siftdown | exact nm_siftup | exact nm_law_rows | exact nm_law_compare | exact nm_law_signs | exact nm_law_unlike | exact nm_law_merge))
local macro_rules | `(tactic| walk_at "n3") => `(tactic| with_reducible (first | exact n3_len | exact n3_range | exact n3_reversed | exact n3_list | exact n3_iter | exact n3_next | exact n3_max | exact n3_sorted | exact n3_zip))
local macro_rules | `(tactic| walk_at "n0") => `(tactic| with_reducible (first | exact n0_len | exact n0_range | exact n0_reversed | exact n0_list | exact n0_iter | exact n0_next | exact n0_max | exact n0_sorted | exact n0_zip))
section S1_
open PySem PySem.W PyProof.Rows
noncomputable def cmpVal (v1 r1 v2 r2 : Int) : Int := if (v1.fdiv 2 != v2.fdiv 2) = true then (v1.fdiv 2 - v2.fdiv 2) * 5 else (r1 - r2) * 2


local macro_rules | `(tactic| walk_at "go1") => `(tactic| first | ((with_reducible first | refine' it0 ?hl ?_ ?hs | refine' it1 ?hl ?_ ?hs); (case hl => assumption); (case hs => with_unfolding_all rfl)) | walk_at "go")
theorem compare_spec {w : World} {A : Around} {h : Heap} {c : Shared} {t : Nat} {R : Result → Shared → Prop} {one other i1 i2 : Addr} {r1 r2 v1 v2 : Int} {t1 t2 u1 u2 : Tok} {l1 l2 m1 m2 : List Value}
    (KX : (KB w.params).In h) (hA : Room 1 A)
    (h1 : LL h one (.int r1 t1 :: .ref i1 :: l1)) (h1' : LL h i1 (.int v1 u1 :: m1))
    (h2 : LL h other (.int r2 t2 :: .ref i2 :: l2)) (h2' : LL h i2 (.int v2 u2 :: m2))
    (H : ∀ h' t' u, Keeps h h' → R (.ok (.ret (.int (cmpVal v1 r1 v2 r2) u))) (St h' c t')) :
    codeAny (model pw w) A (.call (.ref 79) ⟨[.ref one, .ref other], []⟩) R (St h c t) := by
  refine call_pos_ret hA.lim (KX 79 _ (by rfl)) rfl (nolimit KX) ⟨_, _, _, _, rfl, KX 78 _ (by rfl), rfl, rfl⟩ rfl (locs rfl) (fun h₁ F => ?_)
  replace h1 := Keeps.list F.keep h1
  replace h1' := Keeps.list F.keep h1'
  replace h2 := Keeps.list F.keep h2
  replace h2' := Keeps.list F.keep h2'
  show wpAny _ _ _ _ _ (St h₁ c _)
  generalize hk : t + _ = t'
  clear hk
  repeat' (walk_at "go1")
  have hQ : ∀ t' u, R (.ok (.ret (.int (cmpVal v1 r1 v2 r2) u))) (St h₁ c t') := fun t' u => H h₁ t' u F.keep
  unfold cmpVal at hQ
  split
  · rename_i e
    rw [if_pos e] at hQ
    repeat' (walk_at "go1")
    exact hQ _ _
  · rename_i e
    rw [if_neg e] at hQ
    repeat' (walk_at "go1")
    exact hQ _ _
end S1_
section S2_
open PySem PySem.W PyProof.Rows
noncomputable def LtOK (w : World) (c : Shared) (g : Heap) (lt : Addr → Addr → Bool) (ks : List Addr) : Prop :=
  ∀ a ∈ ks, ∀ b ∈ ks, ∀ (A : Around) (h : Heap) (t : Nat) (Q : Value → Shared → Prop) (E : Value → Shared → Prop), Room 3 A → Keeps g h →
    (∀ h' t', Keeps h h' → Q (.bool (lt a b)) (St h' c t')) → wpAny (model pw w) A (compareOp .Lt (.ref a) (.ref b)) Q E (St h c t)
theorem LtOK.sub {w : World} {c : Shared} {g : Heap} {lt : Addr → Addr → Bool} {ks ks' : List Addr} (x : LtOK w c g lt ks) (hs : ∀ k ∈ ks', k ∈ ks) : LtOK w c g lt ks' := fun a ha b hb => x a (hs a ha) b (hs b hb)
theorem LtOK.up {w : World} {c : Shared} {g g' : Heap} {lt : Addr → Addr → Bool} {ks : List Addr} (x : LtOK w c g lt ks) (k : Keeps g g') : LtOK w c g' lt ks := fun a ha b hb A h t Q E hA hk H => x a ha b hb A h t Q E hA (k.trans hk) H
noncomputable def sd (lt : Addr → Addr → Bool) (x : Addr) (start p : Nat) (ks : List Addr) : List Addr :=
  if start < p then
    if lt x (ks.getD ((p - 1) / 2) 0) = true then sd lt x start ((p - 1) / 2) (ks.set p (ks.getD ((p - 1) / 2) 0)) else ks.set p x
  else ks.set p x
termination_by p
decreasing_by omega

theorem siftdown_spec {w : World} {A : Around} {g h : Heap} {c : Shared} {t : Nat} {R : Result → Shared → Prop} {hp : Addr} {ks : List Addr} {start pos : Nat} {u v : Tok} {lt : Addr → Addr → Bool}
    (KX : (KB w.params).In g) (hA : Room 4 A) (hg : Keeps g h) (hgs : g.objs.size ≤ h.objs.size) (hpg : g.get? hp = none) (hl : LL h hp (ks.map Value.ref))
    (hpos : pos < ks.length) (hlen : ks.length < 2 ^ 60) (LT : LtOK w c g lt ks)
    (H : ∀ h' t', Keeps g h' → LL h' hp ((sd lt (ks.getD pos 0) start pos ks).map Value.ref) → R (.ok (.ret .none)) (St h' c t')) :
    codeAny (model pw w) A (.call (.ref 58) ⟨[.ref hp, .int start u, .int pos v], []⟩) R (St h c t) := by
  have KX' : (KB w.params).In h := KX.keeps hg
  refine call_pos_ret hA.lim (KX' 58 _ (by rfl)) rfl (nolimit KX') ⟨_, _, _, _, rfl, KX' 57 _ (by rfl), rfl, rfl⟩ rfl (locs rfl) (fun h₁ F => ?_)
  have hlt := hl.lt
  replace hl := Keeps.list F.keep hl
  replace F := Fr.under F hg hgs
  show wpAny _ _ _ _ _ (St h₁ c _)
  generalize hk : t + _ = t'
  clear hk
  have hne : hp ≠ h.objs.size := Nat.ne_of_lt hlt
  repeat' (walk_at "go")
  refine itr hl rfl hpos hlen ?_ (by with_unfolding_all rfl)
  repeat' (walk_at "go")
  rename_i h₂ t₂ F₂ hs₂
  replace hl := list_but hl hs₂ hne
  refine wh (fun n s => ∃ h' t' m' ks', s = St h' c t' ∧ Fr g h.objs.size h' m' ∧ m' (Str.ofString "heap") = some (.ref hp) ∧ m' (Str.ofString "startpos") = some (.int start u) ∧ (∃ v', m' (Str.ofString "pos") = some (.int (n : Int) v')) ∧
    m' (Str.ofString "newitem") = some (.ref (ks.getD pos 0)) ∧ LL h' hp (ks'.map Value.ref) ∧ ks'.length = ks.length ∧ n < ks.length ∧ (∀ k ∈ ks', k ∈ ks) ∧ sd lt (ks.getD pos 0) start n ks' = sd lt (ks.getD pos 0) start pos ks) pos ?_ ?_
  · exact ⟨h₂, t₂, _, ks, rfl, F₂, by with_unfolding_all rfl, by with_unfolding_all rfl, ⟨v, by with_unfolding_all rfl⟩, by with_unfolding_all rfl, hl, rfl, hpos, fun _ x => x, rfl⟩
  · rintro n s E' ⟨h', t', m', ks', rfl, F', m1, m2, ⟨v', m3⟩, m4, hl', el, hn, hin, hsd⟩
    repeat' (walk_at "go")
    have hne' : h.objs.size ≠ hp := fun e => hne e.symm
    by_cases hs : start < n
    · rw [if_pos (by simpa using hs)]
      have ep : ((n : Int) - 1).fdiv 2 = (((n - 1) / 2 : Nat) : Int) := by
        rw [Int.fdiv_eq_ediv_of_nonneg _ (by decide)]; omega
      have hpp : (n - 1) / 2 < ks'.length := by omega
      have hx : ks.getD pos 0 ∈ ks := by rw [List.getD_eq_getElem?_getD, List.getElem?_eq_getElem hpos]; exact List.getElem_mem _
      have hy : ks'.getD ((n - 1) / 2) 0 ∈ ks := hin _ (by rw [List.getD_eq_getElem?_getD, List.getElem?_eq_getElem hpp]; exact List.getElem_mem _)
      repeat' (walk_at "go")
      rename_i h₃ t₃ F₃ hs₃
      replace hl' := list_but hl' hs₃ hne
      refine itr hl' ep hpp (by omega) ?_ (by with_unfolding_all rfl)
      repeat' (walk_at "go")
      rename_i h₄ t₄ F₄ hs₄
      replace hl' := list_but hl' hs₄ hne
      refine LT _ hx _ hy _ _ _ _ _ (hA.deeper.le (by decide)) F₄.keep fun h₅ t₅ k₅ => ?_
      replace hl' := k₅.list hl'
      have F₅ := Fr.grow F₄ k₅
      repeat' (walk_at "go")
      by_cases hc : lt (ks.getD pos 0) (ks'.getD ((n - 1) / 2) 0) = true
      · rw [if_pos hc]
        repeat' (walk_at "go")
        refine setr hl' rfl (by omega) (by omega) fun h₆ hl₆ hs₆ => ?_
        have F₆ := Fr.but F₅ hs₆ hne' hpg
        repeat' (walk_at "go")
        rename_i h₇ t₇ F₇ hs₇
        replace hl₆ := list_but hl₆ hs₇ hne
        refine wend_cont ⟨(n - 1) / 2, by omega, h₇, t₇, _, _, rfl, F₇, by walk_at "lk", by walk_at "lk", ⟨_, by rw [← ep]; walk_at "lk"⟩, by walk_at "lk", hl₆, by rw [List.length_set, el], by omega, ?_, ?_⟩
        · intro k hk
          rcases List.mem_or_eq_of_mem_set hk with hk | rfl
          · exact hin _ hk
          · exact hy
        · rw [← hsd]
          conv => rhs; rw [sd, if_pos hs, if_pos hc]
      · rw [if_neg hc]
        repeat' (walk_at "go")
        refine wend_brk ?_
        repeat' (walk_at "go")
        refine setr hl' rfl (by omega) (by omega) fun h₆ hl₆ hs₆ => ?_
        have F₆ := Fr.but F₅ hs₆ hne' hpg
        repeat' (walk_at "go")
        refine H _ _ F₆.keep ?_
        rw [← hsd, sd, if_pos hs, if_neg hc]
        exact hl₆
    · rw [if_neg (by simpa using hs)]
      repeat' (walk_at "go")
      refine setr hl' rfl (by omega) (by omega) fun h₆ hl₆ hs₆ => ?_
      have F₆ := Fr.but F' hs₆ hne' hpg
      repeat' (walk_at "go")
      refine H _ _ F₆.keep ?_
      rw [← hsd, sd, if_neg hs]
      exact hl₆
end S2_
section S3_
open PySem PySem.W PyProof.Rows
noncomputable def ch (lt : Addr → Addr → Bool) (ks : List Addr) (p : Nat) : Nat :=
  if 2 * p + 2 < ks.length ∧ lt (ks.getD (2 * p + 1) 0) (ks.getD (2 * p + 2) 0) = false then 2 * p + 2 else 2 * p + 1
noncomputable def su (lt : Addr → Addr → Bool) (p : Nat) (ks : List Addr) : Nat × List Addr :=
  if 2 * p + 1 < ks.length then su lt (ch lt ks p) (ks.set p (ks.getD (ch lt ks p) 0)) else (p, ks)
termination_by ks.length - p
decreasing_by
  simp only [List.length_set]
  unfold ch
  split <;> omega
noncomputable def siftup (lt : Addr → Addr → Bool) (pos : Nat) (ks : List Addr) : List Addr :=
  sd lt (ks.getD pos 0) pos (su lt pos ks).1 ((su lt pos ks).2.set (su lt pos ks).1 (ks.getD pos 0))

theorem siftup_spec {w : World} {A : Around} {g h : Heap} {c : Shared} {t : Nat} {R : Result → Shared → Prop} {hp : Addr} {ks : List Addr} {pos : Nat} {v : Tok} {lt : Addr → Addr → Bool}
    (KX : (KB w.params).In g) (hA : Room 5 A) (hg : Keeps g h) (hgs : g.objs.size ≤ h.objs.size) (hpg : g.get? hp = none) (hl : LL h hp (ks.map Value.ref))
    (hpos : pos < ks.length) (hlen : ks.length < 2 ^ 59) (LT : LtOK w c g lt ks)
    (H : ∀ h' t', Keeps g h' → LL h' hp ((siftup lt pos ks).map Value.ref) → R (.ok (.ret .none)) (St h' c t')) :
    codeAny (model pw w) A (.call (.ref 65) ⟨[.ref hp, .int pos v], []⟩) R (St h c t) := by
  have KX' : (KB w.params).In h := KX.keeps hg
  refine call_pos_ret hA.lim (KX' 65 _ (by rfl)) rfl (nolimit KX') ⟨_, _, _, _, rfl, KX' 64 _ (by rfl), rfl, rfl⟩ rfl (locs rfl) (fun h₁ F => ?_)
  have hlt := hl.lt
  replace hl := Keeps.list F.keep hl
  replace F := Fr.under F hg hgs
  show wpAny _ _ _ _ _ (St h₁ c _)
  generalize hk : t + _ = t'
  clear hk
  clear KX'
  have hne : hp ≠ h.objs.size := Nat.ne_of_lt hlt
  have B : Own h.objs.size h₁ hp ks := ⟨hne, hl⟩
  clear hl
  repeat' (walk_at "go")
  refine lenr B.ls (by omega) fun u₀ t₀ => ?_
  repeat' (walk_at "go")
  rename_i F₂ B₂
  refine itr B₂.ls rfl hpos (by omega) ?_ (by with_unfolding_all rfl)
  repeat' (walk_at "go")
  rename_i h₃ t₃ F₃ B₃
  have hx : ks.getD pos 0 ∈ ks := by rw [List.getD_eq_getElem?_getD, List.getElem?_eq_getElem hpos]; exact List.getElem_mem _
  have hne' : h.objs.size ≠ hp := fun e => hne e.symm
  refine wh (fun n s => ∃ (h' : Heap) (t' : Nat) (m' : Str → Option Value) (ks' : List Addr) (p : Nat), s = St h' c t' ∧ Fr g h.objs.size h' m' ∧ m' (Str.ofString "heap") = some (.ref hp) ∧ m' (Str.ofString "endpos") = some (.int ks.length u₀) ∧ m' (Str.ofString "startpos") = some (.int pos v) ∧
    m' (Str.ofString "newitem") = some (.ref (ks.getD pos 0)) ∧ (∃ u, m' (Str.ofString "pos") = some (.int (p : Int) u)) ∧ (∃ u, m' (Str.ofString "childpos") = some (.int (2 * p + 1 : Int) u)) ∧
    Own h.objs.size h' hp ks' ∧ ks'.length = ks.length ∧ p < ks.length ∧ (∀ k ∈ ks', k ∈ ks) ∧ su lt p ks' = su lt pos ks ∧ n = ks.length - p) (ks.length - pos) ?_ ?_
  · exact ⟨h₃, t₃, _, ks, pos, rfl, F₃, by walk_at "lk", by walk_at "lk", by walk_at "lk", by walk_at "lk", ⟨_, by walk_at "lk"⟩, ⟨_, by walk_at "lk"⟩, B₃, rfl, hpos, fun _ x => x, rfl, rfl⟩
  · clear F₃ B₃ F B F₂ B₂
    rintro n s E' ⟨h', t', m', ks', p, rfl, F', m1, m2, m3, m4, ⟨u5, m5⟩, ⟨u6, m6⟩, B', el, hp', hin, hsu, rfl⟩
    repeat' (walk_at "go")
    have mem : ∀ i, i < ks'.length → ks'.getD i 0 ∈ ks := fun i hi => hin _ (by rw [List.getD_eq_getElem?_getD, List.getElem?_eq_getElem hi]; exact List.getElem_mem _)
    by_cases hs : 2 * p + 1 < ks.length
    · rw [if_pos (by rw [decide_eq_true_iff]; omega)]
      refine ex_cons ?_
      repeat' (walk_at "st")
      rename_i h₃ t₃ F₃ B₃
      refine co_next ?_
      refine seq_cut (fun s => ∃ (h' : Heap) (t' : Nat) (m' : Str → Option Value), s = St h' c t' ∧ Fr g h.objs.size h' m' ∧ m' (Str.ofString "heap") = some (.ref hp) ∧ m' (Str.ofString "endpos") = some (.int ks.length u₀) ∧ m' (Str.ofString "startpos") = some (.int pos v) ∧
        m' (Str.ofString "newitem") = some (.ref (ks.getD pos 0)) ∧ (∃ u, m' (Str.ofString "pos") = some (.int (p : Int) u)) ∧ (∃ u, m' (Str.ofString "childpos") = some (.int (ch lt ks' p : Int) u)) ∧
        Own h.objs.size h' hp ks') ?_ ?_
      · repeat' (walk_at "go")
        by_cases hs2 : 2 * p + 2 < ks.length
        · rw [if_pos (by rw [decide_eq_true_iff]; omega)]
          repeat' (walk_at "go")
          refine itr B₃.ls (k := 2 * p + 1) (by omega) (by omega) (by omega) ?_ (by with_unfolding_all rfl)
          repeat' (walk_at "go")
          refine itr B₃.ls (k := 2 * p + 2) (by omega) (by omega) (by omega) ?_ (by with_unfolding_all rfl)
          refine LT _ (mem _ (by omega)) _ (mem _ (by omega)) _ _ _ _ _ (hA.deeper.le (by decide)) F₃.keep fun h₅ t₅ k₅ => ?_
          have B₅ := B₃.grow k₅
          have F₅ := Fr.grow F₃ k₅
          repeat' (walk_at "go")
          cases hc : lt (ks'.getD (2 * p + 1) 0) (ks'.getD (2 * p + 2) 0) with
          | true =>
            refine if_f (by simp) (if_f (by simp) ?_)
            repeat' (walk_at "go")
            exact ⟨rfl, h₅, t₅, _, rfl, F₅, by walk_at "lk", by walk_at "lk", by walk_at "lk", by walk_at "lk", ⟨_, by walk_at "lk"⟩, ⟨u6, by rw [show ch lt ks' p = 2 * p + 1 from if_neg (by rw [hc]; simp)]; walk_at "lk"⟩, B₅⟩
          | false =>
            refine if_t (by simp) ?_
            repeat' (walk_at "go")
            refine if_t rfl ?_
            repeat' (walk_at "go")
            rename_i h₇ t₇ F₇ B₇
            exact ⟨rfl, h₇, t₇, _, rfl, F₇, by walk_at "lk", by walk_at "lk", by walk_at "lk", by walk_at "lk", ⟨_, by walk_at "lk"⟩, ⟨_, by rw [show (ch lt ks' p : Int) = 2 * (p : Int) + 1 + 1 from by rw [show ch lt ks' p = 2 * p + 2 from if_pos ⟨by omega, hc⟩]; omega]; walk_at "lk"⟩, B₇⟩
        · refine if_f (by rw [decide_eq_true_iff]; omega) (if_f (by simp) ?_)
          repeat' (walk_at "go")
          exact ⟨rfl, h₃, _, _, rfl, F₃, by walk_at "lk", by walk_at "lk", by walk_at "lk", by walk_at "lk", ⟨_, by walk_at "lk"⟩, ⟨u6, by rw [show ch lt ks' p = 2 * p + 1 from if_neg (fun e => hs2 (by omega))]; walk_at "lk"⟩, B₃⟩
      · clear F₃ B₃
        rintro s ⟨h₃, t₃, m₃, rfl, F₃, n1, n2, n3, n4, ⟨w5, n5⟩, ⟨w6, n6⟩, B₃⟩
        have hch : ch lt ks' p < ks.length := by unfold ch; split <;> omega
        have hch' : p < ch lt ks' p := by unfold ch; split <;> omega
        repeat' (walk_at "go")
        refine itr B₃.ls rfl (by omega) (by omega) ?_ (by with_unfolding_all rfl)
        repeat' (walk_at "go")
        refine setr B₃.ls rfl (by omega) (by omega) fun h₆ hl₆ hs₆ => ?_
        have F₆ := Fr.but F₃ hs₆ hne' hpg
        have B₆ : Own h.objs.size h₆ hp _ := ⟨hne, hl₆⟩
        repeat' (walk_at "go")
        rename_i h₈ t₈ F₈ B₈
        refine wend_next ⟨ks.length - ch lt ks' p, by omega, h₈, t₈, _, _, ch lt ks' p, rfl, F₈, by walk_at "lk", by walk_at "lk", by walk_at "lk", by walk_at "lk", ⟨_, by walk_at "lk"⟩, ⟨_, by walk_at "lk"⟩, B₈, by rw [List.length_set, el], hch, ?_, ?_, rfl⟩
        · intro k hk
          rcases List.mem_or_eq_of_mem_set hk with hk | rfl
          · exact hin _ hk
          · exact mem _ (by omega)
        · rw [← hsu]
          conv => rhs; rw [su, if_pos (by omega)]
    · rw [if_neg (by rw [decide_eq_true_iff]; omega)]
      repeat' (walk_at "go")
      refine setr B'.ls rfl (by omega) (by omega) fun h₆ hl₆ hs₆ => ?_
      have F₆ := Fr.but F' hs₆ hne' hpg
      repeat' (walk_at "go")
      refine ⟨KX.keeps F₆.keep, cl ?_⟩
      refine siftdown_spec (start := pos) (lt := lt) KX hA.deeper F₆.keep (Fr.sz F₆) hpg hl₆ (by simp; omega) (by simp; omega) (LT.sub ?_) fun h₇ t₇ k₇ hl₇ => ?_
      · intro k hk
        rcases List.mem_or_eq_of_mem_set hk with hk | rfl
        · exact hin _ hk
        · exact hx
      · refine rq_ret ⟨rfl, ?_⟩
        repeat' (walk_at "go")
        refine H _ _ k₇ ?_
        have e1 : (ks'.set p (ks.getD pos 0)).getD p 0 = ks.getD pos 0 := by
          rw [List.getD_eq_getElem?_getD, List.getElem?_set_self (by omega)]; rfl
        have e2 : su lt pos ks = (p, ks') := by rw [← hsu, su, if_neg (by omega)]
        unfold siftup
        rw [e2]
        rw [e1] at hl₇
        exact hl₇
end S3_
section R2_
open PySem PySem.W PyProof.Rows
theorem Keeps.hide {g h : Heap} {l : Addr} (k : Keeps g h) (hg : g.get? l = none) : Keeps g (hideAll h [l]) := fun b o e => hideAll_get _ (k b o e) (by
  intro hb
  rw [List.mem_singleton] at hb
  subst hb
  rw [e] at hg
  cases hg)
theorem hide_none {h : Heap} {l : Addr} : (hideAll h [l]).get? l = none := hideAll_none _ (List.mem_singleton_self l)
theorem hide_keeps {h : Heap} {l : Addr} : Keeps (hideAll h [l]) h := fun _ _ e => of_hideAll _ e
theorem Fr.back {g h h' : Heap} {L l : Addr} {m : Str → Option Value} (F : Fr g L h m) (hne : L ≠ l) (hg : g.get? l = none) (k : Keeps (hideAll h [l]) h') : Fr g L h' m := by
  refine ⟨?_, (Keeps.hide F.keep hg).trans k, F.above⟩
  obtain ⟨o, es, ep, e, r⟩ := F.ns
  exact ⟨o, es, ep, k _ _ (hideAll_get _ e (by simpa using hne)), r⟩
section
variable {w : World} {A : Around} {E : Value → Shared → Prop} {h : Heap} {c : Shared} {t : Nat} {env : Env} {g : Heap} {m : Str → Option Value}
/-! methods of lists -/
theorem gm_append {l : Addr} {vs : List Value} {pl : Sem Bool} {Q : Value × List Value → Shared → Prop} (hl : LL h l vs) (H : Q (.builtin "list.append", [.ref l]) (St h c t)) :
    wpAny (model pw w) A (getMethod (.ref l) (Str.ofString "append") pl) Q E (St h c t) := by
  obtain ⟨n, e⟩ := hl
  exact getMethod_builtin (s := St h c t) ⟨_, e, rfl⟩ PySem.F.plainAttrs_list PySem.F.slot_list_append PySem.F.type_list_append (fun a q => by cases q; exact ⟨_, e, rfl⟩) H
theorem gm_pop {l : Addr} {vs : List Value} {pl : Sem Bool} {Q : Value × List Value → Shared → Prop} (hl : LL h l vs) (H : Q (.builtin "list.pop", [.ref l]) (St h c t)) :
    wpAny (model pw w) A (getMethod (.ref l) (Str.ofString "pop") pl) Q E (St h c t) := by
  obtain ⟨n, e⟩ := hl
  exact getMethod_builtin (s := St h c t) ⟨_, e, rfl⟩ PySem.F.plainAttrs_list PySem.F.slot_list_pop PySem.F.type_list_pop (fun a q => by cases q; exact ⟨_, e, rfl⟩) H
theorem sizeLine_is : sizeLine = 16777216 := rfl
theorem c_append {l : Addr} {vs : List Value} {v : Value} {Q : Value → Shared → Prop} (hl : LL h l vs) (hn : vs.length < 2 ^ 20) (H : ∀ h', LL h' l (vs ++ [v]) → Heap.SameBut l h h' → Q .none (St h' c t)) :
    wpAny (model pw w) A (call (.builtin "list.append") [.ref l, v]) Q E (St h c t) := by
  obtain ⟨n, e⟩ := hl
  refine append_at (s := St h c t) e (fun h' hs ho => H h' ⟨n + 1, ?_⟩ hs) (by rw [sizeLine_is]; simp; omega)
  simpa using ho
theorem c_pop {pos : Pos} {l : Addr} {vs : List Value} {v : Value} {Q : Value → Shared → Prop} (hl : LL h l (vs ++ [v])) (hn : vs.length < 2 ^ 20) (H : ∀ h', LL h' l vs → Heap.SameBut l h h' → Q v (St h' c t)) :
    wpAny (model pw w) A (callWith pos (.builtin "list.pop") [.ref l] (backTo pos (starEach [] env)) []) Q E (St h c t) := by
  obtain ⟨n, e⟩ := hl
  have ez : (vs ++ [v]).toArray.size - 1 = vs.length := by simp
  refine PySem.P.pop_list (s := St h c t) (n := n) e (y := v) ?_ (H _ ⟨n + 1, ?_⟩ (Heap.SameBut.update ..)) (by rw [sizeLine_is]; simp; omega)
  · rw [ez]; simp
  · have q := PySem.IsL.update (n := n) e (fun xs => xs.eraseIdxIfInBounds ((vs ++ [v]).toArray.size - 1))
    have e2 : (vs ++ [v]).toArray.eraseIdxIfInBounds ((vs ++ [v]).toArray.size - 1) = vs.toArray := by
      rw [ez, kl_erase, List.append_nil]
    rw [e2, if_neg (by simp)] at q
    exact q
theorem c_pop1 {pos : Pos} {l : Addr} {vs : List Value} {v0 v : Value} {k : Nat} {p : Pos} {Q : Value → Shared → Prop} (hl : LL h l (v0 :: v :: vs)) (hn : vs.length < 2 ^ 20) (H : ∀ h' t', LL h' l (v0 :: vs) → Heap.SameBut l h h' → Q v (St h' c t')) :
    wpAny (model pw w) A (callWith pos (.builtin "list.pop") [.ref l] (backTo pos (starEach [.Constant (.int 1) k p] env)) []) Q E (St h c t) := by
  obtain ⟨n, e⟩ := hl
  refine PySem.P.pop_at_list (x := eval (.Constant (.int 1) k p) env) (c_int fun u t' => ⟨_, n, 1, u, 1, v, ?_, rfl, e, ?_, ?_, ?_, H _ t' ⟨n + 1, ?_⟩ (Heap.SameBut.update ..)⟩)
  · rw [sizeLine_is]; simp; omega
  · rfl
  · show seqIndex? 1 ((v0 :: v :: vs).toArray.size) = some 1
    unfold seqIndex?
    simp only [List.size_toArray, List.length_cons]
    (repeat (first | rw [if_neg (by omega)] | rw [if_pos (by omega)])) <;> first | rfl | (simp; omega)
  · simp
  · have q := PySem.IsL.update (n := n) e (fun xs => xs.eraseIdxIfInBounds 1)
    have e2 : (v0 :: v :: vs).toArray.eraseIdxIfInBounds 1 = (v0 :: vs).toArray := kl_erase [v0] vs v
    rw [e2, if_neg (by simp)] at q
    exact q
theorem tr_list {l : Addr} {vs : List Value} {Q : Bool → Shared → Prop} (hl : LL h l vs) (hn : vs.length < 2 ^ 20) (H : ∀ t', Q (!vs.isEmpty) (St h c t')) : wpAny (model pw w) A (truthy (.ref l)) Q E (St h c t) :=
  wpAny_truthy_list (s := St h c t) hl.is (by simp; omega) (by simpa using H _)
/-! for -/
noncomputable def FEnd (P : Shared → Prop) (Q : Flow → Shared → Prop) (f : Flow) (s : Shared) : Prop := match f with
  | .next | .cont => P s
  | .brk => Q .next s
  | .ret v => Q (.ret v) s
theorem fend_next {P : Shared → Prop} {Q : Flow → Shared → Prop} {s : Shared} (H : P s) : FEnd P Q .next s := H
theorem floop {target : PySem.Expr} {body : List Stmt} {I : Addr} {fp wr : List Addr} {n : Nat} {P : Nat → Value → Prop} {S : Nat → Heap → Prop} {Q : Flow → Shared → Prop} {X : Value → Shared → Prop} (W : Walks pw w A I fp wr n P S) (Inv : Nat → Heap → Prop)
    (fr : ∀ i h h', Inv i h → (∀ b o, b ∉ wr → h.get? b = some o → h'.get? b = some o) → Inv i h') (h0 : S 0 h) (h1 : Inv 0 h)
    (step : ∀ i h t v (E' : Value → Shared → Prop), i < n → P i v → S (i + 1) h → Inv i h → wpAny (model pw w) A (assign target env v) (fun _ s₂ => wpAny (model pw w) A (execs body env) (FEnd (fun s₃ => ∃ h' t', s₃ = St h' c t' ∧ S (i + 1) h' ∧ Inv (i + 1) h') Q) E' s₂) E' (St h c t))
    (fin : ∀ h t, Inv n h → Q .next (St h c t)) (ht : ∀ v, letOwnedTupleGo target (.ref I) v = pure ()) :
    codeAny (model pw w) A (.forLoop target (.ref I) body [] env) (fun r s' => match r with | .ok f => Q f s' | .error e => X e s') (St h c t) := by
  refine codeAny_forLoop (fun k s => ∃ i h t, s = St h c t ∧ i ≤ n ∧ k = n - i ∧ S i h ∧ Inv i h) ?_ n ⟨0, h, t, rfl, Nat.zero_le _, rfl, h0, h1⟩ ht
  rintro k s ⟨i, h, t, rfl, hi, rfl, hS, hI⟩
  by_cases hlt : i < n
  · refine W.item i _ _ _ hlt hS fun v h' tk hv hS' hk => ?_
    refine wpAny_mono (step i h' tk v _ hlt hv hS' (fr i _ _ hI hk)) (fun _ s₂ h₂ => wpAny_mono h₂ (fun f s₃ h₃ => ?_) fun _ _ x => x) fun _ _ x => x
    cases f with
    | next => obtain ⟨h'', t'', rfl, a, b⟩ := h₃; exact ⟨n - (i + 1), by omega, i + 1, h'', t'', rfl, hlt, rfl, a, b⟩
    | cont => obtain ⟨h'', t'', rfl, a, b⟩ := h₃; exact ⟨n - (i + 1), by omega, i + 1, h'', t'', rfl, hlt, rfl, a, b⟩
    | brk => exact h₃
    | ret v => exact h₃
  · have : i = n := by omega
    subst this
    refine W.done _ _ _ hS fun h' tk hk => wpAny_execs_nil ?_
    exact fin h' tk (fr _ _ _ hI hk)
/-! ranges -/
theorem c_range {n : Int} {u : Tok} {Q : Value → Shared → Prop} (H : ∀ h' r t₁ t₂ t', Keeps h h' → h.objs.size ≤ r → IsRange h' r 0 n 1 t₁ u t₂ → Q (.ref r) (St h' c t')) : wpAny (model pw w) A (call (.type "range") [.int n u]) Q E (St h c t) :=
  call_range_1 (s := St h c t) (H _ _ _ _ _ (Keeps.push _ _) (Nat.le_refl _) (IsRange.new _ _ _ _ _ _ _))
end
end R2_
section P1_
open PySem
theorem set_perm {α : Type} : ∀ (l : List α) (k : Nat) (x : α), k < l.length → (l.set k x).Perm (x :: l.eraseIdx k)
  | [], _, _, h => by simp at h
  | a :: l, 0, x, _ => by simp
  | a :: l, k + 1, x, h => by
    simp only [List.set_cons_succ, List.eraseIdx_cons_succ]
    exact ((set_perm l k x (by simpa using h)).cons a).trans (List.Perm.swap x a _)
theorem swap_perm' {α : Type} : ∀ (l : List α) (i j : Nat) (a b : α), i < j → j < l.length → ((l.set i a).set j b).Perm ((l.set i b).set j a)
  | [], _, _, _, _, _, h => by simp at h
  | _ :: _, _, 0, _, _, h, _ => by omega
  | x :: l, 0, j + 1, a, b, _, h => by
    simp only [List.set_cons_zero, List.set_cons_succ]
    have h' : j < l.length := by simpa using h
    exact (((set_perm l j b h').cons a).trans (List.Perm.swap b a _)).trans ((set_perm l j a h').cons b).symm
  | x :: l, i + 1, j + 1, a, b, h, h2 => by
    simp only [List.set_cons_succ]
    exact (swap_perm' l i j a b (by omega) (by simpa using h2)).cons x
theorem swap_perm {α : Type} (l : List α) (i j : Nat) (a b : α) (hij : i ≠ j) (hi : i < l.length) (hj : j < l.length) : ((l.set i a).set j b).Perm ((l.set i b).set j a) := by
  rcases Nat.lt_or_gt_of_ne hij with h | h
  · exact swap_perm' l i j a b h hj
  · rw [List.set_comm _ _ hij, List.set_comm _ _ hij]
    exact (swap_perm' l j i b a h hi)
theorem set_self {l : List Addr} {i : Nat} (h : i < l.length) : l.set i (l.getD i 0) = l := by
  rw [List.getD_eq_getElem?_getD, List.getElem?_eq_getElem h]
  exact List.set_getElem_self h
variable {lt : Addr → Addr → Bool}
theorem sd_perm (x : Addr) (start : Nat) : ∀ (p : Nat) (ks : List Addr), p < ks.length → (sd lt x start p ks).Perm (ks.set p x) := by
  intro p
  induction p using Nat.strongRecOn with
  | ind p ih =>
    intro ks hp
    rw [sd]
    split
    · split
      · have hpp : (p - 1) / 2 < p := by omega
        refine (ih _ hpp (ks.set p (ks.getD ((p - 1) / 2) 0)) (by rw [List.length_set]; omega)).trans ?_
        refine (swap_perm ks p ((p - 1) / 2) _ x (by omega) hp (by omega)).trans ?_
        rw [List.set_comm _ _ (by omega : p ≠ (p - 1) / 2)]
        rw [set_self (by omega : (p - 1) / 2 < ks.length)]
      · exact List.Perm.refl _
    · exact List.Perm.refl _
theorem ch_lt {ks : List Addr} {p : Nat} (h : 2 * p + 1 < ks.length) : ch lt ks p < ks.length := by unfold ch; split <;> omega
theorem ch_gt {ks : List Addr} {p : Nat} : p < ch lt ks p := by unfold ch; split <;> omega
theorem su_perm : ∀ (n p : Nat) (ks : List Addr), ks.length - p = n → p < ks.length → (su lt p ks).2.length = ks.length ∧ (su lt p ks).1 < ks.length ∧ ∀ x, ((su lt p ks).2.set (su lt p ks).1 x).Perm (ks.set p x) := by
  intro n
  induction n using Nat.strongRecOn with
  | ind n ih =>
    intro p ks hn hp
    rw [su]
    split
    · rename_i hc
      have h1 := ch_lt (lt := lt) hc
      have h2 := ch_gt (lt := lt) (ks := ks) (p := p)
      obtain ⟨a, b, d⟩ := ih (ks.length - ch lt ks p) (by omega) (ch lt ks p) (ks.set p (ks.getD (ch lt ks p) 0)) (by rw [List.length_set]) (by rw [List.length_set]; exact h1)
      rw [List.length_set] at a b
      refine ⟨a, b, fun x => (d x).trans ?_⟩
      refine (swap_perm ks p (ch lt ks p) _ x (by omega) hp h1).trans ?_
      rw [List.set_comm _ _ (by omega : p ≠ ch lt ks p), set_self h1]
    · exact ⟨rfl, hp, fun x => List.Perm.refl _⟩
theorem siftup_perm {pos : Nat} {ks : List Addr} (hp : pos < ks.length) : (siftup lt pos ks).Perm ks := by
  obtain ⟨a, b, d⟩ := su_perm (lt := lt) _ pos ks rfl hp
  unfold siftup
  refine (sd_perm _ _ _ _ (by rw [List.length_set, a]; exact b)).trans ?_
  rw [List.set_set]
  refine (d _).trans ?_
  rw [set_self hp]
noncomputable def hfy (lt : Addr → Addr → Bool) : Nat → List Addr → List Addr
  | 0, ks => ks
  | i + 1, ks => hfy lt i (siftup lt i ks)
theorem hfy_perm : ∀ (i : Nat) (ks : List Addr), i ≤ ks.length → (hfy lt i ks).Perm ks
  | 0, _, _ => List.Perm.refl _
  | i + 1, ks, h => by
    have p := siftup_perm (lt := lt) (pos := i) (ks := ks) (by omega)
    exact (hfy_perm i _ (by rw [p.length_eq]; omega)).trans p
end P1_
section S4_
open PySem PySem.W PyProof.Rows
theorem heapreplace_spec {w : World} {A : Around} {g h : Heap} {c : Shared} {t : Nat} {R : Result → Shared → Prop} {hp x : Addr} {ks : List Addr} {lt : Addr → Addr → Bool}
    (KX : (KB w.params).In g) (hA : Room 6 A) (hg : Keeps g h) (hgs : g.objs.size ≤ h.objs.size) (hpg : g.get? hp = none) (hl : LL h hp (ks.map Value.ref))
    (hpos : 0 < ks.length) (hlen : ks.length < 2 ^ 20) (LT : LtOK w c g lt (ks.set 0 x))
    (H : ∀ h' t', Keeps g h' → LL h' hp ((siftup lt 0 (ks.set 0 x)).map Value.ref) → R (.ok (.ret (.ref (ks.getD 0 0)))) (St h' c t')) :
    codeAny (model pw w) A (.call (.ref 44) ⟨[.ref hp, .ref x], []⟩) R (St h c t) := by
  have KX' : (KB w.params).In h := KX.keeps hg
  refine call_pos_ret hA.lim (KX' 44 _ (by rfl)) rfl (nolimit KX') ⟨_, _, _, _, rfl, KX' 43 _ (by rfl), rfl, rfl⟩ rfl (locs rfl) (fun h₁ F => ?_)
  have hlt := hl.lt
  replace hl := Keeps.list F.keep hl
  replace F := Fr.under F hg hgs
  clear KX'
  show wpAny _ _ _ _ _ (St h₁ c _)
  generalize hk : t + _ = t'
  clear hk
  have hne : hp ≠ h.objs.size := Nat.ne_of_lt hlt
  have hne' : h.objs.size ≠ hp := fun e => hne e.symm
  have B : Own h.objs.size h₁ hp ks := ⟨hne, hl⟩
  clear hl
  repeat' (walk_at "go")
  refine itr B.ls (k := 0) rfl hpos (by omega) ?_ (by with_unfolding_all rfl)
  repeat' (walk_at "go")
  rename_i h₂ t₂ F₂ B₂ _ _
  refine setr B₂.ls (k := 0) rfl hpos (by omega) fun h₃ hl₃ hs₃ => ?_
  have F₃ := Fr.but F₂ hs₃ hne' hpg
  repeat' (walk_at "go")
  refine ⟨KX.keeps F₃.keep, cl ?_⟩
  have kG := Keeps.hide F₃.keep hpg
  refine siftup_spec (lt := lt) (g := hideAll h₃ [hp]) (KX.keeps kG) hA.deeper hide_keeps (Nat.le_of_eq (hideAll_size _ _)) hide_none hl₃ (pos := 0) (by simpa using hpos) (by simp; omega) (LT.up kG) fun h₄ t₄ k₄ hl₄ => ?_
  have F₄ := Fr.back F₃ hne' hpg k₄
  refine rq_ret ⟨rfl, ?_⟩
  repeat' (walk_at "go")
  exact H _ _ F₄.keep hl₄
theorem heappop_spec {w : World} {A : Around} {g h : Heap} {c : Shared} {t : Nat} {R : Result → Shared → Prop} {hp x : Addr} {ks : List Addr} {lt : Addr → Addr → Bool}
    (KX : (KB w.params).In g) (hA : Room 6 A) (hg : Keeps g h) (hgs : g.objs.size ≤ h.objs.size) (hpg : g.get? hp = none) (hl : LL h hp ((ks ++ [x]).map Value.ref))
    (hlen : ks.length < 2 ^ 20) (LT : LtOK w c g lt (ks.set 0 x))
    (H : ∀ h' t', Keeps g h' → LL h' hp ((if ks = [] then [] else siftup lt 0 (ks.set 0 x)).map Value.ref) → R (.ok (.ret (.ref (if ks = [] then x else ks.getD 0 0)))) (St h' c t')) :
    codeAny (model pw w) A (.call (.ref 37) ⟨[.ref hp], []⟩) R (St h c t) := by
  have KX' : (KB w.params).In h := KX.keeps hg
  refine call_pos_ret hA.lim (KX' 37 _ (by rfl)) rfl (nolimit KX') ⟨_, _, _, _, rfl, KX' 36 _ (by rfl), rfl, rfl⟩ rfl (locs rfl) (fun h₁ F => ?_)
  have hlt := hl.lt
  replace hl := Keeps.list F.keep hl
  replace F := Fr.under F hg hgs
  clear KX'
  show wpAny _ _ _ _ _ (St h₁ c _)
  generalize hk : t + _ = t'
  clear hk
  have hne : hp ≠ h.objs.size := Nat.ne_of_lt hlt
  have hne' : h.objs.size ≠ hp := fun e => hne e.symm
  repeat' (walk_at "go")
  refine gm_pop hl ?_
  refine c_pop (vs := ks.map Value.ref) (v := .ref x) (by simpa using hl) (by simpa using hlen) fun h₂ hl₂ hs₂ => ?_
  have F₂ := Fr.but F hs₂ hne' hpg
  have B₂ : Own h.objs.size h₂ hp ks := ⟨hne, hl₂⟩
  clear hl hl₂
  repeat' (walk_at "go")
  rename_i h₃ t₃ F₃ B₃
  refine tr_list B₃.ls (by simpa using hlen) fun t₄ => ?_
  by_cases hk : ks = []
  · subst hk
    refine if_f (by simp) ?_
    repeat' (walk_at "go")
    exact H _ _ F₃.keep B₃.ls
  · have hpos : 0 < ks.length := List.length_pos_iff.mpr hk
    refine if_t (by simp [hk]) ?_
    repeat' (walk_at "go")
    refine itr B₃.ls (k := 0) rfl hpos (by omega) ?_ (by with_unfolding_all rfl)
    repeat' (walk_at "go")
    rename_i h₅ t₅ F₅ B₅ _ _
    refine setr B₅.ls (k := 0) rfl hpos (by omega) fun h₆ hl₆ hs₆ => ?_
    have F₆ := Fr.but F₅ hs₆ hne' hpg
    repeat' (walk_at "go")
    refine ⟨KX.keeps F₆.keep, cl ?_⟩
    have kG := Keeps.hide F₆.keep hpg
    refine siftup_spec (lt := lt) (g := hideAll h₆ [hp]) (KX.keeps kG) hA.deeper hide_keeps (Nat.le_of_eq (hideAll_size _ _)) hide_none hl₆ (pos := 0) (by simpa using hpos) (by simp; omega) (LT.up kG) fun h₇ t₇ k₇ hl₇ => ?_
    have F₇ := Fr.back F₆ hne' hpg k₇
    refine rq_ret ⟨rfl, ?_⟩
    rw [if_neg hk, if_neg hk] at H
    repeat' (walk_at "go")
    exact H _ _ F₇.keep hl₇
end S4_
section S5_
open PySem PySem.W PyProof.Rows
theorem sub_ri_reversed : isSubtype (.type "range_iterator") (.type "reversed") = pure false := by rw [isSubtype_type]; kernel_rfl
section
variable {w : World} {A : Around} {E : Value → Shared → Prop} {s : Shared}
noncomputable def rIter (n : Int) : Obj := { cls := .type "range_iterator", data := .fields #[rawInt (0 + (n - 1) * 1), rawInt n, rawInt (-1)] }
theorem rangeSize_is {n : Int} (h : 0 ≤ n) : Builtin.Range.rangeSize 0 n 1 = n := by
  unfold Builtin.Range.rangeSize
  simp
  omega
theorem call_range_reversed {r : Addr} {n : Int} {t u v : Tok} {Q : Value → Shared → Prop} (hr : IsRange s.heap r 0 n 1 t u v) (h0 : 0 ≤ n) (h1 : n < 2 ^ 40)
    (h : Q (.ref s.heap.objs.size) { s with heap := s.heap.push (rIter n) }) : wpAny (model pw w) A (call (.builtin "range.__reversed__") [.ref r]) Q E s := by
  refine wpAny_call_entry PySem.F.slot_range_reversed ⟨_, hr, rfl⟩ PySem.F.entry_range_reversed ?_ (PySem.F.args_range_reversed_1 _)
  unfold Builtin.«range.__reversed__»
  refine wpAny_bind (wpAny_of_eq (a := Value.ref r) rfl ?_)
  have hf : wpAny (model pw w) A.in1 (Builtin.Range.rangeFields (Value.ref r)) (fun x s' => x = (0, n, 1) ∧ s' = s) E s := by
    unfold Builtin.Range.rangeFields
    refine wpAny_bind (wpAny_field hr rfl (x := .int 0 t) rfl ?_)
    refine wpAny_bind (wpAny_of_eq (a := some 0) rfl ?_)
    refine wpAny_bind (wpAny_field hr rfl (x := .int n u) rfl ?_)
    refine wpAny_bind (wpAny_of_eq (a := some n) rfl ?_)
    refine wpAny_bind (wpAny_field hr rfl (x := .int 1 v) rfl ?_)
    refine wpAny_bind (wpAny_of_eq (a := some 1) rfl ?_)
    exact wpAny_pure ⟨rfl, rfl⟩
  refine wpAny_bind (wpAny_mono hf (fun x s' hx => ?_) fun _ _ x => x)
  obtain ⟨rfl, rfl⟩ := hx
  have hs : (Builtin.Range.rangeFitsLong 0 && Builtin.Range.rangeFitsLong n && Builtin.Range.rangeFitsLong 1 && Builtin.Range.rangeFitsLong (-1) && Builtin.Range.rangeFitsLong (0 - 1) && Builtin.Range.rangeFitsLong n) = true := by
    unfold Builtin.Range.rangeFitsLong
    simp only [Bool.and_eq_true, decide_eq_true_eq]
    omega
  dsimp only
  rw [rangeSize_is h0, hs]
  refine wpAny_bind (wpAny_newObj_type (T := "range_iterator") ?_ (by size_fits))
  exact wpAny_pure ⟨_, rfl, h⟩
theorem code_reversed_range {r : Addr} {n : Int} {t u v : Tok} {Q₁ : Value → Shared → Prop} (hr : IsRange s.heap r 0 n 1 t u v) (h0 : 0 ≤ n) (h1 : n < 2 ^ 40)
    (h : Q₁ (.ref s.heap.objs.size) { s with heap := s.heap.push (rIter n) }) :
    codeAny (model pw w) A (.call (.builtin "reversed.__new__") ⟨[.type "reversed", .ref r], []⟩) (wants Q₁ E) s := by
  have hT : s.TypeIs (.ref r) "range" := ⟨_, hr, rfl⟩
  refine codeAny_of_tree ?_
  show wpAny _ A.in1 (do checkBuiltinCall "reversed.__new__" ⟨[.type "reversed", .ref r], []⟩; again (.builtin "reversed.__new__" ⟨[.type "reversed", .ref r], []⟩)) _ _ s
  refine wpAny_bind (wpAny_of_eq (PySem.F.newCall_reversed_1 _) (wpAny_pure ⟨plainId_quiet PySem.F.plain_reversed_new _, codeAny_builtin PySem.F.entry_reversed_new ?_⟩))
  rw [Around.under_plainId PySem.F.plain_reversed_new _]
  unfold Builtin.«reversed.__new__»
  refine wpAny_bind (wpAny_of_eq (newClass_reversed _) ?_)
  try dsimp only
  refine wpAny_bind (wpAny_of_eq (a := ()) (by first | rfl | kernel_rfl) ?_)
  refine wpAny_bind (wpAny_of_eq (a := ()) (by first | rfl | kernel_rfl) ?_)
  try dsimp only
  refine wpAny_bind (wpAny_specialOf hT PySem.F.slot_range_reversed.lookup ?_)
  try dsimp only
  refine wpAny_bind (wpAny_of_eq (PySem.F.slot_range_reversed.bind _) ?_)
  try dsimp only
  rw [if_neg (show ¬ ((Value.builtin "range.__reversed__" == Value.none) = true) from Bool.false_ne_true)]
  refine wpAny_bind (wpAny_rule ?_)
  refine wpAny_bind (m := runValue (.call (.builtin "range.__reversed__") ⟨[.ref r], []⟩)) (show wpAny _ _ (call (.builtin "range.__reversed__") [.ref r]) _ _ _ from call_range_reversed hr h0 h1 ?_)
  first
  | exact wpAny_pure h
  | exact wpAny_bind (wpAny_pure (wpAny_pure h))
theorem call_reversed_range {r : Addr} {n : Int} {t u v : Tok} {Q : Value → Shared → Prop} (hr : IsRange s.heap r 0 n 1 t u v) (h0 : 0 ≤ n) (h1 : n < 2 ^ 40)
    (h : Q (.ref s.heap.objs.size) { s with heap := s.heap.push (rIter n) }) : wpAny (model pw w) A (call (.type "reversed") [.ref r]) Q E s := by
  refine callType_other (U := "range_iterator") (Q₁ := fun obj s₁ => obj = .ref s.heap.objs.size ∧ s₁ = { s with heap := s.heap.push (rIter n) }) (by decide +kernel) PySem.F.create_reversed ⟨_, _, PySem.F.mro_reversed⟩ PySem.F.made_reversed sub_ri_reversed (PySem.F.typeCall_reversed_1 _) (code_reversed_range hr h0 h1 ⟨rfl, rfl⟩) ?_
  rintro obj s₁ ⟨rfl, rfl⟩
  exact ⟨⟨_, Heap.get?_push_size _ rfl, rfl⟩, h⟩
end
theorem Fr.fr {g h h' : Heap} {L I : Addr} {m : Str → Option Value} (F : Fr g L h m) (hL : L ≠ I) (hg : g.get? I = none) (k : ∀ b o, b ∉ [I] → h.get? b = some o → h'.get? b = some o) : Fr g L h' m := by
  refine ⟨?_, fun b o e => k b o (fun z => ?_) (F.keep b o e), F.above⟩
  · obtain ⟨o, es, ep, e, r⟩ := F.ns
    exact ⟨o, es, ep, k _ _ (by simpa using hL) e, r⟩
  · rw [List.mem_singleton] at z
    subst z
    rw [e] at hg
    cases hg
theorem LL.fr {h h' : Heap} {l I : Addr} {vs : List Value} (x : LL h l vs) (hl : l ≠ I) (k : ∀ b o, b ∉ [I] → h.get? b = some o → h'.get? b = some o) : LL h' l vs := let ⟨n, e⟩ := x; ⟨n, k _ _ (by simpa using hl) e⟩
theorem none_of_ge {h : Heap} {a : Addr} (e : h.objs.size ≤ a) : h.get? a = none := by
  cases q : h.get? a with
  | none => rfl
  | some o => exact absurd (Heap.lt_size q) (Nat.not_lt.mpr e)

theorem c_reversed {w : World} {A : Around} {E : Value → Shared → Prop} {h : Heap} {c : Shared} {t : Nat} {r : Addr} {k : Nat} {t₁ t₂ t₃ : Tok} {Q : Value → Shared → Prop} (hr : IsRange h r 0 (k : Int) 1 t₁ t₂ t₃) (h1 : k < 2 ^ 40)
    (H : ∀ h' I, Keeps h h' → h.objs.size ≤ I → IsRangeIter h' I ((k : Int) - 1 + ((0 : Nat) : Int) * (-1)) ((k : Int) - ((0 : Nat) : Int)) (-1) → Q (.ref I) (St h' c t)) : wpAny (model pw w) A (call (.type "reversed") [.ref r]) Q E (St h c t) := by
  refine call_reversed_range (s := St h c t) hr (by omega) (by omega) (H _ _ (Keeps.push _ _) (Nat.le_refl _) ?_)
  refine (Heap.get?_push_size _ rfl).trans ?_
  unfold rIter
  simp
theorem heapify_spec {w : World} {A : Around} {g h : Heap} {c : Shared} {t : Nat} {R : Result → Shared → Prop} {hp : Addr} {ks : List Addr} {lt : Addr → Addr → Bool}
    (KX : (KB w.params).In g) (hA : Room 6 A) (hg : Keeps g h) (hgs : g.objs.size ≤ h.objs.size) (hpg : g.get? hp = none) (hl : LL h hp (ks.map Value.ref))
    (hlen : ks.length < 2 ^ 20) (LT : LtOK w c g lt ks)
    (H : ∀ h' t', Keeps g h' → LL h' hp ((hfy lt (ks.length / 2) ks).map Value.ref) → R (.ok (.ret .none)) (St h' c t')) :
    codeAny (model pw w) A (.call (.ref 51) ⟨[.ref hp], []⟩) R (St h c t) := by
  have KX' : (KB w.params).In h := KX.keeps hg
  refine call_pos_ret hA.lim (KX' 51 _ (by rfl)) rfl (nolimit KX') ⟨_, _, _, _, rfl, KX' 50 _ (by rfl), rfl, rfl⟩ rfl (locs rfl) (fun h₁ F => ?_)
  have hlt := hl.lt
  replace hl := Keeps.list F.keep hl
  replace F := Fr.under F hg hgs
  clear KX'
  show wpAny _ _ _ _ _ (St h₁ c _)
  generalize hk : t + _ = t'
  clear hk
  have hne : hp ≠ h.objs.size := Nat.ne_of_lt hlt
  have hne' : h.objs.size ≠ hp := fun e => hne e.symm
  have B : Own h.objs.size h₁ hp ks := ⟨hne, hl⟩
  clear hl
  repeat' (walk_at "go")
  refine lenr B.ls (by omega) fun u₀ t₀ => ?_
  repeat' (walk_at "go")
  rename_i h₂ t₂ F₂ B₂ _ _ u₁ t₁
  have em : (ks.length : Int).fdiv 2 = ((ks.length / 2 : Nat) : Int) := by
    rw [Int.fdiv_eq_ediv_of_nonneg _ (by decide)]; omega
  rw [em]
  have hL : h.objs.size < h₂.objs.size := F₂.ns.lt
  have hhp : hp < h₂.objs.size := B₂.ls.lt
  refine c_range fun h₃ r _ _ t₃ k₃ hr hR => ?_
  repeat' (walk_at "go")
  refine c_reversed hR (by omega) fun h₄ I k₄ hI hit => ?_
  have F₄ := Fr.grow F₂ (k₃.trans k₄)
  have B₄ := B₂.grow (k₃.trans k₄)
  have hI' : h₂.objs.size ≤ I := by
    have : r < h₃.objs.size := Heap.lt_size hR
    have hI2 : h₃.objs.size ≤ I := hI
    have hr2 : h₂.objs.size ≤ r := hr
    omega
  have hLI : h.objs.size ≠ I := by omega
  have hpI : hp ≠ I := Nat.ne_of_lt (Nat.lt_of_lt_of_le hhp hI')
  have hgI : g.get? I = none := none_of_ge (by have := F₂.above; have h3 : h₂.objs.size ≤ I := hI'; omega)
  refine wpAny_pyIter_rangeiter (s := St h₄ c t₃) hit ?_
  refine floop (Walks.range hA.deeper.2.2 I ((ks.length / 2 : Nat) - 1 : Int) (-1) (ks.length / 2)) (fun i h' => ∃ m' ks', Fr g h.objs.size h' m' ∧ m' (Str.ofString "x") = some (.ref hp) ∧ Own h.objs.size h' hp ks' ∧ ks'.Perm ks ∧ hfy lt (ks.length / 2 - i) ks' = hfy lt (ks.length / 2) ks)
    ?_ hit ⟨_, ks, F₄, by walk_at "lk", B₄, List.Perm.refl _, rfl⟩ ?_ ?_ (fun _ => rfl)
  · rintro i h' h'' ⟨m', ks', F', m1, B', p', e'⟩ k
    exact ⟨m', ks', Fr.fr F' hLI hgI k, m1, ⟨B'.ne, LL.fr B'.ls hpI k⟩, p', e'⟩
  · rintro i h' t' v E' hi ⟨tv, rfl⟩ hS ⟨m', ks', F', m1, B', p', e'⟩
    refine wpAny_assign_Name ?_
    have C' : At h.objs.size h' I _ := ⟨fun e => hLI e.symm, hS⟩
    repeat' (walk_at "go")
    rename_i h₅ t₅ F₅ B₅ C₅
    refine ⟨KX.keeps F₅.keep, cl ?_⟩
    have kG := Keeps.hide F₅.keep hpg
    have ei : ((ks.length / 2 : Nat) - 1 : Int) + (i : Int) * (-1) = ((ks.length / 2 - 1 - i : Nat) : Int) := by omega
    rw [ei]
    have pl := p'.length_eq
    refine siftup_spec (lt := lt) (g := hideAll h₅ [hp]) (KX.keeps kG) hA.deeper hide_keeps (Nat.le_of_eq (hideAll_size _ _)) hide_none B₅.ls (by omega) (by omega) ((LT.sub fun k hk => p'.mem_iff.mp hk).up kG) fun h₆ t₆ k₆ hl₆ => ?_
    have F₆ := Fr.back F₅ hne' hpg k₆
    refine rq_ret ⟨rfl, ?_⟩
    repeat' (walk_at "go")
    refine fend_next ⟨h₆, t₆, rfl, ?_, _, _, F₆, by walk_at "lk", ⟨hne, hl₆⟩, (siftup_perm (by omega)).trans p', ?_⟩
    · exact k₆ _ _ (hideAll_get _ C₅.at' (by simpa using fun e => hpI e.symm))
    · rw [← e', show ks.length / 2 - i = (ks.length / 2 - 1 - i) + 1 from by omega, show ks.length / 2 - (i + 1) = ks.length / 2 - 1 - i from by omega]
      rfl
  · rintro h' t' ⟨m', ks', F', m1, B', p', e'⟩
    repeat' (walk_at "go")
    rw [Nat.sub_self] at e'
    refine H _ _ F'.keep ?_
    rw [← e']
    exact B'.ls
end S5_
section C1_
open PySem PySem.W PyProof.Rows
noncomputable def mthOf : Option Stmt → Arguments × List Stmt × Scope
  | some (Stmt.FunctionDef _ a body _ _ _ sc _ _ _) => (a, body, sc)
  | _ => (⟨[], [], none, [], [], none, []⟩, [], default)
noncomputable def mthIn (i : Nat) : Option Stmt → Option Stmt
  | some (Stmt.FunctionDef _ _ (Stmt.ClassDef _ _ _ b _ _ _ _ _ _ _ :: _) _ _ _ _ _ _ _) => b[i]?
  | _ => none
noncomputable def mth (i : Nat) : Arguments × List Stmt × Scope := mthOf (mthIn i (pw.main.body[1]?))
structure KA where
  C : Addr
  ns : Addr
  d : Addr
  fI : Addr
  fL : Addr
  fG : Addr
  fE : Addr
  fLe : Addr
  fGe : Addr
  cell : Addr
  cd : Nat → Addr
  ct : Nat → Value
  ot : Nat → Value
  dc : Nat → Value
  tk : Nat → Tok
  hs : Nat → Int
  ep : Nat
  sl : Array (Option Value)
  cx : ClassData
noncomputable def KA.nsEs (k : KA) : List DictEntry :=
  [⟨k.hs 0, .str (Str.ofString "__module__") (k.tk 0), k.ot 0⟩, ⟨k.hs 1, .str (Str.ofString "__firstlineno__") (k.tk 1), k.ot 1⟩, ⟨k.hs 2, .str (Str.ofString "__slots__") (k.tk 2), k.ot 2⟩,
   ⟨k.hs 3, .str (Str.ofString "__init__") (k.tk 3), .ref k.fI⟩, ⟨k.hs 4, .str (Str.ofString "__lt__") (k.tk 4), .ref k.fL⟩, ⟨k.hs 5, .str (Str.ofString "__gt__") (k.tk 5), .ref k.fG⟩,
   ⟨k.hs 6, .str (Str.ofString "__eq__") (k.tk 6), .ref k.fE⟩, ⟨k.hs 7, .str (Str.ofString "__le__") (k.tk 7), .ref k.fLe⟩, ⟨k.hs 8, .str (Str.ofString "__ge__") (k.tk 8), .ref k.fGe⟩,
   ⟨k.hs 9, .str (Str.ofString "__hash__") (k.tk 9), .none⟩, ⟨k.hs 10, .str (Str.ofString "__static_attributes__") (k.tk 10), k.ot 3⟩, ⟨k.hs 11, .str (Str.ofString "obj") (k.tk 11), .ref k.d⟩, ⟨k.hs 12, .str (Str.ofString "__doc__") (k.tk 12), .none⟩]
noncomputable def KA.nsO (k : KA) : Obj := { cls := .type "dict", data := .dict k.nsEs.toArray k.ep }
noncomputable def KA.clsO (k : KA) : Obj := { cls := .type "type", data := .cls { name := Str.ofString "K", bases := [.type "object"], mro := [.ref k.C, .type "object"], ns := k.ns, qualname := Str.ofString "cmp_to_key.<locals>.K", hasDict := false, slotNames := [Str.ofString "obj"] }, slots := #[some (k.ot 4), none, some (k.ot 5), some (k.ot 6), some (.builtin "object.__new__"), some (.bool false)] }
noncomputable def KA.dO (k : KA) : Obj := { cls := .type "member_descriptor", data := .fields #[.str (Str.ofString "obj") (k.tk 13), .ref k.C, .builtin "proto.slot", .builtin "proto.slot#set", .int 0 0] }
noncomputable def KA.fO (k : KA) (i : Nat) (nm : Str) (clo : List (Str × Addr)) : Obj := { cls := .type "function", data := .func { name := nm, qualname := Str.ofString "cmp_to_key.<locals>.K." ++ nm, params := (mth i).1, body := .stmts (mth i).2.1, scope := (mth i).2.2, globals := 3, closure := clo, defaults := .none, kwdefaults := .none, doc := k.dc i, pyModule := k.ot 7, code := .ref (k.cd i), closureTuple := k.ct i } }
noncomputable def KA.clo (k : KA) : List (Str × Addr) := [(Str.ofString "mycmp", k.cell)]
noncomputable def KC (k : KA) : Frag := [(k.C, k.clsO), (k.ns, k.nsO), (k.d, k.dO), (k.fI, k.fO 2 (Str.ofString "__init__") []), (k.fL, k.fO 3 (Str.ofString "__lt__") k.clo), (k.fG, k.fO 4 (Str.ofString "__gt__") k.clo), (k.fE, k.fO 5 (Str.ofString "__eq__") k.clo), (k.fLe, k.fO 6 (Str.ofString "__le__") k.clo), (k.fGe, k.fO 7 (Str.ofString "__ge__") k.clo)]
noncomputable def KA.apart (k : KA) : Prop := ((KC k).map Prod.fst).Nodup
structure ClassAt (h : Heap) (k : KA) : Prop where
  kin : (KC k).In h
  ap : k.apart
  cell : ∃ o, h.get? k.cell = some o ∧ o.data = .cell (some (.ref 79))
  code : ∀ i ∈ [(2, Str.ofString "__init__"), (3, Str.ofString "__lt__"), (4, Str.ofString "__gt__"), (5, Str.ofString "__eq__"), (6, Str.ofString "__le__"), (7, Str.ofString "__ge__")], h.CodeRec (.ref (k.cd i.1)) (Str.ofString "cmp_to_key.<locals>.K." ++ i.2)
theorem ClassAt.keeps {h h' : Heap} {k : KA} (x : ClassAt h k) (kp : Keeps h h') : ClassAt h' k :=
  ⟨x.kin.keeps kp, x.ap, let ⟨o, e, r⟩ := x.cell; ⟨o, kp _ _ e, r⟩, fun i hi => (x.code i hi).keeps kp⟩

theorem lk_mem : ∀ {K : Frag}, (K.map Prod.fst).Nodup → ∀ {p : Addr × Obj}, p ∈ K → K.lookup p.1 = some p.2
  | [], _, p, hp => by cases hp
  | q :: K, nd, p, hp => by
    rw [List.map_cons, List.nodup_cons] at nd
    rw [List.lookup_cons]
    rcases List.mem_cons.mp hp with rfl | hp
    · simp
    · have : (p.1 == q.1) = false := by
        refine beq_eq_false_iff_ne.mpr fun e => nd.1 ?_
        rw [← e]
        exact List.mem_map_of_mem hp
      rw [this]
      exact lk_mem nd.2 hp
section
variable {k : KA} (ap : k.apart)
include ap
theorem lk_C : (KC k).lookup k.C = some k.clsO := lk_mem ap (.head _)
theorem lk_ns : (KC k).lookup k.ns = some k.nsO := lk_mem ap (.tail _ (.head _))
theorem lk_d : (KC k).lookup k.d = some k.dO := lk_mem ap (.tail _ (.tail _ (.head _)))
theorem lk_fI : (KC k).lookup k.fI = some (k.fO 2 (Str.ofString "__init__") []) := lk_mem ap (.tail _ (.tail _ (.tail _ (.head _))))
theorem lk_fL : (KC k).lookup k.fL = some (k.fO 3 (Str.ofString "__lt__") k.clo) := lk_mem ap (.tail _ (.tail _ (.tail _ (.tail _ (.head _)))))
theorem lk_fG : (KC k).lookup k.fG = some (k.fO 4 (Str.ofString "__gt__") k.clo) := lk_mem ap (.tail _ (.tail _ (.tail _ (.tail _ (.tail _ (.head _))))))
theorem lk_fE : (KC k).lookup k.fE = some (k.fO 5 (Str.ofString "__eq__") k.clo) := lk_mem ap (.tail _ (.tail _ (.tail _ (.tail _ (.tail _ (.tail _ (.head _)))))))
theorem lk_fLe : (KC k).lookup k.fLe = some (k.fO 6 (Str.ofString "__le__") k.clo) := lk_mem ap (.tail _ (.tail _ (.tail _ (.tail _ (.tail _ (.tail _ (.tail _ (.head _))))))))
theorem lk_fGe : (KC k).lookup k.fGe = some (k.fO 7 (Str.ofString "__ge__") k.clo) := lk_mem ap (.tail _ (.tail _ (.tail _ (.tail _ (.tail _ (.tail _ (.tail _ (.tail _ (.head _)))))))))
theorem ns_in (name : Str) : nsIn (KC k) k.ns name = (match k.nsEs.find? (·.key.isStr name) with | some e => some (some e.val) | none => if k.nsEs.any (·.refKey) then none else some none) := by
  unfold nsIn
  rw [lk_ns ap]
  rfl
theorem fi (name : Str) : findIn (KC k) (.ref k.C) name = alongIn (KC k) name [.ref k.C, .type "object"] := by
  unfold findIn
  dsimp only
  rw [lk_C ap]
  rfl
theorem own_C (name : Str) : ownIn (KC k) name (.ref k.C) = nsIn (KC k) k.ns name := by
  unfold ownIn
  dsimp only
  rw [lk_C ap]
  rfl
theorem fi_ns {name : Str} {e : DictEntry} (he : k.nsEs.find? (·.key.isStr name) = some e) : findIn (KC k) (.ref k.C) name = some (some e.val) := by
  rw [fi ap]
  unfold alongIn
  rw [own_C ap, ns_in ap, he]
theorem fi_ob {name : Str} {r : Option Value} (he : k.nsEs.find? (·.key.isStr name) = none) (hr : fastBuiltinOwn "object" name = r) : findIn (KC k) (.ref k.C) name = some r := by
  rw [fi ap]
  unfold alongIn
  rw [own_C ap, ns_in ap, he]
  have : k.nsEs.any (·.refKey) = false := by rfl
  rw [this]
  unfold alongIn ownIn alongIn
  dsimp only
  rw [hr]
  cases r <;> rfl
theorem fi_init : findIn (KC k) (.ref k.C) "__init__" = some (some (.ref k.fI)) := fi_ns ap (e := ⟨k.hs 3, .str (Str.ofString "__init__") (k.tk 3), .ref k.fI⟩) (by kernel_rfl)
theorem fi_lt : findIn (KC k) (.ref k.C) (cmpInfo .Lt).2.1 = some (some (.ref k.fL)) := fi_ns ap (e := ⟨k.hs 4, .str (Str.ofString "__lt__") (k.tk 4), .ref k.fL⟩) (by kernel_rfl)
theorem fi_gt : findIn (KC k) (.ref k.C) (cmpInfo .Gt).2.1 = some (some (.ref k.fG)) := fi_ns ap (e := ⟨k.hs 5, .str (Str.ofString "__gt__") (k.tk 5), .ref k.fG⟩) (by kernel_rfl)
theorem fi_eq : findIn (KC k) (.ref k.C) (cmpInfo .Eq).2.1 = some (some (.ref k.fE)) := fi_ns ap (e := ⟨k.hs 6, .str (Str.ofString "__eq__") (k.tk 6), .ref k.fE⟩) (by kernel_rfl)
theorem fi_le : findIn (KC k) (.ref k.C) (cmpInfo .LtE).2.1 = some (some (.ref k.fLe)) := fi_ns ap (e := ⟨k.hs 7, .str (Str.ofString "__le__") (k.tk 7), .ref k.fLe⟩) (by kernel_rfl)
theorem fi_ge : findIn (KC k) (.ref k.C) (cmpInfo .GtE).2.1 = some (some (.ref k.fGe)) := fi_ns ap (e := ⟨k.hs 8, .str (Str.ofString "__ge__") (k.tk 8), .ref k.fGe⟩) (by kernel_rfl)
theorem fi_obj : findIn (KC k) (.ref k.C) (Str.ofString "obj") = some (some (.ref k.d)) := fi_ns ap (e := ⟨k.hs 11, .str (Str.ofString "obj") (k.tk 11), .ref k.d⟩) (by kernel_rfl)
theorem fi_ga : findIn (KC k) (.ref k.C) "__getattribute__" = some (some (.builtin "object.__getattribute__")) := fi_ob ap (by kernel_rfl) (by kernel_rfl)
theorem fi_gt' : findIn (KC k) (.ref k.C) "__getattr__" = some none := fi_ob ap (by kernel_rfl) (by kernel_rfl)
theorem fi_sa : findIn (KC k) (.ref k.C) "__setattr__" = some (some (.builtin "object.__setattr__")) := fi_ob ap (by kernel_rfl) (by kernel_rfl)
theorem pg_obj : plainGet (KC k) k.C (Str.ofString "obj") = true := by
  unfold plainGet
  rw [fi_ga ap, fi_gt' ap]
  kernel_rfl
theorem ci : clsIn (KC k) k.C = some { name := Str.ofString "K", bases := [.type "object"], mro := [.ref k.C, .type "object"], ns := k.ns, qualname := Str.ofString "cmp_to_key.<locals>.K", hasDict := false, slotNames := [Str.ofString "obj"] } := by
  unfold clsIn
  rw [lk_C ap]
  rfl
theorem isc : isClsIn (KC k) k.C = true := by unfold isClsIn; rw [ci ap]; rfl
theorem ty_d : typeIn (KC k) (.ref k.d) = some (.type "member_descriptor") := by show Option.map _ ((KC k).lookup k.d) = _; rw [lk_d ap]; rfl
theorem sp_get : specialIn (KC k) (.ref k.d) "__get__" = some (some (.builtin "member_descriptor.__get__")) := by
  unfold specialIn
  rw [ty_d ap]
  kernel_rfl
theorem tk_d : takesIn (KC k) (.ref k.d) = some true := by
  unfold takesIn specialIn
  rw [ty_d ap]
  kernel_rfl
theorem sl_d : slotIn (KC k) k.d k.C = some 0 := by
  unfold slotIn recIn
  rw [lk_d ap, ci ap]
  show (if (_ && _ && _ && [Value.ref k.C, .type "object"].contains (.ref k.C) && _) = true then _ else _) = _
  rw [show [Value.ref k.C, .type "object"].contains (.ref k.C) = true from by simp]
  rfl
theorem fn_of {f : Addr} {i : Nat} {nm : Str} {cl : List (Str × Addr)} (e : (KC k).lookup f = some (k.fO i nm cl)) : isFn (KC k) (.ref f) = true := by
  show (Option.map _ ((KC k).lookup f) == _) = true
  rw [e]
  kernel_rfl
omit ap in theorem nf : notFirst (KC k) k.C (.ref k.C) = true := by unfold notFirst; simp
end
end C1_
section C2_
open PySem PySem.W PyProof.Rows
noncomputable def KI (h : Heap) (k : KA) (x l : Addr) : Prop := ∃ dx, h.get? x = some ⟨.ref k.C, some dx, .plain, #[some (.ref l)]⟩ ∧ h.get? dx = some emptyDict
theorem KI.keeps {h h' : Heap} {k : KA} {x l : Addr} (i : KI h k x l) (kp : Keeps h h') : KI h' k x l := let ⟨dx, a, b⟩ := i; ⟨dx, kp _ _ a, kp _ _ b⟩
theorem KI.inst {h : Heap} {k : KA} {x l : Addr} (i : KI h k x l) : ∃ dx, InstAt h x ⟨.ref k.C, some dx, .plain, #[some (.ref l)]⟩ k.C (some emptyDict) := let ⟨dx, a, b⟩ := i; ⟨dx, ⟨a, rfl, rfl, b⟩⟩
section
variable {w : World} {A : Around} {E : Value → Shared → Prop} {h : Heap} {c : Shared} {t : Nat} {env : Env} {g : Heap} {L : Addr} {m : Str → Option Value} {k : KA}
theorem at_obj {nm : Str} {p pos : Pos} {x l : Addr} {Q : Value → Shared → Prop} (CA : ClassAt g k) (F : Fr g env.locals h m) (I : KI h k x l)
    (hv : m nm = some (.ref x)) (H : ∀ t', Q (.ref l) (St h c t')) 
    (hk : env.scope.kind = .function) (hl : env.kindOf nm = some .local) (hd : (nm == ("__debug__" : Str)) = false) : wpAny (model pw w) A (eval (.Attribute (.Name nm p) (Str.ofString "obj") pos) env) Q E (St h c t) := by
  rw [arm_eval_Attribute]
  obtain ⟨dx, J⟩ := I.inst
  refine wpAny_bind ?_
  show wpAny _ _ (eval (.Name nm p) env) _ _ _
  refine lv F hv (wpAny_bind (wpAny_standAt (wpAny_bind (wpAny_holding ?_)))) hk hl hd
  exact get_slot (s := St h c t) F CA.kin J (pg_obj CA.ap) (isc CA.ap) (fi_obj CA.ap) (sp_get CA.ap) (tk_d CA.ap) (sl_d CA.ap) rfl rfl (wpAny_bind (wpAny_letTemporaryGo (wpAny_pure (H _))))
theorem fv {x : Str} {pos : Pos} {v : Value} {cl : Addr} {Q : Value → Shared → Prop} (hc : env.cells.lookup x = some cl) (hv : h.IsCell cl (some v)) (H : Q v (St h c t))
    (hk : env.scope.kind = .function) (hl : env.kindOf x = some .free) (hd : (x == ("__debug__" : Str)) = false) (hn : (x == ("__classdict__" : Str)) = false) :
    wpAny (model pw w) A (eval (.Name x pos) env) Q E (St h c t) := wpAny_Name (wpAny_loadName_free hk hl hc hv H hn) hd
theorem cfn {R : Result → Shared → Prop} {a : Addr} {o : Obj} {fd : FuncData} {body : List Stmt} {args : List Value} {binds : List (Str × Value)}
    (hA : Room 1 A) (ho : h.get? a = some o) (hdata : o.data = .func fd) (hlim : h.NoLimit) (hcd : h.CodeRec fd.code fd.qualname) (hbody : fd.body = .stmts body) (hbind : bindArgs fd ⟨args, []⟩ = pure binds)
    (hcell : ∀ x ∈ fd.scope.names, x.2 ≠ .cell) (hloc : ∀ x ∈ binds, fd.scope.names.lookup x.1 = some .local)
    (hco : fd.scope.isCoroutine = false) (hgen : fd.scope.isGenerator = false) (hk : fd.scope.kind = .function)
    (H : ∀ h₁ t', Fr h h.objs.size h₁ (fun x => binds.reverse.lookup x) → wpAny (model pw w) (A.deeper (callEnv fd h.objs.size a)) (execs body (callEnv fd h.objs.size a))
      (fun f s' => R (.ok (.ret (match f with | .ret v => v | _ => .none))) s') (fun _ _ => False) (St h₁ c t')) :
    codeAny (model pw w) A (.call (.ref a) ⟨args, []⟩) R (St h c t) :=
  codeAny_call_def (s := St h c t) hA.lim ho hdata hlim hcd hbody (.of_eq hbind) hcell hloc (fun h₁ ns kp => wpAny_mono (H h₁ _ ⟨ns, kp, Nat.le_refl _⟩) (fun _ _ x => x) fun _ _ x => x.elim) hco hgen hk
end
theorem no_cell {ns : List (Str × NameKind)} (h : (ns.all fun x => x.2 != .cell) = true) : ∀ x ∈ ns, x.2 ≠ .cell := fun x hx e => by
  have := List.all_eq_true.mp h x hx
  rw [e] at this
  revert this
  decide


local macro_rules | `(tactic| walk_at "mt") => `(tactic| first
  | ((with_reducible refine' at_obj ?CA ?F ?I ?hv (fun _ => ?_) ?hk ?hl ?hd); (case CA | F => assumption); (case hv => with_unfolding_all rfl); (case I => assumption); (case hk | hl | hd => kernel_rfl!))
  | ((with_reducible refine' fv ?hc ?hv ?_ ?hk ?hl ?hd ?hn); (case hc => with_unfolding_all rfl); (case hv => assumption); (case hk | hl | hd | hn => kernel_rfl!))
  | walk_at "go")
structure Two (h : Heap) (k : KA) (x y : Addr) (v1 r1 v2 r2 : Int) : Prop where
  d : ∃ lx ly i1 i2 t1 t2 u1 u2 l1 l2 m1 m2, KI h k x lx ∧ KI h k y ly ∧ LL h lx (.int r1 t1 :: .ref i1 :: l1) ∧ LL h i1 (.int v1 u1 :: m1) ∧ LL h ly (.int r2 t2 :: .ref i2 :: l2) ∧ LL h i2 (.int v2 u2 :: m2)

theorem lt_spec {w : World} {A : Around} {h : Heap} {c : Shared} {t : Nat} {R : Result → Shared → Prop} {k : KA} {x y : Addr} {v1 r1 v2 r2 : Int}
    (KX : (KB w.params).In h) (CA : ClassAt h k) (hA : Room 2 A) (T : Two h k x y v1 r1 v2 r2)
    (H : ∀ h' t', Keeps h h' → R (.ok (.ret (.bool (decide (cmpVal v1 r1 v2 r2 < 0))))) (St h' c t')) :
    codeAny (model pw w) A (.call (.ref k.fL) ⟨[.ref x, .ref y], []⟩) R (St h c t) := by
  refine cfn (binds := [(Str.ofString "self", .ref x), (Str.ofString "other", .ref y)]) (hA.le (by decide)) (CA.kin _ _ (lk_fL CA.ap)) rfl (nolimit KX) (CA.code (3, Str.ofString "__lt__") (.tail _ (.head _))) rfl (by kernel_rfl) (no_cell (by kernel_rfl)) (locs (by kernel_rfl)) (by kernel_rfl) (by kernel_rfl) (by kernel_rfl) (fun h₁ t' F => ?_)
  obtain ⟨lx, ly, i1, i2, t1, t2, u1, u2, l1, l2, m1, m2, I1, I2, a1, a2, a3, a4⟩ := T
  replace I1 := I1.keeps F.keep
  replace I2 := I2.keeps F.keep
  have ce : h₁.IsCell k.cell (some (.ref 79)) := Heap.IsCell.keeps CA.cell F.keep
  have KX1 := KX.keeps F.keep
  refine ex_cons ?_
  repeat' (walk_at "mt")
  refine ⟨KX1, cl (compare_spec KX1 (Room.deeper hA) (Keeps.list F.keep a1) (Keeps.list F.keep a2) (Keeps.list F.keep a3) (Keeps.list F.keep a4) (fun h' t' u kp => rq_ret ?_))⟩
  repeat' (walk_at "mt")
  exact H _ _ (Keeps.trans F.keep kp)
theorem gt_spec {w : World} {A : Around} {h : Heap} {c : Shared} {t : Nat} {R : Result → Shared → Prop} {k : KA} {x y : Addr} {v1 r1 v2 r2 : Int}
    (KX : (KB w.params).In h) (CA : ClassAt h k) (hA : Room 2 A) (T : Two h k x y v1 r1 v2 r2)
    (H : ∀ h' t', Keeps h h' → R (.ok (.ret (.bool (decide (cmpVal v1 r1 v2 r2 > 0))))) (St h' c t')) :
    codeAny (model pw w) A (.call (.ref k.fG) ⟨[.ref x, .ref y], []⟩) R (St h c t) := by
  refine cfn (binds := [(Str.ofString "self", .ref x), (Str.ofString "other", .ref y)]) (hA.le (by decide)) (CA.kin _ _ (lk_fG CA.ap)) rfl (nolimit KX) (CA.code (4, Str.ofString "__gt__") (.tail _ (.tail _ (.head _)))) rfl (by kernel_rfl) (no_cell (by kernel_rfl)) (locs (by kernel_rfl)) (by kernel_rfl) (by kernel_rfl) (by kernel_rfl) (fun h₁ t' F => ?_)
  obtain ⟨lx, ly, i1, i2, t1, t2, u1, u2, l1, l2, m1, m2, I1, I2, a1, a2, a3, a4⟩ := T
  replace I1 := I1.keeps F.keep
  replace I2 := I2.keeps F.keep
  have ce : h₁.IsCell k.cell (some (.ref 79)) := Heap.IsCell.keeps CA.cell F.keep
  have KX1 := KX.keeps F.keep
  refine ex_cons ?_
  repeat' (walk_at "mt")
  refine ⟨KX1, cl (compare_spec KX1 (Room.deeper hA) (Keeps.list F.keep a1) (Keeps.list F.keep a2) (Keeps.list F.keep a3) (Keeps.list F.keep a4) (fun h' t' u kp => rq_ret ?_))⟩
  repeat' (walk_at "mt")
  exact H _ _ (Keeps.trans F.keep kp)
theorem eq_spec {w : World} {A : Around} {h : Heap} {c : Shared} {t : Nat} {R : Result → Shared → Prop} {k : KA} {x y : Addr} {v1 r1 v2 r2 : Int}
    (KX : (KB w.params).In h) (CA : ClassAt h k) (hA : Room 2 A) (T : Two h k x y v1 r1 v2 r2)
    (H : ∀ h' t', Keeps h h' → R (.ok (.ret (.bool (cmpVal v1 r1 v2 r2 == 0)))) (St h' c t')) :
    codeAny (model pw w) A (.call (.ref k.fE) ⟨[.ref x, .ref y], []⟩) R (St h c t) := by
  refine cfn (binds := [(Str.ofString "self", .ref x), (Str.ofString "other", .ref y)]) (hA.le (by decide)) (CA.kin _ _ (lk_fE CA.ap)) rfl (nolimit KX) (CA.code (5, Str.ofString "__eq__") (.tail _ (.tail _ (.tail _ (.head _))))) rfl (by kernel_rfl) (no_cell (by kernel_rfl)) (locs (by kernel_rfl)) (by kernel_rfl) (by kernel_rfl) (by kernel_rfl) (fun h₁ t' F => ?_)
  obtain ⟨lx, ly, i1, i2, t1, t2, u1, u2, l1, l2, m1, m2, I1, I2, a1, a2, a3, a4⟩ := T
  replace I1 := I1.keeps F.keep
  replace I2 := I2.keeps F.keep
  have ce : h₁.IsCell k.cell (some (.ref 79)) := Heap.IsCell.keeps CA.cell F.keep
  have KX1 := KX.keeps F.keep
  refine ex_cons ?_
  repeat' (walk_at "mt")
  refine ⟨KX1, cl (compare_spec KX1 (Room.deeper hA) (Keeps.list F.keep a1) (Keeps.list F.keep a2) (Keeps.list F.keep a3) (Keeps.list F.keep a4) (fun h' t' u kp => rq_ret ?_))⟩
  repeat' (walk_at "mt")
  exact H _ _ (Keeps.trans F.keep kp)
theorem le_spec {w : World} {A : Around} {h : Heap} {c : Shared} {t : Nat} {R : Result → Shared → Prop} {k : KA} {x y : Addr} {v1 r1 v2 r2 : Int}
    (KX : (KB w.params).In h) (CA : ClassAt h k) (hA : Room 2 A) (T : Two h k x y v1 r1 v2 r2)
    (H : ∀ h' t', Keeps h h' → R (.ok (.ret (.bool (decide (cmpVal v1 r1 v2 r2 ≤ 0))))) (St h' c t')) :
    codeAny (model pw w) A (.call (.ref k.fLe) ⟨[.ref x, .ref y], []⟩) R (St h c t) := by
  refine cfn (binds := [(Str.ofString "self", .ref x), (Str.ofString "other", .ref y)]) (hA.le (by decide)) (CA.kin _ _ (lk_fLe CA.ap)) rfl (nolimit KX) (CA.code (6, Str.ofString "__le__") (.tail _ (.tail _ (.tail _ (.tail _ (.head _)))))) rfl (by kernel_rfl) (no_cell (by kernel_rfl)) (locs (by kernel_rfl)) (by kernel_rfl) (by kernel_rfl) (by kernel_rfl) (fun h₁ t' F => ?_)
  obtain ⟨lx, ly, i1, i2, t1, t2, u1, u2, l1, l2, m1, m2, I1, I2, a1, a2, a3, a4⟩ := T
  replace I1 := I1.keeps F.keep
  replace I2 := I2.keeps F.keep
  have ce : h₁.IsCell k.cell (some (.ref 79)) := Heap.IsCell.keeps CA.cell F.keep
  have KX1 := KX.keeps F.keep
  refine ex_cons ?_
  repeat' (walk_at "mt")
  refine ⟨KX1, cl (compare_spec KX1 (Room.deeper hA) (Keeps.list F.keep a1) (Keeps.list F.keep a2) (Keeps.list F.keep a3) (Keeps.list F.keep a4) (fun h' t' u kp => rq_ret ?_))⟩
  repeat' (walk_at "mt")
  exact H _ _ (Keeps.trans F.keep kp)
theorem ge_spec {w : World} {A : Around} {h : Heap} {c : Shared} {t : Nat} {R : Result → Shared → Prop} {k : KA} {x y : Addr} {v1 r1 v2 r2 : Int}
    (KX : (KB w.params).In h) (CA : ClassAt h k) (hA : Room 2 A) (T : Two h k x y v1 r1 v2 r2)
    (H : ∀ h' t', Keeps h h' → R (.ok (.ret (.bool (decide (cmpVal v1 r1 v2 r2 ≥ 0))))) (St h' c t')) :
    codeAny (model pw w) A (.call (.ref k.fGe) ⟨[.ref x, .ref y], []⟩) R (St h c t) := by
  refine cfn (binds := [(Str.ofString "self", .ref x), (Str.ofString "other", .ref y)]) (hA.le (by decide)) (CA.kin _ _ (lk_fGe CA.ap)) rfl (nolimit KX) (CA.code (7, Str.ofString "__ge__") (.tail _ (.tail _ (.tail _ (.tail _ (.tail _ (.head _))))))) rfl (by kernel_rfl) (no_cell (by kernel_rfl)) (locs (by kernel_rfl)) (by kernel_rfl) (by kernel_rfl) (by kernel_rfl) (fun h₁ t' F => ?_)
  obtain ⟨lx, ly, i1, i2, t1, t2, u1, u2, l1, l2, m1, m2, I1, I2, a1, a2, a3, a4⟩ := T
  replace I1 := I1.keeps F.keep
  replace I2 := I2.keeps F.keep
  have ce : h₁.IsCell k.cell (some (.ref 79)) := Heap.IsCell.keeps CA.cell F.keep
  have KX1 := KX.keeps F.keep
  refine ex_cons ?_
  repeat' (walk_at "mt")
  refine ⟨KX1, cl (compare_spec KX1 (Room.deeper hA) (Keeps.list F.keep a1) (Keeps.list F.keep a2) (Keeps.list F.keep a3) (Keeps.list F.keep a4) (fun h' t' u kp => rq_ret ?_))⟩
  repeat' (walk_at "mt")
  exact H _ _ (Keeps.trans F.keep kp)
end C2_
section C3_
open PySem PySem.W PyProof.Rows
section
variable {w : World} {A : Around} {E : Value → Shared → Prop} {h : Heap} {c : Shared} {t : Nat} {k : KA} {x y : Addr} {v1 r1 v2 r2 : Int} {Q : Value → Shared → Prop}
theorem rc {op : CmpOp} {f : Addr} {lx ly : Addr} (hA : Room 0 A) (X : (KC k).In h) (I1 : KI h k x lx) (I2 : KI h k y ly) (hs : findIn (KC k) (.ref k.C) (cmpInfo op).2.1 = some (some (.ref f))) (hf : isFn (KC k) (.ref f) = true)
    (H : wpAny (model pw w) A (call (.ref f) [.ref x, .ref y]) (fun v s' => ∃ b, v = .bool b ∧ Q (.bool b) s') E (St h c t)) : wpAny (model pw w) A (richCompare op (.ref x) (.ref y)) Q E (St h c t) := by
  obtain ⟨_, J1⟩ := I1.inst
  obtain ⟨_, J2⟩ := I2.inst
  have j1 : Looks (model pw w) (St h c t).heap (typeOf (.ref x)) (.ref k.C) := J1.type
  have j2 : Looks (model pw w) (St h c t).heap (typeOf (.ref y)) (.ref k.C) := J2.type
  have one : wpAny (model pw w) A (tryCompare (.ref x) (cmpInfo op).2.1 (.ref y)) (fun r s' => ∃ v, r = some v ∧ Q v s') E (St h c t) := by
    unfold tryCompare
    refine wpAny_bind (ifBound_K (s := St h c t) X J1 hs hf (wpAny_mono H (fun v s' hv => ?_) fun _ _ e => e))
    obtain ⟨b, rfl, q⟩ := hv
    exact wpAny_pure ⟨_, rfl, q⟩
  have hu : A.units < cLine := by have := hA.2.1; show A.units < 9900; omega
  have hne : (Value.ref k.C != Value.ref k.C) = false := by simp
  unfold richCompare
  simp only [oneThing_ref]
  refine wpAny_holding (wpAny_bind (wpAny_cRoomFor hu ?_))
  refine wpAny_bind (j1.here (wpAny_bind (j2.here ?_)))
  simp only [hne, Bool.false_eq_true, if_false]
  refine wpAny_bind (wpAny_pure ?_)
  simp only [Bool.false_eq_true, if_false]
  refine wpAny_bind (wpAny_mono one (fun r s' z => ?_) fun _ _ e => e)
  obtain ⟨v, rfl, hq⟩ := z
  exact wpAny_pure hq
theorem c_lt (KX : (KB w.params).In h) (CA : ClassAt h k) (hA : Room 2 A) (T : Two h k x y v1 r1 v2 r2)
    (H : ∀ h' t', Keeps h h' → Q (.bool (decide (cmpVal v1 r1 v2 r2 < 0))) (St h' c t')) : wpAny (model pw w) A (compareOp .Lt (.ref x) (.ref y)) Q E (St h c t) := by
  obtain ⟨lx, ly, i1, i2, t1, t2, u1, u2, l1, l2, m1, m2, I1, I2, a1, a2, a3, a4⟩ := id T
  show wpAny (model pw w) A (richCompare .Lt (.ref x) (.ref y)) Q E (St h c t)
  exact rc (f := k.fL) (hA.le (by decide)) CA.kin I1 I2 (fi_lt CA.ap) (fn_of CA.ap (lk_fL CA.ap)) (cl (lt_spec KX CA hA T fun h' t' kp => rq_ret ⟨_, rfl, H h' t' kp⟩))
theorem c_gt (KX : (KB w.params).In h) (CA : ClassAt h k) (hA : Room 2 A) (T : Two h k x y v1 r1 v2 r2)
    (H : ∀ h' t', Keeps h h' → Q (.bool (decide (cmpVal v1 r1 v2 r2 > 0))) (St h' c t')) : wpAny (model pw w) A (compareOp .Gt (.ref x) (.ref y)) Q E (St h c t) := by
  obtain ⟨lx, ly, i1, i2, t1, t2, u1, u2, l1, l2, m1, m2, I1, I2, a1, a2, a3, a4⟩ := id T
  show wpAny (model pw w) A (richCompare .Gt (.ref x) (.ref y)) Q E (St h c t)
  exact rc (f := k.fG) (hA.le (by decide)) CA.kin I1 I2 (fi_gt CA.ap) (fn_of CA.ap (lk_fG CA.ap)) (cl (gt_spec KX CA hA T fun h' t' kp => rq_ret ⟨_, rfl, H h' t' kp⟩))
theorem c_eq (KX : (KB w.params).In h) (CA : ClassAt h k) (hA : Room 2 A) (T : Two h k x y v1 r1 v2 r2)
    (H : ∀ h' t', Keeps h h' → Q (.bool (cmpVal v1 r1 v2 r2 == 0)) (St h' c t')) : wpAny (model pw w) A (compareOp .Eq (.ref x) (.ref y)) Q E (St h c t) := by
  obtain ⟨lx, ly, i1, i2, t1, t2, u1, u2, l1, l2, m1, m2, I1, I2, a1, a2, a3, a4⟩ := id T
  show wpAny (model pw w) A (richCompare .Eq (.ref x) (.ref y)) Q E (St h c t)
  exact rc (f := k.fE) (hA.le (by decide)) CA.kin I1 I2 (fi_eq CA.ap) (fn_of CA.ap (lk_fE CA.ap)) (cl (eq_spec KX CA hA T fun h' t' kp => rq_ret ⟨_, rfl, H h' t' kp⟩))
theorem c_le (KX : (KB w.params).In h) (CA : ClassAt h k) (hA : Room 2 A) (T : Two h k x y v1 r1 v2 r2)
    (H : ∀ h' t', Keeps h h' → Q (.bool (decide (cmpVal v1 r1 v2 r2 ≤ 0))) (St h' c t')) : wpAny (model pw w) A (compareOp .LtE (.ref x) (.ref y)) Q E (St h c t) := by
  obtain ⟨lx, ly, i1, i2, t1, t2, u1, u2, l1, l2, m1, m2, I1, I2, a1, a2, a3, a4⟩ := id T
  show wpAny (model pw w) A (richCompare .LtE (.ref x) (.ref y)) Q E (St h c t)
  exact rc (f := k.fLe) (hA.le (by decide)) CA.kin I1 I2 (fi_le CA.ap) (fn_of CA.ap (lk_fLe CA.ap)) (cl (le_spec KX CA hA T fun h' t' kp => rq_ret ⟨_, rfl, H h' t' kp⟩))
theorem c_ge (KX : (KB w.params).In h) (CA : ClassAt h k) (hA : Room 2 A) (T : Two h k x y v1 r1 v2 r2)
    (H : ∀ h' t', Keeps h h' → Q (.bool (decide (cmpVal v1 r1 v2 r2 ≥ 0))) (St h' c t')) : wpAny (model pw w) A (compareOp .GtE (.ref x) (.ref y)) Q E (St h c t) := by
  obtain ⟨lx, ly, i1, i2, t1, t2, u1, u2, l1, l2, m1, m2, I1, I2, a1, a2, a3, a4⟩ := id T
  show wpAny (model pw w) A (richCompare .GtE (.ref x) (.ref y)) Q E (St h c t)
  exact rc (f := k.fGe) (hA.le (by decide)) CA.kin I1 I2 (fi_ge CA.ap) (fn_of CA.ap (lk_fGe CA.ap)) (cl (ge_spec KX CA hA T fun h' t' kp => rq_ret ⟨_, rfl, H h' t' kp⟩))

theorem ns_ns (CA : ClassAt h k) : h.Ns k.ns (fun n => nsFind k.nsEs.toArray n) := ⟨_, _, _, CA.kin _ _ (lk_ns CA.ap), rfl, fun e he => by
  simp only [KA.nsEs, List.mem_toArray, List.mem_cons, List.not_mem_nil, or_false] at he
  rcases he with rfl | rfl | rfl | rfl | rfl | rfl | rfl | rfl | rfl | rfl | rfl | rfl | rfl <;> exact ⟨_, _, rfl⟩, fun _ => rfl⟩
theorem Room.in1 {n : Nat} (r : Room (n + 1) A) : Room n A.in1 := by
  obtain ⟨a, b, d⟩ := r
  exact ⟨by show A.depth + n < 900; omega, by show A.units + 1 + 40 * n < 9000; omega, d⟩
theorem c_ne (KX : (KB w.params).In h) (CA : ClassAt h k) (hA : Room 3 A) (T : Two h k x y v1 r1 v2 r2)
    (H : ∀ h' t', Keeps h h' → Q (.bool (!(cmpVal v1 r1 v2 r2 == 0))) (St h' c t')) : wpAny (model pw w) A (compareOp .NotEq (.ref x) (.ref y)) Q E (St h c t) := by
  obtain ⟨lx, ly, i1, i2, t1, t2, u1, u2, l1, l2, m1, m2, I1, I2, a1, a2, a3, a4⟩ := id T
  obtain ⟨dx, p1, p2⟩ := I1
  obtain ⟨dy, q1, q2⟩ := I2
  refine compareOp_ne_ownEq (bm := [.type "object"]) (f := k.fE) F.cmp_object ⟨_, _, _, _, _, _, _, _, _, _, _, _, _, _, _, _, _, _, _, _, p1, rfl, CA.kin _ _ (lk_C CA.ap), ns_ns CA, ?_, CA.kin _ _ (lk_fE CA.ap), rfl, by kernel_rfl, F.cmp_object.eq.lookup, ?_⟩ q1 rfl (by have := hA.2.1; show A.units + 1 < 9900; omega) (cl (eq_spec KX CA hA.in1 T fun h' t' kp => rq_ret ⟨_, rfl, H h' t' kp⟩))
  · kernel_rfl
  · kernel_rfl
end
end C3_
section C4_
open PySem PySem.W PyProof.Rows
theorem mk_in {k : KA} (ap : k.apart) : makesIn (KC k) k.C = true := by
  have s1 : specialIn (KC k) (.ref k.C) "__call__" = some (some (.builtin "type.__call__")) := by
    unfold specialIn
    rw [show typeIn (KC k) (.ref k.C) = some (.type "type") from by show Option.map _ ((KC k).lookup k.C) = _; rw [lk_C ap]; rfl]
    kernel_rfl
  have s2 : instIn (KC k) (.ref k.C) (.type "type") = some true := by
    unfold instIn
    rw [show typeIn (KC k) (.ref k.C) = some (.type "type") from by show Option.map _ ((KC k).lookup k.C) = _; rw [lk_C ap]; rfl]
    kernel_rfl
  unfold makesIn
  rw [lk_C ap, s1, s2]
  show (_ && _ && _ && _ && [Value.ref k.C, .type "object"].contains (.ref k.C) && [Value.ref k.C, .type "object"].contains (.type "object") && _ && _) = true
  rw [show [Value.ref k.C, .type "object"].contains (.ref k.C) = true from by simp, show [Value.ref k.C, .type "object"].contains (.type "object") = true from by simp]
  kernel_rfl
theorem po {k : KA} (ap : k.apart) : plainOver (KC k) k.C = true := by
  unfold plainOver
  rw [ci ap]
  kernel_rfl
theorem tki {k : KA} (ap : k.apart) : takerIn (KC k) k.C (Str.ofString "obj") = some (some (.ref k.d)) := by
  unfold takerIn
  rw [fi_obj ap]
  show Option.map _ (takesIn (KC k) (.ref k.d)) = _
  rw [tk_d ap]
  rfl
local macro_rules | `(tactic| walk_at "in") => `(tactic| first | ((with_reducible refine' plainObj_wpAny_Assign_Attribute ?_ ?hs); (case hs => kernel_rfl!)) | walk_at "go")
theorem made_spec {w : World} {A : Around} {h : Heap} {c : Shared} {t : Nat} {R : Result → Shared → Prop} {k : KA} {l : Addr}
    (KX : (KB w.params).In h) (CA : ClassAt h k) (hA : Room 2 A)
    (H : ∀ h' t' x, Keeps h h' → KI h' k x l → h.objs.size ≤ x → h.objs.size < h'.objs.size → R (.ok (.ret (.ref x))) (St h' c t')) :
    codeAny (model pw w) A (.call (.ref k.C) ⟨[.ref l], []⟩) R (St h c t) := by
  refine make_core (makes_of CA.kin (mk_in CA.ap)) (looks_findIn CA.kin (fi_init CA.ap)) (fun self => bind_fn CA.kin self (beq_iff_eq.mp (fn_of CA.ap (lk_fI CA.ap)))) (.inl rfl) ?_
  have k0 : Keeps h ((h.push emptyDict).push (instObj k.C h.objs.size)) := (Keeps.push _ _).trans (Keeps.push _ _)
  have e1 : ((h.push emptyDict).push (instObj k.C h.objs.size)).get? (h.objs.size + 1) = some (instObj k.C h.objs.size) := by heap_get
  have e2 : ((h.push emptyDict).push (instObj k.C h.objs.size)).get? h.objs.size = some emptyDict := by heap_get
  have z : ((h.push emptyDict).push (instObj k.C h.objs.size)).objs.size = h.objs.size + 2 := by simp [Heap.size_push]
  generalize ((h.push emptyDict).push (instObj k.C h.objs.size)) = h' at *
  have CA' := CA.keeps k0
  refine cfn (c := c) (binds := [(Str.ofString "self", .ref (h.objs.size + 1)), (Str.ofString "obj", .ref l)]) ?_ (CA'.kin _ _ (lk_fI CA.ap)) rfl (nolimit (KX.keeps k0)) (CA'.code (2, Str.ofString "__init__") (.head _)) rfl (by kernel_rfl) (no_cell (by kernel_rfl)) (locs (by kernel_rfl)) (by kernel_rfl) (by kernel_rfl) (by kernel_rfl) (fun h₁ t' F => ?_)
  · obtain ⟨a, b, d⟩ := hA
    have e : Code.cUnits (.builtin "type.__call__" ⟨[.ref k.C, .ref l], []⟩) ≤ 4 := by show 1 + 3 * Code.frames _ ≤ 4; rw [show Code.frames (.builtin "type.__call__" ⟨[.ref k.C, .ref l], []⟩) = 0 from by kernel_rfl]; decide
    exact ⟨by show A.depth + 1 + 1 < 900; omega, by show A.units + Code.cUnits _ + 40 * 1 < 9000; omega, d⟩
  have F0 : Fr h h'.objs.size h₁ _ := Fr.under F k0 (by omega)
  have N : News h h'.objs.size h₁ [(h.objs.size + 1, instObj k.C h.objs.size), (h.objs.size, emptyDict)] := by
    intro p hp
    rcases List.mem_cons.mp hp with rfl | hp
    · exact ⟨F.keep _ _ e1, by show h.objs.size + 1 ≠ _; omega, none_of_ge (by omega)⟩
    · rcases List.mem_cons.mp hp with rfl | hp
      · exact ⟨F.keep _ _ e2, by show h.objs.size ≠ _; omega, none_of_ge (by omega)⟩
      · cases hp
  refine ex_cons ?_
  repeat' (walk_at "in")
  refine set_slot (od := emptyDict) (ox := instObj k.C h.objs.size) (s := St h₁ c _) F0 CA.kin N ⟨F.keep _ _ e1, rfl, rfl, F.keep _ _ e2⟩ (fi_sa CA.ap) (po CA.ap) (tki CA.ap) (ty_d CA.ap) (sl_d CA.ap) (by decide) rfl rfl (.head (fun p hp => ?_)) (fun h₂ F2 N2 => ?_)
  · rcases List.mem_cons.mp hp with rfl | hp
    · show h.objs.size ≠ _; omega
    · cases hp
  repeat' (walk_at "in")
  refine ⟨rfl, H _ _ _ F2.keep ⟨_, (N2 _ (.head _)).1, (N2 _ (.tail _ (.head _))).1⟩ (Nat.le_succ _) ?_⟩
  exact Nat.lt_of_succ_lt (Heap.lt_size (N2 _ (.head _)).1)
end C4_
section U1_
open PySem PySem.W PyProof.Rows
theorem Two.keeps {h h' : Heap} {k : KA} {x y : Addr} {v1 r1 v2 r2 : Int} (T : Two h k x y v1 r1 v2 r2) (kp : Keeps h h') : Two h' k x y v1 r1 v2 r2 := by
  obtain ⟨lx, ly, i1, i2, t1, t2, u1, u2, l1, l2, m1, m2, I1, I2, a1, a2, a3, a4⟩ := T
  exact ⟨lx, ly, i1, i2, t1, t2, u1, u2, l1, l2, m1, m2, I1.keeps kp, I2.keeps kp, kp.list a1, kp.list a2, kp.list a3, kp.list a4⟩
noncomputable def sg (z : Int) : List Value := [.bool (decide (z < 0)), .bool (decide (z ≤ 0)), .bool (z == 0), .bool (!(z == 0)), .bool (decide (z ≥ 0)), .bool (decide (z > 0))]
section
variable {w : World} {A : Around} {E : Value → Shared → Prop} {h g : Heap} {c : Shared} {t : Nat} {k : KA} {x y L : Addr} {m : Str → Option Value} {v1 r1 v2 r2 : Int} {Q : Value → Shared → Prop}
theorem s_lt (KX : (KB w.params).In g) (CA : ClassAt g k) (T : Two g k x y v1 r1 v2 r2) (F : Fr g L h m) (hA : Room 3 A) (H : ∀ h' t', Fr g L h' m → Q (.bool (decide (cmpVal v1 r1 v2 r2 < 0))) (St h' c t')) :
    wpAny (model pw w) A (compareOp .Lt (.ref x) (.ref y)) Q E (St h c t) := c_lt (KX.keeps F.keep) (CA.keeps F.keep) (hA.le (by decide)) (T.keeps F.keep) fun h' t' kp => H h' t' (Fr.grow F kp)
theorem s_le (KX : (KB w.params).In g) (CA : ClassAt g k) (T : Two g k x y v1 r1 v2 r2) (F : Fr g L h m) (hA : Room 3 A) (H : ∀ h' t', Fr g L h' m → Q (.bool (decide (cmpVal v1 r1 v2 r2 ≤ 0))) (St h' c t')) :
    wpAny (model pw w) A (compareOp .LtE (.ref x) (.ref y)) Q E (St h c t) := c_le (KX.keeps F.keep) (CA.keeps F.keep) (hA.le (by decide)) (T.keeps F.keep) fun h' t' kp => H h' t' (Fr.grow F kp)
theorem s_eq (KX : (KB w.params).In g) (CA : ClassAt g k) (T : Two g k x y v1 r1 v2 r2) (F : Fr g L h m) (hA : Room 3 A) (H : ∀ h' t', Fr g L h' m → Q (.bool (cmpVal v1 r1 v2 r2 == 0)) (St h' c t')) :
    wpAny (model pw w) A (compareOp .Eq (.ref x) (.ref y)) Q E (St h c t) := c_eq (KX.keeps F.keep) (CA.keeps F.keep) (hA.le (by decide)) (T.keeps F.keep) fun h' t' kp => H h' t' (Fr.grow F kp)
theorem s_ne (KX : (KB w.params).In g) (CA : ClassAt g k) (T : Two g k x y v1 r1 v2 r2) (F : Fr g L h m) (hA : Room 3 A) (H : ∀ h' t', Fr g L h' m → Q (.bool (!(cmpVal v1 r1 v2 r2 == 0))) (St h' c t')) :
    wpAny (model pw w) A (compareOp .NotEq (.ref x) (.ref y)) Q E (St h c t) := c_ne (KX.keeps F.keep) (CA.keeps F.keep) hA (T.keeps F.keep) fun h' t' kp => H h' t' (Fr.grow F kp)
theorem s_ge (KX : (KB w.params).In g) (CA : ClassAt g k) (T : Two g k x y v1 r1 v2 r2) (F : Fr g L h m) (hA : Room 3 A) (H : ∀ h' t', Fr g L h' m → Q (.bool (decide (cmpVal v1 r1 v2 r2 ≥ 0))) (St h' c t')) :
    wpAny (model pw w) A (compareOp .GtE (.ref x) (.ref y)) Q E (St h c t) := c_ge (KX.keeps F.keep) (CA.keeps F.keep) (hA.le (by decide)) (T.keeps F.keep) fun h' t' kp => H h' t' (Fr.grow F kp)
theorem s_gt (KX : (KB w.params).In g) (CA : ClassAt g k) (T : Two g k x y v1 r1 v2 r2) (F : Fr g L h m) (hA : Room 3 A) (H : ∀ h' t', Fr g L h' m → Q (.bool (decide (cmpVal v1 r1 v2 r2 > 0))) (St h' c t')) :
    wpAny (model pw w) A (compareOp .Gt (.ref x) (.ref y)) Q E (St h c t) := c_gt (KX.keeps F.keep) (CA.keeps F.keep) (hA.le (by decide)) (T.keeps F.keep) fun h' t' kp => H h' t' (Fr.grow F kp)
theorem nl {vs : List Value} (hs : vs.length ≤ 1000) (H : ∀ h' l, Keeps h h' → LL h' l vs → h.objs.size ≤ l → h.objs.size < h'.objs.size → Q (.ref l) (St h' c t)) : wpAny (model pw w) A (newList vs) Q E (St h c t) := by
  refine wpAny_newObj_type (H _ _ (Keeps.push _ _) ⟨0, Heap.get?_push_size _ rfl⟩ (Nat.le_refl _) (by rw [Heap.size_push]; exact Nat.lt_succ_self _)) ?_
  show vs.toArray.size ≤ sizeLine
  rw [List.size_toArray, sizeLine_eq]
  omega
end
local macro_rules | `(tactic| walk_at "sg") => `(tactic| first | ((with_reducible first | refine' s_lt ?KX ?CA ?T ?F ?hA (fun _ _ _ => ?_) | refine' s_le ?KX ?CA ?T ?F ?hA (fun _ _ _ => ?_) | refine' s_eq ?KX ?CA ?T ?F ?hA (fun _ _ _ => ?_) | refine' s_ne ?KX ?CA ?T ?F ?hA (fun _ _ _ => ?_) | refine' s_ge ?KX ?CA ?T ?F ?hA (fun _ _ _ => ?_) | refine' s_gt ?KX ?CA ?T ?F ?hA (fun _ _ _ => ?_)); (case KX | CA | T | F | hA => assumption)) | walk_at "go")
theorem signs_spec {w : World} {A : Around} {h : Heap} {c : Shared} {t : Nat} {R : Result → Shared → Prop} {k : KA} {x y : Addr} {v1 r1 v2 r2 : Int}
    (KX : (KB w.params).In h) (CA : ClassAt h k) (hA : Room 4 A) (T : Two h k x y v1 r1 v2 r2)
    (H : ∀ h' t' l, Keeps h h' → LL h' l (sg (cmpVal v1 r1 v2 r2)) → h.objs.size ≤ l → R (.ok (.ret (.ref l))) (St h' c t')) :
    codeAny (model pw w) A (.call (.ref 86) ⟨[.ref x, .ref y], []⟩) R (St h c t) := by
  refine call_pos_ret hA.lim (KX 86 _ (by rfl)) rfl (nolimit KX) ⟨_, _, _, _, rfl, KX 85 _ (by rfl), rfl, rfl⟩ rfl (locs rfl) (fun h₁ F => ?_)
  show wpAny _ _ _ _ _ (St h₁ c _)
  generalize hk : t + _ = t'
  clear hk
  have hB : ∀ env, Room 3 (A.deeper env) := fun env => Room.deeper hA
  generalize hq : A.deeper _ = A' 
  have hA' : Room 3 A' := hq ▸ hB _
  repeat' (walk_at "sg")
  rename Fr _ _ _ _ => F'
  refine nl (by simp) fun h' l kp hl hle _ => co_ret (H h' _ l (Keeps.trans F'.keep kp) hl (Nat.le_trans (Fr.sz F') hle))
end U1_
section U2_
open PySem PySem.W PyProof.Rows
section
variable {w : World} {A : Around} {E : Value → Shared → Prop} {h g : Heap} {c : Shared} {t : Nat} {x y : Addr}
theorem same_rr {ox oy : Obj} {Q : Bool → Shared → Prop} (hx : h.get? x = some ox) (hy : h.get? y = some oy) (hc : ox.cls ≠ .type "tuple") (H : Q (decide (x = y)) (St h c t)) : wpAny (model pw w) A (isSame (.ref x) (.ref y)) Q E (St h c t) := by
  by_cases e : x = y
  · subst e
    rw [decide_eq_true rfl] at H
    exact wpAny_isSame_ref_self H
  · rw [decide_eq_false e] at H
    unfold isSame
    dsimp only
    rw [if_neg (by simpa using e)]
    refine wpAny_bind (wpAny_load hx (wpAny_bind (wpAny_load hy ?_)))
    split
    · rename_i e1 _ _ _
      exact absurd e1 hc
    · exact wpAny_pure H
theorem is_rr {ox oy : Obj} {Q : Value → Shared → Prop} (hx : h.get? x = some ox) (hy : h.get? y = some oy) (hc : ox.cls ≠ .type "tuple") (H : Q (.bool (decide (x = y))) (St h c t)) : wpAny (model pw w) A (compareOp .Is (.ref x) (.ref y)) Q E (St h c t) := by
  show wpAny (model pw w) A (do return .bool (← isSame (.ref x) (.ref y))) Q E (St h c t)
  exact wpAny_bind (same_rr hx hy hc (wpAny_pure H))
theorem isnot_rr {ox oy : Obj} {Q : Value → Shared → Prop} (hx : h.get? x = some ox) (hy : h.get? y = some oy) (hc : ox.cls ≠ .type "tuple") (H : Q (.bool (!decide (x = y))) (St h c t)) : wpAny (model pw w) A (compareOp .IsNot (.ref x) (.ref y)) Q E (St h c t) := by
  show wpAny (model pw w) A (do return .bool (!(← isSame (.ref x) (.ref y)))) Q E (St h c t)
  exact wpAny_bind (same_rr hx hy hc (wpAny_pure H))
theorem ne_bools {a b : Addr} {xs ys : List Bool} {Q : Value → Shared → Prop} (ha : LL h a (xs.map Value.bool)) (hb : LL h b (ys.map Value.bool)) (hl : xs.length = ys.length) (hA : Room 0 A) (H : Q (.bool (!decide (xs = ys))) (St h c t)) :
    wpAny (model pw w) A (compareOp .NotEq (.ref a) (.ref b)) Q E (St h c t) := by
  have hu : A.units < cLine := by have := hA.2.1; show A.units < 9900; omega
  refine (SeqAt.RcNeAt.lists (s := St h c t) (e := fun j => xs.getD j false == ys.getD j false) ha.is hb.is (by simpa using hl) hu fun j h1 h2 => ?_) pw w E Q ?_
  · have q1 : j < xs.length := by simpa using h1
    have q2 : j < ys.length := by simpa using h2
    have e1 : (xs.map Value.bool).toArray[j] = .bool (xs.getD j false) := by simp [List.getD_eq_getElem?_getD, q1]
    have e2 : (ys.map Value.bool).toArray[j] = .bool (ys.getD j false) := by simp [List.getD_eq_getElem?_getD, q2]
    rw [e1, e2]
    exact SeqAt.EqAt.bool_bool _ _
  · have : (List.range (xs.map Value.bool).toArray.size).all (fun j => xs.getD j false == ys.getD j false) = decide (xs = ys) := by
      rw [Bool.eq_iff_iff, List.all_eq_true, decide_eq_true_iff]
      constructor
      · intro q
        refine List.ext_getElem hl fun j p1 p2 => ?_
        have := q j (by simpa using p1)
        simpa [List.getD_eq_getElem?_getD, p1, p2] using this
      · rintro rfl j _
        simp
    rw [this]
    exact H
end
noncomputable def sgb (z : Int) : List Bool := [decide (z < 0), decide (z ≤ 0), z == 0, !(z == 0), decide (z ≥ 0), decide (z > 0)]
theorem sg_eq (z : Int) : sg z = (sgb z).map Value.bool := rfl
theorem sgb_zero : sgb 0 = [false, true, true, false, true, false] := by decide
theorem sgb_neg {z : Int} (h : z < 0) : sgb z = [true, true, false, true, false, false] := by
  have h1 : (z == 0) = false := by simp; omega
  simp only [sgb, h1, h, decide_true, Bool.not_false]
  simp; omega
theorem sgb_pos {z : Int} (h : z > 0) : sgb z = [false, false, false, true, true, true] := by
  have h1 : (z == 0) = false := by simp; omega
  simp only [sgb, h1, h, decide_true, Bool.not_false]
  simp; omega
theorem cmp_self (v r : Int) : cmpVal v r v r = 0 := by simp [cmpVal]
theorem cmp_anti (v1 r1 v2 r2 : Int) : cmpVal v2 r2 v1 r1 = - cmpVal v1 r1 v2 r2 := by
  unfold cmpVal
  by_cases e : v1.fdiv 2 = v2.fdiv 2
  · rw [if_neg (by simp [e]), if_neg (by simp [e])]; omega
  · rw [if_pos (by simpa using fun z => e z.symm), if_pos (by simpa using e)]; omega
theorem Two.symm {h : Heap} {k : KA} {x y : Addr} {v1 r1 v2 r2 : Int} (T : Two h k x y v1 r1 v2 r2) : Two h k y x v2 r2 v1 r1 := by
  obtain ⟨lx, ly, i1, i2, t1, t2, u1, u2, l1, l2, m1, m2, I1, I2, a1, a2, a3, a4⟩ := T
  exact ⟨ly, lx, i2, i1, t2, t1, u2, u1, l2, l1, m2, m1, I2, I1, a3, a4, a1, a2⟩
theorem Two.self {h : Heap} {k : KA} {x y : Addr} {v1 r1 v2 r2 : Int} (T : Two h k x y v1 r1 v2 r2) : Two h k x x v1 r1 v1 r1 := by
  obtain ⟨lx, ly, i1, i2, t1, t2, u1, u2, l1, l2, m1, m2, I1, I2, a1, a2, a3, a4⟩ := T
  exact ⟨lx, lx, i1, i1, t1, t1, u1, u1, l1, l1, m1, m1, I1, I1, a1, a2, a1, a2⟩
end U2_
section U3_
open PySem PySem.W PyProof.Rows
section
variable {w : World} {A : Around} {E : Value → Shared → Prop} {h g : Heap} {c : Shared} {t : Nat} {k : KA} {x y L : Addr} {m : Str → Option Value} {v1 r1 v2 r2 : Int} {Q : Value → Shared → Prop}
theorem s_signs (KX : (KB w.params).In g) (CA : ClassAt g k) (T : Two g k x y v1 r1 v2 r2) (F : Fr g L h m) (hA : Room 4 A) (H : ∀ h' t' l, Fr g L h' m → LL h' l ((sgb (cmpVal v1 r1 v2 r2)).map Value.bool) → Q (.ref l) (St h' c t')) :
    wpAny (model pw w) A (call (.ref 86) [.ref x, .ref y]) Q E (St h c t) := cl (signs_spec (KX.keeps F.keep) (CA.keeps F.keep) hA (T.keeps F.keep) fun h' t' l kp hl _ => rq_ret (H h' t' l (Fr.grow F kp) hl))
theorem s_sgne {a : Addr} {bs ys : List Bool} (F : Fr g L h m) (ha : LL h a (ys.map Value.bool)) (hb : bs.length = ys.length) (hs : bs.length < 100) (hA : Room 0 A) (H : ∀ h', Fr g L h' m → Q (.bool (!decide (ys = bs))) (St h' c t)) :
    wpAny (model pw w) A (newList (bs.map Value.bool)) (fun v s => wpAny (model pw w) A (compareOp .NotEq (.ref a) v) Q E s) E (St h c t) :=
  nl (by simp; omega) fun h' l kp hl _ _ => ne_bools (kp.list ha) hl hb.symm hA (H h' (Fr.grow F kp))
end
theorem unlike_spec {w : World} {A : Around} {h : Heap} {c : Shared} {t : Nat} {R : Result → Shared → Prop} {k : KA} {x y : Addr} {v1 r1 v2 r2 : Int}
    (KX : (KB w.params).In h) (CA : ClassAt h k) (hA : Room 5 A) (T : Two h k x y v1 r1 v2 r2) (hlt : x = y ∨ cmpVal v1 r1 v2 r2 < 0)
    (H : ∀ h' t', Keeps h h' → R (.ok (.ret (.bool false))) (St h' c t')) :
    codeAny (model pw w) A (.call (.ref 93) ⟨[.ref x, .ref y], []⟩) R (St h c t) := by
  refine call_pos_ret hA.lim (KX 93 _ (by rfl)) rfl (nolimit KX) ⟨_, _, _, _, rfl, KX 92 _ (by rfl), rfl, rfl⟩ rfl (locs rfl) (fun h₁ F => ?_)
  show wpAny _ _ _ _ _ (St h₁ c _)
  generalize hk : t + _ = t'
  clear hk
  have hB : ∀ env, Room 4 (A.deeper env) := fun env => Room.deeper hA
  repeat' (walk_at "go")
  refine ⟨KX.keeps F.keep, s_signs KX CA T.self F (hB _) fun h2 t2 l2 F2 L2 => ?_⟩
  repeat' (walk_at "go")
  refine s_sgne (bs := [false, true, true, false, true, false]) F2 L2 rfl (by decide) ((hB _).le (by decide)) fun h3 F3 => ?_
  rw [cmp_self, sgb_zero]
  clear F F2 L2
  repeat' (walk_at "go")
  refine if_f (by simp) ?_
  repeat' (walk_at "go")
  obtain ⟨lx, ly, i1, i2, t1, t2', u1, u2, l1, l2', m1, m2, ⟨dx, I1, _⟩, ⟨dy, I2, _⟩, a1, a2, a3, a4⟩ := id T
  refine is_rr (F3.keep _ _ I2) (F3.keep _ _ I1) (fun e => nomatch e) ?_
  repeat' (walk_at "go")
  by_cases e : x = y
  · refine if_t (by simp [e]) ?_
    repeat' (walk_at "go")
    exact H _ _ F3.keep
  · refine if_f (by simpa using fun z => e z.symm) ?_
    have hlt := hlt.resolve_left e
    repeat' (walk_at "go")
    refine ⟨KX.keeps F3.keep, s_signs KX CA T F3 (hB _) fun h4 t4 l4 F4 L4 => ?_⟩
    repeat' (walk_at "go")
    refine s_sgne (bs := [true, true, false, true, false, false]) F4 L4 rfl (by decide) ((hB _).le (by decide)) fun h5 F5 => ?_
    rw [sgb_neg hlt]
    clear F3 F4 L4
    repeat' (walk_at "go")
    refine if_f (by simp) ?_
    repeat' (walk_at "go")
    refine ⟨KX.keeps F5.keep, s_signs KX CA T.symm F5 (hB _) fun h6 t6 l6 F6 L6 => ?_⟩
    repeat' (walk_at "go")
    refine s_sgne (bs := [false, false, false, true, true, true]) F6 L6 rfl (by decide) ((hB _).le (by decide)) fun h7 F7 => ?_
    rw [sgb_pos (by rw [cmp_anti]; omega)]
    repeat' (walk_at "go")
    exact H _ _ F7.keep
end U3_
section D1_
open PySem PySem.W PyProof.Rows
inductive Ents : List DictEntry → List (Str × Value) → Prop
  | nil : Ents [] []
  | cons {hs : Int} {nm : Str} {tk : Tok} {v : Value} {es : List DictEntry} {kvs : List (Str × Value)} : Ents es kvs → Ents (⟨hs, .str nm tk, v⟩ :: es) ((nm, v) :: kvs)
noncomputable def DD (h : Heap) (a : Addr) (kvs : List (Str × Value)) : Prop := ∃ es n, h.get? a = some (dictOf es n) ∧ Ents es kvs
theorem DD.keeps {h h' : Heap} {a : Addr} {kvs : List (Str × Value)} (d : DD h a kvs) (kp : Keeps h h') : DD h' a kvs := let ⟨es, n, e, x⟩ := d; ⟨es, n, kp _ _ e, x⟩
theorem DD.but {h h' : Heap} {a l : Addr} {kvs : List (Str × Value)} (d : DD h a kvs) (hs : Heap.SameBut l h h') (hne : a ≠ l) : DD h' a kvs := let ⟨es, n, e, x⟩ := d; ⟨es, n, (hs.2 a hne).trans e, x⟩
theorem Ents.snoc {hs : Int} {nm : Str} {tk : Tok} {v : Value} : ∀ {es : List DictEntry} {kvs : List (Str × Value)}, Ents es kvs → Ents (es ++ [⟨hs, .str nm tk, v⟩]) (kvs ++ [(nm, v)])
  | _, _, .nil => .cons .nil
  | _, _, .cons x => .cons x.snoc
theorem Ents.noRef : ∀ {es : List DictEntry} {kvs : List (Str × Value)}, Ents es kvs → es.any (·.refKey) = false
  | _, _, .nil => rfl
  | _, _, .cons x => by rw [List.any_cons, x.noRef]; rfl
theorem isStr_str {nm name : Str} {tk : Tok} : (Value.str nm tk).isStr name = (nm == name) := rfl
theorem Ents.put {hs : Int} {nm : Str} {tk : Tok} {v : Value} : ∀ {es : List DictEntry} {kvs : List (Str × Value)}, Ents es kvs → (∀ p ∈ kvs, (p.1 == nm) = false) → putL nm hs (.str nm tk) v es = es ++ [⟨hs, .str nm tk, v⟩]
  | _, _, .nil, _ => rfl
  | _, _, .cons x, hn => by
    rw [putL, isStr_str, hn _ (.head _), x.put fun p hp => hn p (.tail _ hp)]
    rfl
theorem Ents.noName {nm : Str} : ∀ {es : List DictEntry} {kvs : List (Str × Value)}, Ents es kvs → (∀ p ∈ kvs, (p.1 == nm) = false) → es.any (·.key.isStr nm) = false
  | _, _, .nil, _ => rfl
  | _, _, .cons x, hn => by rw [List.any_cons, isStr_str, hn _ (.head _), x.noName fun p hp => hn p (.tail _ hp)]; rfl
theorem Ents.find {name : Str} : ∀ {es : List DictEntry} {kvs : List (Str × Value)}, Ents es kvs → (es.find? (·.key.isStr name)).map (·.val) = (kvs.find? (·.1 == name)).map (·.2)
  | _, _, .nil => rfl
  | _, _, .cons (nm := nm) x => by
    rw [List.find?_cons, List.find?_cons, isStr_str]
    cases e : nm == name with
    | true => rfl
    | false => exact x.find
section
variable {w : World} {A : Around} {E : Value → Shared → Prop} {h : Heap} {c : Shared} {t : Nat} {a : Addr} {kvs : List (Str × Value)} {name : Str} {v : Value}
theorem ns_put {Q : Unit → Shared → Prop} (d : DD h a kvs) (hn : ∀ p ∈ kvs, (p.1 == name) = false) (H : ∀ h' t', DD h' a (kvs ++ [(name, v)]) → Heap.SameBut a h h' → Q () (St h' c t')) : wpAny (model pw w) A (nsSet a name v) Q E (St h c t) := by
  obtain ⟨es, n, e, x⟩ := d
  unfold nsSet
  refine wpAny_bind (wpAny_bind (wpAny_askSetting (wpAny_pure (wpAny_bind (wpAny_mkText (wpAny_bind (wpAny_loadPart e ?_)))))))
  dsimp only
  rw [aRefKeyMayBeTheName_at]
  have z : (!es.toArray.any (·.key.isStr name) && es.toArray.any (·.refKey)) = false := by
    rw [← Array.any_toList (p := fun y : DictEntry => y.refKey)]
    rw [show es.toArray.toList = es from rfl, x.noRef, Bool.and_false]
  rw [z]
  have hput : ∀ hs, Obj.putName name hs (.str name t) v (dictOf es n) = dictOf (es ++ [⟨hs, .str name t, v⟩]) (n + 1) := fun hs => by
    rw [putName_dict, x.put hn]
    have : putN name es n = n + 1 := by
      unfold putN
      rw [x.noName hn]
      rfl
    rw [this]
  exact wpAny_updatePart e (H _ _ ⟨_, _, (Heap.get?_update_self _ e (by rw [hput]; rfl)).trans (congrArg some (hput _)), x.snoc⟩ (Heap.SameBut.update ..))
theorem lk_dd {r : Option Value} (d : DD h a kvs) (hr : (kvs.find? (·.1 == name)).map (·.2) = r) : Looks (model pw w) h (nsGet a name) r := by
  obtain ⟨es, n, e, x⟩ := d
  refine looks_nsIn (K := [(a, dictOf es n)]) (fun b o q => ?_) ?_
  · rw [List.lookup_cons] at q
    cases z : b == a with
    | true => rw [z] at q; cases q; rw [beq_iff_eq.mp z]; exact e
    | false => rw [z] at q; cases q
  · unfold nsIn
    rw [List.lookup_cons, beq_self_eq_true]
    dsimp only
    have f := x.find (name := name)
    rw [hr] at f
    cases q : es.find? (·.key.isStr name) with
    | none => rw [q] at f; rw [← f]; dsimp only; rw [if_neg (by rw [x.noRef]; decide)]; rfl
    | some y => rw [q] at f; rw [← f]; rfl
end
end D1_
section D3_
open PySem PySem.W PyProof.Rows PySem.W.X
theorem mem_keeps {h₀ h : Heap} {news : List (Addr × Obj)} (D : Mem h₀ h [] news) : Keeps h₀ h := fun b o e => D.keep b o e (by rw [Bool.or_eq_true]; exact .inr rfl)
theorem mem_new {h₀ h : Heap} {news : List (Addr × Obj)} (D : Mem h₀ h [] news) {p : Addr × Obj} (hp : p ∈ news) : h₀.objs.size ≤ p.1 ∨ h₀.get? p.1 = none := .inr (D.nw p hp).2
noncomputable def prepO : Obj := { cls := .type "builtin_function_or_method", data := .fields #[.builtin "type.__prepare__", .type "type"] }
section
variable {w : World} {A : Around} {h : Heap} {c : Shared} {t : Nat} {Q : Value → Shared → Prop} {E : Value → Shared → Prop} {u : Tok}
local macro_rules | `(tactic| x_close) => `(tactic| (apply_assumption; assumption))
theorem prep1 (H : ∀ a h', Mem h h' [] [(a, prepO)] → Q (.ref a) (St h' c t)) :
   wpAny (model pw w) A (call (.builtin "type.__getattribute__") [.type "type", .str (Str.ofString "__prepare__") u] []) Q E (St h c t) := by
  x_run
end
section
variable {w : World} {A : Around} {h : Heap} {c : Shared} {t : Nat} {E : Value → Shared → Prop}
local macro_rules | `(tactic| x_close) => `(tactic| ((try dsimp only); (repeat lk); apply_assumption; assumption))
theorem ga_prep {Q : Option Value → Shared → Prop} (H : ∀ a h' t', Mem h h' [] [(a, prepO)] → Q (some (.ref a)) (St h' c t')) :
   wpAny (model pw w) A (getAttr? (.type "type") (Str.ofString "__prepare__")) Q E (St h c t) := by
  unfold getAttr?
  repeat lk
  x_run
end
section
variable {w : World} {A : Around} {h : Heap} {c : Shared} {t : Nat} {Q : Value → Shared → Prop} {E : Value → Shared → Prop} {u : Tok} {a b : Addr}
local macro_rules | `(tactic| x_close) => `(tactic| (apply_assumption; assumption))
theorem prep2 (ha : h.get? a = some { cls := .type "builtin_function_or_method", dict := none, data := .fields #[.builtin "type.__prepare__", .type "type"], slots := #[] }) (hb : h.get? b = some { cls := .type "tuple", dict := none, data := .seq #[.type "object"] 0, slots := #[] }) (H : ∀ a h', Mem h h' [] [(a, emptyDict)] → Q (.ref a) (St h' c t)) :
   wpAny (model pw w) A (call (.ref a) [.str (Str.ofString "K") u, .ref b] []) Q E (St h c t) := by
  x_run
end
end D3_
section D4_
open PySem PySem.W PyProof.Rows PySem.W.X
noncomputable def MT (h : Heap) (P : Addr) (qs : List (Pos × Str)) : Prop :=
  ∃ ps, h.get? P = some (tabObj ps) ∧ TriplesOk ps.toList ∧ ∀ x ∈ qs, ∀ cv, codeAmong x.1 ps.toList = some cv → h.CodeRec cv x.2
theorem among_snoc {pos : Pos} {a b : Nat} {cv v : Value} : ∀ (l : List Value), TriplesOk l → codeAmong pos (l ++ [rawInt a, rawInt b, v]) = some cv → codeAmong pos l = some cv ∨ (pos.line = a ∧ pos.col = b ∧ cv = v) := by
  intro l ht e
  fun_induction TriplesOk l with
  | case1 =>
    right
    simp only [List.nil_append, rawInt, codeAmong] at e
    split at e
    · rename_i q
      simp only [Bool.and_eq_true, beq_iff_eq] at q
      cases e
      exact ⟨by have := q.1; omega, by have := q.2; omega, rfl⟩
    · cases e
  | case2 _ _ _ _ _ rest ih =>
    simp only [List.cons_append, codeAmong] at e ⊢
    split at e
    · rename_i q; rw [if_pos q]; exact .inl e
    · rename_i q; rw [if_neg q]; exact ih ht e
  | case3 => exact ht.elim
section
variable {w : World} {A : Around} {E : Value → Shared → Prop} {h : Heap} {c : Shared} {t : Nat} {Q : Value → Shared → Prop}
theorem strKeys_of {es : Array DictEntry} (e : (es.toList.all fun x => match x.key with | .str _ _ => true | _ => false) = true) : StrKeys es := fun x hx => by
  have := List.all_eq_true.mp e x (Array.mem_toList_iff.mpr hx)
  split at this
  · rename_i n t q; exact ⟨n, t, q⟩
  · cases this
theorem gl_ns (KX : (KB w.params).In h) : ∃ mg, h.Ns mainGlobals mg ∧ mg "__builtins__" = some (.ref 4) ∧ mg "__name__" = some (.str (Str.ofString "law_mg0032_01") 265) :=
  ⟨_, ⟨_, _, _, KX 3 _ (by rfl), rfl, strKeys_of (by kernel_rfl), fun _ => rfl⟩, by kernel_rfl, by kernel_rfl⟩
theorem bl_at {P : Addr} {ps : Array Value} {mg : Str → Option Value} (KX : (KB w.params).In h) (hm : mg "__builtins__" = some (.ref 4)) (hP : h.get? P = some (tabObj ps)) : h.BuiltinsAt mg P := by
  refine ⟨4, _, hm, by decide, by decide, fun e => ?_, KX 4 _ (by rfl), rfl, rfl, rfl⟩
  subst e
  have := KX 4 _ (by rfl)
  rw [hP] at this
  cases this
end
end D4_
section D5_
open PySem PySem.W PyProof.Rows PySem.W.X
theorem rec_ne {h : Heap} {P : Addr} {ps : Array Value} {cv : Value} {q : Str} (hP : h.get? P = some (tabObj ps)) (ht : TriplesOk ps.toList) (hr : h.CodeRec cv q) : cv ≠ .ref P := by
  rintro rfl
  obtain ⟨a, o, vs, t, e1, e2, e3, e4⟩ := hr
  cases e1
  rw [hP] at e2
  cases e2
  cases e3
  obtain ⟨l⟩ := ps
  match l, ht with
  | [], _ => simp at e4
  | .int _ _ :: .int _ _ :: _ :: _, _ => simp at e4
theorem rec_but {h h' : Heap} {P : Addr} {cv : Value} {q : Str} (hr : h.CodeRec cv q) (hx : Heap.ExtBut P h h') (hne : cv ≠ .ref P) : h'.CodeRec cv q := by
  obtain ⟨a, o, vs, t, rfl, e2, e3, e4⟩ := hr
  exact ⟨a, o, vs, t, rfl, hx _ _ (fun z => hne (by rw [z])) e2, e3, e4⟩
theorem MT.push {h : Heap} {P : Addr} {qs : List (Pos × Str)} (T : MT h P qs) (o : Obj) : MT (h.push o) P qs := by
  obtain ⟨ps, hP, ht, hc⟩ := T
  exact ⟨ps, Heap.get?_push_of_some _ hP, ht, fun x hx cv e => (hc x hx cv e).keeps fun b o e => Heap.get?_push_of_some _ e⟩
theorem MT.keeps {h h' : Heap} {P : Addr} {qs : List (Pos × Str)} (T : MT h P qs) (k : Keeps h h') : MT h' P qs := by
  obtain ⟨ps, hP, ht, hc⟩ := T
  exact ⟨ps, k _ _ hP, ht, fun x hx cv e => (hc x hx cv e).keeps k⟩
section
variable {w : World} {A : Around} {E : Value → Shared → Prop} {h : Heap} {c : Shared} {t : Nat} {Q : Value → Shared → Prop}
theorem mf {env : Env} {name qual : Str} {params : Arguments} {body : List Stmt} {scope : Scope} {pos : Pos} {fl : Nat} {clos : List (Str × Addr)} {P cc : Addr} {qs : List (Pos × Str)}
    (KX : (KB w.params).In h) (hcl : closureFor scope env = pure clos) (hg : env.globals = mainGlobals) (hcode : env.code = .ref cc) (C : CodeHd h cc P) (T : MT h P qs) (hq : (pos, qual) ∈ qs)
    (hu : ∀ x ∈ qs, x.1.line = pos.line → x.1.col = pos.col → x.2 = qual)
    (H : ∀ h' t' f c' ctv doc, Heap.ExtBut P h h' → MT h' P qs → h'.get? f = some (fnMade name qual params body scope clos doc (.str (Str.ofString "law_mg0032_01") 265) c' ctv) → h'.CodeRec (.ref c') qual → h.objs.size ≤ f → f < h'.objs.size → Q (.ref f) (St h' c t')) :
    wpAny (model pw w) A (makeFunction name qual params (.stmts body) scope env [] [] [] pos fl) Q E (St h c t) := by
  obtain ⟨mg, hn, hm1, hm2⟩ := gl_ns KX
  have hpm : (mg "__name__").getD .none = .str (Str.ofString "law_mg0032_01") 265 := by rw [hm2]; rfl
  obtain ⟨ps, hP, ht, hc⟩ := id T
  cases e : codeAmong pos ps.toList with
  | some cv =>
    have hr := hc _ hq cv e
    obtain ⟨c', o', vs', tq', rfl, r2⟩ := id hr
    refine makeFunction_hit (s := St h c t) hcl hg hn hcode C hP ht e (bl_at KX hm1 hP) fun ctv doc h' tk k hs => ?_
    rw [hpm]
    exact H _ _ _ c' ctv doc (fun b o _ e => Heap.get?_push_of_some _ (k b o e)) ((T.keeps k).push _) (Heap.get?_push_size _ rfl) ((hr.keeps k).keeps fun b o e => Heap.get?_push_of_some _ e) hs (by rw [Heap.size_push]; exact Nat.lt_succ_self _)
  | none =>
    have h3 : mainGlobals ≠ P := by
      rintro rfl
      have := KX 3 _ (by rfl)
      rw [show (3 : Addr) = mainGlobals from rfl, hP] at this
      cases this
    refine makeFunction_K (s := St h c t) hcl hg hn hcode C hP ht e h3 (bl_at KX hm1 hP) fun c' ctv doc h' tk hx hge hlt hr hP' => ?_
    rw [hpm]
    refine H _ _ _ c' ctv doc (fun b o hb e => Heap.get?_push_of_some _ (hx b o hb e)) (MT.push ⟨_, hP', ?_, fun x hx' cv ex => ?_⟩ _) (Heap.get?_push_size _ rfl) (hr.keeps fun b o e => Heap.get?_push_of_some _ e) (Nat.le_of_lt (Nat.lt_of_le_of_lt hge hlt)) (by rw [Heap.size_push]; exact Nat.lt_succ_self _)
    · rw [Array.toList_append]
      exact TriplesOk_snoc _ _ _ _ ht
    · rw [Array.toList_append] at ex
      rcases among_snoc _ ht ex with ex | ⟨e1, e2, rfl⟩
      · exact rec_but (hc x hx' cv ex) hx (rec_ne hP ht (hc x hx' cv ex))
      · rw [hu x hx' e1 e2]
        exact hr
end
end D5_
section D6_
open PySem PySem.W PyProof.Rows PySem.W.X
section
variable {w : World} {A : Around} {E : Value → Shared → Prop} {h : Heap} {c : Shared} {t : Nat} {env : Env} {kvs : List (Str × Value)} {name : Str} {v : Value}
theorem cs_put {Q : Unit → Shared → Prop} (d : DD h env.locals kvs) (hn : ∀ p ∈ kvs, (p.1 == name) = false) (hk : env.scope.kind = .class) (hl : env.kindOf name = some .local)
    (H : ∀ h' t', DD h' env.locals (kvs ++ [(name, v)]) → Heap.SameBut env.locals h h' → Q () (St h' c t')) : wpAny (model pw w) A (storeName env name v) Q E (St h c t) := by
  unfold storeName
  rw [hl, if_neg (by simp)]
  dsimp only
  rw [hk, if_pos (by rfl)]
  unfold localSet
  obtain ⟨es, n, e, x⟩ := id d
  refine wpAny_bind (wpAny_load e ?_)
  rw [if_pos (by rfl)]
  exact ns_put d hn H
theorem rec_dict {h h' : Heap} {l : Addr} {cv : Value} {q : Str} (hr : h.CodeRec cv q) (d : DD h l kvs) (hs : Heap.SameBut l h h') : h'.CodeRec cv q := by
  obtain ⟨a, o, vs, t, rfl, e2, e3, e4⟩ := hr
  obtain ⟨es, n, e, x⟩ := d
  refine ⟨a, o, vs, t, rfl, (hs.2 a fun z => ?_).trans e2, e3, e4⟩
  subst z
  rw [e] at e2
  cases e2
  cases e3
theorem MT.dict {h h' : Heap} {l P : Addr} {qs : List (Pos × Str)} (T : MT h P qs) (d : DD h l kvs) (hs : Heap.SameBut l h h') : MT h' P qs := by
  obtain ⟨ps, hP, ht, hc⟩ := T
  refine ⟨ps, (hs.2 P fun z => ?_).trans hP, ht, fun x hx cv e => rec_dict (hc x hx cv e) d hs⟩
  subst z
  obtain ⟨es, n, e, x⟩ := d
  rw [e] at hP
  cases hP
theorem cs_def {Q : Flow → Shared → Prop} {params : Arguments} {body : List Stmt} {scope : Scope} {pos : Pos} {clos : List (Str × Addr)} {P cc : Addr} {qs : List (Pos × Str)} {qual : Str}
    (KX : (KB w.params).In h) (d : DD h env.locals kvs) (hn : ∀ p ∈ kvs, (p.1 == name) = false) (hk : env.scope.kind = .class) (hl : env.kindOf name = some .local)
    (hqn : env.qual ++ name = qual) (hcl : closureFor scope env = pure clos) (hg : env.globals = mainGlobals) (hcode : env.code = .ref cc) (C : CodeHd h cc P) (T : MT h P qs) (hq : (pos, qual) ∈ qs)
    (hu : ∀ x ∈ qs, x.1.line = pos.line → x.1.col = pos.col → x.2 = qual) (hPl : env.locals ≠ P)
    (hdf : defaultsOf params env = ([], [])) (han : annotationsOf (params.args ++ params.posonlyargs ++ params.vararg.toList ++ params.kwonlyargs ++ params.kwarg.toList) env = [])
    (H : ∀ h' t' f c' ctv doc, DD h' env.locals (kvs ++ [(name, .ref f)]) → (∀ b o, b ≠ P → b ≠ env.locals → h.get? b = some o → h'.get? b = some o) → MT h' P qs → h'.get? f = some (fnMade name qual params body scope clos doc (.str (Str.ofString "law_mg0032_01") 265) c' ctv) → h'.CodeRec (.ref c') qual → h.objs.size ≤ f → Q .next (St h' c t')) :
    wpAny (model pw w) A (exec (.FunctionDef name params body [] none [] scope none name pos) env) Q E (St h c t) := by
  rw [arm_exec_FunctionDef]
  unfold defStmt
  rw [hdf]
  have hqn' : qualnameIn env name name = qual := by unfold qualnameIn; rw [hl, if_neg (by simp)]; exact hqn
  rw [hqn']
  refine wpAny_bind (wpAny_pure (wpAny_bind (wpAny_standAt (wpAny_bind (wpAny_holding ?_)))))
  refine wpAny_bind (wpAny_pure (wpAny_bind (wpAny_holding (wpAny_pure (wpAny_holding ?_)))))
  obtain ⟨po, pa, va, ko, kd, kwa, df⟩ := params
  dsimp only at han ⊢
  refine wpAny_bind ?_
  rw [han]
  refine wpAny_pure (mf KX hcl hg hcode C T hq hu fun h1 t1 f c' ctv doc hx T1 hf hr hge hlt => ?_)
  refine wpAny_bind (wpAny_pure (wpAny_bind (wpAny_standAt (wpAny_bind ?_))))
  unfold bindName
  have d1 : DD h1 env.locals kvs := let ⟨es, n, e, x⟩ := d; ⟨es, n, hx _ _ hPl e, x⟩
  have hll : env.locals < h.objs.size := let ⟨es, n, e, x⟩ := d; Heap.lt_size e
  refine wpAny_bind (wpAny_holding (wpAny_point (wpAny_bind (cs_put d1 hn hk hl fun h2 t2 d2 s2 => wpAny_point (wpAny_pure ?_)))))
  exact H h2 t2 f c' ctv doc d2 (fun b o hb hb' e => (s2.2 b hb').trans (hx b o hb e)) (T1.dict d1 s2) ((s2.2 f (Nat.ne_of_gt (Nat.lt_of_lt_of_le hll hge))).trans hf) (rec_dict hr d1 s2) hge
end
end D6_
section D7_
open PySem PySem.W PyProof.Rows PySem.W.X
section
variable {w : World} {A : Around} {E : Value → Shared → Prop} {h : Heap} {c : Shared} {t : Nat} {env : Env} {a : Addr} {kvs : List (Str × Value)} {name : Str} {v v0 : Value}
theorem ns_set0 {Q : Unit → Shared → Prop} (d : DD h a ((name, v0) :: kvs)) (H : ∀ h' t', DD h' a ((name, v) :: kvs) → Heap.SameBut a h h' → Q () (St h' c t')) : wpAny (model pw w) A (nsSet a name v) Q E (St h c t) := by
  obtain ⟨es, n, e, x⟩ := d
  unfold nsSet
  refine wpAny_bind (wpAny_bind (wpAny_askSetting (wpAny_pure (wpAny_bind (wpAny_mkText (wpAny_bind (wpAny_loadPart e ?_)))))))
  dsimp only
  rw [aRefKeyMayBeTheName_at]
  have z : (!es.toArray.any (·.key.isStr name) && es.toArray.any (·.refKey)) = false := by
    rw [← Array.any_toList (p := fun y : DictEntry => y.refKey)]
    rw [show es.toArray.toList = es from rfl, x.noRef, Bool.and_false]
  rw [z]
  cases x with
  | cons x =>
    rename_i hs0 tk0 es
    have hput : ∀ hs, Obj.putName name hs (.str name t) v (dictOf (⟨hs0, .str name tk0, v0⟩ :: es) n) = dictOf (⟨hs0, .str name tk0, v⟩ :: es) n := fun hs => by
      rw [putName_dict, putL, isStr_str, if_pos (beq_self_eq_true name)]
      have : putN name (⟨hs0, .str name tk0, v0⟩ :: es) n = n := by
        unfold putN
        rw [List.any_cons, isStr_str, beq_self_eq_true]
        rfl
      rw [this]
    exact wpAny_updatePart e (H _ _ ⟨_, _, (Heap.get?_update_self _ e (by rw [hput]; rfl)).trans (congrArg some (hput _)), .cons x⟩ (Heap.SameBut.update ..))
theorem cs_set0 {Q : Unit → Shared → Prop} (d : DD h env.locals ((name, v0) :: kvs)) (hk : env.scope.kind = .class) (hl : env.kindOf name = some .local)
    (H : ∀ h' t', DD h' env.locals ((name, v) :: kvs) → Heap.SameBut env.locals h h' → Q () (St h' c t')) : wpAny (model pw w) A (storeName env name v) Q E (St h c t) := by
  unfold storeName
  rw [hl, if_neg (by simp)]
  dsimp only
  rw [hk, if_pos (by rfl)]
  unfold localSet
  obtain ⟨es, n, e, x⟩ := id d
  refine wpAny_bind (wpAny_load e ?_)
  rw [if_pos (by rfl)]
  exact ns_set0 d H
theorem cs_own {Q : Unit → Shared → Prop} (d : DD h env.locals kvs) (hn : ∀ p ∈ kvs, (p.1 == name) = false) (hk : env.scope.kind = .class) (hl : env.kindOf name = none) (hb : (env.blockKind == .function) = false) (hc : compilersOwnNames.contains name = true)
    (H : ∀ h' t', DD h' env.locals (kvs ++ [(name, v)]) → Heap.SameBut env.locals h h' → Q () (St h' c t')) : wpAny (model pw w) A (storeName env name v) Q E (St h c t) := by
  unfold storeName
  rw [hl, if_neg (by simp)]
  dsimp only
  rw [hk, hb, hc]
  simp only [beq_self_eq_true, Bool.true_or, Bool.not_true, Bool.and_false, Bool.or_self, Bool.false_eq_true, if_false, if_true, pure_bind]
  unfold localSet
  obtain ⟨es, n, e, x⟩ := id d
  refine wpAny_bind (wpAny_load e ?_)
  rw [if_pos (by rfl)]
  exact ns_put d hn H
end
end D7_
section D8_
open PySem PySem.W PyProof.Rows PySem.W.X
noncomputable def clsIn0 : Option Stmt → Option Stmt
  | some (Stmt.FunctionDef _ _ (s :: _) _ _ _ _ _ _ _) => some s
  | _ => none
noncomputable def cBody : Option Stmt → List Stmt
  | some (Stmt.ClassDef _ _ _ b _ _ _ _ _ _ _) => b
  | _ => []
noncomputable def cScope : Option Stmt → Scope
  | some (Stmt.ClassDef _ _ _ _ _ _ s _ _ _ _) => s
  | _ => default
noncomputable def cStat : Option Stmt → List Str
  | some (Stmt.ClassDef _ _ _ _ _ _ _ _ _ s _) => s
  | _ => []
noncomputable def cPos : Option Stmt → Pos
  | some (Stmt.ClassDef _ _ _ _ _ _ _ _ _ _ p) => p
  | _ => default
noncomputable def cK : Option Stmt := clsIn0 (pw.main.body[1]?)
noncomputable def posOf : Option Stmt → Pos
  | some (Stmt.FunctionDef _ _ _ _ _ _ _ _ _ p) => p
  | _ => default
noncomputable def kq (s : String) : Str := Str.ofString "cmp_to_key.<locals>.K." ++ Str.ofString s
noncomputable def mPos (i : Nat) : Pos := posOf ((cBody cK)[i]?)
noncomputable def qs : List (Pos × Str) := [(mPos 2, kq "__init__"), (mPos 3, kq "__lt__"), (mPos 4, kq "__gt__"), (mPos 5, kq "__eq__"), (mPos 6, kq "__le__"), (mPos 7, kq "__ge__")]
noncomputable def bEnv (a2 cc fr : Addr) (cell : Addr) : Env := { scope := cScope cK, locals := a2, globals := 3, qual := Str.ofString "cmp_to_key.<locals>.K" ++ Str.ofString ".", code := .ref cc, frame := some fr, builtins := 0, cells := [(Str.ofString "mycmp", cell)] }
theorem no_nm {kvs : List (Str × Value)} {name : Str} (e : ((kvs.map (·.1)).all fun p => !(p == name)) = true) : ∀ p ∈ kvs, (p.1 == name) = false := fun p hp => by
  have := List.all_eq_true.mp e p.1 (List.mem_map_of_mem hp)
  simpa using this
noncomputable def Oth (P a : Addr) (h h' : Heap) : Prop := ∀ b o, b ≠ P → b ≠ a → h.get? b = some o → h'.get? b = some o
theorem Oth.trans {P a : Addr} {h h' h'' : Heap} (x : Oth P a h h') (y : Oth P a h' h'') : Oth P a h h'' := fun b o p q e => y b o p q (x b o p q e)
theorem Oth.same {P a : Addr} {h h' : Heap} (s : Heap.SameBut a h h') : Oth P a h h' := fun b o _ q e => (s.2 b q).trans e
theorem Oth.keeps {P a : Addr} {h h' : Heap} (s : Keeps h h') : Oth P a h h' := fun b o _ _ e => s b o e
theorem Oth.kx {P a : Addr} {h h' : Heap} {K : Frag} (x : Oth P a h h') (KX : K.In h) (hP : K.lookup P = none) (ha : K.lookup a = none) : K.In h' := fun b o e => x b o (fun z => by rw [z, hP] at e; cases e) (fun z => by rw [z, ha] at e; cases e) (KX b o e)
theorem Oth.code {P a cc : Addr} {h h' : Heap} {kvs : List (Str × Value)} (x : Oth P a h h') (C : CodeHd h cc P) (d : DD h a kvs) : CodeHd h' cc P := by
  obtain ⟨o, vs, f1, f2, f3, f4, f5, f6, f7, e1, e2, e3, e4, e5, e6, e7, e8, e9, e10⟩ := C
  refine ⟨o, vs, f1, f2, f3, f4, f5, f6, f7, x _ _ e10 (fun z => ?_) e1, e2, e3, e4, e5, e6, e7, e8, e9, e10⟩
  subst z
  obtain ⟨es, n, e, _⟩ := d
  rw [e] at e1
  cases e1
  cases e3
noncomputable def Made (h : Heap) (i : Nat) (nm : String) (clos : List (Str × Addr)) (f : Addr) : Prop :=
  ∃ c' ctv doc, h.get? f = some (fnMade (Str.ofString nm) (kq nm) (mth i).1 (mth i).2.1 (mth i).2.2 clos doc (.str (Str.ofString "law_mg0032_01") 265) c' ctv) ∧ h.CodeRec (.ref c') (kq nm)
theorem MT.lt {h : Heap} {P : Addr} {q : List (Pos × Str)} (T : MT h P q) : P < h.objs.size := let ⟨_, e, _⟩ := T; Heap.lt_size e
theorem DD.lt {h : Heap} {a : Addr} {kvs : List (Str × Value)} (d : DD h a kvs) : a < h.objs.size := let ⟨_, _, e, _⟩ := d; Heap.lt_size e
theorem Made.lt {h : Heap} {i : Nat} {nm : String} {cl : List (Str × Addr)} {f : Addr} (M : Made h i nm cl f) : f < h.objs.size := let ⟨_, _, _, e, _⟩ := M; Heap.lt_size e
theorem Made.oth {h h' : Heap} {i : Nat} {nm : String} {cl : List (Str × Addr)} {f P a : Addr} {q : List (Pos × Str)} {kvs : List (Str × Value)} (M : Made h i nm cl f) (x : Oth P a h h') (hP : f ≠ P) (ha : f ≠ a) (T : MT h P q) (d : DD h a kvs) : Made h' i nm cl f := by
  obtain ⟨c', ctv, doc, e, r⟩ := M
  obtain ⟨ps, p1, p2, _⟩ := T
  have n1 := rec_ne p1 p2 r
  refine ⟨c', ctv, doc, x _ _ hP ha e, ?_⟩
  obtain ⟨b, o, vs, t, e1, e2, e3, e4⟩ := r
  cases e1
  refine ⟨_, o, vs, t, rfl, x _ _ (fun z => n1 (by rw [z])) (fun z => ?_) e2, e3, e4⟩
  subst z
  obtain ⟨es, n, e', _⟩ := d
  rw [e'] at e2
  cases e2
  cases e3
theorem body_spec {w : World} {A : Around} {E : Value → Shared → Prop} {h : Heap} {c : Shared} {t : Nat} {Q : Flow → Shared → Prop} {a2 cc fr cell P : Addr} {vm vq vf : Value}
    (KX : (KB w.params).In h) (hKP : (KB w.params).lookup P = none) (hKa : (KB w.params).lookup a2 = none) (d : DD h a2 [(Str.ofString "__module__", vm), (Str.ofString "__qualname__", vq), (Str.ofString "__firstlineno__", vf)]) (C : CodeHd h cc P) (T : MT h P qs) (hP : a2 ≠ P)
    (H : ∀ h' t' sl u (um : Tok) f4 f5 f6 f7 f8 f9, DD h' a2 [(Str.ofString "__module__", .str (Str.ofString "cpy313.functools") um), (Str.ofString "__qualname__", vq), (Str.ofString "__firstlineno__", vf), (Str.ofString "__slots__", .ref sl), (Str.ofString "__init__", .ref f4), (Str.ofString "__lt__", .ref f5), (Str.ofString "__gt__", .ref f6), (Str.ofString "__eq__", .ref f7), (Str.ofString "__le__", .ref f8), (Str.ofString "__ge__", .ref f9), (Str.ofString "__hash__", .none)] →
      Oth P a2 h h' → MT h' P qs → LL h' sl [.str (Str.ofString "obj") u] → h.objs.size ≤ f4 → f4 < f5 → f5 < f6 → f6 < f7 → f7 < f8 → f8 < f9 →
      Made h' 2 "__init__" [] f4 → Made h' 3 "__lt__" [(Str.ofString "mycmp", cell)] f5 → Made h' 4 "__gt__" [(Str.ofString "mycmp", cell)] f6 → Made h' 5 "__eq__" [(Str.ofString "mycmp", cell)] f7 → Made h' 6 "__le__" [(Str.ofString "mycmp", cell)] f8 → Made h' 7 "__ge__" [(Str.ofString "mycmp", cell)] f9 → Q .next (St h' c t')) :
    wpAny (model pw w) A (execs (cBody cK) (bEnv a2 cc fr cell)) Q E (St h c t) := by
  refine ex_cons ?_
  refine wpAny_Assign_Name ?_ (by kernel_rfl!)
  refine wpAny_Constant_str ?_
  refine cs_set0 (env := bEnv a2 cc fr cell) d (by kernel_rfl) (by kernel_rfl) fun h1 t1 d1 s1 => co_next ?_
  have o1 : Oth P a2 h h1 := Oth.same s1
  have T1 : MT h1 P qs := T.dict d s1
  refine ex_cons ?_
  refine wpAny_Assign_Name ?_ (by kernel_rfl!)
  refine List_ ?_
  refine spliced_more ?_ rfl
  refine wpAny_Constant_str ?_
  refine spliced_none ?_
  refine nl (Nat.le_of_ble_eq_true rfl) fun h2 sl k2 l2 hsl hs2 => ?_
  have d2 := d1.keeps k2
  refine cs_put (env := bEnv a2 cc fr cell) d2 (no_nm (by kernel_rfl)) (by kernel_rfl) (by kernel_rfl) fun h3 t3 d3 s3 => co_next ?_
  have o3 : Oth P a2 h h3 := (o1.trans (Oth.keeps k2)).trans (Oth.same s3)
  have T3 : MT h3 P qs := (T1.keeps k2).dict d2 s3
  have z1 : h.objs.size ≤ h1.objs.size := Nat.le_of_eq s1.1.symm
  have q1 : sl ≠ P := Nat.ne_of_gt (Nat.lt_of_lt_of_le T1.lt hsl)
  have q2 : sl ≠ a2 := Nat.ne_of_gt (Nat.lt_of_lt_of_le d1.lt hsl)
  have l3 : LL h3 sl _ := list_but l2 s3 q2
  have z3 : h.objs.size ≤ h3.objs.size := by have := s3.1; have := Nat.le_of_lt hs2; exact Nat.le_trans z1 (Nat.le_trans this (Nat.le_of_eq s3.1.symm))
  clear T T1 d1 d2 s1 s3 k2 o1
  refine ex_cons ?_
  refine cs_def (env := bEnv a2 cc fr cell) (P := P) (cc := cc) (qs := qs) (qual := kq "__init__") (clos := []) (o3.kx KX hKP hKa) d3 (no_nm (by kernel_rfl)) (by kernel_rfl) (by kernel_rfl) (by kernel_rfl) (by kernel_rfl) rfl rfl (o3.code C d) T3 (.head _) (by decide +kernel) hP (by kernel_rfl) (by kernel_rfl) fun h4 t4 f4 c4 v4 w4 d4 x4 T4 m4 r4 g4 => co_next ?_
  have o4 : Oth P a2 h h4 := o3.trans x4
  refine ex_cons ?_
  refine cs_def (env := bEnv a2 cc fr cell) (P := P) (cc := cc) (qs := qs) (qual := kq "__lt__") (clos := [(Str.ofString "mycmp", cell)]) (o4.kx KX hKP hKa) d4 (no_nm (by kernel_rfl)) (by kernel_rfl) (by kernel_rfl) (by kernel_rfl) (by kernel_rfl) rfl rfl (o4.code C d) T4 (.tail _ (.head _)) (by decide +kernel) hP (by kernel_rfl) (by kernel_rfl) fun h5 t5 f5 c5 v5 w5 d5 x5 T5 m5 r5 g5 => co_next ?_
  have o5 : Oth P a2 h h5 := o4.trans x5
  refine ex_cons ?_
  refine cs_def (env := bEnv a2 cc fr cell) (P := P) (cc := cc) (qs := qs) (qual := kq "__gt__") (clos := [(Str.ofString "mycmp", cell)]) (o5.kx KX hKP hKa) d5 (no_nm (by kernel_rfl)) (by kernel_rfl) (by kernel_rfl) (by kernel_rfl) (by kernel_rfl) rfl rfl (o5.code C d) T5 (.tail _ (.tail _ (.head _))) (by decide +kernel) hP (by kernel_rfl) (by kernel_rfl) fun h6 t6 f6 c6 v6 w6 d6 x6 T6 m6 r6 g6 => co_next ?_
  have o6 : Oth P a2 h h6 := o5.trans x6
  refine ex_cons ?_
  refine cs_def (env := bEnv a2 cc fr cell) (P := P) (cc := cc) (qs := qs) (qual := kq "__eq__") (clos := [(Str.ofString "mycmp", cell)]) (o6.kx KX hKP hKa) d6 (no_nm (by kernel_rfl)) (by kernel_rfl) (by kernel_rfl) (by kernel_rfl) (by kernel_rfl) rfl rfl (o6.code C d) T6 (.tail _ (.tail _ (.tail _ (.head _)))) (by decide +kernel) hP (by kernel_rfl) (by kernel_rfl) fun h7 t7 f7 c7 v7 w7 d7 x7 T7 m7 r7 g7 => co_next ?_
  have o7 : Oth P a2 h h7 := o6.trans x7
  refine ex_cons ?_
  refine cs_def (env := bEnv a2 cc fr cell) (P := P) (cc := cc) (qs := qs) (qual := kq "__le__") (clos := [(Str.ofString "mycmp", cell)]) (o7.kx KX hKP hKa) d7 (no_nm (by kernel_rfl)) (by kernel_rfl) (by kernel_rfl) (by kernel_rfl) (by kernel_rfl) rfl rfl (o7.code C d) T7 (.tail _ (.tail _ (.tail _ (.tail _ (.head _))))) (by decide +kernel) hP (by kernel_rfl) (by kernel_rfl) fun h8 t8 f8 c8 v8 w8 d8 x8 T8 m8 r8 g8 => co_next ?_
  have o8 : Oth P a2 h h8 := o7.trans x8
  refine ex_cons ?_
  refine cs_def (env := bEnv a2 cc fr cell) (P := P) (cc := cc) (qs := qs) (qual := kq "__ge__") (clos := [(Str.ofString "mycmp", cell)]) (o8.kx KX hKP hKa) d8 (no_nm (by kernel_rfl)) (by kernel_rfl) (by kernel_rfl) (by kernel_rfl) (by kernel_rfl) rfl rfl (o8.code C d) T8 (.tail _ (.tail _ (.tail _ (.tail _ (.tail _ (.head _)))))) (by decide +kernel) hP (by kernel_rfl) (by kernel_rfl) fun h9 t9 f9 c9 v9 w9 d9 x9 T9 m9 r9 g9 => co_next ?_
  have o9 : Oth P a2 h h9 := o8.trans x9
  refine ex_cons ?_
  refine wpAny_Assign_Name ?_ (by kernel_rfl!)
  refine wpAny_Constant_none ?_
  refine cs_put (env := bEnv a2 cc fr cell) d9 (no_nm (by kernel_rfl)) (by kernel_rfl) (by kernel_rfl) fun h10 t10 d10 s10 => co_next ?_
  refine wpAny_execs_nil ?_
  have o10 : Oth P a2 h9 h10 := Oth.same s10
  have T10 : MT h10 P qs := T9.dict d9 s10
  have x9' : Oth P a2 h9 h10 := o10
  have x8' : Oth P a2 h8 h10 := Oth.trans x9 x9'
  have x7' : Oth P a2 h7 h10 := Oth.trans x8 x8'
  have x6' : Oth P a2 h6 h10 := Oth.trans x7 x7'
  have x5' : Oth P a2 h5 h10 := Oth.trans x6 x6'
  have x4' : Oth P a2 h4 h10 := Oth.trans x5 x5'
  have x3' : Oth P a2 h3 h10 := Oth.trans x4 x4'
  have M4 : Made h4 2 "__init__" [] f4 := ⟨_, _, _, m4, r4⟩
  have M5 : Made h5 3 "__lt__" [(Str.ofString "mycmp", cell)] f5 := ⟨_, _, _, m5, r5⟩
  have M6 : Made h6 4 "__gt__" [(Str.ofString "mycmp", cell)] f6 := ⟨_, _, _, m6, r6⟩
  have M7 : Made h7 5 "__eq__" [(Str.ofString "mycmp", cell)] f7 := ⟨_, _, _, m7, r7⟩
  have M8 : Made h8 6 "__le__" [(Str.ofString "mycmp", cell)] f8 := ⟨_, _, _, m8, r8⟩
  have M9 : Made h9 7 "__ge__" [(Str.ofString "mycmp", cell)] f9 := ⟨_, _, _, m9, r9⟩
  have gt {f n P : Nat} (a : P < n) (b : n ≤ f) : f ≠ P := Nat.ne_of_gt (Nat.lt_of_lt_of_le a b)
  refine H h10 _ sl t1 _ f4 f5 f6 f7 f8 f9 d10 (o9.trans o10) T10 ?_ (Nat.le_trans z3 g4) (Nat.lt_of_lt_of_le M4.lt g5) (Nat.lt_of_lt_of_le M5.lt g6) (Nat.lt_of_lt_of_le M6.lt g7) (Nat.lt_of_lt_of_le M7.lt g8) (Nat.lt_of_lt_of_le M8.lt g9)
    (M4.oth x4' (gt T3.lt g4) (gt d3.lt g4) T4 d4) (M5.oth x5' (gt T4.lt g5) (gt d4.lt g5) T5 d5) (M6.oth x6' (gt T5.lt g6) (gt d5.lt g6) T6 d6)
    (M7.oth x7' (gt T6.lt g7) (gt d6.lt g7) T7 d7) (M8.oth x8' (gt T7.lt g8) (gt d7.lt g8) T8 d8) (M9.oth x9' (gt T8.lt g9) (gt d8.lt g9) T9 d9)
  obtain ⟨n, e⟩ := l3
  exact ⟨n, x3' _ _ q1 q2 e⟩
end D8_
section D9_
open PySem PySem.W PyProof.Rows PySem.W.X
noncomputable abbrev NB := {n : Nat // 104 ≤ n}
variable {N : NB}
noncomputable def ClsCode (N : NB) (h : Heap) (cv : Value) : Prop := ∃ cc P, cv = .ref cc ∧ CodeHd h cc P ∧ MT h P qs ∧ N.1 ≤ P ∧ P ≠ 16 ∧ cc ≠ 16
noncomputable def CT (N : NB) (h : Heap) : Prop := ∃ ps, h.get? 16 = some (tabObj ps) ∧ TriplesOk ps.toList ∧ ∀ cv, codeAmong (cPos cK) ps.toList = some cv → ClsCode N h cv
theorem kb_lt {P0 : Params} {a : Addr} (ha : 104 ≤ a) : (KB P0).lookup a = none := by
  have e : ∀ l : Frag, (l.all fun p => Nat.blt p.1 104) = true → l.lookup a = none := by
    intro l
    induction l with
    | nil => intro _; rfl
    | cons p l ih =>
      intro q
      rw [List.all_cons, Bool.and_eq_true] at q
      rw [List.lookup_cons]
      have : (a == p.1) = false := beq_eq_false_iff_ne.mpr fun z => by
        have h1 : p.1 < 104 := Nat.le_of_ble_eq_true q.1
        rw [← z] at h1
        exact absurd ha (Nat.not_le_of_lt h1)
      rw [this]
      exact ih q.2
  exact e _ (by kernel_rfl)
theorem C20 {w : World} {h : Heap} (KX : (KB w.params).In h) : CodeHd h 20 16 :=
  ⟨_, _, Str.ofString "/claim/cut.py", 196, 3, 0, true, 181, 0, KX 20 _ (by rfl), rfl, rfl, by kernel_rfl, by kernel_rfl, by kernel_rfl, by kernel_rfl, by kernel_rfl, by kernel_rfl, by decide⟩
section
variable {w : World} {A : Around} {E : Value → Shared → Prop} {h : Heap} {c : Shared} {t : Nat} {Q : Value → Shared → Prop}
theorem ClsCode.ext {h h' : Heap} {cv : Value} (x : ClsCode N h cv) (hx : Heap.ExtBut 16 h h') {ps : Array Value} (h16 : h.get? 16 = some (tabObj ps)) (ht : TriplesOk ps.toList) : ClsCode N h' cv := by
  obtain ⟨cc, P, rfl, C, ⟨pp, q1, q2, q3⟩, k, n1, n2⟩ := x
  refine ⟨cc, P, rfl, ?_, ⟨pp, hx _ _ n1 q1, q2, fun y hy cv e => rec_but (q3 y hy cv e) hx (rec_ne h16 ht (q3 y hy cv e))⟩, k, n1, n2⟩
  obtain ⟨o, vs, f1, f2, f3, f4, f5, f6, f7, e1, r⟩ := C
  exact ⟨o, vs, f1, f2, f3, f4, f5, f6, f7, hx _ _ n2 e1, r⟩
theorem cc_spec {env : Env} {fl : Nat} {nm q : Str} {sc : Scope} (KX : (KB w.params).In h) (hz : N.1 ≤ h.objs.size) (hc : env.code = .ref 20) (T : CT N h)
    (H : ∀ h' t' cv, Heap.ExtBut 16 h h' → h.objs.size ≤ h'.objs.size → CT N h' → ClsCode N h' cv → Q cv (St h' c t')) :
    wpAny (model pw w) A (classCode env (cPos cK) fl nm q sc) Q E (St h c t) := by
  obtain ⟨ps, h16, ht, hcl⟩ := id T
  have C := C20 KX
  cases e : codeAmong (cPos cK) ps.toList with
  | some cv => exact wpAny_codeAt_hit (s := St h c t) hc (C.code h16 ht) e (H h t cv (fun _ _ _ e => e) (Nat.le_refl _) T (hcl cv e))
  | none =>
    obtain ⟨o, vs, file, tf, flags, tg, inF, text, tt, ho, hcls, hd, h11', h11, h2, h7, h9, h10, hne⟩ := C
    unfold classCode codeAt
    rw [hc, if_neg (show ¬ ((Value.ref 20 == Value.none) = true) from Bool.false_ne_true)]
    refine wpAny_bind (wpAny_fieldsOf (s := St h c t) ho hd ?_)
    rw [h11]
    refine wpAny_bind (wpAny_fieldsOf (s := St h c t) h16 rfl ?_)
    rw [e, h2, h7, h9, h10]
    refine wpAny_bind (wpAny_newCodeX (s := St h c t) fun c' P' h' tk hk hc' hP' hcode' htab' hrec' => ?_)
    have h16' := hk _ _ h16
    refine wpAny_bind (wpAny_updateFieldsOfTheText h16' rfl ?_)
    have hf : Obj.mapFields (fun vs => if (codeAmong (cPos cK) vs.toList).isSome = true then vs else vs ++ #[rawInt (cPos cK).line, rawInt (cPos cK).col, .ref c']) (tabObj ps) = tabObj (ps ++ #[rawInt (cPos cK).line, rawInt (cPos cK).col, .ref c']) := by
      simp only [Obj.mapFields, e]
      rfl
    have hget := Heap.get?_update_self (h := h') (fun o => Obj.mapFields (fun vs => if (codeAmong (cPos cK) vs.toList).isSome = true then vs else vs ++ #[rawInt (cPos cK).line, rawInt (cPos cK).col, .ref c']) o) h16' (by rw [hf]; rfl)
    rw [hf] at hget
    refine wpAny_bind (wpAny_fieldsOf hget rfl ?_)
    have hl : (ps ++ #[rawInt (cPos cK).line, rawInt (cPos cK).col, Value.ref c']).toList = ps.toList ++ [rawInt (cPos cK).line, rawInt (cPos cK).col, .ref c'] := by simp
    rw [hl, codeAmong_snoc _ ht e]
    have hx : Heap.ExtBut 16 h (h'.update 16 fun o => Obj.mapFields (fun vs => if (codeAmong (cPos cK) vs.toList).isSome = true then vs else vs ++ #[rawInt (cPos cK).line, rawInt (cPos cK).col, .ref c']) o) := fun b o' hb e => (Heap.SameBut.update ..).extBut b o' hb (hk b o' e)
    have n1 : P' ≠ 16 := Nat.ne_of_gt (Nat.lt_of_lt_of_le (Heap.lt_size h16) hP')
    have n2 : c' ≠ 16 := Nat.ne_of_gt (Nat.lt_of_lt_of_le (Heap.lt_size h16) hc')
    have cl : ClsCode N (h'.update 16 fun o => Obj.mapFields (fun vs => if (codeAmong (cPos cK) vs.toList).isSome = true then vs else vs ++ #[rawInt (cPos cK).line, rawInt (cPos cK).col, .ref c']) o) (.ref c') := by
      refine ⟨c', P', rfl, ?_, ⟨#[], (Heap.SameBut.update ..).extBut _ _ n1 htab'.2, trivial, fun y hy cv z => by cases z⟩, Nat.le_trans hz hP', n1, n2⟩
      obtain ⟨o2, vs2, g1, g2, g3, g4, g5, g6, g7, y1, y2⟩ := CodeHd.of hcode' htab'
      exact ⟨o2, vs2, g1, g2, g3, g4, g5, g6, g7, (Heap.SameBut.update ..).extBut _ _ n2 y1, y2⟩
    refine wpAny_pure (H _ _ _ hx ?_ ⟨_, hget, ?_, fun cv z => ?_⟩ cl)
    · rw [Heap.size_after_update]
      exact Nat.le_of_lt (Nat.lt_of_le_of_lt hc' hcode'.lt.1)
    · rw [hl]
      exact TriplesOk_snoc _ _ _ _ ht
    · rw [hl, codeAmong_snoc _ ht e] at z
      cases z
      exact cl
end
end D9_
section F1_
open PySem PySem.W PyProof.Rows PySem.W.X
theorem q1 : Builtin.notOverATurnedClass [.type "object"] = pure () := by kernel_rfl
theorem q2 : Builtin.extendedBase [.type "object"] = pure (.type "object") := by kernel_rfl
theorem q3 : Builtin.Slots.bestBase [.type "object"] = pure (.type "object") := by kernel_rfl
theorem q4 : Builtin.Slots.slotNamesOf (.type "object") = pure [] := by kernel_rfl
theorem q5 : Builtin.Slots.givesDict (.type "object") = pure false := by kernel_rfl
theorem q6 : Builtin.Slots.givesWeak (.type "object") = pure false := by kernel_rfl
theorem q7 : Builtin.Slots.varSize (.type "object") = pure false := by kernel_rfl
theorem q8 : Builtin.linearize [.type "object"] mroOf = pure [.type "object"] := by kernel_rfl
theorem q9 : Builtin.mroHook? (.type "type") = pure none := by kernel_rfl
theorem q10 : Bind.madeBy (.type "object") = pure (some "object.__new__") := by kernel_rfl
theorem q11 : isType (.type "object") = pure true := by kernel_rfl
theorem q12 : mroOf (.type "object") = pure [.type "object"] := by kernel_rfl
section
variable {w : World} {A : Around} {h : Heap} {c : Shared} {t : Nat} {E : Value → Shared → Prop} {u : Tok} {sl : Addr}
theorem lp {M : Model} {α : Type} {s : Shared} {x : Sem α} {a : α} {Q : α → Shared → Prop} (e : x = pure a) (H : Q a s) : wpAny M A x Q E s := wpAny_of_eq e H
local macro_rules | `(tactic| walk_at "tn") => `(tactic| first | (with_reducible refine lp q1 ?_) | (with_reducible refine lp q2 ?_) | (with_reducible refine lp q3 ?_) | (with_reducible refine lp q4 ?_) | (with_reducible refine lp q5 ?_) | (with_reducible refine lp q6 ?_) | (with_reducible refine lp q7 ?_) | (with_reducible refine lp q8 ?_) | (with_reducible refine lp q9 ?_) | (with_reducible refine lp q10 ?_) | (with_reducible refine lp q11 ?_) | (with_reducible refine lp q12 ?_))
theorem slots_read {es : Array DictEntry} {e : DictEntry} {Q : Builtin.Slots.Plan → Shared → Prop} (hs : LL h sl [.str (Str.ofString "obj") u]) (he : es.find? (·.key.isStr (Str.ofString "__slots__")) = some e) (hv : e.val = .ref sl)
    (hno : es.any (·.key.isStr (Str.ofString "obj")) = false) (H : ∀ h', Keeps h h' → Q { names := [Str.ofString "obj"], dict := false, weak := false, inherited := [] } (St h' c t)) :
   wpAny (model pw w) A (Builtin.Slots.read (Str.ofString "K") [.type "object"] es) Q E (St h c t) := by
  obtain ⟨n, hs⟩ := hs
  unfold Builtin.Slots.read
  repeat (first | walk_at "tn" | (with_reducible refine wpAny_bind ?_))
  rw [he]
  dsimp only
  rw [hv]
  repeat (first | walk_at "tn" | (fail_if_success (with_reducible refine wpAny_collect_seq sl (.inl rfl) hs rfl rfl ?_ ?_)); lk)
  refine wpAny_collect_seq (s := St h c t) sl (.inl rfl) hs rfl rfl (fun h' hk => ?_)
  replace H := H h' hk
  show wpAny _ _ _ _ _ (St h' c t)
  have hid : Builtin.Slots.isIdentifier (Str.ofString "obj") = some true := by kernel_rfl
  have hd1 : (Str.ofString "obj" == Str.ofString "__dict__") = false := by kernel_rfl
  have hd2 : (Str.ofString "obj" == Str.ofString "__weakref__") = false := by kernel_rfl
  have hm : Builtin.Slots.mangle (Str.ofString "K") (Str.ofString "obj") = Str.ofString "obj" := by kernel_rfl
  repeat (first | walk_at "tn" | lk)
  rw [hid]
  dsimp only
  repeat (first | walk_at "tn" | lk)
  generalize hmm : Builtin.Slots.mangle (Str.ofString "K") _ = mm
  have hm2 : mm = Str.ofString "obj" := hmm.symm.trans (by kernel_rfl)
  subst hm2
  rw [hno]
  repeat (first | walk_at "tn" | lk)
  exact H
end
end F1_
section F2_
open PySem PySem.W PyProof.Rows PySem.W.X
section
variable {w : World} {A : Around} {h : Heap} {c : Shared} {t : Nat} {E : Value → Shared → Prop} {a : Addr}
theorem ss {i : Nat} {v : Option Value} {oc : Value} {od : Option Addr} {cd : ClassData} {sl : Array (Option Value)} {Q : Unit → Shared → Prop} {sl' : Array (Option Value)} (ho : h.get? a = some ⟨oc, od, .cls cd, sl⟩) (hi : i < 100) (hq : (sl ++ Array.replicate (i + 1 - sl.size) none).setIfInBounds i v = sl')
    (H : ∀ h', h'.get? a = some ⟨oc, od, .cls cd, sl'⟩ → Heap.SameBut a h h' → Q () (St h' c t)) :
    wpAny (model pw w) A (setSlotAt a i v) Q E (St h c t) := by
  unfold setSlotAt
  rw [if_neg (by rw [sizeLine_is]; omega)]
  subst hq
  exact wpAny_updatePart ho (H _ (Heap.get?_update_self _ ho rfl) (Heap.SameBut.update ..))
theorem al {o : Obj} {Q : Addr → Shared → Prop} (hd : (o.data matches .freed) = false) (H : ∀ h' a, h'.get? a = some o → Keeps h h' → (∀ b o', h.get? b = some o' → b ≠ a) → h.get? a = none → h.objs.size < h'.objs.size → Q a (St h' c t)) :
    wpAny (model pw w) A (alloc o) Q E (St h c t) := by
  refine wpAny_alloc (H _ _ (Heap.get?_push_size _ ?_) (Keeps.push _ _) (fun b o' e z => ?_) ?_ ?_)
  · obtain ⟨oc, od, odt, osl⟩ := o
    cases odt <;> first | rfl | cases hd
  · subst z; exact absurd (Heap.lt_size e) (Nat.lt_irrefl _)
  · cases q : h.get? (St h c t).heap.objs.size with
    | none => rfl
    | some o => exact absurd (Heap.lt_size q) (Nat.lt_irrefl _)
  · rw [Heap.size_push]; exact Nat.lt_succ_self _
theorem kb {h0 h' : Heap} (k : Keeps h0 h) (s : Heap.SameBut a h h') (n : h0.get? a = none) : Keeps h0 h' := fun b o e => (s.2 b fun z => by subst z; rw [e] at n; cases n).trans (k b o e)
theorem tl {C ns : Addr} {oc : Value} {od : Option Addr} {cd : ClassData} {sl : Array (Option Value)} {kvs : List (Str × Value)} {name : Str} {r : Option Value} (hC : h.get? C = some ⟨oc, od, .cls cd, sl⟩) (hm : cd.mro = [.ref C, .type "object"]) (hn : cd.ns = ns)
    (d : DD h ns kvs) (hk : (kvs.find? (·.1 == name)) = none) (hr : fastBuiltinOwn "object" name = r) : Looks (model pw w) h (typeLookup (.ref C) name) r := by
  obtain ⟨es, n, e, x⟩ := d
  have hne : ns ≠ C := fun z => by subst z; rw [e] at hC; cases hC
  have lc : List.lookup C ([(C, (⟨oc, od, .cls cd, sl⟩ : Obj)), (ns, dictOf es n)] : Frag) = some ⟨oc, od, .cls cd, sl⟩ := by simp [List.lookup_cons]
  have ln : List.lookup ns ([(C, (⟨oc, od, .cls cd, sl⟩ : Obj)), (ns, dictOf es n)] : Frag) = some (dictOf es n) := by simp [List.lookup_cons, beq_eq_false_iff_ne.mpr hne]
  refine looks_findIn (K := [(C, ⟨oc, od, .cls cd, sl⟩), (ns, dictOf es n)]) (fun b o q => ?_) ?_
  · rw [List.lookup_cons] at q
    cases z : b == C with
    | true => rw [z] at q; cases q; rw [beq_iff_eq.mp z]; exact hC
    | false =>
      rw [z, List.lookup_cons] at q
      cases z : b == ns with
      | true => rw [z] at q; cases q; rw [beq_iff_eq.mp z]; exact e
      | false => rw [z] at q; cases q
  · have f : es.find? (·.key.isStr name) = none := by
      have := x.find (name := name)
      rw [hk] at this
      exact Option.map_eq_none_iff.mp this
    unfold findIn
    dsimp only
    rw [lc]
    dsimp only
    rw [hm]
    have o1 : ownIn [(C, (⟨oc, od, .cls cd, sl⟩ : Obj)), (ns, dictOf es n)] name (.ref C) = some none := by
      unfold ownIn
      dsimp only
      rw [lc]
      dsimp only
      rw [hn]
      unfold nsIn
      rw [ln]
      dsimp only [dictOf]
      rw [f]
      dsimp only
      rw [x.noRef]
      rfl
    unfold alongIn
    rw [o1]
    unfold alongIn ownIn alongIn
    dsimp only
    rw [hr]
    cases r <;> rfl
theorem uc {f : ClassData → ClassData} {oc : Value} {od : Option Addr} {cd : ClassData} {os : Array (Option Value)} {Q : Unit → Shared → Prop} (ho : h.get? a = some ⟨oc, od, .cls cd, os⟩)
    (hl : (f cd).subclasses.length ≤ 10 ∧ (f cd).slotNames.length ≤ 10) (H : ∀ h', h'.get? a = some ⟨oc, od, .cls (f cd), os⟩ → Heap.SameBut a h h' → Q () (St h' c t)) :
    wpAny (model pw w) A (updateCls a f) Q E (St h c t) := by
  unfold updateCls
  refine wpAny_bind (wpAny_load ho ?_)
  have e := Heap.get?_update_self (Obj.mapCls f) ho rfl
  refine wpAny_bind (wpAny_update ho (wpAny_lookBehind e ?_ (H _ e (Heap.SameBut.update ..))))
  show (if (decide ((f cd).subclasses.length > sizeLine) || decide ((f cd).slotNames.length > sizeLine)) = true then some "class:memory" else none) = none
  rw [if_neg]
  rw [sizeLine_is]
  simp only [Bool.or_eq_true, decide_eq_true_eq]
  omega
theorem Ents.any {nm : Str} : ∀ {es : List DictEntry} {kvs : List (Str × Value)}, Ents es kvs → es.any (·.key.isStr nm) = kvs.any (·.1 == nm)
  | _, _, .nil => rfl
  | _, _, .cons x => by rw [List.any_cons, List.any_cons, isStr_str, x.any]
theorem Ents.findE {nm : Str} {v : Value} : ∀ {es : List DictEntry} {kvs : List (Str × Value)}, Ents es kvs → (kvs.find? (·.1 == nm)).map (·.2) = some v → ∃ e, es.find? (·.key.isStr nm) = some e ∧ e.val = v := by
  intro es kvs x hv
  have := x.find (name := nm)
  rw [hv] at this
  obtain ⟨e, he, hv⟩ := Option.map_eq_some_iff.mp this
  exact ⟨e, he, hv⟩
theorem ns_del1 {n0 name : Str} {v0 v : Value} {kvs : List (Str × Value)} {Q : Bool → Shared → Prop} (d : DD h a ((n0, v0) :: (name, v) :: kvs)) (h0 : (n0 == name) = false)
    (H : ∀ h', DD h' a ((n0, v0) :: kvs) → Heap.SameBut a h h' → Q true (St h' c t)) : wpAny (model pw w) A (nsDel a name) Q E (St h c t) := by
  obtain ⟨es, n, e, x⟩ := d
  unfold nsDel
  refine wpAny_bind (wpAny_loadPart e (wpAny_bind ?_))
  have hh : nsHas name (dictOf es n) = pure true := by
    rw [nsHas_eq]
    show (if es.toArray.any (·.key.isStr name) = true then _ else _) = _
    rw [List.any_toArray, x.any, List.any_cons, List.any_cons, beq_self_eq_true, if_pos (by simp)]
  refine lp hh ?_
  rw [if_pos rfl]
  cases x with
  | cons x =>
    cases x with
    | cons x =>
      rename_i hs0 tk0 hs1 tk1 es
      have hd : Obj.dropName name (dictOf (⟨hs0, .str n0 tk0, v0⟩ :: ⟨hs1, .str name tk1, v⟩ :: es) n) = dictOf (⟨hs0, .str n0 tk0, v0⟩ :: es) (n + 1) := by
        rw [Obj.dropName_eq]
        have hi : (⟨hs0, .str n0 tk0, v0⟩ :: ⟨hs1, .str name tk1, v⟩ :: es : List DictEntry).toArray.findIdx? (·.key.isStr name) = some 1 := by
          rw [List.findIdx?_toArray, List.findIdx?_cons, List.findIdx?_cons, isStr_str, isStr_str, h0, beq_self_eq_true]
          rfl
        simp only [Obj.dropNameByArray, dictOf, hi]
        simp [Array.eraseIdxIfInBounds]
      exact wpAny_bind (wpAny_updatePart e (wpAny_pure (H _ ⟨_, _, (Heap.get?_update_self _ e (by rw [hd]; rfl)).trans (congrArg some hd), .cons x⟩ (Heap.SameBut.update ..))))
theorem fic {M : Model} {s : Shared} {α β : Type} {x : α} {l : List α} {init : β} {body : α → β → Sem (ForInStep β)} {Q : β → Shared → Prop}
    (H : wpAny M A (body x init) (fun st s' => match st with | .done b => Q b s' | .yield b => wpAny M A (forIn l b body) Q E s') E s) : wpAny M A (forIn (x :: l) init body) Q E s := by
  rw [List.forIn_cons]
  refine wpAny_bind (wpAny_mono H (fun st s' h => ?_) fun _ _ e => e)
  cases st with
  | done b => exact wpAny_pure h
  | yield b => exact h
theorem fin0 {M : Model} {s : Shared} {α β : Type} {init : β} {body : α → β → Sem (ForInStep β)} {Q : β → Shared → Prop} (H : Q init s) : wpAny M A (forIn ([] : List α) init body) Q E s := by
  rw [List.forIn_nil]
  exact wpAny_pure H
theorem Ents.len : ∀ {es : List DictEntry} {kvs : List (Str × Value)}, Ents es kvs → es.length = kvs.length
  | _, _, .nil => rfl
  | _, _, .cons x => by rw [List.length_cons, List.length_cons, x.len]
theorem rm {C ns : Addr} {oc : Value} {od : Option Addr} {cd : ClassData} {sl : Array (Option Value)} {kvs : List (Str × Value)} {Q : Unit → Shared → Prop} (hC : h.get? C = some ⟨oc, od, .cls cd, sl⟩) (h4 : (sl[4]?).join = some (.builtin "object.__new__")) (hm : cd.mro = [.ref C, .type "object"]) (hn : cd.ns = ns)
    (d : DD h ns kvs) (hk : (kvs.find? (·.1 == Str.ofString "__new__")) = none) (H : Q () (St h c t)) : wpAny (model pw w) A (Bind.refreshMaker C) Q E (St h c t) := by
  have l : Looks (model pw w) h (typeLookup (.ref C) (Str.ofString "__new__")) (some (.builtin "object.__new__")) := tl hC hm hn d hk (by kernel_rfl)
  unfold Bind.refreshMaker slotAt
  refine wpAny_bind (wpAny_bind (wpAny_loadPart hC (wpAny_pure ?_)))
  dsimp only
  rw [h4, if_neg (by simp)]
  refine wpAny_bind (Looks.at l ?_)
  dsimp only
  rw [if_neg (by decide +kernel)]
  exact wpAny_pure H
noncomputable def mdO (u : Tok) (C : Addr) : Obj := { cls := .type "member_descriptor", data := .fields #[.str (Str.ofString "obj") u, .ref C, .builtin "proto.slot", .builtin "proto.slot#set", .int 0 0] }
theorem inst {C ns : Addr} {oc : Value} {od : Option Addr} {cd : ClassData} {sl : Array (Option Value)} {kvs : List (Str × Value)} {Q : Unit → Shared → Prop} (hC : h.get? C = some ⟨oc, od, .cls cd, sl⟩)
    (d : DD h ns kvs) (hn : ∀ p ∈ kvs, (p.1 == Str.ofString "obj") = false) (hl : kvs.length < 100) (hs : cd.subclasses = [])
    (H : ∀ h' dA u t', h'.get? C = some ⟨oc, od, .cls { cd with hasDict := false, slotNames := [Str.ofString "obj"] }, sl⟩ → DD h' ns (kvs ++ [(Str.ofString "obj", .ref dA)]) → h'.get? dA = some (mdO u C) →
      (∀ b o, b ≠ C → b ≠ ns → h.get? b = some o → h'.get? b = some o) → h.get? dA = none → Q () (St h' c t')) :
    wpAny (model pw w) A (Builtin.Slots.install (.ref C) ns [.type "object"] { names := [Str.ofString "obj"], dict := false, weak := false }) Q E (St h c t) := by
  have hf : (kvs.find? (·.1 == Str.ofString "obj")) = none := List.find?_eq_none.mpr fun p hp => by rw [hn p hp]; decide
  unfold Builtin.Slots.install
  dsimp only
  refine wpAny_bind (fic (wpAny_bind (Looks.at (lk_dd d (r := none) (by rw [hf]; rfl)) ?_)))
  rw [if_pos (by rfl)]
  refine wpAny_bind (wpAny_mkStr ?_ (Nat.le_of_ble_eq_true rfl))
  unfold newFields
  refine wpAny_bind (wpAny_newObj_type ?_ (by size_fits))
  have e1 : (h.push { cls := .type "member_descriptor", data := .fields #[.str (Str.ofString "obj") t, .ref C, .builtin "proto.slot", .builtin "proto.slot#set", rawInt 0] }).get? h.objs.size = some (mdO t C) := Heap.get?_push_size _ rfl
  have k1 : Keeps h (h.push { cls := .type "member_descriptor", data := .fields #[.str (Str.ofString "obj") t, .ref C, .builtin "proto.slot", .builtin "proto.slot#set", rawInt 0] }) := Keeps.push _ _
  have n1 : h.get? h.objs.size = none := by
    cases q : h.get? h.objs.size with
    | none => rfl
    | some o => exact absurd (Heap.lt_size q) (Nat.lt_irrefl _)
  show wpAny _ _ (nsSetByValue ns (Str.ofString "obj") (.ref h.objs.size) >>= fun _ => _) _ _ (St (h.push { cls := .type "member_descriptor", data := .fields #[.str (Str.ofString "obj") t, .ref C, .builtin "proto.slot", .builtin "proto.slot#set", rawInt 0] }) c (t + 1))
  generalize (h.push { cls := .type "member_descriptor", data := .fields #[.str (Str.ofString "obj") t, .ref C, .builtin "proto.slot", .builtin "proto.slot#set", rawInt 0] }) = h1 at *
  generalize h.objs.size = dA at *
  have d1 := d.keeps k1
  have nC : ns ≠ C := fun z => by obtain ⟨_, _, e, _⟩ := d; rw [z, hC] at e; cases e
  have nd : dA ≠ C := fun z => by rw [z, hC] at n1; cases n1
  have nn : dA ≠ ns := fun z => by obtain ⟨_, _, e, _⟩ := d; rw [z, e] at n1; cases n1
  unfold nsSetByValue
  obtain ⟨es, n, e, x⟩ := id d1
  refine wpAny_bind (wpAny_bind (wpAny_loadPart e ?_))
  dsimp only [dictOf]
  rw [if_neg (by rw [List.size_toArray, x.len, sizeLine_is]; intro z; simp only [Bool.and_eq_true, decide_eq_true_eq] at z; omega)]
  refine ns_put (c := c) d1 hn fun h2 t2 d2 s2 => ?_
  refine wpAny_pure ?_
  dsimp only
  refine fin0 ?_
  refine wpAny_bind (fic (wpAny_bind (lp q5 ?_)))
  rw [if_neg (by decide)]
  refine wpAny_pure (fin0 ?_)
  rw [if_neg (by rw [sizeLine_is]; decide)]
  have g2 := (s2.2 C nC.symm).trans (k1 _ _ hC)
  refine uc g2 ⟨by rw [show _ = cd.subclasses from rfl, hs]; decide, Nat.le_of_ble_eq_true rfl⟩ fun h3 g3 s3 => ?_
  refine H h3 dA t _ g3 (d2.but s3 nC) ((s3.2 _ nd).trans ((s2.2 _ nn).trans e1)) (fun b o q1 q2 q => (s3.2 b q1).trans ((s2.2 b q2).trans (k1 b o q))) n1
end
end F2_
section F4_
open PySem PySem.W PyProof.Rows PySem.W.X
section
variable {w : World} {A : Around} {h : Heap} {c : Shared} {t : Nat} {E : Value → Shared → Prop} {C ns bt so : Addr} {u tq : Tok}
noncomputable def clsK (C ns bt : Addr) (u tq : Tok) : Obj := { cls := .type "type", data := .cls { name := Str.ofString "K", bases := [.type "object"], mro := [.ref C, .type "object"], ns := ns, qualname := Str.ofString "cmp_to_key.<locals>.K", hasDict := false, slotNames := [Str.ofString "obj"] }, slots := #[some (.ref bt), none, some (.str (Str.ofString "K") u), some (.str (Str.ofString "cmp_to_key.<locals>.K") tq), some (.builtin "object.__new__"), some (.bool false)] }
noncomputable def supO (C : Addr) : Obj := { cls := .type "super", dict := none, data := .fields #[.ref C, .ref C, .ref C], slots := #[] }
section
local macro_rules | `(tactic| x_close) => `(tactic| (apply_assumption; assumption))
theorem sup1 {Q : Value → Shared → Prop} (hC : h.get? C = some { cls := .type "type", dict := none, data := .cls { name := Str.ofString "K", bases := [.type "object"], mro := [.ref C, .type "object"], ns := ns, qualname := Str.ofString "cmp_to_key.<locals>.K", hasDict := false, slotNames := [Str.ofString "obj"] }, slots := #[some (.ref bt), none, some (.str (Str.ofString "K") u), some (.str (Str.ofString "cmp_to_key.<locals>.K") tq), some (.builtin "object.__new__"), some (.bool false)] })
    (H : ∀ so h', Mem h h' [] [(so, supO C)] → Q (.ref so) (St h' c t)) :
   wpAny (model pw w) A (call (.type "super") [.ref C, .ref C]) Q E (St h c t) := by
  x_run
end
noncomputable def iniO (C : Addr) : Obj := { cls := .type "builtin_function_or_method", dict := none, data := .fields #[.builtin "object.__init_subclass__", .ref C], slots := #[] }
section
local macro_rules | `(tactic| x_close) => `(tactic| (apply_assumption; assumption))
theorem cmg {Q : Value → Shared → Prop} (hC : h.get? C = some { cls := .type "type", dict := none, data := .cls { name := Str.ofString "K", bases := [.type "object"], mro := [.ref C, .type "object"], ns := ns, qualname := Str.ofString "cmp_to_key.<locals>.K", hasDict := false, slotNames := [Str.ofString "obj"] }, slots := #[some (.ref bt), none, some (.str (Str.ofString "K") u), some (.str (Str.ofString "cmp_to_key.<locals>.K") tq), some (.builtin "object.__new__"), some (.bool false)] }) (H : ∀ f h', Mem h h' [] [(f, iniO C)] → Q (.ref f) (St h' c t)) :
   wpAny (model pw w) A (call (.builtin "classmethod_descriptor.__get__") [.builtin "object.__init_subclass__", .none, .ref C]) Q E (St h c t) := by
  x_run
end
section
local macro_rules | `(tactic| x_close) => `(tactic| assumption)
theorem ini {Q : Value → Shared → Prop} {f : Addr} (hC : h.get? C = some { cls := .type "type", dict := none, data := .cls { name := Str.ofString "K", bases := [.type "object"], mro := [.ref C, .type "object"], ns := ns, qualname := Str.ofString "cmp_to_key.<locals>.K", hasDict := false, slotNames := [Str.ofString "obj"] }, slots := #[some (.ref bt), none, some (.str (Str.ofString "K") u), some (.str (Str.ofString "cmp_to_key.<locals>.K") tq), some (.builtin "object.__new__"), some (.bool false)] }) (hf : h.get? f = some { cls := .type "builtin_function_or_method", dict := none, data := .fields #[.builtin "object.__init_subclass__", .ref C], slots := #[] })
    (H : Q .none (St h c t)) :
   wpAny (model pw w) A (call (.ref f) []) Q E (St h c t) := by
  x_run
end
theorem cmg' {Q : Value → Shared → Prop} (hC : h.get? C = some (clsK C ns bt u tq)) (H : ∀ f h', Mem h h' [] [(f, iniO C)] → Q (.ref f) (St h' c t)) :
   wpAny (model pw w) A (call (.builtin "classmethod_descriptor.__get__") [.builtin "object.__init_subclass__", .none, .ref C]) Q E (St h c t) := cmg hC H
theorem c1 : classOwn (.type "object") (Str.ofString "__init_subclass__") = pure (some (.builtin "object.__init_subclass__")) := by kernel_rfl
theorem c2 : typeOf (.builtin "object.__init_subclass__") = pure (.type "classmethod_descriptor") := by kernel_rfl
theorem c3 : typeLookup (.type "classmethod_descriptor") (Str.ofString "__get__") = pure (some (.builtin "classmethod_descriptor.__get__")) := by kernel_rfl
theorem sga {Q : Fin → Shared → Prop} {tk : Tok} (KX : (KB w.params).In h) (hC : h.get? C = some (clsK C ns bt u tq)) (hso : h.get? so = some (supO C))
    (H : ∀ h' f, Keeps h h' → h'.get? f = some (iniO C) → Q (.done (.ret (.ref f))) (St h' c t)) :
   wpAny (model pw w) A (Builtin.«super.__getattribute__» ⟨[.ref so, .str (Str.ofString "__init_subclass__") tk], []⟩) Q E (St h c t) := by
  have hdt : (supO C).data = .fields #[.ref C, .ref C, .ref C] := rfl
  have f0 : (#[.ref C, .ref C, .ref C] : Array Value)[0]? = some (.ref C) := rfl
  have f1 : (#[.ref C, .ref C, .ref C] : Array Value)[1]? = some (.ref C) := rfl
  have f2 : (#[.ref C, .ref C, .ref C] : Array Value)[2]? = some (.ref C) := rfl
  have hm : Looks (model pw w) h (mroOf (.ref C)) [.ref C, .type "object"] := (Looks.ld (part := none) hC).andThen .now
  have hl : (([.ref C, .type "object"] : List Value).dropWhile (· != .ref C)).drop 1 = [.type "object"] := by simp [List.dropWhile_cons]
  have hno : Looks (model pw w) h (opaqueClassAbove (.ref C)) none := looks_opaque KX (by kernel_rfl)
  have hn : (Str.ofString "__init_subclass__" == ("__class__" : Str)) = false := by kernel_rfl
  have he : (if (Value.ref C == Value.ref C) = true then Value.none else Value.ref C) = .none := if_pos (by simp)
  unfold Builtin.«super.__getattribute__»
  repeat (first
    | (with_reducible refine wpAny_field hso hdt f0 ?_) | (with_reducible refine wpAny_field hso hdt f1 ?_) | (with_reducible refine wpAny_field hso hdt f2 ?_)
    | (with_reducible refine ks_wpAny_notOpaque hno ?_)
    | (with_reducible refine lp c1 ?_) | (with_reducible refine lp c2 ?_) | (with_reducible refine lp c3 ?_)
    | (with_reducible refine Looks.at hm ?_; rw [hl])
    | (simp only [hn, he, Bool.or_false, Bool.false_eq_true, if_false])
    | (with_reducible refine cmg' hC fun f h' D => ?_)
    | wp_step
    | dsimp only)
  exact H h' f (mem_keeps D) (D.at 0 f _ rfl)
theorem sup2 {Q : Value → Shared → Prop} (KX : (KB w.params).In h) (hC : h.get? C = some (clsK C ns bt u tq)) (hso : h.get? so = some (supO C))
    (H : ∀ h' t' f, Keeps h h' → h'.get? f = some (iniO C) → Q (.ref f) (St h' c t')) :
   wpAny (model pw w) A (getAttr (.ref so) (Str.ofString "__init_subclass__")) Q E (St h c t) := by
  have hlk := F.ks_slot_super_ga.lookup
  have hT : ∀ t', (St h c t').TypeIs (.ref so) "super" := fun _ => ⟨_, hso, rfl⟩
  unfold getAttr getAttrBy
  refine wpAny_bind (wpAny_mkText (wpAny_holding (wpAny_bind (wpAny_typeOf (hT _) (wpAny_bind (wpAny_of_eq hlk ?_))))))
  show wpAny _ _ (getAttrByItsOwn (.ref so) (.str (Str.ofString "__init_subclass__") t) (.type "super") (.builtin "super.__getattribute__") true false) _ _ _
  unfold getAttrByItsOwn hookBefore callGetattribute boundAndCalled
  refine wpAny_bind (wpAny_of_eq (show (if onTheHeap (.type "super") then typeLookup (.type "super") "__getattr__" else pure none) = pure none from rfl) ?_)
  refine wpAny_bind (wpAny_attempt (wpAny_holding ?_))
  show wpAny _ _ (bindSpecial (.builtin "super.__getattribute__") (.ref so) >>= _) _ _ _
  refine wpAny_bind (wpAny_of_eq (F.ks_slot_super_ga.bind _) ?_)
  refine wpAny_call_entry F.ks_slot_super_ga (hT _) F.ks_entry_super_ga (sga (c := c) (t := t + 1) KX hC hso fun h' f k hf => ⟨_, rfl, ?_⟩) (F.ks_gaArgs_super _ _)
  exact wpAny_pure (H _ _ _ k hf)
theorem Ents.mem : ∀ {es : List DictEntry} {kvs : List (Str × Value)}, Ents es kvs → ∀ e ∈ es, ∃ hs nm tk v, e = ⟨hs, .str nm tk, v⟩ ∧ (nm, v) ∈ kvs
  | _, _, .nil, e, he => by cases he
  | _, _, .cons x, e, he => by
    rcases List.mem_cons.mp he with rfl | he
    · exact ⟨_, _, _, _, rfl, .head _⟩
    · obtain ⟨a, b, c, d, q, r⟩ := x.mem e he
      exact ⟨a, b, c, d, q, .tail _ r⟩
theorem fil {M : Model} {s : Shared} {α β : Type} {init : β} {body : α → β → Sem (ForInStep β)} {Q : β → Shared → Prop} : ∀ {l : List α}, (∀ e ∈ l, ∀ Q' : ForInStep β → Shared → Prop, Q' (.yield init) s → wpAny M A (body e init) Q' E s) → Q init s → wpAny M A (forIn l init body) Q E s
  | [], _, hq => fin0 hq
  | x :: l, H, hq => fic (H x (.head _) _ (fil (fun e he => H e (.tail _ he)) hq))
theorem fia {M : Model} {s : Shared} {α β : Type} {init : β} {body : α → β → Sem (ForInStep β)} {Q : β → Shared → Prop} {l : List α} (H : ∀ e ∈ l, ∀ Q' : ForInStep β → Shared → Prop, Q' (.yield init) s → wpAny M A (body e init) Q' E s) (hq : Q init s) : wpAny M A (forIn l.toArray init body) Q E s := by
  rw [List.forIn_toArray]
  exact fil H hq
structure PV (w : World) (h : Heap) (v : Value) : Prop where
  l : ∀ nm tk, Builtin.laidUnderItsOwnName (.str nm tk) v = false
  s : Looks (model pw w) h (specialOf v (Str.ofString "__set_name__")) none
theorem pv_str {s : Str} {tk : Tok} : PV w h (.str s tk) := ⟨fun _ _ => rfl, Looks.of_pure (by kernel_rfl)⟩
theorem pv_int {i : Int} {tk : Tok} : PV w h (.int i tk) := ⟨fun _ _ => rfl, Looks.of_pure (by kernel_rfl)⟩
theorem pv_none : PV w h .none := ⟨fun _ _ => rfl, Looks.of_pure (by kernel_rfl)⟩
theorem pv_ref {a : Addr} {o : Obj} {T : String} (ho : h.get? a = some o) (hc : o.cls = .type T) (hT : fastLookup T (Str.ofString "__set_name__") = some none) : PV w h (.ref a) := ⟨fun _ _ => rfl, (Looks.ld ho).andThen (by
  show Looks _ _ (typeLookup o.cls _) _
  rw [hc]
  refine Looks.of_pure ?_
  rw [typeLookup_type, builtinLookup_eq_fast, hT])⟩
end
end F4_
section F3_
open PySem PySem.W PyProof.Rows PySem.W.X
noncomputable def kvs12 (um vq vf : Value) (sl f4 f5 f6 f7 f8 f9 st : Addr) : List (Str × Value) := [(Str.ofString "__module__", um), (Str.ofString "__qualname__", vq), (Str.ofString "__firstlineno__", vf), (Str.ofString "__slots__", .ref sl), (Str.ofString "__init__", .ref f4), (Str.ofString "__lt__", .ref f5), (Str.ofString "__gt__", .ref f6), (Str.ofString "__eq__", .ref f7), (Str.ofString "__le__", .ref f8), (Str.ofString "__ge__", .ref f9), (Str.ofString "__hash__", .none), (Str.ofString "__static_attributes__", .ref st)]
local macro_rules | `(tactic| walk_at "dz") => `(tactic| dsimp (config := {zeta := false, zetaUnused := false, zetaHave := false}) only)
noncomputable def kvs13 (um vf : Value) (sl f4 f5 f6 f7 f8 f9 st dA : Addr) : List (Str × Value) := [(Str.ofString "__module__", um), (Str.ofString "__firstlineno__", vf), (Str.ofString "__slots__", .ref sl), (Str.ofString "__init__", .ref f4), (Str.ofString "__lt__", .ref f5), (Str.ofString "__gt__", .ref f6), (Str.ofString "__eq__", .ref f7), (Str.ofString "__le__", .ref f8), (Str.ofString "__ge__", .ref f9), (Str.ofString "__hash__", .none), (Str.ofString "__static_attributes__", .ref st), (Str.ofString "obj", .ref dA), (Str.ofString "__doc__", .none)]
noncomputable def IsF (h : Heap) (f : Addr) : Prop := ∃ o, h.get? f = some o ∧ o.cls = .type "function"
theorem tnew {w : World} {A : Around} {h : Heap} {c : Shared} {t : Nat} {Q : Fin → Shared → Prop} {E : Value → Shared → Prop} {bt a2 sl st : Addr} {u tq su tm tf : Tok} {sm : Str} {fl : Int} {ot : Obj} {f4 f5 f6 f7 f8 f9 : Addr}
    (KX : (KB w.params).In h) (hbt : h.get? bt = some { cls := .type "tuple", data := .seq #[.type "object"] }) (na2 : a2 ≠ sysModules) (hs : LL h sl [.str (Str.ofString "obj") su])
    (hst : h.get? st = some ot) (hot : ot.cls = .type "tuple") (F4 : IsF h f4) (F5 : IsF h f5) (F6 : IsF h f6) (F7 : IsF h f7) (F8 : IsF h f8) (F9 : IsF h f9)
    (d : DD h a2 (kvs12 (.str sm tm) (.str (Str.ofString "cmp_to_key.<locals>.K") tq) (.int fl tf) sl f4 f5 f6 f7 f8 f9 st))
    (H : ∀ h' t' C ns dA ud, Keeps h h' → h'.get? C = some (clsK C ns bt u tq) → DD h' ns (kvs13 (.str sm tm) (.int fl tf) sl f4 f5 f6 f7 f8 f9 st dA) → h'.get? dA = some (mdO ud C) →
      h.get? C = none → h.get? ns = none → h.get? dA = none → ns ≠ C → dA ≠ C → dA ≠ ns → Q (.done (.ret (.ref C))) (St h' c t')) :
    wpAny (model pw w) A (Builtin.«type.__new__» ⟨[.type "type", .str (Str.ofString "K") u, .ref bt, .ref a2], []⟩) Q E (St h c t) := by
  obtain ⟨es, n, ha2, ents⟩ := d
  have tyo : ∀ hh, Looks (model pw w) hh (typeOf (.type "object")) (.type "type") := fun hh => Looks.of_pure (by kernel_rfl)
  have stt : ∀ hh, Looks (model pw w) hh (isSubtype (.type "type") (.type "type")) true := fun hh => Looks.of_pure (by rw [isSubtype_type]; kernel_rfl)
  have e1 : isSubtype (.type "tuple") (.type "tuple") = pure true := by rw [isSubtype_type]; kernel_rfl
  have e2 : isSubtype (.type "dict") (.type "dict") = pure true := by rw [isSubtype_type]; kernel_rfl
  have itu : Looks (model pw w) h (isInstance (.ref bt) (.type "tuple")) true := (Looks.ld hbt).andThen (Looks.of_pure e1)
  have idi : Looks (model pw w) h (isInstance (.ref a2) (.type "dict")) true := (Looks.ld ha2).andThen (Looks.of_pure e2)
  have sgi : Looks (model pw w) h (specialOf (.ref a2) (Str.ofString "__iter__")) (some (.builtin "dict.__iter__")) := (Looks.ld ha2).andThen (Looks.of_pure (by kernel_rfl))
  have sqi : Looks (model pw w) h (seqItems? (.ref bt)) (some #[.type "object"]) := (Looks.ld hbt).andThen .now
  have den : Looks (model pw w) h (dictEntries a2) es.toArray := (Looks.ld ha2).andThen .now
  unfold Builtin.«type.__new__»
  k_node
  with_reducible refine wpAny_bind ?_
  refine lp (a := some (Str.ofString "K")) rfl ?_
  try walk_at "dz"
  refine wpAny_bind (Looks.at itu ?_)
  extract_lets (config := {onlyGivenNames := true, merge := false, underBinder := false}) j1
  clear_value (ej1 : j1 = _)
  k_node
  subst ej1
  try walk_at "dz"
  refine wpAny_bind (Looks.at idi ?_)
  extract_lets (config := {onlyGivenNames := true, merge := false, underBinder := false}) j2
  clear_value (ej2 : j2 = _)
  k_node
  subst ej2
  try walk_at "dz"
  refine wpAny_bind (Looks.at sqi ?_)
  extract_lets (config := {onlyGivenNames := true, merge := false, underBinder := false}) j3
  clear_value (ej3 : j3 = _)
  subst ej3
  try walk_at "dz"
  simp (config := {zeta := false, zetaUnused := false, zetaHave := false}) only [Option.getD_some]
  extract_lets (config := {onlyGivenNames := true, merge := false, underBinder := false}) j4
  clear_value (ej4 : j4 = _)
  k_node
  subst ej4
  try walk_at "dz"
  refine wpAny_bind (fic (wpAny_bind (lp q11 ?_)))
  k_node
  refine wpAny_pure (fin0 ?_)
  refine wpAny_bind (fic ?_)
  extract_lets (config := {onlyGivenNames := true, merge := false, underBinder := false}) j5
  clear_value (ej5 : j5 = _)
  subst ej5
  try walk_at "dz"
  refine wpAny_bind (Looks.at (tyo _) (wpAny_bind (Looks.at (stt _) ?_)))
  k_node
  refine wpAny_pure (fin0 ?_)
  extract_lets (config := {onlyGivenNames := true, merge := false, underBinder := false}) j6
  clear_value (ej6 : j6 = _)
  subst ej6
  try walk_at "dz"
  extract_lets (config := {onlyGivenNames := true, merge := false, underBinder := false}) j7
  clear_value (ej7 : j7 = _)
  k_node
  subst ej7
  try walk_at "dz"
  extract_lets (config := {onlyGivenNames := true, merge := false, underBinder := false}) j8
  clear_value (ej8 : j8 = _)
  subst ej8
  try walk_at "dz"
  extract_lets (config := {onlyGivenNames := true, merge := false, underBinder := false}) j9
  clear_value (ej9 : j9 = _)
  subst ej9
  try walk_at "dz"
  simp (config := {zeta := false, zetaUnused := false, zetaHave := false}) only [List.isEmpty_cons, Bool.false_eq_true, if_false]
  refine wpAny_bind (lp q1 (wpAny_bind (lp q2 ?_)))
  extract_lets (config := {onlyGivenNames := true, merge := false, underBinder := false}) j10
  clear_value (ej10 : j10 = _)
  rw [if_neg (by simpa using na2)]
  subst ej10
  try walk_at "dz"
  refine wpAny_bind (Looks.at den (wpAny_bind (Looks.at sgi ?_)))
  extract_lets (config := {onlyGivenNames := true, merge := false, underBinder := false}) j11
  clear_value (ej11 : j11 = _)
  rw [if_pos (by simp)]
  refine wpAny_bind (wpAny_pure ?_)
  subst ej11
  try walk_at "dz"
  extract_lets (config := {onlyGivenNames := true, merge := false, underBinder := false}) j12
  clear_value (ej12 : j12 = _)
  subst ej12
  try walk_at "dz"
  obtain ⟨e0, he0, hv0⟩ := ents.findE (nm := Str.ofString "__slots__") (v := .ref sl) (by kernel_rfl)
  have hno : es.any (·.key.isStr (Str.ofString "obj")) = false := ents.any.trans (by kernel_rfl)
  refine wpAny_bind (wpAny_holding (slots_read hs (by rw [List.find?_toArray]; exact he0) hv0 (by rw [List.any_toArray]; exact hno) fun h1 k1 => ?_))
  have hlen : es.length = 12 := ents.len.trans (by kernel_rfl)
  refine wpAny_bind (wpAny_newObj_type ?_ (by show es.toArray.size ≤ _; rw [List.size_toArray, hlen, sizeLine_is]; decide))
  try walk_at "dz"
  have d2 : DD (h1.push { cls := .type "dict", data := .dict es.toArray }) h1.objs.size _ := ⟨es, 0, Heap.get?_push_size _ rfl, ents⟩
  have k2 : Keeps h (h1.push { cls := .type "dict", data := .dict es.toArray }) := Keeps.trans k1 (Keeps.push _ _)
  have n2 : h.get? h1.objs.size = none := by
    cases q : h.get? h1.objs.size with
    | none => rfl
    | some o => exact absurd (Heap.lt_size (k1 _ _ q)) (Nat.lt_irrefl _)
  show wpAny _ _ _ _ _ (St (h1.push { cls := .type "dict", data := .dict es.toArray }) c t)
  generalize (h1.push { cls := .type "dict", data := .dict es.toArray }) = h2 at *
  generalize h1.objs.size = ns at *
  have hmod : es.toArray.any (·.key.isStr (Str.ofString "__module__")) = true := by rw [List.any_toArray]; exact ents.any.trans (by kernel_rfl)
  have hdel : es.toArray.any (·.key.isStr (Str.ofString "__del__")) = false := by rw [List.any_toArray]; exact ents.any.trans (by kernel_rfl)
  extract_lets (config := {onlyGivenNames := true, merge := false, underBinder := false}) j13
  clear_value (ej13 : j13 = _)
  rw [if_neg (by rw [hmod]; decide)]
  subst ej13
  try walk_at "dz"
  with_reducible refine wpAny_bind ?_
  k_node
  rw [if_neg (by decide +kernel)]
  refine wpAny_pure ?_
  extract_lets (config := {onlyGivenNames := true, merge := false, underBinder := false}) j14
  clear_value (ej14 : j14 = _)
  rw [if_neg (by decide +kernel)]
  subst ej14
  try walk_at "dz"
  refine wpAny_bind (Looks.at (lk_dd d2 (r := some (.str (Str.ofString "cmp_to_key.<locals>.K") tq)) (by kernel_rfl)) ?_)
  extract_lets (config := {onlyGivenNames := true, merge := false, underBinder := false}) j15
  clear_value (ej15 : j15 = _)
  subst ej15
  try walk_at "dz"
  refine wpAny_bind (Looks.at (lk_dd d2 (r := some (.str (Str.ofString "cmp_to_key.<locals>.K") tq)) (by kernel_rfl)) ?_)
  extract_lets (config := {onlyGivenNames := true, merge := false, underBinder := false}) j16
  clear_value (ej16 : j16 = _)
  try walk_at "dz"
  refine wpAny_bind (lp (a := some (Str.ofString "cmp_to_key.<locals>.K")) rfl ?_)
  try walk_at "dz"
  refine wpAny_bind (wpAny_pure ?_)
  subst ej16
  try walk_at "dz"
  refine wpAny_bind (Looks.at (lk_dd d2 (r := none) (by kernel_rfl)) ?_)
  extract_lets (config := {onlyGivenNames := true, merge := false, underBinder := false}) j17
  clear_value (ej17 : j17 = _)
  try walk_at "dz"
  subst ej17
  try walk_at "dz"
  refine wpAny_bind (al rfl fun h3 C g3 k3 b3 n3 z3 => ?_)
  have nsC : ns ≠ C := let ⟨_, _, e, _⟩ := d2; b3 _ _ e
  have hC : h.get? C = none := by
    cases q : h.get? C with
    | none => rfl
    | some o => exact absurd rfl (b3 _ _ (k2 _ _ q))
  have d3 := d2.keeps k3
  replace k3 := Keeps.trans k2 k3
  clear b3 n3 d2 k2
  extract_lets (config := {onlyGivenNames := true, merge := false, underBinder := false}) j18
  clear_value (ej18 : j18 = _)
  try walk_at "dz"
  subst ej18
  try walk_at "dz"
  extract_lets (config := {onlyGivenNames := true, merge := false, underBinder := false}) j19
  clear_value (ej19 : j19 = _)
  subst ej19
  try walk_at "dz"
  extract_lets (config := {onlyGivenNames := true, merge := false, underBinder := false}) j20
  clear_value (ej20 : j20 = _)
  k_node
  refine wpAny_bind (ss (sl' := #[some (.ref bt)]) g3 (by decide) (by kernel_rfl) fun h4 g4 s4 => ?_)
  have d4 := d3.but s4 nsC; have k4 := kb k3 s4 hC; clear g3 d3 k3 s4
  subst ej20
  try walk_at "dz"
  refine wpAny_bind (ss (sl' := #[some (.ref bt), none, some (.str (Str.ofString "K") u)]) g4 (by decide) (by kernel_rfl) fun h5 g5 s5 => ?_)
  have d5 := d4.but s5 nsC; have k5 := kb k4 s5 hC; clear g4 d4 k4 s5
  extract_lets (config := {onlyGivenNames := true, merge := false, underBinder := false}) j21
  clear_value (ej21 : j21 = _)
  try walk_at "dz"
  dsimp (config := {zeta := false, zetaUnused := false, zetaHave := false}) only [Option.orElse]
  refine wpAny_bind (ss (sl' := #[some (.ref bt), none, some (.str (Str.ofString "K") u), some (.str (Str.ofString "cmp_to_key.<locals>.K") tq)]) g5 (by decide) (by kernel_rfl) fun h6 g6 s6 => ?_)
  have d6 := d5.but s6 nsC; have k6 := kb k5 s6 hC; clear g5 d5 k5 s6
  subst ej21
  try walk_at "dz"
  refine wpAny_bind (ns_del1 d6 (by kernel_rfl) fun h7 d7 s7 => ?_)
  have g7 := (s7.2 C nsC.symm).trans g6; have k7 := kb k6 s7 n2; clear g6 d6 k6 s7
  refine wpAny_bind (Looks.at (lk_dd d7 (name := Str.ofString "__new__") (r := none) (by kernel_rfl)) ?_)
  extract_lets (config := {onlyGivenNames := true, merge := false, underBinder := false}) j22
  clear_value (ej22 : j22 = _)
  try walk_at "dz"
  subst ej22
  try walk_at "dz"
  refine wpAny_bind (fic ?_)
  refine wpAny_bind (Looks.at (lk_dd d7 (name := Str.ofString "__init_subclass__") (r := none) (by kernel_rfl)) ?_)
  try walk_at "dz"
  refine wpAny_pure (fic ?_)
  refine wpAny_bind (Looks.at (lk_dd d7 (name := Str.ofString "__class_getitem__") (r := none) (by kernel_rfl)) ?_)
  try walk_at "dz"
  refine wpAny_pure (fin0 ?_)
  refine wpAny_bind (Looks.at (lk_dd d7 (name := Str.ofString "__classcell__") (r := none) (by kernel_rfl)) ?_)
  extract_lets (config := {onlyGivenNames := true, merge := false, underBinder := false}) j23
  clear_value (ej23 : j23 = _)
  try walk_at "dz"
  subst ej23
  try walk_at "dz"
  refine wpAny_bind (Looks.at (lk_dd d7 (name := Str.ofString "__classdictcell__") (r := none) (by kernel_rfl)) ?_)
  extract_lets (config := {onlyGivenNames := true, merge := false, underBinder := false}) j24
  clear_value (ej24 : j24 = _)
  try walk_at "dz"
  subst ej24
  try walk_at "dz"
  refine wpAny_bind (lp q9 ?_)
  extract_lets (config := {onlyGivenNames := true, merge := false, underBinder := false}) j25
  clear_value (ej25 : j25 = _)
  try walk_at "dz"
  refine wpAny_bind (lp q8 (wpAny_bind (wpAny_pure ?_)))
  subst ej25
  try walk_at "dz"
  have hf : List.filter (fun x => x != Value.ref C) [Value.ref C, Value.type "object"] = [Value.type "object"] := by simp [List.filter_cons]
  with_reducible refine wpAny_bind ?_
  rw [hf]
  refine lp (a := false) (by kernel_rfl) ?_
  refine wpAny_bind (uc g7 ⟨Nat.zero_le _, Nat.zero_le _⟩ fun h8 g8 s8 => ?_)
  have d8 := d7.but s8 nsC; have k8 := kb k7 s8 hC; clear g7 d7 k7 s8
  rw [hdel] at g8
  refine wpAny_bind (lp q10 ?_)
  refine wpAny_bind (ss (sl' := #[some (.ref bt), none, some (.str (Str.ofString "K") u), some (.str (Str.ofString "cmp_to_key.<locals>.K") tq), some (.builtin "object.__new__")]) g8 (by decide) (by kernel_rfl) fun h9 g9 s9 => ?_)
  have d9 := d8.but s9 nsC; have k9 := kb k8 s9 hC; clear g8 d8 k8 s9
  refine wpAny_bind (rm (ns := ns) g9 rfl rfl rfl d9 (by kernel_rfl) ?_)
  refine wpAny_bind (inst g9 d9 (no_nm (by kernel_rfl)) (by show 11 < 100; decide) rfl fun h10 dA ud t10 g10 d10 m10 x10 nA => ?_)
  have k10 : Keeps h h10 := fun b o e => x10 b o (fun z => by subst z; rw [e] at hC; cases hC) (fun z => by subst z; rw [e] at n2; cases n2) (k9 b o e)
  have hA : h.get? dA = none := by
    cases q : h.get? dA with
    | none => rfl
    | some o => have := k9 _ _ q; rw [nA] at this; cases this
  have dC : dA ≠ C := fun z => by subst z; rw [nA] at g9; cases g9
  have dn : dA ≠ ns := fun z => by subst z; obtain ⟨_, _, e, _⟩ := d9; rw [nA] at e; cases e
  clear g9 d9 k9 x10 nA
  refine wpAny_bind (lp q6 ?_)
  refine wpAny_bind (ss (sl' := #[some (.ref bt), none, some (.str (Str.ofString "K") u), some (.str (Str.ofString "cmp_to_key.<locals>.K") tq), some (.builtin "object.__new__"), some (.bool false)]) g10 (by decide) (by kernel_rfl) fun h11 g11 s11 => ?_)
  have d11 := d10.but s11 nsC; have k11 := kb k10 s11 hC; have m11 := (s11.2 dA dC).trans m10; clear g10 d10 k10 s11 m10
  extract_lets (config := {onlyGivenNames := true, merge := false, underBinder := false}) j26
  clear_value (ej26 : j26 = _)
  try k_node
  subst ej26
  try walk_at "dz"
  extract_lets (config := {onlyGivenNames := true, merge := false, underBinder := false}) j27
  clear_value (ej27 : j27 = _)
  try k_node
  subst ej27
  try walk_at "dz"
  refine wpAny_bind (Looks.at (lk_dd d11 (name := Str.ofString "__doc__") (r := none) (by kernel_rfl)) ?_)
  extract_lets (config := {onlyGivenNames := true, merge := false, underBinder := false}) j28
  clear_value (ej28 : j28 = _)
  rw [if_pos (by rfl)]
  refine wpAny_bind (ns_put (c := c) d11 (no_nm (by kernel_rfl)) fun h12 t12 d12 s12 => ?_)
  have g12 := (s12.2 C nsC.symm).trans g11; have m12 := (s12.2 dA dn).trans m11; have k12 := kb k11 s12 n2; clear g11 d11 k11 s12 m11
  subst ej28
  try walk_at "dz"
  refine wpAny_bind (Looks.at (lk_dd d12 (name := Str.ofString "__eq__") (r := some (.ref f7)) (by kernel_rfl)) ?_)
  extract_lets (config := {onlyGivenNames := true, merge := false, underBinder := false}) j29
  clear_value (ej29 : j29 = _)
  rw [if_pos (by rfl)]
  refine wpAny_bind (Looks.at (lk_dd d12 (name := Str.ofString "__hash__") (r := some .none) (by kernel_rfl)) ?_)
  rw [if_neg (by decide)]
  subst ej29
  try walk_at "dz"
  replace g12 : h12.get? C = some (clsK C ns bt u tq) := g12
  refine wpAny_bind (fic ?_)
  extract_lets (config := {onlyGivenNames := true, merge := false, underBinder := false}) j30
  clear_value (ej30 : j30 = _)
  try walk_at "dz"
  subst ej30
  try walk_at "dz"
  refine wpAny_bind (lp (a := ()) (by kernel_rfl) (wpAny_pure (fin0 ?_)))
  extract_lets (config := {onlyGivenNames := true, merge := false, underBinder := false}) j31
  clear_value (ej31 : j31 = _)
  subst ej31
  try walk_at "dz"
  refine wpAny_bind (wpAny_tryCatch (wpAny_holding ?_))
  obtain ⟨es3, nn, gd, ents3⟩ := id d12
  have den3 : Looks (model pw w) h12 (dictEntries ns) es3.toArray := (Looks.ld gd).andThen .now
  refine wpAny_bind (Looks.at den3 (wpAny_bind (fia (fun e he Q' hq => ?_) ?_)))
  · obtain ⟨_, nm, tk, v, rfl, _⟩ := ents3.mem e he
    extract_lets (config := {onlyGivenNames := true, merge := false, underBinder := false}) j32
    clear_value (ej32 : j32 = _)
    subst ej32
    try walk_at "dz"
    refine wpAny_bind (lp (a := some nm) rfl ?_)
    k_node
    exact wpAny_pure hq
  extract_lets (config := {onlyGivenNames := true, merge := false, underBinder := false}) j33
  clear_value (ej33 : j33 = _)
  subst ej33
  try walk_at "dz"
  extract_lets (config := {onlyGivenNames := true, merge := false, underBinder := false}) j34
  clear_value (ej34 : j34 = _)
  k_node
  subst ej34
  try walk_at "dz"
  refine wpAny_bind (Looks.at den3 (wpAny_bind (fia (fun e he Q' hq => ?_) ?_)))
  · obtain ⟨_, nm, tk, v, rfl, hm⟩ := ents3.mem e he
    have isf : ∀ f, IsF h f → PV w h12 (.ref f) := fun f ⟨o, a, b⟩ => pv_ref (k12 _ _ a) b (by kernel_rfl)
    have pv : PV w h12 v := by
      have hm' : (nm, v) ∈ kvs13 (.str sm tm) (.int fl tf) sl f4 f5 f6 f7 f8 f9 st dA := hm
      simp only [kvs13, List.mem_cons, Prod.mk.injEq, List.not_mem_nil, or_false] at hm'
      obtain ⟨ns', hs'⟩ := hs
      rcases hm' with ⟨_, rfl⟩ | ⟨_, rfl⟩ | ⟨_, rfl⟩ | ⟨_, rfl⟩ | ⟨_, rfl⟩ | ⟨_, rfl⟩ | ⟨_, rfl⟩ | ⟨_, rfl⟩ | ⟨_, rfl⟩ | ⟨_, rfl⟩ | ⟨_, rfl⟩ | ⟨_, rfl⟩ | ⟨_, rfl⟩
      · exact pv_str
      · exact pv_int
      · exact pv_ref (k12 _ _ hs') rfl (by kernel_rfl)
      · exact isf _ F4
      · exact isf _ F5
      · exact isf _ F6
      · exact isf _ F7
      · exact isf _ F8
      · exact isf _ F9
      · exact pv_none
      · exact pv_ref (k12 _ _ hst) hot (by kernel_rfl)
      · exact pv_ref m12 rfl (by kernel_rfl)
      · exact pv_none
    rw [if_neg (by rw [pv.l]; decide)]
    refine wpAny_bind (Looks.at pv.s ?_)
    try walk_at "dz"
    exact wpAny_pure hq
  refine wpAny_bind (sup1 g12 fun so h20 D20 => ?_)
  have k20 := mem_keeps D20
  refine wpAny_bind (wpAny_holding (sup2 (KX.keeps (Keeps.trans k12 k20)) (k20 _ _ g12) (D20.at 0 so _ rfl) fun h21 t21 f k21 hf => ?_))
  refine wpAny_bind (ini (k21 _ _ (k20 _ _ g12)) hf ?_)
  refine wpAny_pure (wpAny_pure ?_)
  have k22 : Keeps h12 h21 := Keeps.trans k20 k21
  exact H h21 _ C ns dA ud (Keeps.trans k12 k22) (k22 _ _ g12) (d12.keeps k22) (k22 _ _ m12) hC n2 hA nsC dC dn
end F3_
section F5_
open PySem PySem.W PyProof.Rows PySem.W.X
theorem t_mro : mroOf (.type "type") = pure [.type "type", .type "object"] := by rw [mroOf_type]; kernel_rfl
theorem t_made : Bind.madeBy (.type "type") = pure (some "type.__new__") := by kernel_rfl
theorem t_slot : PySem.Slot "type" "__init__" "type.__init__" := .of (owner := "type") (n := "__init__") (by rw [typeLookup_type, builtinLookup_eq_fast]; kernel_rfl) (by decide +kernel) (by decide +kernel) (by decide +kernel)
  (by first | exact .inl (by decide +kernel) | exact .inr (by decide +kernel)) (by rw [isSubtype_type]; kernel_rfl)
theorem t_chk (a b d : Value) : checkTypeCall "type" ⟨[a, b, d], []⟩ = pure () := by kernel_rfl
theorem t_newCall (a b d : Value) : checkBuiltinCall "type.__new__" ⟨[.type "type", a, b, d], []⟩ = pure () := by kernel_rfl
theorem t_entry_new : entryFor table "type.__new__" = some Builtin.«type.__new__» := entryFor_of_tree (by kernel_rfl)
theorem t_entry_init : entryFor table "type.__init__" = some Builtin.«type.__init__» := entryFor_of_tree (by kernel_rfl)
theorem t_plain : plainId "type.__new__" = true := by decide +kernel
theorem t_initArgs (o a b d : Value) : argsOk "type.__init__" ⟨[o, a, b, d], []⟩ := by unfold argsOk; kernel_rfl
theorem t_can : ((Manifest.find? "type").bind (·.mro.findSome? fun t => (Manifest.find? t).bind fun b => if b.noNew then some true else if b.attrs.any (·.1 == "__new__") then some false else none)).getD false = false := by decide +kernel
theorem t_sub : isSubtype (.type "type") (.type "type") = pure true := by rw [isSubtype_type]; kernel_rfl
theorem type_spec {w : World} {A : Around} {h : Heap} {c : Shared} {t : Nat} {Q : Value → Shared → Prop} {E : Value → Shared → Prop} {bt a2 sl st : Addr} {u tq su tm tf : Tok} {sm : Str} {fl : Int} {ot : Obj} {f4 f5 f6 f7 f8 f9 : Addr}
    (KX : (KB w.params).In h) (hbt : h.get? bt = some { cls := .type "tuple", data := .seq #[.type "object"] }) (na2 : a2 ≠ sysModules) (hs : LL h sl [.str (Str.ofString "obj") su])
    (hst : h.get? st = some ot) (hot : ot.cls = .type "tuple") (F4 : IsF h f4) (F5 : IsF h f5) (F6 : IsF h f6) (F7 : IsF h f7) (F8 : IsF h f8) (F9 : IsF h f9)
    (d : DD h a2 (kvs12 (.str sm tm) (.str (Str.ofString "cmp_to_key.<locals>.K") tq) (.int fl tf) sl f4 f5 f6 f7 f8 f9 st))
    (H : ∀ h' t' C ns dA ud, Keeps h h' → h'.get? C = some (clsK C ns bt u tq) → DD h' ns (kvs13 (.str sm tm) (.int fl tf) sl f4 f5 f6 f7 f8 f9 st dA) → h'.get? dA = some (mdO ud C) →
      h.get? C = none → h.get? ns = none → h.get? dA = none → ns ≠ C → dA ≠ C → dA ≠ ns → Q (.ref C) (St h' c t')) :
    wpAny (model pw w) A (call (.type "type") [.str (Str.ofString "K") u, .ref bt, .ref a2]) Q E (St h c t) := by
  have h1 := t_mro
  have h2 := t_made
  have h3 := t_chk (.str (Str.ofString "K") u) (.ref bt) (.ref a2)
  have h4 := t_can
  have h5 := t_sub
  refine wpAny_call (codeAny_of_tree ?_)
  show wpAny _ _ (callAny (.type "type") _) _ _ _
  refine wpAny_pure ⟨Code.quiet_builtin _ (by decide +kernel), codeAny_builtin F.entry_type_call ?_⟩
  rw [Around.under_plain (weight_type_call_type "type" _ []) rfl]
  repeat (any_goals (first | assumption | wp_step))
  refine codeAny_of_tree ?_
  show wpAny _ A.in1.in1 (do checkBuiltinCall "type.__new__" ⟨[.type "type", .str (Str.ofString "K") u, .ref bt, .ref a2], []⟩; again (.builtin "type.__new__" ⟨[.type "type", .str (Str.ofString "K") u, .ref bt, .ref a2], []⟩)) _ _ (St h c t)
  refine wpAny_bind (wpAny_of_eq (t_newCall _ _ _) (wpAny_pure ⟨plainId_quiet t_plain _, codeAny_builtin t_entry_new ?_⟩))
  rw [Around.under_plainId t_plain _]
  refine tnew (c := c) KX hbt na2 hs hst hot F4 F5 F6 F7 F8 F9 d fun h' t' C ns dA ud k1 g1 d1 m1 n1 n2 n3 z1 z2 z3 => ?_
  have hT : (St h' c t').TypeIs (.ref C) "type" := ⟨_, g1, rfl⟩
  have hli := t_slot.lookup
  have hbi := t_slot.bind (.ref C)
  dsimp only
  repeat (any_goals (first | assumption | wp_step))
  refine codeAny_call_builtin t_slot.plain t_entry_init (t_slot.check _ _ _ _ _ _ _ _ hT (t_initArgs _ _ _ _) ?_)
  unfold Builtin.«type.__init__»
  repeat (any_goals (first | assumption | wp_step))
  exact H h' t' C ns dA ud k1 g1 d1 m1 n1 n2 n3 z1 z2 z3
end F5_
section E0_
open PySem PySem.W PyProof.Rows PySem.W.X
variable {N : NB}
noncomputable def Ok (N : NB) (h h' : Heap) : Prop := ∀ b o, h.get? b = some o → b ≠ 16 → (N.1 ≤ b → ∀ ps, o ≠ tabObj ps) → h'.get? b = some o
theorem Ok.refl (h : Heap) : Ok N h h := fun _ _ e _ _ => e
theorem Ok.keeps {h h' : Heap} (k : Keeps h h') : Ok N h h' := fun b o e _ _ => k b o e
theorem Ok.trans {h h' h'' : Heap} (x : Ok N h h') (y : Ok N h' h'') : Ok N h h'' := fun b o e p q => y b o (x b o e p q) p q
theorem Ok.kb {P0 : Params} {h h' : Heap} (x : Ok N h h') (KX : (KB P0).In h) : (KB P0).In h' := fun b o e => x b o (KX b o e) (fun z => by subst z; exact absurd e (by rw [show (KB P0).lookup 16 = none from rfl]; exact fun z => nomatch z)) (fun z => by rw [kb_lt (Nat.le_trans N.2 z)] at e; cases e)
noncomputable def tokOf : Value → Tok
  | .str _ t => t
  | _ => 0
theorem Made.isF {h : Heap} {i : Nat} {nm : String} {cl : List (Str × Addr)} {f : Addr} (M : Made h i nm cl f) : IsF h f := let ⟨_, _, _, e, _⟩ := M; ⟨_, e, rfl⟩
theorem Made.keeps {h h' : Heap} {i : Nat} {nm : String} {cl : List (Str × Addr)} {f : Addr} (M : Made h i nm cl f) (k : Keeps h h') : Made h' i nm cl f := let ⟨a, b, d, e, r⟩ := M; ⟨a, b, d, k _ _ e, r.keeps k⟩
theorem lk_in {b : Addr} {o : Obj} : ∀ {K : Frag}, K.lookup b = some o → (b, o) ∈ K
  | [], e => by cases e
  | q :: K, e => by
    rw [List.lookup_cons] at e
    cases z : b == q.1 with
    | true => rw [z] at e; cases e; rw [beq_iff_eq.mp z]; exact .head _
    | false => rw [z] at e; exact .tail _ (lk_in e)
noncomputable def eOf (es : List DictEntry) : List (Str × Value) → Nat → List DictEntry
  | [], _ => []
  | (nm, v) :: kvs, i => ⟨(es.getD i ⟨0, .none, .none⟩).hash, .str nm (tokOf (es.getD i ⟨0, .none, .none⟩).key), v⟩ :: eOf es kvs (i + 1)
theorem ents_pre : ∀ {es : List DictEntry} {kvs : List (Str × Value)} (pre : List DictEntry), Ents es kvs → es = eOf (pre ++ es) kvs pre.length
  | _, _, _, .nil => rfl
  | _, _, pre, .cons (hs := hs) (nm := nm) (tk := tk) (v := v) (es := es) (kvs := kvs) x => by
    have q := ents_pre (pre ++ [⟨hs, .str nm tk, v⟩]) x
    rw [List.append_assoc, List.length_append] at q
    have e : (pre ++ ⟨hs, .str nm tk, v⟩ :: es).getD pre.length ⟨0, .none, .none⟩ = ⟨hs, .str nm tk, v⟩ := by simp [List.getD_eq_getElem?_getD]
    show _ :: es = _ :: _
    rw [e]
    exact congrArg _ q
theorem ents_eq {es : List DictEntry} {kvs : List (Str × Value)} (x : Ents es kvs) : es = eOf es kvs 0 := ents_pre [] x
theorem in_nil {h : Heap} : Frag.In [] h := fun _ _ e => by cases e
theorem in_cons {h : Heap} {a : Addr} {o : Obj} {K : Frag} (e : h.get? a = some o) (x : K.In h) : Frag.In ((a, o) :: K) h := fun b ob q => by
  rw [List.lookup_cons] at q
  cases z : b == a with
  | true => rw [z] at q; cases q; rw [beq_iff_eq.mp z]; exact e
  | false => rw [z] at q; exact x b ob q
noncomputable def pick6 {α : Type} (a b c d e f : α) : Nat → α
  | 2 => a
  | 3 => b
  | 4 => c
  | 5 => d
  | 6 => e
  | _ => f
noncomputable def kaOf (C ns dA cell sl st bt : Addr) (sm : Str) (tm : Tok) (fl : Int) (tf u tq ud : Tok) (fs : Nat → Addr) (cd : Nat → Addr) (ct dc : Nat → Value) (es : List DictEntry) (n : Nat) : KA :=
  { C := C, ns := ns, d := dA, fI := fs 2, fL := fs 3, fG := fs 4, fE := fs 5, fLe := fs 6, fGe := fs 7, cell := cell, cd := cd, ct := ct, dc := dc, ot := (fun i => match i with | 0 => .str sm tm | 1 => .int fl tf | 2 => .ref sl | 3 => .ref st | 4 => .ref bt | 5 => .str (Str.ofString "K") u | 6 => .str (Str.ofString "cmp_to_key.<locals>.K") tq | _ => .str (Str.ofString "law_mg0032_01") 265), tk := (fun i => if i = 13 then ud else tokOf (es.getD i ⟨0, .none, .none⟩).key), hs := (fun i => (es.getD i ⟨0, .none, .none⟩).hash), ep := n, sl := #[], cx := { name := Str.ofString "K", bases := [], mro := [], ns := 0, qualname := Str.ofString "K" } }
theorem class_of {h : Heap} {C ns dA bt cell sl st : Addr} {u tq ud tm tf : Tok} {f4 f5 f6 f7 f8 f9 : Addr} {sm : Str} {fl : Int}
    (gC : h.get? C = some (clsK C ns bt u tq)) (dn : DD h ns (kvs13 (.str sm tm) (.int fl tf) sl f4 f5 f6 f7 f8 f9 st dA)) (gd : h.get? dA = some (mdO ud C))
    (y4 : Made h 2 "__init__" [] f4) (y5 : Made h 3 "__lt__" [(Str.ofString "mycmp", cell)] f5) (y6 : Made h 4 "__gt__" [(Str.ofString "mycmp", cell)] f6) (y7 : Made h 5 "__eq__" [(Str.ofString "mycmp", cell)] f7) (y8 : Made h 6 "__le__" [(Str.ofString "mycmp", cell)] f8) (y9 : Made h 7 "__ge__" [(Str.ofString "mycmp", cell)] f9)
    (ap : [C, ns, dA, f4, f5, f6, f7, f8, f9].Nodup) (hc : ∃ o, h.get? cell = some o ∧ o.data = .cell (some (.ref 79))) : ∃ k : KA, ClassAt h k ∧ k.C = C ∧ (KC k).map Prod.fst = [C, ns, dA, f4, f5, f6, f7, f8, f9] := by
  obtain ⟨es, n, en, x⟩ := dn
  have en' : h.get? ns = some (dictOf (eOf es (kvs13 (.str sm tm) (.int fl tf) sl f4 f5 f6 f7 f8 f9 st dA) 0) n) := en.trans (congrArg (fun l => some (dictOf l n)) (ents_eq x))
  clear en x
  obtain ⟨c4, t4, w4, e4, r4⟩ := y4
  obtain ⟨c5, t5, w5, e5, r5⟩ := y5
  obtain ⟨c6, t6, w6, e6, r6⟩ := y6
  obtain ⟨c7, t7, w7, e7, r7⟩ := y7
  obtain ⟨c8, t8, w8, e8, r8⟩ := y8
  obtain ⟨c9, t9, w9, e9, r9⟩ := y9
  refine ⟨kaOf C ns dA cell sl st bt sm tm fl tf u tq ud (pick6 f4 f5 f6 f7 f8 f9) (pick6 c4 c5 c6 c7 c8 c9) (pick6 t4 t5 t6 t7 t8 t9) (pick6 w4 w5 w6 w7 w8 w9) es n, ⟨?_, ap, hc, fun i hi => ?_⟩, rfl, rfl⟩
  · exact in_cons gC (in_cons en' (in_cons gd (in_cons e4 (in_cons e5 (in_cons e6 (in_cons e7 (in_cons e8 (in_cons e9 in_nil))))))))
  · simp only [List.mem_cons, List.not_mem_nil, or_false] at hi
    rcases hi with rfl | rfl | rfl | rfl | rfl | rfl
    · exact r4
    · exact r5
    · exact r6
    · exact r7
    · exact r8
    · exact r9
end E0_
section E1_
open PySem PySem.W PyProof.Rows PySem.W.X
variable {N : NB}
structure CEnv (env : Env) (cell : Addr) : Prop where
  g : env.globals = 3
  b : env.builtins = 0
  code : env.code = .ref 20
  clos : closureFor (cScope cK) env = pure [(Str.ofString "mycmp", cell)]
theorem CT.keeps {h h' : Heap} (T : CT N h) (k : Keeps h h') : CT N h' := by
  obtain ⟨ps, e, ht, hc⟩ := T
  refine ⟨ps, k _ _ e, ht, fun cv z => ?_⟩
  obtain ⟨cc, P, rfl, C, T, r⟩ := hc cv z
  exact ⟨cc, P, rfl, C.keeps k, T.keeps k, r⟩
theorem ln_name {a2 cc fr cell : Addr} (kd : (bEnv a2 cc fr cell).kindOf (Str.ofString "__name__") = none) :
    loadName (bEnv a2 cc fr cell) (Str.ofString "__name__") = (localGet (bEnv a2 cc fr cell) (Str.ofString "__name__") >>= fun r => match r with | some v => pure v | none => loadGlobal (bEnv a2 cc fr cell) (Str.ofString "__name__")) := by
  have x1 : (bEnv a2 cc fr cell).scope.kind.isAnnotationScope = false := by kernel_rfl
  have x2 : (bEnv a2 cc fr cell).blockKind = .class := by kernel_rfl
  have x3 : compilersOwnNames.contains (Str.ofString "__name__") = true := by decide +kernel
  unfold loadName
  simp only [x1, x2, kd, x3, Bool.false_and, Bool.false_eq_true, if_false, Bool.not_true]
  congr 1
  funext r
  cases r <;> rfl
theorem hd_ne {h : Heap} {cc P P' : Addr} {ps : Array Value} (C : CodeHd h cc P') (hP : h.get? P = some (tabObj ps)) (ht : TriplesOk ps.toList) : cc ≠ P := by
  rintro rfl
  obtain ⟨o, vs, v1, v2, v3, v4, v5, v6, v7, e1, e2, e3, e4, e5, e6, e7, e8, e9, e10⟩ := C
  rw [hP] at e1
  cases e1
  cases e2
theorem rec_oth {h h' : Heap} {P a : Addr} {cv : Value} {q : Str} {kvs : List (Str × Value)} (hr : h.CodeRec cv q) (x : Oth P a h h') (hne : cv ≠ .ref P) (d : DD h a kvs) : h'.CodeRec cv q := by
  obtain ⟨b, o, vs, t, rfl, e2, e3, e4⟩ := hr
  refine ⟨b, o, vs, t, rfl, x _ _ (fun z => hne (by rw [z])) (fun z => ?_) e2, e3, e4⟩
  subst z
  obtain ⟨es, n, e, _⟩ := d
  rw [e] at e2
  cases e2
  cases e3
theorem cutj {α X : Type} {M : Model} {A : Around} {Q : α → Shared → Prop} {E : Value → Shared → Prop} {s : Shared} {jp V : X → Sem α} {x : X} (e : jp = V) (H : wpAny M A (V x) Q E s) : wpAny M A (jp x) Q E s := e ▸ H
theorem bindK {α β : Type} {M : Model} {A : Around} {Q : β → Shared → Prop} {E : Value → Shared → Prop} {s : Shared} {m : Sem α} {k : α → Sem β} (H : ∀ R : α → Shared → Prop, (∀ a s', wpAny M A (k a) Q E s' → R a s') → wpAny M A m R E s) : wpAny M A (m >>= k) Q E s := wpAny_bind (H _ fun _ _ h => h)
theorem wif_pos {α : Type} {M : Model} {A : Around} {Q : α → Shared → Prop} {E : Value → Shared → Prop} {s : Shared} {c : Prop} [Decidable c] {a b : Sem α} (hc : c) (H : wpAny M A a Q E s) : wpAny M A (if c then a else b) Q E s := by rw [if_pos hc]; exact H
theorem wif_neg {α : Type} {M : Model} {A : Around} {Q : α → Shared → Prop} {E : Value → Shared → Prop} {s : Shared} {c : Prop} [Decidable c] {a b : Sem α} (hc : ¬ c) (H : wpAny M A b Q E s) : wpAny M A (if c then a else b) Q E s := by rw [if_neg hc]; exact H
theorem cutj2 {α X Y : Type} {M : Model} {A : Around} {Q : α → Shared → Prop} {E : Value → Shared → Prop} {s : Shared} {jp V : X → Y → Sem α} {x : X} {y : Y} (e : jp = V) (H : wpAny M A (V x y) Q E s) : wpAny M A (jp x y) Q E s := e ▸ H
theorem cutj3 {α X Y Z : Type} {M : Model} {A : Around} {Q : α → Shared → Prop} {E : Value → Shared → Prop} {s : Shared} {jp V : X → Y → Z → Sem α} {x : X} {y : Y} {z : Z} (e : jp = V) (H : wpAny M A (V x y z) Q E s) : wpAny M A (jp x y z) Q E s := e ▸ H
local macro_rules | `(tactic| walk_at "dz") => `(tactic| dsimp (config := {zeta := false, zetaUnused := false, zetaHave := false}) only)
theorem build_spec {w : World} {A : Around} {h : Heap} {c : Shared} {t : Nat} {env : Env} {cell : Addr} {Q : Value → Shared → Prop} {E : Value → Shared → Prop}
    (KX : (KB w.params).In h) (hA : Room 8 A) (CE : CEnv env cell) (hz : N.1 ≤ h.objs.size) (T16 : CT N h) (hcell : ∃ o, h.get? cell = some o ∧ o.data = .cell (some (.ref 79)))
    (H : ∀ h' t' k, Ok N h h' → h.objs.size ≤ h'.objs.size → CT N h' → ClassAt h' k → (∀ p ∈ KC k, h.get? p.1 = none) → Q (.ref k.C) (St h' c t')) :
    wpAny (model pw w) A (buildClass (Str.ofString "K") (Str.ofString "cmp_to_key.<locals>.K") [.type "object"] [] (cBody cK) (cScope cK) (cStat cK) 4 env (cPos cK) none) Q E (St h c t) := by
  unfold buildClass
  refine wpAny_bind (wpAny_newObj_type ?_ (by size_fits))
  have tyo : ∀ hh, Looks (model pw w) hh (typeOf (.type "object")) (.type "type") := fun hh => Looks.of_pure (by kernel_rfl)
  have tyt : ∀ hh, Looks (model pw w) hh (isType (.type "type")) true := fun hh => Looks.of_pure (by kernel_rfl)
  have stt : ∀ hh, Looks (model pw w) hh (isSubtype (.type "type") (.type "type")) true := fun hh => Looks.of_pure (by rw [isSubtype_type]; kernel_rfl)
  with_reducible refine bindK fun R hR => ?_
  repeat (first | (with_reducible refine Looks.at (tyo _) ?_) | (with_reducible refine Looks.at (tyt _) ?_) | (with_reducible refine Looks.at (stt _) ?_) | lk)
  refine hR _ _ ?_
  clear hR
  try walk_at "dz"
  extract_lets (config := {onlyGivenNames := true, merge := false, underBinder := false}) bs rp j2
  clear_value (ej2 : j2 = _) (erp : rp = _) (ebs : bs = _)
  subst ebs erp
  repeat (first | (with_reducible refine Looks.at (tyo _) ?_) | (with_reducible refine Looks.at (tyt _) ?_) | (with_reducible refine Looks.at (stt _) ?_) | lk)
  with_reducible refine cutj ej2 ?_
  try walk_at "dz"
  clear ej2
  clear j2
  with_reducible refine wpAny_bind ?_
  with_reducible refine Looks.at (tyt _) ?_
  try walk_at "dz"
  extract_lets (config := {onlyGivenNames := true, merge := false, underBinder := false}) j3
  clear_value (ej3 : j3 = _)
  with_reducible refine wif_pos rfl ?_
  with_reducible refine bindK fun R hR => ?_
  repeat (first | (with_reducible refine Looks.at (tyo _) ?_) | (with_reducible refine Looks.at (tyt _) ?_) | (with_reducible refine Looks.at (stt _) ?_) | lk)
  refine hR _ _ ?_
  clear hR
  try walk_at "dz"
  with_reducible refine cutj2 ej3 ?_
  try walk_at "dz"
  clear ej3
  clear j3
  extract_lets (config := {onlyGivenNames := true, merge := false, underBinder := false}) kw
  clear_value (ekw : kw = _)
  subst ekw
  with_reducible refine bindK fun R hR => ?_
  repeat (first | (with_reducible refine Looks.at (tyo _) ?_) | (with_reducible refine Looks.at (tyt _) ?_) | (with_reducible refine Looks.at (stt _) ?_) | lk)
  refine hR _ _ ?_
  clear hR
  try walk_at "dz"
  extract_lets (config := {onlyGivenNames := true, merge := false, underBinder := false}) j4
  clear_value (ej4 : j4 = _)
  repeat (first | (with_reducible refine Looks.at (tyo _) ?_) | (with_reducible refine Looks.at (tyt _) ?_) | (with_reducible refine Looks.at (stt _) ?_) | lk)
  with_reducible refine cutj ej4 ?_
  try walk_at "dz"
  clear ej4
  clear j4
  with_reducible refine wpAny_holding ?_
  with_reducible refine wpAny_bind ?_
  have g0 : (h.push { cls := .type "tuple", data := .seq #[.type "object"] }).get? h.objs.size = some { cls := .type "tuple", data := .seq #[.type "object"] } := Heap.get?_push_size _ rfl
  have k0 : Keeps h (h.push { cls := .type "tuple", data := .seq #[.type "object"] }) := Keeps.push _ _
  have hz0 : h.objs.size ≤ (h.push { cls := .type "tuple", data := .seq #[.type "object"] }).objs.size := by rw [Heap.size_push]; exact Nat.le_succ _
  generalize (h.push { cls := .type "tuple", data := .seq #[.type "object"] }) = h0 at *
  generalize hbt : h.objs.size = bt at g0
  with_reducible refine ga_prep (fun a1 h1 t1 D1 => ?_)
  have k1 := k0.trans (mem_keeps D1)
  have g1 := mem_keeps D1 _ _ g0
  have ga := D1.at 0 a1 _ rfl
  try walk_at "dz"
  extract_lets (config := {onlyGivenNames := true, merge := false, underBinder := false}) j5
  clear_value (ej5 : j5 = _)
  refine wpAny_bind (prep2 ga g1 fun a2 h2 D2 => ?_)
  have k2 := k1.trans (mem_keeps D2)
  have g2 := mem_keeps D2 _ _ g1
  have gn := D2.at 0 a2 _ rfl
  have ka2 : (KB w.params).lookup a2 = none := by
    cases q : (KB w.params).lookup a2 with
    | none => rfl
    | some o =>
      have := KX.keeps k1 _ _ q
      rw [(D2.nw _ (.head _)).2] at this
      cases this
  have na2 : a2 ≠ sysModules := fun z => by
    have q : (KB w.params).lookup sysModules = none := z ▸ ka2
    revert q
    show ¬ _
    exact fun q => absurd (q.symm.trans (show (KB w.params).lookup sysModules = some _ from rfl)) (fun z => nomatch z)
  have n16 : a2 ≠ 16 := fun z => by
    obtain ⟨ps, e, _⟩ := T16
    have := k1 _ _ e
    rw [← z, (D2.nw _ (.head _)).2] at this
    cases this
  have na2h : h.get? a2 = none := by
    cases q : h.get? a2 with
    | none => rfl
    | some o =>
      have := k1 _ _ q
      rw [(D2.nw _ (.head _)).2] at this
      cases this
  clear D1 D2 ga g0 g1 k0 k1
  have sgi : Looks (model pw w) h2 (specialOf (.ref a2) (Str.ofString "__getitem__")) (some (.builtin "dict.__getitem__")) := (Looks.ld gn).andThen (Looks.of_pure (by kernel_rfl))
  with_reducible refine cutj ej5 ?_
  try walk_at "dz"
  clear ej5
  clear j5
  extract_lets (config := {onlyGivenNames := true, merge := false, underBinder := false}) j6
  clear_value (ej6 : j6 = _)
  try walk_at "dz"
  with_reducible refine cutj ej6 ?_
  try walk_at "dz"
  clear ej6
  clear j6
  extract_lets (config := {onlyGivenNames := true, merge := false, underBinder := false}) j7
  clear_value (ej7 : j7 = _)
  try walk_at "dz"
  with_reducible refine cutj ej7 ?_
  try walk_at "dz"
  clear ej7
  clear j7
  with_reducible refine wpAny_bind ?_
  unfold notTheModulesDict
  refine wif_neg (by simpa using na2) ?_
  refine wpAny_pure (wpAny_bind (sgi.here (s := St h2 c _) ?_))
  try walk_at "dz"
  extract_lets (config := {onlyGivenNames := true, merge := false, underBinder := false}) j8
  clear_value (ej8 : j8 = _)
  refine wif_neg (by decide) ?_
  with_reducible refine cutj ej8 ?_
  try walk_at "dz"
  clear ej8
  clear j8
  refine wpAny_holding ?_
  have e1 : ((cScope cK).names.lookup (Str.ofString "__class__") == some NameKind.cell) = false := by kernel_rfl
  have e2 : ((cScope cK).names.lookup (Str.ofString "__classdict__") == some NameKind.cell) = false := by kernel_rfl
  extract_lets (config := {onlyGivenNames := true, merge := false, underBinder := false}) j9
  clear_value (ej9 : j9 = _)
  refine wif_neg (by rw [e1]; decide) ?_
  refine wpAny_bind (wpAny_pure ?_)
  with_reducible refine cutj ej9 ?_
  try walk_at "dz"
  clear ej9
  clear j9
  extract_lets (config := {onlyGivenNames := true, merge := false, underBinder := false}) j10
  clear_value (ej10 : j10 = _)
  refine wif_neg (by rw [e2]; decide) ?_
  refine wpAny_bind (wpAny_pure ?_)
  with_reducible refine cutj ej10 ?_
  try walk_at "dz"
  clear ej10
  clear j10
  have hz2 : h.objs.size ≤ h2.objs.size := by
    rcases Nat.lt_or_ge h2.objs.size h.objs.size with q | q
    · have := Heap.lt_size g2
      rw [← hbt] at this
      exact absurd q (Nat.not_lt_of_le (Nat.le_of_lt this))
    · exact q
  refine wpAny_bind (cc_spec (KX.keeps k2) (Nat.le_trans hz hz2) CE.code (T16.keeps k2) fun h3 t3 cv x3 z3 T3 cl3 => ?_)
  obtain ⟨cc, P, rfl, C3, M3, hP104, nP, ncc⟩ := cl3
  have kP : (KB w.params).lookup P = none := kb_lt (Nat.le_trans N.2 hP104)
  have KX3 : (KB w.params).In h3 := fun b o e => x3 b o (fun z => by rw [z] at e; exact absurd e (by rw [show (KB w.params).lookup 16 = none from rfl]; exact fun z => nomatch z)) (KX.keeps k2 b o e)
  have gn3 := x3 _ _ n16 gn
  obtain ⟨mg, hn, hm1, hm2⟩ := gl_ns KX3
  rw [CE.g]
  refine wpAny_bind (wpAny_builtinsFor (s := St h3 c t3) hn hm1 (by decide) (KX3 4 _ (by rfl)) rfl rfl rfl ?_)
  unfold newBodyFrame
  refine wpAny_bind (wpAny_bind (wpAny_nsGet (s := St h3 c t3) hn (wpAny_alloc ?_)))
  rw [CE.clos]
  refine wpAny_bind (wpAny_pure (wpAny_holding (wpAny_bind (wpAny_enterFrame ?_ hA.lim ?_))))
  · exact (nolimit KX3).keeps fun b o e => Heap.get?_push_of_some _ e
  have k4 : Keeps h3 (h3.push { cls := .type "frame", slots := #[some (.ref cc), some (.ref 3), some (.ref a2), none, some ((mg "__name__").getD .none), none, some (.ref builtinsNs)] }) := Keeps.push _ _
  have KX4 := KX3.keeps k4
  have z34 : h3.objs.size ≤ (h3.push { cls := .type "frame", slots := #[some (.ref cc), some (.ref 3), some (.ref a2), none, some ((mg "__name__").getD .none), none, some (.ref builtinsNs)] }).objs.size := by rw [Heap.size_push]; exact Nat.le_succ _
  generalize hfr : (St h3 c t3).heap.objs.size = fr
  generalize hE : ({ scope := cScope cK, locals := a2, globals := 3, cells := (Option.map (fun x => (Str.ofString "__class__", x)) (none : Option Addr)).toList ++ (Option.map (fun x => (Str.ofString "__classdict__", x)) (none : Option Addr)).toList ++ [(Str.ofString "mycmp", cell)], qual := Str.ofString "cmp_to_key.<locals>.K" ++ Str.ofString ".", code := Value.ref cc, frame := some fr, builtins := builtinsNs } : Env) = be
  have hbe : be = bEnv a2 cc fr cell := hE.symm
  subst hbe
  refine wpAny_bind (wpAny_onRaise (wpAny_bind ?_))
  have d4 := k4 _ _ gn3
  have M4 := M3.keeps k4
  have C4 := C3.keeps k4
  have T4 := T3.keeps k4
  have hn4 := hn.keeps k4
  generalize (h3.push { cls := .type "frame", slots := #[some (.ref cc), some (.ref 3), some (.ref a2), none, some ((mg "__name__").getD .none), none, some (.ref builtinsNs)] }) = h4 at *
  have lg : Looks (model pw w) h4 (nsGet 3 (Str.ofString "__name__")) (some (.str (Str.ofString "law_mg0032_01") 265)) := looks_nsIn KX4 (by kernel_rfl)
  have ll : Looks (model pw w) h4 (nsGet a2 (Str.ofString "__name__")) none := lk_dd (kvs := []) ⟨[], 0, d4, .nil⟩ rfl
  have kd : (bEnv a2 cc fr cell).kindOf (Str.ofString "__name__") = none := by kernel_rfl
  have lneq : loadName (bEnv a2 cc fr cell) (Str.ofString "__name__") = (localGet (bEnv a2 cc fr cell) (Str.ofString "__name__") >>= fun r => match r with | some v => pure v | none => loadGlobal (bEnv a2 cc fr cell) (Str.ofString "__name__")) := ln_name kd
  rw [lneq]
  show wpAny (model pw w) A _ _ _ (St h4 c t3)
  unfold localGet loadGlobal
  refine wpAny_bind (wpAny_bind (wpAny_load (s := St h4 c t3) d4 ?_))
  rw [if_pos (by rfl)]
  refine ll.here (s := St h4 c t3) ?_
  refine wpAny_bind (lg.here (s := St h4 c t3) (wpAny_pure ?_))
  refine wpAny_bind (cs_put (env := bEnv a2 cc fr cell) (kvs := []) ⟨[], 0, d4, .nil⟩ (fun p hp => nomatch hp) (by kernel_rfl) (by kernel_rfl) fun h5 t5 d5 s5 => ?_)
  refine wpAny_bind (wpAny_mkText (wpAny_bind (cs_own (env := bEnv a2 cc fr cell) d5 (no_nm (by kernel_rfl)) (by kernel_rfl) (by kernel_rfl) (by kernel_rfl) (by decide +kernel) fun h6 t6 d6 s6 => ?_)))
  refine wpAny_bind (wpAny_mkInt (wpAny_bind (cs_own (env := bEnv a2 cc fr cell) d6 (no_nm (by kernel_rfl)) (by kernel_rfl) (by kernel_rfl) (by kernel_rfl) (by decide +kernel) fun h7 t7 d7 s7 => ?_)))
  refine wpAny_pure ?_
  dsimp only
  have d4' : DD h4 a2 [] := ⟨[], 0, d4, .nil⟩
  have o7 : Oth P a2 h4 h7 := ((Oth.same s5).trans (Oth.same s6)).trans (Oth.same s7)
  have M7 : MT h7 P qs := ((M4.dict d4' s5).dict d5 s6).dict d6 s7
  have aP : a2 ≠ P := fun z => by
    obtain ⟨ps, e, _⟩ := M3
    rw [← z, gn3] at e
    cases e
  refine wpAny_bind (wpAny_run (codeAny_body (by kernel_rfl) (by kernel_rfl) (body_spec (c := c) (o7.kx KX4 kP ka2) kP ka2 d7 (o7.code C4 d4') M7 aP fun h8 t8 sl u um f4 f5 f6 f7 f8 f9 d8 o8 M8 l8 p4 p5 p6 p7 p8 p9 y4 y5 y6 y7 y8 y9 => ?_)))
  dsimp only
  have hst : cStat cK = [Str.ofString "obj"] := by kernel_rfl
  rw [hst]
  refine wpAny_bind (wpAny_onRaise (wpAny_bind ?_))
  simp only [List.mapM_cons, List.mapM_nil]
  refine wpAny_bind (wpAny_mkText (wpAny_bind (wpAny_pure (wpAny_pure (wpAny_bind (wpAny_newTextTuple (wpAny_bind ?_)))))))
  refine cs_own (env := bEnv a2 cc fr cell) (d8.keeps (Keeps.push _ _)) (no_nm (by kernel_rfl)) (by kernel_rfl) (by kernel_rfl) (by kernel_rfl) (by decide +kernel) fun h9 t9 d9 s9 => ?_
  refine wpAny_pure (wpAny_bind ?_)
  have z78 : h7.objs.size ≤ h8.objs.size := Nat.le_trans p4 (Nat.le_of_lt y4.lt)
  have gt : ∀ f, h7.objs.size ≤ f → f ≠ a2 := fun f hf => Nat.ne_of_gt (Nat.lt_of_lt_of_le d7.lt hf)
  generalize hpk : ((St h8 c t8).heap.push { cls := .type "tuple", data := .seq #[.str (Str.ofString "obj") (St h8 c t8).toks] }) = hp at *
  have kp : Keeps h8 hp := hpk ▸ Keeps.push _ _
  have gst : hp.get? (St h8 c t8).heap.objs.size = some { cls := .type "tuple", data := .seq #[.str (Str.ofString "obj") (St h8 c t8).toks] } := hpk ▸ Heap.get?_push_size _ rfl
  have nst : (St h8 c t8).heap.objs.size ≠ a2 := Nat.ne_of_gt d8.lt
  generalize hst9 : (St h8 c t8).heap.objs.size = st at *
  have sl9 : sl ≠ a2 := fun z => by obtain ⟨_, e⟩ := l8; obtain ⟨_, _, e', _⟩ := d8; rw [z, e'] at e; have e2 := congrArg Obj.data (Option.some.inj e); cases e2
  have Mk : ∀ {i nm cl f}, Made h8 i nm cl f → f ≠ a2 → Made h9 i nm cl f := fun {i nm cl f} M hf => by
    obtain ⟨a, b, d, e, r⟩ := M
    exact ⟨a, b, d, (s9.2 f hf).trans (kp _ _ e), rec_dict (r.keeps kp) (d8.keeps kp) s9⟩
  have q5 : h7.objs.size ≤ f5 := Nat.le_of_lt (Nat.lt_of_le_of_lt p4 p5)
  have q6 : h7.objs.size ≤ f6 := Nat.le_of_lt (Nat.lt_of_le_of_lt q5 p6)
  have q7 : h7.objs.size ≤ f7 := Nat.le_of_lt (Nat.lt_of_le_of_lt q6 p7)
  have q8 : h7.objs.size ≤ f8 := Nat.le_of_lt (Nat.lt_of_le_of_lt q7 p8)
  have q9 : h7.objs.size ≤ f9 := Nat.le_of_lt (Nat.lt_of_le_of_lt q8 p9)
  have Y4 := Mk y4 (gt _ p4)
  have Y5 := Mk y5 (gt _ q5)
  have Y6 := Mk y6 (gt _ q6)
  have Y7 := Mk y7 (gt _ q7)
  have Y8 := Mk y8 (gt _ q8)
  have Y9 := Mk y9 (gt _ q9)
  have o9 : Oth P a2 h4 h9 := ((o7.trans o8).trans (Oth.keeps kp)).trans (Oth.same s9)
  have M9 : MT h9 P qs := (M8.keeps kp).dict (d8.keeps kp) s9
  have KX9 := o9.kx KX4 kP ka2
  have g9 : h9.get? bt = some { cls := .type "tuple", data := .seq #[.type "object"] } := o9 _ _ (fun z => by
    obtain ⟨ps, e, _⟩ := M4
    rw [← z, k4 _ _ (x3 _ _ (fun z => by subst z; obtain ⟨ps, e, _⟩ := T16; rw [k2 _ _ e] at g2; cases g2) g2)] at e
    cases e) (fun z => by rw [z, gn] at g2; have e2 := congrArg Obj.data (Option.some.inj g2); cases e2) (k4 _ _ (x3 _ _ (fun z => by subst z; obtain ⟨ps, e, _⟩ := T16; rw [k2 _ _ e] at g2; cases g2) g2))
  refine type_spec (c := c) KX9 g9 na2 (list_but (kp.list l8) s9 sl9) ((s9.2 _ nst).trans gst) rfl Y4.isF Y5.isF Y6.isF Y7.isF Y8.isF Y9.isF d9 fun h' t' C ns dA ud kN gC dn gd nC nn nd w1 w2 w3 => ?_
  have k8N : Keeps h9 h' := kN
  have oN : Oth P a2 h4 h' := o9.trans (Oth.keeps kN)
  have MN : MT h' P qs := M9.keeps kN
  have h4P : ∀ o, h4.get? P = some o → ∃ ps, o = tabObj ps := fun o e => by
    obtain ⟨ps, e', _⟩ := M4
    rw [e] at e'
    exact ⟨ps, Option.some.inj e'⟩
  have up4 : ∀ b o, h.get? b = some o → b ≠ 16 → h4.get? b = some o := fun b o e n => k4 _ _ (x3 _ _ n (k2 _ _ e))
  have ok : Ok N h h' := fun b o e n ht => oN b o (fun z => by
    subst z
    obtain ⟨ps, rfl⟩ := h4P o (up4 _ _ e n)
    exact ht hP104 ps rfl) (fun z => by subst z; rw [na2h] at e; cases e) (up4 b o e n)
  have none9 : ∀ b, h9.get? b = none → b ≠ 16 → b ≠ P → b ≠ a2 → h.get? b = none := fun b hb n1 n2 n3 => by
    cases q : h.get? b with
    | none => rfl
    | some o => rw [o9 b o n2 n3 (up4 b o q n1)] at hb; cases hb
  have h9_16 : ∃ o, h9.get? 16 = some o := by
    obtain ⟨ps, e, _⟩ := T4
    exact ⟨_, o9 _ _ nP.symm n16.symm e⟩
  have ctN : CT N h' := by
    obtain ⟨ps, e, ht, hc⟩ := T4
    refine ⟨ps, oN _ _ nP.symm n16.symm e, ht, fun cv q => ?_⟩
    obtain ⟨cc', P', rfl, C', M', hP', nP', ncc'⟩ := hc cv q
    have ne' : P' ≠ a2 := fun z => by
      obtain ⟨ps, e, _⟩ := M'
      rw [z, d4] at e
      have e2 := congrArg Obj.data (Option.some.inj e)
      cases e2
    have d4' : DD h4 a2 [] := ⟨[], 0, d4, .nil⟩
    obtain ⟨pp, hPP, htP, _⟩ := id M4
    refine ⟨cc', P', rfl, ?_, ?_, hP', nP', ncc'⟩
    · obtain ⟨o, vs, v1, v2, v3, v4, v5, v6, v7, e1, r⟩ := id C'
      refine ⟨o, vs, v1, v2, v3, v4, v5, v6, v7, oN _ _ (hd_ne C' hPP htP) (fun z => ?_) e1, r⟩
      subst z
      rw [d4] at e1
      cases e1
      obtain ⟨_, r2, _⟩ := r
      cases r2
    · by_cases hPq : P' = P
      · subst hPq; exact MN
      · obtain ⟨ps', e', ht', hc'⟩ := M'
        exact ⟨ps', oN _ _ hPq ne' e', ht', fun x hx cv q => rec_oth (hc' x hx cv q) oN (rec_ne hPP htP (hc' x hx cv q)) d4'⟩
  have fN : ∀ {i nm cl f}, Made h9 i nm cl f → h9.get? f ≠ none := fun {i nm cl f} M hn => by
    obtain ⟨_, _, _, e, _⟩ := M
    rw [hn] at e
    cases e
  have nf : ∀ {i nm cl f b}, Made h9 i nm cl f → h9.get? b = none → b ≠ f := fun M hb z => fN M (z ▸ hb)
  have new9 : ∀ b, h9.get? b = none → h.get? b = none := fun b nb => none9 b nb (fun z => by obtain ⟨o, e⟩ := h9_16; rw [z, e] at nb; cases nb) (fun z => by obtain ⟨ps, e, _⟩ := M9; rw [z, e] at nb; cases nb) (fun z => by obtain ⟨_, _, e, _⟩ := d9; rw [z] at nb; exact absurd (nb.symm.trans e) (fun z => nomatch z))
  have s47 : h4.objs.size ≤ h7.objs.size := Nat.le_of_eq (s5.1.symm.trans (s6.1.symm.trans s7.1.symm))
  have s07 : h.objs.size ≤ h7.objs.size := Nat.le_trans hz2 (Nat.le_trans z3 (Nat.le_trans z34 s47))
  have newf : ∀ b, h7.objs.size ≤ b → h.get? b = none := fun b hb => none_of_ge (Nat.le_trans s07 hb)
  have sz : h.objs.size ≤ h'.objs.size := by
    have a3 : h4.objs.size ≤ h7.objs.size := Nat.le_of_eq (s5.1.symm.trans (s6.1.symm.trans s7.1.symm))
    have a5 : st ≤ h'.objs.size := Nat.le_of_lt (Heap.lt_size (kN _ _ ((s9.2 _ nst).trans gst)))
    have a4 : h8.objs.size ≤ h'.objs.size := Nat.le_trans (Nat.le_of_eq hst9) a5
    exact Nat.le_trans hz2 (Nat.le_trans z3 (Nat.le_trans z34 (Nat.le_trans a3 (Nat.le_trans z78 a5))))
  obtain ⟨k, CA, rfl, hall⟩ := class_of (cell := cell) gC dn gd (Y4.keeps kN) (Y5.keeps kN) (Y6.keeps kN) (Y7.keeps kN) (Y8.keeps kN) (Y9.keeps kN) (by
    have a1 := nf Y4 nC; have a2 := nf Y5 nC; have a3 := nf Y6 nC; have a4 := nf Y7 nC; have a5 := nf Y8 nC; have a6 := nf Y9 nC
    have b1 := nf Y4 nn; have b2 := nf Y5 nn; have b3 := nf Y6 nn; have b4 := nf Y7 nn; have b5 := nf Y8 nn; have b6 := nf Y9 nn
    have c1 := nf Y4 nd; have c2 := nf Y5 nd; have c3 := nf Y6 nd; have c4 := nf Y7 nd; have c5 := nf Y8 nd; have c6 := nf Y9 nd
    simp only [List.nodup_cons, List.mem_cons, List.not_mem_nil, or_false, not_or, not_false_eq_true, List.nodup_nil, and_true]
    refine ⟨⟨fun z => w1 z.symm, fun z => w2 z.symm, a1, a2, a3, a4, a5, a6⟩, ⟨fun z => w3 z.symm, b1, b2, b3, b4, b5, b6⟩, ⟨c1, c2, c3, c4, c5, c6⟩, ⟨Nat.ne_of_lt p5, Nat.ne_of_lt (Nat.lt_trans p5 p6), Nat.ne_of_lt (Nat.lt_trans (Nat.lt_trans p5 p6) p7), Nat.ne_of_lt (Nat.lt_trans (Nat.lt_trans (Nat.lt_trans p5 p6) p7) p8), Nat.ne_of_lt (Nat.lt_trans (Nat.lt_trans (Nat.lt_trans (Nat.lt_trans p5 p6) p7) p8) p9)⟩, ⟨Nat.ne_of_lt p6, Nat.ne_of_lt (Nat.lt_trans p6 p7), Nat.ne_of_lt (Nat.lt_trans (Nat.lt_trans p6 p7) p8), Nat.ne_of_lt (Nat.lt_trans (Nat.lt_trans (Nat.lt_trans p6 p7) p8) p9)⟩, ⟨Nat.ne_of_lt p7, Nat.ne_of_lt (Nat.lt_trans p7 p8), Nat.ne_of_lt (Nat.lt_trans (Nat.lt_trans p7 p8) p9)⟩, ⟨Nat.ne_of_lt p8, Nat.ne_of_lt (Nat.lt_trans p8 p9)⟩, Nat.ne_of_lt p9⟩) (by
    obtain ⟨o, e, r⟩ := hcell
    refine ⟨o, ok _ _ e (fun z => ?_) (fun _ ps z => ?_), r⟩
    · obtain ⟨ps, e', _⟩ := T16
      rw [z, e'] at e
      cases e
      cases r
    · subst z
      cases r)
  refine wpAny_pure (H h' t' k ok sz ctN CA fun p hp => ?_)
  have hp' := List.mem_map_of_mem (f := Prod.fst) hp
  rw [hall] at hp'
  simp only [List.mem_cons, List.not_mem_nil, or_false] at hp'
  rcases hp' with e | e | e | e | e | e | e | e | e <;> rw [e]
  · exact new9 _ nC
  · exact new9 _ nn
  · exact new9 _ nd
  · exact newf _ p4
  · exact newf _ q5
  · exact newf _ q6
  · exact newf _ q7
  · exact newf _ q8
  · exact newf _ q9
end E1_
section R3_
open PySem PySem.W PyProof.Rows PySem.W.X
structure Fq (g : Heap) (L : Addr) (h : Heap) (m : Str → Option Value) : Prop where
  ns : h.Ns L m
  keep : Keeps g h
  hid : g.get? L = none
theorem fq_of {g h : Heap} {L : Addr} {m : Str → Option Value} (F : Fr g L h m) : Fq g L h m := ⟨F.ns, F.keep, none_of_ge F.above⟩
theorem Fq.set {g h h' : Heap} {L : Addr} {m m' : Str → Option Value} (F : Fq g L h m) (hn : h'.Ns L m') (hs : Heap.SameBut L h h') : Fq g L h' m' := ⟨hn, kb F.keep hs F.hid, F.hid⟩
theorem Fq.grow {g h h' : Heap} {L : Addr} {m : Str → Option Value} (F : Fq g L h m) (k : Keeps h h') : Fq g L h' m := ⟨F.ns.keeps k, Keeps.trans F.keep k, F.hid⟩
theorem Fq.under {g g' h : Heap} {L : Addr} {m : Str → Option Value} (F : Fq g L h m) (k : Keeps g' g) : Fq g' L h m := ⟨F.ns, Keeps.trans k F.keep, by
  cases q : g'.get? L with
  | none => rfl
  | some o => have := k _ _ q; rw [F.hid] at this; cases this⟩
theorem Fq.but {g h h' : Heap} {L l : Addr} {m : Str → Option Value} (F : Fq g L h m) (hs : Heap.SameBut l h h') (hl : L ≠ l) (hg : g.get? l = none) : Fq g L h' m := ⟨F.ns.sameBut hs hl, kb F.keep hs hg, F.hid⟩
theorem Fq.base {g h : Heap} {L : Addr} {m : Str → Option Value} (F : Fq g L h m) (l : List Addr) : Fq (hideAll h (L :: l)) L h m := ⟨F.ns, fun _ _ e => of_hideAll _ e, hideAll_none _ (.head _)⟩
theorem hide_all {h : Heap} {l : List Addr} : Keeps (hideAll h l) h := fun _ _ e => of_hideAll _ e
section
variable {w : World} {A : Around} {E : Value → Shared → Prop} {h : Heap} {c : Shared} {t : Nat} {env : Env} {g : Heap} {L : Addr} {m : Str → Option Value}
theorem lvq {x : Str} {pos : Pos} {v : Value} {Q : Value → Shared → Prop} (F : Fq g env.locals h m) (hv : m x = some v) (H : Q v (St h c t))
    (hk : env.scope.kind = .function) (hl : env.kindOf x = some .local) (hd : (x == ("__debug__" : Str)) = false) :
    wpAny (model pw w) A (eval (.Name x pos) env) Q E (St h c t) := wpAny_Name (wpAny_loadName_local hk hl F.ns hv H) hd
theorem svq {x : Str} {v : Value} {Q : Unit → Shared → Prop} (F : Fq g env.locals h m)
    (H : ∀ h' t', Fq g env.locals h' (fun y => if y = x then some v else m y) → Heap.SameBut env.locals h h' → Q () (St h' c t'))
    (hk : env.scope.kind = .function) (hl : env.kindOf x = some .local) :
    wpAny (model pw w) A (storeName env x v) Q E (St h c t) :=
  wpAny_storeName_local hl F.ns (fun h' hn hs => H h' _ (F.set hn hs) hs)
    (by show (env.scope.kind == .class || (env.scope.kind == .module && env.locals != env.globals)) = false; rw [hk]; rfl)
end
theorem Keeps.hid {h : Heap} {l : List Addr} {b : Addr} {o : Obj} (e : h.get? b = some o) (hb : b ∉ l) : (hideAll h l).get? b = some o := hideAll_get _ e hb
theorem LL.hid {h : Heap} {l : List Addr} {a : Addr} {vs : List Value} (x : LL h a vs) (hb : a ∉ l) : LL (hideAll h l) a vs := let ⟨n, e⟩ := x; ⟨n, hideAll_get _ e hb⟩
end R3_
section E2_
open PySem PySem.W PyProof.Rows PySem.W.X
variable {N : NB}
noncomputable def KF (h h' : Heap) : Prop := ∀ b o vs, h.get? b = some o → o.data = .fields vs → h'.get? b = some o
theorem KF.rec {h h' : Heap} (k : KF h h') {cv : Value} {q : Str} (x : h.CodeRec cv q) : h'.CodeRec cv q := let ⟨c, o, vs, t, e, g, r, z⟩ := x; ⟨c, o, vs, t, e, k _ _ _ g r, r, z⟩
theorem CT.kf {h h' : Heap} (T : CT N h) (k : KF h h') : CT N h' := by
  obtain ⟨ps, e, ht, hc⟩ := T
  refine ⟨ps, k _ _ _ e rfl, ht, fun cv z => ?_⟩
  obtain ⟨cc, P, rfl, C, ⟨pp, q1, q2, q3⟩, r⟩ := hc cv z
  refine ⟨cc, P, rfl, ?_, ⟨pp, k _ _ _ q1 rfl, q2, fun x hx cv z => k.rec (q3 x hx cv z)⟩, r⟩
  obtain ⟨o, vs, f1, f2, f3, f4, f5, f6, f7, e1, e2, e3, r⟩ := C
  exact ⟨o, vs, f1, f2, f3, f4, f5, f6, f7, k _ _ _ e1 e3, e2, e3, r⟩
theorem KF.but {h h' : Heap} {l : Addr} {o : Obj} (s : Heap.SameBut l h h') (hl : h.get? l = some o) (hd : ∀ vs, o.data ≠ .fields vs) : KF h h' := fun b o' vs e r => (s.2 b fun z => by subst z; rw [hl] at e; cases e; exact hd _ r).trans e
theorem ClassAt.but {h h' : Heap} {l : Addr} {o : Obj} {k : KA} (CA : ClassAt h k) (s : Heap.SameBut l h h') (hn : ∀ p ∈ KC k, p.1 ≠ l) (hl : h.get? l = some o) (hd : ∀ vs, o.data ≠ .fields vs) (hc : ∀ v, o.data ≠ .cell v) : ClassAt h' k := by
  refine ⟨fun b o e => (s.2 b (hn _ (lk_in e))).trans (CA.kin b o e), CA.ap, ?_, fun i hi => (KF.but s hl hd).rec (CA.code i hi)⟩
  obtain ⟨oc, e, r⟩ := CA.cell
  exact ⟨oc, (s.2 _ fun z => by rw [z, hl] at e; cases e; exact hc _ r).trans e, r⟩
noncomputable def fnBody : Option Stmt → List Stmt
  | some (Stmt.FunctionDef _ _ b _ _ _ _ _ _ _) => b
  | _ => []
noncomputable def ckBody : List Stmt := fnBody (pw.main.body[1]?)
theorem ck_body : ckBody = [Stmt.ClassDef (Str.ofString "K") [Expr.Name (Str.ofString "object") ⟨4, 12, 4, 18⟩] [] (cBody cK) [] [] (cScope cK) none (Str.ofString "K") (cStat cK) (cPos cK), Stmt.Return (some (Expr.Name (Str.ofString "K") ⟨26, 11, 26, 12⟩)) ⟨26, 4, 26, 12⟩] := by kernel_rfl
theorem n3_object {P : Params} : nsIn (KB P) 3 (Str.ofString "object") = some none := by kernel_rfl
theorem n0_object {P : Params} : nsIn (KB P) 0 (Str.ofString "object") = some (some (.type "object")) := by kernel_rfl
theorem n0_build {P : Params} : nsIn (KB P) 0 (Str.ofString "__build_class__") = some (some (.builtin "__build_class__")) := by kernel_rfl
theorem ck_spec {w : World} {A : Around} {h : Heap} {c : Shared} {t : Nat} {R : Result → Shared → Prop}
    (KX : (KB w.params).In h) (hA : Room 10 A) (hz : N.1 ≤ h.objs.size) (T : CT N h)
    (H : ∀ h' t' k, Ok N h h' → h.objs.size ≤ h'.objs.size → CT N h' → ClassAt h' k → (∀ p ∈ KC k, h.get? p.1 = none) → R (.ok (.ret (.ref k.C))) (St h' c t')) :
    codeAny (model pw w) A (.call (.ref 21) ⟨[.ref 79], []⟩) R (St h c t) := by
  refine codeAny_call_cells (s := St h c t) (binds := [(Str.ofString "mycmp", .ref 79)]) hA.lim (KX 21 _ (by rfl)) rfl (nolimit KX) ⟨_, _, _, _, rfl, KX 20 _ (by rfl), rfl, rfl⟩ (body := ckBody) (by kernel_rfl) (by kernel_rfl) rfl ?_ (fun s₁ X => ?_)
  · intro x hx
    rw [List.mem_singleton] at hx
    subst hx
    exact .inr ⟨by kernel_rfl, by kernel_rfl⟩
  obtain ⟨⟨⟨h1, t1, rfl⟩, ns1, k1, fr1⟩, cell1, ap1, ab1⟩ := X
  have cx : h1.IsCell (h.objs.size + 1) (some (.ref 79)) := Eq.mp (congrArg (fun v => h1.IsCell (h.objs.size + 1) v) (by kernel_rfl)) (cell1 (Str.ofString "mycmp") (h.objs.size + 1) (by kernel_rfl))
  dsimp only at ns1 k1 fr1 cx
  generalize hE : callEnvC _ _ _ = env at *
  have CE : CEnv env (h.objs.size + 1) := by subst hE; exact ⟨rfl, rfl, rfl, by kernel_rfl⟩
  have hL : env.locals = h.objs.size := by subst hE; rfl
  have hk : env.scope.kind = .function := by subst hE; rfl
  have hlK : env.kindOf (Str.ofString "K") = some .local := by subst hE; kernel_rfl
  have hlo : env.kindOf (Str.ofString "object") = some .globalImplicit := by subst hE; kernel_rfl
  have hq : qualnameIn env (Str.ofString "K") (Str.ofString "K") = Str.ofString "cmp_to_key.<locals>.K" := by subst hE; kernel_rfl
  clear hE
  rw [ck_body]
  refine ex_cons ?_
  rw [arm_exec_ClassDef, hq]
  have KX1 := KX.keeps k1
  refine wpAny_bind (wpAny_pure (wpAny_bind (wpAny_standAt (wpAny_bind ?_))))
  unfold buildClassGuard
  rw [CE.b]
  refine wpAny_bind (Looks.at (looks_nsIn KX1 n0_build) (wpAny_pure ?_))
  refine wpAny_bind (wpAny_holding (wpAny_bind ?_))
  have hob : ∀ (Q : Value → Shared → Prop) (E : Value → Shared → Prop), Q (.type "object") (St h1 c t1) → wpAny (model pw w) (A.deeper env) (eval (Expr.Name (Str.ofString "object") ⟨4, 12, 4, 18⟩) env) Q E (St h1 c t1) := fun Q E q => bv KX1 n3_object n0_object q hk hlo CE.g CE.b (by decide +kernel)
  unfold evalArgs
  show wpAny _ _ (spliced (backTo (cPos cK) (starEach [Expr.Name (Str.ofString "object") ⟨4, 12, 4, 18⟩] env)) >>= _) _ _ _
  refine wpAny_bind (spliced_more ?_ rfl)
  refine hob _ _ (spliced_none ?_)
  refine wpAny_bind (wpAny_pure ?_)
  refine wpAny_holding (wpAny_bind (wpAny_pure (wpAny_bind (wpAny_pure (wpAny_pure ?_)))))
  refine wpAny_bind (wpAny_standAt (wpAny_holding ?_))
  obtain ⟨oL, esL, epL, gL, dL, rL⟩ := id ns1
  have z1 : h.objs.size ≤ h1.objs.size := Nat.le_trans fr1 (Nat.le_of_lt (Heap.lt_size gL))
  have T1 : CT N h1 := T.keeps k1
  refine build_spec (c := c) (cell := h.objs.size + 1) KX1 ?_ CE (Nat.le_trans hz z1) T1 cx fun h2 t2 k ok2 z2 T2 CA new => ?_
  · exact Room.le (Room.deeper hA) (by decide)
  have n16 : env.locals ≠ 16 := fun z => by rw [z] at fr1; exact absurd (Nat.le_trans N.2 (Nat.le_trans hz fr1)) (by decide)
  have gL2 : h2.get? env.locals = some oL := ok2 _ _ gL n16 (fun _ ps z => by rw [z] at dL; cases dL)
  have ns2 : h2.Ns env.locals _ := ⟨oL, esL, epL, gL2, dL, rL⟩
  refine wpAny_bind (wpAny_pure (wpAny_bind (wpAny_standAt (wpAny_bind ?_))))
  unfold bindName
  refine wpAny_bind (wpAny_holding (wpAny_point (wpAny_bind ?_)))
  have F2 : Fq (hideAll h2 [env.locals]) env.locals h2 _ := ⟨ns2, hide_keeps, hide_none⟩
  refine svq F2 (fun h3 t3 F3 s3 => wpAny_point (wpAny_pure (co_next ?_))) hk hlK
  refine ex_cons (wpAny_Return_some (lvq F3 (if_pos rfl) (co_ret ?_) hk hlK (by decide +kernel)))
  have nL : ∀ b o, h.get? b = some o → b ≠ env.locals := fun b o e z => by rw [z] at e; exact absurd (Nat.lt_of_lt_of_le (Heap.lt_size e) fr1) (Nat.lt_irrefl _)
  refine H h3 _ k (fun b o e n ht => (s3.2 b (nL b o e)).trans (ok2 b o (k1 b o e) n ht)) (Nat.le_trans z1 (Nat.le_trans z2 (Nat.le_of_eq s3.1.symm))) (T2.kf (KF.but s3 gL2 fun vs z => by rw [z] at dL; cases dL))
    (CA.but s3 (fun p hp z => by have := new p hp; rw [z, gL] at this; cases this) gL2 (fun vs z => by rw [z] at dL; cases dL) (fun vs z => by rw [z] at dL; cases dL)) fun p hp => ?_
  cases q : h.get? p.1 with
  | none => rfl
  | some o => have := new p hp; rw [k1 _ _ q] at this; cases this
end E2_
section H1_
open PySem
structure Wk (lt : Addr → Addr → Bool) : Prop where
  as : ∀ a b, lt a b = true → lt b a = false
  tr : ∀ a b c, lt b a = false → lt c b = false → lt c a = false
theorem Wk.irr {lt : Addr → Addr → Bool} (W : Wk lt) (a : Addr) : lt a a = false := by
  cases e : lt a a with
  | false => rfl
  | true => rw [W.as a a e] at e; cases e
variable {lt : Addr → Addr → Bool}
noncomputable def HP (lt : Addr → Addr → Bool) (s : Nat) (ks : List Addr) : Prop := ∀ j, 0 < j → j < ks.length → s ≤ (j - 1) / 2 → lt (ks.getD j 0) (ks.getD ((j - 1) / 2) 0) = false
noncomputable def HX (lt : Addr → Addr → Bool) (s p : Nat) (ks : List Addr) : Prop := ∀ j, 0 < j → j < ks.length → s ≤ (j - 1) / 2 → j ≠ p → (j - 1) / 2 ≠ p → lt (ks.getD j 0) (ks.getD ((j - 1) / 2) 0) = false
noncomputable def GP (lt : Addr → Addr → Bool) (s p : Nat) (ks : List Addr) : Prop := s < p → ∀ j, 0 < j → j < ks.length → (j - 1) / 2 = p → lt (ks.getD j 0) (ks.getD ((p - 1) / 2) 0) = false
inductive Anc (s : Nat) : Nat → Prop
  | refl : Anc s s
  | up {p : Nat} : s < p → Anc s ((p - 1) / 2) → Anc s p
theorem Anc.le {s p : Nat} : Anc s p → s ≤ p
  | .refl => Nat.le_refl _
  | .up h _ => Nat.le_of_lt h
theorem Anc.par {s p : Nat} (a : Anc s p) (h : s < p) : Anc s ((p - 1) / 2) := by
  cases a with
  | refl => exact absurd h (Nat.lt_irrefl _)
  | up _ a => exact a
theorem gs {ks : List Addr} {p j : Nat} {v : Addr} (hp : p < ks.length) : (ks.set p v).getD j 0 = if j = p then v else ks.getD j 0 := by
  rw [List.getD_eq_getElem?_getD, List.getElem?_set, List.getD_eq_getElem?_getD]
  by_cases e : p = j
  · subst e; simp [hp]
  · rw [if_neg e, if_neg (fun z => e z.symm)]
theorem HX.set {s p : Nat} {ks : List Addr} {v : Addr} (x : HX lt s p ks) (hp : p < ks.length) : HX lt s p (ks.set p v) := fun j a b c d e => by
  rw [List.length_set] at b
  rw [gs hp, gs hp, if_neg d, if_neg e]
  exact x j a b c d e
theorem sd_heap (W : Wk lt) (x : Addr) (s : Nat) : ∀ (p : Nat) (ks : List Addr), p < ks.length → Anc s p → HX lt s p ks → (∀ j, 0 < j → j < ks.length → (j - 1) / 2 = p → lt (ks.getD j 0) x = false) → GP lt s p ks → HP lt s (sd lt x s p ks) := by
  intro p
  induction p using Nat.strongRecOn with
  | ind p ih =>
    intro ks hp an hx i2 gp
    have fin : (s < p → lt x (ks.getD ((p - 1) / 2) 0) = false) → HP lt s (ks.set p x) := by
      intro hpar j a b c
      rw [List.length_set] at b
      rw [gs hp, gs hp]
      by_cases ej : j = p
      · subst ej
        rw [if_pos rfl]
        have : ¬ (j - 1) / 2 = j := by omega
        rw [if_neg this]
        have := an.le
        by_cases hs : s < j
        · exact hpar hs
        · have : s = j := by omega
          omega
      · rw [if_neg ej]
        by_cases eq : (j - 1) / 2 = p
        · rw [if_pos eq]; exact i2 j a b eq
        · rw [if_neg eq]; exact hx j a b c ej eq
    rw [sd]
    split
    · rename_i hs
      have ap := an.par hs
      have hpp : (p - 1) / 2 < p := by omega
      have hle := ap.le
      split
      · rename_i hl
        refine ih _ hpp _ (by rw [List.length_set]; omega) ap ?_ ?_ ?_
        · intro j a b c d e
          rw [List.length_set] at b
          rw [gs hp, gs hp]
          by_cases ej : j = p
          · subst ej; exact absurd rfl e
          · rw [if_neg ej]
            by_cases eq : (j - 1) / 2 = p
            · rw [if_pos eq]; exact gp hs j a b eq
            · rw [if_neg eq]; exact hx j a b c ej eq
        · intro j a b c
          rw [List.length_set] at b
          rw [gs hp]
          by_cases ej : j = p
          · rw [if_pos ej]; exact W.as _ _ hl
          · rw [if_neg ej]
            refine W.tr _ (ks.getD ((p - 1) / 2) 0) _ (W.as _ _ hl) ?_
            have := hx j a b (by omega) ej (by omega)
            rw [c] at this
            exact this
        · intro hs' j a b c
          rw [List.length_set] at b
          have ap2 := (ap.par hs').le
          have h1 : lt (ks.getD ((p - 1) / 2) 0) (ks.getD (((p - 1) / 2 - 1) / 2) 0) = false := hx _ (by omega) (by omega) ap2 (by omega) (by omega)
          rw [gs hp, gs hp, if_neg (by omega : ¬ ((p - 1) / 2 - 1) / 2 = p)]
          by_cases ej : j = p
          · rw [if_pos ej]; exact h1
          · rw [if_neg ej]
            refine W.tr _ _ _ h1 ?_
            have := hx j a b (by omega) ej (by omega)
            rw [c] at this
            exact this
      · rename_i hl
        exact fin fun _ => by simpa using hl
    · rename_i hs
      exact fin fun h => absurd h hs
theorem ch_par {ks : List Addr} {p : Nat} : (ch lt ks p - 1) / 2 = p := by unfold ch; split <;> omega
theorem hf1 {j : Nat} (a : 0 < j) : ¬ (j - 1) / 2 = j := by omega
theorem hf2 {j p : Nat} (a : 0 < j) (e : (j - 1) / 2 = p) : j = 2 * p + 1 ∨ j = 2 * p + 2 := by omega
theorem hf3 {j p q : Nat} (a : 0 < j) (e : (j - 1) / 2 = q) (h : p < q) (z : j = p) : False := Nat.lt_irrefl _ (Nat.lt_of_lt_of_le (z ▸ h) (e ▸ Nat.le_trans (Nat.div_le_self _ _) (Nat.sub_le _ _)))
theorem su_heap (W : Wk lt) (s : Nat) : ∀ (n p : Nat) (ks : List Addr), ks.length - p = n → p < ks.length → Anc s p → HX lt s p ks → GP lt s p ks →
    Anc s (su lt p ks).1 ∧ HX lt s (su lt p ks).1 (su lt p ks).2 ∧ GP lt s (su lt p ks).1 (su lt p ks).2 ∧ ks.length ≤ 2 * (su lt p ks).1 + 1 := by
  intro n
  induction n using Nat.strongRecOn with
  | ind n ih =>
    intro p ks hn hp an hx gp
    rw [su]
    split
    · rename_i hc
      have h1 := ch_lt (lt := lt) hc
      have h2 := ch_gt (lt := lt) (ks := ks) (p := p)
      have h3 := ch_par (lt := lt) (ks := ks) (p := p)
      have := ih (ks.length - ch lt ks p) (hn ▸ Nat.sub_lt_sub_left hp h2) (ch lt ks p) (ks.set p (ks.getD (ch lt ks p) 0)) (by rw [List.length_set]) (by rw [List.length_set]; exact h1)
        (.up (Nat.lt_of_le_of_lt an.le h2) (by rw [h3]; exact an)) ?_ ?_
      · rw [List.length_set] at this
        exact this
      · intro j a b c d e
        rw [List.length_set] at b
        rw [gs hp, gs hp]
        by_cases ej : j = p
        · subst ej
          rw [if_pos rfl, if_neg (hf1 a)]
          by_cases hs : s < j
          · exact gp hs _ (by omega) h1 h3
          · have := an.le
            omega
        · rw [if_neg ej]
          by_cases eq : (j - 1) / 2 = p
          · rw [if_pos eq]
            have hj : j = 2 * p + 1 ∨ j = 2 * p + 2 := hf2 a eq
            unfold ch at d ⊢
            split
            · rename_i q
              rw [if_pos q] at d
              have : j = 2 * p + 1 := hj.resolve_right d
              rw [this]
              exact q.2
            · rename_i q
              rw [if_neg q] at d
              have : j = 2 * p + 2 := hj.resolve_left d
              rw [this]
              refine W.as _ _ ?_
              cases z : lt (ks.getD (2 * p + 1) 0) (ks.getD (2 * p + 2) 0) with
              | true => rfl
              | false => exact absurd ⟨this ▸ b, z⟩ q
          · rw [if_neg eq]
            exact hx j a b c ej eq
      · intro _ j a b c
        rw [List.length_set] at b
        rw [gs hp, gs hp, if_neg (fun z => hf3 a c h2 z), h3, if_pos rfl]
        have := hx j a b (c ▸ Nat.le_of_lt (Nat.lt_of_le_of_lt an.le h2)) (fun z => hf3 a c h2 z) (fun z => Nat.ne_of_gt h2 (c.symm.trans z))
        rw [c] at this
        exact this
    · rename_i hc
      exact ⟨an, hx, gp, Nat.le_of_not_lt hc⟩
theorem siftup_heap (W : Wk lt) {pos : Nat} {ks : List Addr} (hp : pos < ks.length) (h : HP lt (pos + 1) ks) : HP lt pos (siftup lt pos ks) := by
  obtain ⟨a, b, d⟩ := su_perm (lt := lt) _ pos ks rfl hp
  obtain ⟨an, hx, gp, hl⟩ := su_heap W pos _ pos ks rfl hp .refl (fun j a b c d e => h j a b (by omega)) (fun h => absurd h (Nat.lt_irrefl _))
  unfold siftup
  refine sd_heap W _ _ _ _ (by rw [List.length_set, a]; exact b) an (hx.set (by rw [a]; exact b)) ?_ ?_
  · intro j p q r
    rw [List.length_set, a] at q
    omega
  · intro hs j p q r
    rw [List.length_set, a] at q
    omega
theorem hfy_heap (W : Wk lt) : ∀ (i : Nat) (ks : List Addr), i ≤ ks.length → HP lt i ks → HP lt 0 (hfy lt i ks)
  | 0, _, _, h => h
  | i + 1, ks, hi, h => by
    have p := siftup_perm (lt := lt) (pos := i) (ks := ks) (by omega)
    exact hfy_heap W i _ (by rw [p.length_eq]; omega) (siftup_heap W (by omega) h)
theorem heapify_heap (W : Wk lt) (ks : List Addr) : HP lt 0 (hfy lt (ks.length / 2) ks) := hfy_heap W _ _ (by omega) fun j a b c => by omega
theorem top_min (W : Wk lt) {ks : List Addr} (h : HP lt 0 ks) : ∀ j, j < ks.length → lt (ks.getD j 0) (ks.getD 0 0) = false := by
  intro j
  induction j using Nat.strongRecOn with
  | ind j ih =>
    intro hj
    by_cases e : j = 0
    · subst e; exact W.irr _
    · exact W.tr _ _ _ (ih ((j - 1) / 2) (by omega) (by omega)) (h j (by omega) hj (Nat.zero_le _))
theorem HP.set0 {ks : List Addr} {x : Addr} (h : HP lt 0 ks) : HP lt 1 (ks.set 0 x) := fun j a b c => by
  rw [List.length_set] at b
  rw [gs (by omega), gs (by omega), if_neg (by omega), if_neg (by omega)]
  exact h j a b (Nat.zero_le _)
theorem HP.other {lt' : Addr → Addr → Bool} {ks : List Addr} {s : Nat} (h : HP lt s ks) (ha : ∀ i j, s ≤ i → s ≤ j → i < ks.length → j < ks.length → lt' (ks.getD i 0) (ks.getD j 0) = lt (ks.getD i 0) (ks.getD j 0)) : HP lt' s ks := fun j a b c => by
  rw [ha j ((j - 1) / 2) (by omega) c b (by omega)]
  exact h j a b c
theorem HP.pop {ks : List Addr} {x : Addr} (h : HP lt 0 (ks ++ [x])) : HP lt 0 ks := fun j a b c => by
  have := h j a (by rw [List.length_append]; omega) c
  rw [List.getD_eq_getElem?_getD, List.getD_eq_getElem?_getD, List.getElem?_append_left b, List.getElem?_append_left (by omega)] at this
  rw [List.getD_eq_getElem?_getD, List.getD_eq_getElem?_getD]
  exact this
end H1_
section M1_
open PySem
noncomputable def half (val : Addr → Int) (a : Addr) : Int := (val a).fdiv 2
noncomputable def upd (S : Nat → List Addr) (i : Nat) (r : List Addr) : Nat → List Addr := fun k => if k = i then r else S k
inductive Mg (val : Addr → Int) : (Nat → List Addr) → List Addr → Prop
  | done {S : Nat → List Addr} : (∀ k, S k = []) → Mg val S []
  | step {S : Nat → List Addr} {i : Nat} {x : Addr} {r out : List Addr} : S i = x :: r → (∀ j y l, S j = y :: l → j ≠ i → half val x < half val y ∨ (half val x = half val y ∧ i < j)) → Mg val (upd S i r) out → Mg val S (x :: out)
structure Ky where
  M : Addr → Int
  rr : Addr → Int
  kk : Addr → Int
noncomputable def Kl (K : Ky) (x y : Addr) : Prop := K.M x < K.M y ∨ (K.M x = K.M y ∧ (K.rr x < K.rr y ∨ (K.rr x = K.rr y ∧ K.kk x < K.kk y)))
theorem Kl.trans {K : Ky} {x y z : Addr} (a : Kl K x y) (b : Kl K y z) : Kl K x z := by
  rcases a with a | ⟨a1, a | ⟨a2, a⟩⟩
  · rcases b with b | ⟨b1, _⟩
    · exact .inl (Int.lt_trans a b)
    · exact .inl (b1 ▸ a)
  · rcases b with b | ⟨b1, b | ⟨b2, _⟩⟩
    · exact .inl (a1.symm ▸ b)
    · exact .inr ⟨a1.trans b1, .inl (Int.lt_trans a b)⟩
    · exact .inr ⟨a1.trans b1, .inl (b2 ▸ a)⟩
  · rcases b with b | ⟨b1, b | ⟨b2, b⟩⟩
    · exact .inl (a1.symm ▸ b)
    · exact .inr ⟨a1.trans b1, .inl (a2.symm ▸ b)⟩
    · exact .inr ⟨a1.trans b1, .inr ⟨a2.trans b2, Int.lt_trans a b⟩⟩
theorem Kl.asymm {K : Ky} {x y : Addr} (a : Kl K x y) (b : Kl K y x) : False := by
  rcases a.trans b with h | ⟨_, h | ⟨_, h⟩⟩ <;> exact Int.lt_irrefl _ h
structure Good (val : Addr → Int) (K : Ky) (L : Nat → List Addr) : Prop where
  c1 : ∀ k, (L k).Pairwise (Kl K)
  c2 : ∀ i j x y, i < j → x ∈ L i → y ∈ L j → K.rr x < K.rr y
  c3 : ∀ k x, x ∈ L k → half val x ≤ K.M x
  c4 : ∀ k x, x ∈ L k → ∃ y ∈ L k, half val y = K.M x ∧ (y = x ∨ Kl K y x)
theorem mg_sorted {val : Addr → Int} {K : Ky} {S : Nat → List Addr} {out : List Addr} (m : Mg val S out) : ∀ (pop : Nat → List Addr), Good val K (fun k => pop k ++ S k) → (∀ i x j y, x ∈ pop i → y ∈ S j → Kl K x y) →
    out.Pairwise (Kl K) ∧ ∀ y, y ∈ out ↔ ∃ k, y ∈ S k := by
  induction m with
  | done h =>
    intro pop G P
    refine ⟨.nil, fun y => ⟨fun e => (by cases e), fun ⟨k, e⟩ => (by rw [h k] at e; cases e)⟩⟩
  | @step S i x r out hi hmin m ih =>
    intro pop G P
    have xL : x ∈ pop i ++ S i := by rw [hi]; simp
    have sr : ∀ y ∈ r, Kl K x y := by
      have := G.c1 i
      rw [hi, List.pairwise_append] at this
      exact (List.pairwise_cons.mp this.2.1).1
    have hd : ∀ j y0 l, S j = y0 :: l → j ≠ i → Kl K x y0 := by
      intro j y0 l hj hne
      have yL : y0 ∈ pop j ++ S j := by rw [hj]; simp
      have h3 := G.c3 j y0 yL
      have h3x := G.c3 i x xL
      obtain ⟨y', hy', e1, e2⟩ := G.c4 i x xL
      have pick := hmin j y0 l hj hne
      have cmp : i < j → K.rr x < K.rr y0 := fun h => G.c2 i j x y0 h xL yL
      have cmp' : j < i → K.rr y0 < K.rr y' := fun h => G.c2 j i y0 y' h yL hy'
      rcases e2 with e2 | e2
      · subst e2
        unfold Kl
        have := cmp
        rcases pick with p | ⟨p, q⟩
        · omega
        · have := cmp q; omega
      · have hp : y' ∈ pop i := by
          rcases List.mem_append.mp hy' with h | h
          · exact h
          · rw [hi] at h
            rcases List.mem_cons.mp h with h | h
            · subst h; exact (Kl.asymm e2 e2).elim
            · exact (Kl.asymm e2 (sr _ h)).elim
        have hk := P i y' j y0 hp (by rw [hj]; exact .head _)
        have h3' := G.c3 i y' hy'
        unfold Kl at hk ⊢
        rcases Nat.lt_or_gt_of_ne hne with h | h
        · have := cmp' h; omega
        · have := cmp h; omega
    have all : ∀ j y, y ∈ upd S i r j → Kl K x y := by
      intro j y hy
      unfold upd at hy
      split at hy
      · exact sr y hy
      · rename_i hne
        cases hj : S j with
        | nil => rw [hj] at hy; cases hy
        | cons y0 l =>
          have h0 := hd j y0 l hj hne
          rw [hj] at hy
          rcases List.mem_cons.mp hy with rfl | hy
          · exact h0
          · have := G.c1 j
            rw [hj, List.pairwise_append] at this
            exact h0.trans ((List.pairwise_cons.mp this.2.1).1 y hy)
    have ex : (fun k => upd pop i (pop i ++ [x]) k ++ upd S i r k) = fun k => pop k ++ S k := by
      funext k
      unfold upd
      by_cases e : k = i
      · subst e; simp [hi]
      · simp [e]
    obtain ⟨s1, s2⟩ := ih (upd pop i (pop i ++ [x])) (by rw [ex]; exact G) (by
      intro i' a j y ha hy
      have hy' : y ∈ S j := by
        unfold upd at hy
        split at hy
        · rename_i e; subst e; rw [hi]; exact .tail _ hy
        · exact hy
      unfold upd at ha
      split at ha
      · rename_i e
        subst e
        rcases List.mem_append.mp ha with ha | ha
        · exact P _ a j y ha hy'
        · rw [List.mem_singleton] at ha; subst ha; exact all j y hy
      · exact P i' a j y ha hy')
    refine ⟨List.pairwise_cons.mpr ⟨fun y hy => ?_, s1⟩, fun y => ?_⟩
    · obtain ⟨k, hk⟩ := (s2 y).mp hy
      exact all k y hk
    · rw [List.mem_cons, s2]
      constructor
      · rintro (rfl | ⟨k, hk⟩)
        · exact ⟨i, by rw [hi]; exact .head _⟩
        · unfold upd at hk
          split at hk
          · rename_i e; subst e; exact ⟨k, by rw [hi]; exact .tail _ hk⟩
          · exact ⟨k, hk⟩
      · rintro ⟨k, hk⟩
        by_cases e : k = i
        · subst e
          rw [hi] at hk
          rcases List.mem_cons.mp hk with h | h
          · exact .inl h
          · exact .inr ⟨k, by unfold upd; rw [if_pos rfl]; exact h⟩
        · exact .inr ⟨k, by unfold upd; rw [if_neg e]; exact hk⟩
theorem sorted_eq {K : Ky} : ∀ {a b : List Addr}, a.Pairwise (Kl K) → b.Pairwise (Kl K) → (∀ y, y ∈ a ↔ y ∈ b) → a = b
  | [], [], _, _, _ => rfl
  | [], y :: b, _, _, h => by have := (h y).mpr (.head _); cases this
  | x :: a, [], _, _, h => by have := (h x).mp (.head _); cases this
  | x :: a, y :: b, ha, hb, h => by
    obtain ⟨a1, a2⟩ := List.pairwise_cons.mp ha
    obtain ⟨b1, b2⟩ := List.pairwise_cons.mp hb
    have e : x = y := by
      rcases List.mem_cons.mp ((h x).mp (.head _)) with e | e
      · exact e
      · rcases List.mem_cons.mp ((h y).mpr (.head _)) with f | f
        · exact f.symm
        · exact (Kl.asymm (b1 x e) (a1 y f)).elim
    subst e
    refine congrArg _ (sorted_eq a2 b2 fun z => ?_)
    have := h z
    constructor
    · intro hz
      rcases List.mem_cons.mp (this.mp (.tail _ hz)) with e | e
      · subst e; exact (Kl.asymm (a1 z hz) (a1 z hz)).elim
      · exact e
    · intro hz
      rcases List.mem_cons.mp (this.mpr (.tail _ hz)) with e | e
      · subst e; exact (Kl.asymm (b1 z hz) (b1 z hz)).elim
      · exact e
end M1_
section L1_
open PySem PySem.W PyProof.Rows PySem.W.X
noncomputable def Sb (C D : Addr) (wr : List Addr) (h h' : Heap) : Prop := ∀ b o, b ≠ C → b ≠ D → b ∉ wr → h.get? b = some o → h'.get? b = some o
noncomputable abbrev tsts (ifs : List PySem.Expr) (env : Env) : Sem Bool := forIn ifs true fun c r => if r = true then do let ok ← isTrue c env (eval c env); pure (ForInStep.yield ok) else pure (ForInStep.yield r)
section
variable {w : World} {A : Around} {E : Value → Shared → Prop} {c : Shared} {env : Env}
structure LC0 (w : World) (A : Around) (c : Shared) (env : Env) (scope : Scope) (cl : List (Str × Addr)) (x : Str) (ifs : List PySem.Expr) (elt : PySem.Expr) (h₂ : Heap) (t₂ : Nat) (I : Addr) (fp wr : List Addr) (n : Nat) (P : Nat → Value → Prop) (S : Nat → Heap → Prop) (J : Addr → Addr → Nat → List Value → Heap → Prop) : Prop where
  W : Walks pw w A I fp wr n P S
  sz : n < 2 ^ 20
  s0 : S 0 h₂
  fp : ∀ b ∈ fp, b < h₂.objs.size
  live : ∀ i h, S i h → ∀ b ∈ wr, ∃ o, h.get? b = some o
  j0 : ∀ C D h, h₂.get? C = none → h₂.get? D = none → Keeps h₂ h → J C D 0 [] h
  len : ∀ C D i ys h, J C D i ys h → ys.length ≤ i
  st : ∀ C D i ys h h', J C D i ys h → Sb C D wr h h' → J C D i ys h'
  turn : ∀ C D i v ys h t m E', i < n → P i v → h₂.get? C = none → h₂.get? D = none → C ≠ D → (∀ b o, b ∉ wr → h₂.get? b = some o → h.get? b = some o) → h.Ns C m → m x = some v → LL h D ys → S (i + 1) h → (∀ b ∈ wr, ∃ o, h.get? b = some o) → J C D i ys h →
    wpAny (model pw w) A (tsts ifs (compEnvC scope cl C env)) (fun ok s₃ => if ok = true then wpAny (model pw w) A (eval elt (compEnvC scope cl C env)) (fun y s₄ => ∃ h₄ t₄, s₄ = St h₄ c t₄ ∧ Keeps h h₄ ∧ J C D (i + 1) (ys ++ [y]) h₄) E' s₃
      else ∃ h₃ t₃, s₃ = St h₃ c t₃ ∧ Keeps h h₃ ∧ J C D (i + 1) ys h₃) E' (St h c t)
structure LC (w : World) (A : Around) (c : Shared) (env : Env) (scope : Scope) (cl : List (Str × Addr)) (x : Str) (ifs : List PySem.Expr) (elt : PySem.Expr) (Q : Value → Shared → Prop) (h₂ : Heap) (t₂ : Nat) (I : Addr) (fp wr : List Addr) (n : Nat) (P : Nat → Value → Prop) (S : Nat → Heap → Prop) (J : Addr → Addr → Nat → List Value → Heap → Prop) : Prop where
  W : Walks pw w A I fp wr n P S
  sz : n < 2 ^ 20
  s0 : S 0 h₂
  fp : ∀ b ∈ fp, b < h₂.objs.size
  live : ∀ i h, S i h → ∀ b ∈ wr, ∃ o, h.get? b = some o
  j0 : ∀ C D h, h₂.get? C = none → h₂.get? D = none → Keeps h₂ h → J C D 0 [] h
  len : ∀ C D i ys h, J C D i ys h → ys.length ≤ i
  st : ∀ C D i ys h h', J C D i ys h → Sb C D wr h h' → J C D i ys h'
  turn : ∀ C D i v ys h t m E', i < n → P i v → h₂.get? C = none → h₂.get? D = none → C ≠ D → (∀ b o, b ∉ wr → h₂.get? b = some o → h.get? b = some o) → h.Ns C m → m x = some v → LL h D ys → S (i + 1) h → (∀ b ∈ wr, ∃ o, h.get? b = some o) → J C D i ys h →
    wpAny (model pw w) A (tsts ifs (compEnvC scope cl C env)) (fun ok s₃ => if ok = true then wpAny (model pw w) A (eval elt (compEnvC scope cl C env)) (fun y s₄ => ∃ h₄ t₄, s₄ = St h₄ c t₄ ∧ Keeps h h₄ ∧ J C D (i + 1) (ys ++ [y]) h₄) E' s₃
      else ∃ h₃ t₃, s₃ = St h₃ c t₃ ∧ Keeps h h₃ ∧ J C D (i + 1) ys h₃) E' (St h c t)
  fin : ∀ C D h t ys, h₂.get? C = none → h₂.get? D = none → C ≠ D → J C D n ys h → LL h D ys → (∀ b o, b ∉ wr → h₂.get? b = some o → h.get? b = some o) → Q (.ref D) (St h c t)
theorem lc_core {elt iter : PySem.Expr} {x : Str} {px : Pos} {ifs : List PySem.Expr} {scope : Scope} {cl : List (Str × Addr)} {pos : Pos} {h₂ : Heap} {t₂ : Nat} {I : Addr} {fp wr : List Addr} {n : Nat} {P : Nat → Value → Prop} {S : Nat → Heap → Prop} {J : Addr → Addr → Nat → List Value → Heap → Prop} {RR : Value → Addr → Result → Shared → Prop}
    (L : LC0 w A c env scope cl x ifs elt h₂ t₂ I fp wr n P S J) (hcell : ∀ y ∈ scope.names, y.2 ≠ .cell) (hkind : scope.kind = .function) (hx : scope.names.lookup x = some .local)
    (hRR : ∀ C D h t ys m', h₂.get? C = none → h₂.get? D = none → C ≠ D → J C D n ys h → LL h D ys → h.Ns C m' → (∀ b o, b ∉ wr → h₂.get? b = some o → h.get? b = some o) → RR (.ref D) C (.ok .next) (St h c t)) :
    wpAny (model pw w) A (newList []) (fun acc s₃ => wpAny (model pw w) A (newFunctionEnv scope env.globals cl [] env.qual none .none (some env)) (fun cenv s₄ =>
      codeAny (model pw w) A (.compStart (.ListComp elt [⟨.Name x px, iter, ifs, 0⟩] scope pos) 0 (.ref I) acc { cenv with scope := relabel scope env }) (RR acc cenv.locals) s₄) E s₃) E (St h₂ c t₂) := by
  refine wpAny_newObj_type (wpAny_newFunctionEnv hcell (by intro y hy; simp at hy) (fun h₁ hns₁ hsb₁ => ?_) hkind)
  dsimp only at hns₁ hsb₁ ⊢
  generalize hH2 : h₂.push { cls := .type "list", dict := none, data := .seq ([] : List Value).toArray } = H2 at hns₁ hsb₁ ⊢
  have hC : H2.objs.size = h₂.objs.size + 1 := by rw [← hH2, Heap.size_push]
  generalize hDe : h₂.objs.size = D at *
  generalize hCe : H2.objs.size = C at *
  have hDC : D ≠ C := by rw [hC]; exact Nat.ne_of_lt (Nat.lt_succ_self _)
  have below : ∀ b, b < D → b ≠ C ∧ b ≠ D := fun b hb => ⟨by rw [hC]; exact Nat.ne_of_lt (Nat.lt_succ_of_lt hb), Nat.ne_of_lt hb⟩
  have hDf : D ∉ fp := fun hm => Nat.lt_irrefl _ (hDe ▸ L.fp _ hm)
  have hCf : C ∉ fp := fun hm => by have := L.fp _ hm; rw [hDe, hC] at this; exact Nat.lt_irrefl _ (Nat.lt_of_succ_lt this)
  have old : Keeps h₂ h₁ := fun b o e => hsb₁.extBut b o (below b (hDe ▸ Heap.lt_size e)).1 (Heap.get?_push_of_some _ (hH2 ▸ Heap.get?_push_of_some _ e))
  have hacc : LL h₁ D [] := ⟨0, hsb₁.extBut _ _ hDC (Heap.get?_push_of_some _ (hH2 ▸ hDe ▸ Heap.get?_push_size _ rfl))⟩
  have fD : h₂.get? D = none := none_of_ge (Nat.le_of_eq hDe)
  have fC : h₂.get? C = none := none_of_ge (by rw [hDe, hC]; exact Nat.le_succ _)
  have hst₁ : S 0 h₁ := L.W.frame _ _ _ L.s0 fun b _ o e => old b o e
  have hCw : C ∉ wr := fun h => hCf (L.W.sub _ h)
  have hDw : D ∉ wr := fun h => hDf (L.W.sub _ h)
  have hkC : (compEnvC scope cl C env).kindOf x = some .local := lookup_relabel_local hx
  have hpC : ((compEnvC scope cl C env).scope.kind == .class || ((compEnvC scope cl C env).scope.kind == .module && (compEnvC scope cl C env).locals != (compEnvC scope cl C env).globals)) = false := by simp [compEnvC, relabel, hkind]
  have loop : ∀ s₃ : Shared, s₃ = St h₁ c (t₂ + ([] : List (Str × Value)).length) →
      codeAny (model pw w) A (.compLoop (.ListComp elt [⟨.Name x px, iter, ifs, 0⟩] scope pos) 0 (.ref I) (.ref D) (compEnvC scope cl C env)) (RR (.ref D) C) s₃ := by
    rintro s₃ rfl
    refine codeAny_compLoop_tests (fun k s' => ∃ i h' t' m' ys, s' = St h' c t' ∧ i ≤ n ∧ k = n - i ∧ S i h' ∧ LL h' D ys ∧ h'.Ns C m' ∧ J C D i ys h' ∧ (∀ b o, b ∉ wr → h₂.get? b = some o → h'.get? b = some o)) ?_ n
      ⟨0, h₁, _, _, [], rfl, Nat.zero_le _, rfl, hst₁, hacc, hns₁, L.j0 C D h₁ fC fD old, fun b o _ e => old b o e⟩
    rintro k s' ⟨i, h', t', m', ys, rfl, hi, rfl, hS, hl, hn, hJ, hk⟩
    by_cases hlt : i < n
    · refine L.W.item i _ _ _ hlt hS fun v h3 t3 hv hS3 hk3 => ?_
      obtain ⟨nl, el⟩ := id hl
      have l3 : LL h3 D ys := ⟨nl, hk3 _ _ hDw el⟩
      have n3 : h3.Ns C m' := hn.at' fun o e => hk3 _ o hCw e
      refine wpAny_assign_Name (wpAny_storeName_local (s := St h3 c t3) hkC n3 (fun h4 hn4 hs4 => ?_) hpC)
      have hs4' : Heap.SameBut C h3 h4 := hs4
      have hn4' : h4.Ns C _ := hn4
      have S4 : S (i + 1) h4 := L.W.frame _ _ _ hS3 fun b hb o e => hs4'.extBut b o (fun h => hCf (h ▸ hb)) e
      have l4 : LL h4 D ys := list_but l3 hs4' hDC
      have k4 : ∀ b o, b ∉ wr → h₂.get? b = some o → h4.get? b = some o := fun b o hb e => hs4'.extBut b o (below b (hDe ▸ Heap.lt_size e)).1 (hk3 b o hb (hk b o hb e))
      have J4 : J C D i ys h4 := L.st C D i ys h' h4 hJ fun b o h1 _ h3 e => hs4'.extBut b o h1 (hk3 b o h3 e)
      have tn := L.turn C D i v ys h4 (t3 + 1) _ (notedBy (model pw w) A (compEnvC scope cl C env) fun e s' => RR (.ref D) C (.error e) s') hlt hv fC fD hDC.symm k4 hn4' (if_pos rfl) l4 S4 (L.live _ _ S4) J4
      refine wpAny_mono tn (fun ok s₃ h₃ => ?_) fun _ _ e => e
      cases ok with
      | false =>
        obtain ⟨h5, t5, rfl, k5, J5⟩ := h₃
        rw [if_neg (by decide)]
        exact ⟨n - (i + 1), by omega, i + 1, h5, t5, _, ys, rfl, hlt, rfl, L.W.frame _ _ _ S4 fun b _ o e => k5 b o e, k5.list l4, hn4'.keeps k5, J5, fun b o hb e => k5 _ _ (k4 b o hb e)⟩
      | true =>
        rw [if_pos rfl] at h₃ ⊢
        refine wpAny_mono h₃ (fun y s₄ h₄ => ?_) fun _ _ e => e
        obtain ⟨h5, t5, rfl, k5, J5⟩ := h₄
        have le5 := L.len _ _ _ _ _ hJ
        refine c_append (k5.list l4) (Nat.lt_of_le_of_lt le5 (Nat.lt_of_le_of_lt hi L.sz)) fun h6 l6 s6 => ?_
        refine ⟨n - (i + 1), by omega, i + 1, h6, t5, _, ys ++ [y], rfl, hlt, rfl, L.W.frame _ _ _ S4 fun b hb o e => s6.extBut b o (fun z => hDf (z ▸ hb)) (k5 b o e), l6, (hn4'.keeps k5).sameBut s6 hDC.symm, L.st _ _ _ _ _ _ J5 fun b o _ h2 _ e => s6.extBut b o h2 e, fun b o hb e => s6.extBut b o (below b (hDe ▸ Heap.lt_size e)).2 (k5 _ _ (k4 b o hb e))⟩
    · have hin : i = n := by omega
      subst hin
      refine L.W.done _ _ _ hS fun h3 t3 hk3 => ?_
      obtain ⟨nl, el⟩ := hl
      exact hRR C D h3 t3 ys m' fC fD hDC.symm (L.st _ _ _ _ _ _ hJ fun b o _ _ h3 e => hk3 b o h3 e) ⟨nl, hk3 _ _ hDw el⟩ (hn.at' fun o e => hk3 _ o hCw e) fun b o hb e => hk3 b o hb (hk b o hb e)
  exact codeAny_compStart_list (loop _ rfl) (L.W.self 0 _ _ _ hst₁ (loop _ rfl))
theorem lcg {s : Shared} {elt iter : PySem.Expr} {x : Str} {px : Pos} {ifs : List PySem.Expr} {scope : Scope} {cl : List (Str × Addr)} {pos : Pos} {Q : Value → Shared → Prop}
    (hclos : closureFor scope env = pure cl) (hcell : ∀ y ∈ scope.names, y.2 ≠ .cell) (hkind : scope.kind = .function)
    (hnames : ∀ y ∈ scope.names, y.2 = .local → scope.names.lookup y.1 = some .local) (hx : scope.names.lookup x = some .local)
    (h : wpAny (model pw w) A (eval iter env) (fun xv s₁ => wpAny (model pw w) A (pyIter xv) (fun it s₂ => ∃ h₂ t₂ I fp wr n P S J, s₂ = St h₂ c t₂ ∧ it = .ref I ∧ LC w A c env scope cl x ifs elt Q h₂ t₂ I fp wr n P S J) E s₁) E s)
    (hs : ∀ x, foldedSetIterable iter env x = pure x := by intro _; rfl) :
    wpAny (model pw w) A (eval (.ListComp elt [⟨.Name x px, iter, ifs, 0⟩] scope pos) env) Q E s := by
  rw [eval_ListComp]
  refine wpAny_comprehension_free (use := none) rfl hs hclos hkind hnames (wpAny_mono h (fun xv s₁ h₁ => wpAny_mono h₁ (fun it s₂ h₂ => ?_) fun _ _ e => e) fun _ _ e => e)
  obtain ⟨h₂, t₂, I, fp, wr, n, P, S, J, rfl, rfl, L⟩ := h₂
  refine lc_core (RR := fun acc C => compPost (model pw w) A E none Q acc C) ⟨L.W, L.sz, L.s0, L.fp, L.live, L.j0, L.len, L.st, L.turn⟩ hcell hkind hx fun C D h t ys m' fC fD hCD hJ hl hn hk => ?_
  refine ⟨m', hn, fun h4 hs4 => ?_⟩
  obtain ⟨nl, el⟩ := hl
  exact L.fin C D h4 t ys fC fD hCD (L.st _ _ _ _ _ _ hJ fun b o h1 _ _ e => hs4.extBut b o h1 e) ⟨nl, hs4.extBut _ _ hCD.symm el⟩ fun b o hb e => hs4.extBut b o (fun z => by rw [z, fC] at e; cases e) (hk b o hb e)
end
end L1_
section R4_
open PySem PySem.W PyProof.Rows PySem.W.X
structure Fc (g : Heap) (env : Env) (h : Heap) (m cm : Str → Option Value) : Prop where
  ns : h.Ns env.locals m
  cell : ∀ n c, env.cells.lookup n = some c → h.IsCell c (cm n)
  apart : env.cells.Pairwise fun x y => x.2 ≠ y.2
  above : ∀ n c, (n, c) ∈ env.cells → env.locals < c
  keep : Keeps g h
  hidL : g.get? env.locals = none
  hidC : ∀ n c, (n, c) ∈ env.cells → g.get? c = none
noncomputable def own (env : Env) : List Addr := env.locals :: env.cells.map (·.2)
theorem mem_lookup {n : Str} {c : Addr} : ∀ {l : List (Str × Addr)}, l.lookup n = some c → (n, c) ∈ l
  | [], e => by cases e
  | q :: K, e => by
    rw [List.lookup_cons] at e
    cases z : n == q.1 with
    | true => rw [z] at e; cases e; rw [beq_iff_eq.mp z]; exact .head _
    | false => rw [z] at e; exact .tail _ (mem_lookup e)
theorem own_cell {env : Env} {n : Str} {c : Addr} (h : (n, c) ∈ env.cells) : c ∈ own env := .tail _ (List.mem_map_of_mem (f := Prod.snd) h)
theorem is_get {h h' : Heap} {c : Addr} {v : Option Value} (x : h.IsCell c v) (e : ∀ o, h.get? c = some o → h'.get? c = some o) : h'.IsCell c v := let ⟨o, a, b⟩ := x; ⟨o, e o a, b⟩
section
variable {g h h' : Heap} {env : Env} {m cm : Str → Option Value}
theorem Fc.grow (F : Fc g env h m cm) (k : Keeps h h') : Fc g env h' m cm := ⟨F.ns.keeps k, fun n c e => is_get (F.cell n c e) fun o q => k _ _ q, F.apart, F.above, Keeps.trans F.keep k, F.hidL, F.hidC⟩
theorem Fc.but {l : Addr} (F : Fc g env h m cm) (s : Heap.SameBut l h h') (hl : l ∉ own env) (hg : g.get? l = none) : Fc g env h' m cm := by
  refine ⟨F.ns.sameBut s fun z => hl (z ▸ .head _), fun n c e => is_get (F.cell n c e) fun o q => ?_, F.apart, F.above, kb F.keep s hg, F.hidL, F.hidC⟩
  exact (s.2 c fun z => hl (z ▸ own_cell (mem_lookup e))).trans q
theorem Fc.base (F : Fc g env h m cm) (l : List Addr) : Fc (hideAll h (own env ++ l)) env h m cm :=
  ⟨F.ns, F.cell, F.apart, F.above, fun _ _ e => of_hideAll _ e, hideAll_none _ (List.mem_append_left _ (.head _)), fun n c e => hideAll_none _ (List.mem_append_left _ (own_cell e))⟩
theorem Fc.move {g' : Heap} (F : Fc g env h m cm) (hk : Keeps g' h') (hL : g'.get? env.locals = none) (hC : ∀ n c, (n, c) ∈ env.cells → g'.get? c = none) (ho : ∀ b ∈ own env, ∀ o, h.get? b = some o → h'.get? b = some o) : Fc g' env h' m cm :=
  ⟨F.ns.at' fun o e => ho _ (.head _) o e, fun n c e => is_get (F.cell n c e) fun o q => ho _ (own_cell (mem_lookup e)) o q, F.apart, F.above, hk, hL, hC⟩
end
section
variable {w : World} {A : Around} {E : Value → Shared → Prop} {h : Heap} {c : Shared} {t : Nat} {env : Env} {g : Heap} {m cm : Str → Option Value}
theorem lvc {x : Str} {pos : Pos} {v : Value} {Q : Value → Shared → Prop} (F : Fc g env h m cm) (hv : m x = some v) (H : Q v (St h c t))
    (hk : env.scope.kind = .function) (hl : env.kindOf x = some .local) (hd : (x == ("__debug__" : Str)) = false) :
    wpAny (model pw w) A (eval (.Name x pos) env) Q E (St h c t) := wpAny_Name (wpAny_loadName_local hk hl F.ns hv H) hd
theorem lcc {x : Str} {pos : Pos} {v : Value} {Q : Value → Shared → Prop} (F : Fc g env h m cm) (hv : cm x = some v) (H : Q v (St h c t))
    (hk : env.scope.kind = .function) (hl : env.kindOf x = some .cell) {a : Addr} (hc : env.cells.lookup x = some a) (hd : (x == ("__debug__" : Str)) = false) :
    wpAny (model pw w) A (eval (.Name x pos) env) Q E (St h c t) := wpAny_Name (wpAny_loadName_cell hk hl hc (hv ▸ F.cell x a hc) H) hd
theorem svc {x : Str} {v : Value} {Q : Unit → Shared → Prop} (F : Fc g env h m cm)
    (H : ∀ h' t', Fc g env h' (fun y => if y = x then some v else m y) cm → Heap.SameBut env.locals h h' → Q () (St h' c t'))
    (hk : env.scope.kind = .function) (hl : env.kindOf x = some .local) :
    wpAny (model pw w) A (storeName env x v) Q E (St h c t) :=
  wpAny_storeName_local hl F.ns (fun h' hn hs => H h' _ ⟨hn, fun n a e => is_get (F.cell n a e) fun o q => (hs.2 a (Nat.ne_of_gt (F.above n a (mem_lookup e)))).trans q, F.apart, F.above, kb F.keep hs F.hidL, F.hidL, F.hidC⟩ hs)
    (by show (env.scope.kind == .class || (env.scope.kind == .module && env.locals != env.globals)) = false; rw [hk]; rfl)
theorem scc {x : Str} {v : Value} {Q : Unit → Shared → Prop} (F : Fc g env h m cm)
    (H : ∀ h' t' a, (x, a) ∈ env.cells → Fc g env h' m (fun y => if y = x then some v else cm y) → Heap.SameBut a h h' → Q () (St h' c t'))
    (hk : env.scope.kind = .function) (hl : env.kindOf x = some .cell) {a : Addr} (hc : env.cells.lookup x = some a) :
    wpAny (model pw w) A (storeName env x v) Q E (St h c t) := by
  have hm := mem_lookup hc
  refine wpAny_storeName_cell (s := St h c t) hk hl hc (F.cell x a hc) fun h' hc' hs' => H h' _ a hm ⟨F.ns.sameBut hs' (Nat.ne_of_lt (F.above x a hm)), fun k b hb => ?_, F.apart, F.above, kb F.keep hs' (F.hidC x a hm), F.hidL, F.hidC⟩ hs'
  by_cases hkn : k = x
  · subst hkn
    rw [hc] at hb
    cases hb
    rw [if_pos rfl]
    exact hc'
  · rw [if_neg hkn]
    refine is_get (F.cell k b hb) fun o q => (hs'.2 b fun z => hkn ?_).trans q
    exact name_of_addr F.apart (mem_lookup hb) (z ▸ hm)
end
end R4_
section R5_
open PySem PySem.W PyProof.Rows PySem.W.X
section
variable {w : World} {A : Around} {E : Value → Shared → Prop} {h : Heap} {c : Shared} {t : Nat} {env : Env} {m : Str → Option Value}
theorem hs_none {h : Heap} : h.get? h.objs.size = none := none_of_ge (Nat.le_refl _)
theorem lvn {x : Str} {pos : Pos} {v : Value} {Q : Value → Shared → Prop} (ns : h.Ns env.locals m) (hv : m x = some v) (H : Q v (St h c t))
    (hk : env.scope.kind = .function) (hl : env.kindOf x = some .local) (hd : (x == ("__debug__" : Str)) = false) :
    wpAny (model pw w) A (eval (.Name x pos) env) Q E (St h c t) := wpAny_Name (wpAny_loadName_local hk hl ns hv H) hd
theorem lcn {x : Str} {pos : Pos} {v : Value} {a : Addr} {Q : Value → Shared → Prop} (hc : env.cells.lookup x = some a) (ce : h.IsCell a (some v)) (H : Q v (St h c t))
    (hk : env.scope.kind = .function) (hl : env.kindOf x = some .cell) (hd : (x == ("__debug__" : Str)) = false) :
    wpAny (model pw w) A (eval (.Name x pos) env) Q E (St h c t) := wpAny_Name (wpAny_loadName_cell hk hl hc ce H) hd
theorem ne_nil {a b : Addr} {vs : List Value} {Q : Value → Shared → Prop} (ha : LL h a vs) (hb : LL h b []) (hA : Room 0 A) (H : Q (.bool (!vs.isEmpty)) (St h c t)) :
    wpAny (model pw w) A (compareOp .NotEq (.ref a) (.ref b)) Q E (St h c t) := by
  have hu : A.units < cLine := by have := hA.2.1; show A.units < 9900; omega
  cases vs with
  | nil => exact (SeqAt.RcNeAt.lists (s := St h c t) (e := fun _ => true) ha.is hb.is rfl hu fun j h1 => absurd h1 (by simp)) pw w E Q (by simpa using H)
  | cons v vs => exact (SeqAt.RcNeAt.lists_lengths (s := St h c t) ha.is hb.is (by simp) hu) pw w E Q (by simpa using H)
theorem add_l {a b : Addr} {vs ws : List Value} {Q : Value → Shared → Prop} (ha : LL h a vs) (hb : LL h b ws) (hn : vs.length + ws.length < 2 ^ 20) (H : ∀ h' l, Keeps h h' → LL h' l (vs ++ ws) → h.get? l = none → Q (.ref l) (St h' c t)) :
    wpAny (model pw w) A (binaryOp .Add (.ref a) (.ref b)) Q E (St h c t) := by
  obtain ⟨n, ea⟩ := ha
  obtain ⟨n2, eb⟩ := hb
  refine P.add_list (s := St h c t) ea eb (H _ _ (Keeps.push _ _) ⟨0, ?_⟩ hs_none) (by rw [sizeLine_is]; simp; omega)
  have e : vs.toArray ++ ws.toArray = (vs ++ ws).toArray := by simp
  rw [← e]
  exact Heap.get?_push_size _ rfl
theorem cp_l {a : Addr} {vs : List Value} {Q : Value → Shared → Prop} (ha : LL h a vs) (hn : vs.length < 2 ^ 20) (H : ∀ h' l, Keeps h h' → LL h' l vs → h.get? l = none → Q (.ref l) (St h' c t)) :
    wpAny (model pw w) A (call (.type "list") [.ref a]) Q E (St h c t) := by
  obtain ⟨n, ea⟩ := ha
  refine call_list_seq (s := St h c t) a (.inl rfl) ea rfl rfl (fun h' c' k e => H h' _ k ⟨c', e⟩ hs_none) (by rw [sizeLine_is]; simp; omega)
theorem it_last {value slice : PySem.Expr} {l : Addr} {x : Value} {u : Tok} {vs : List Value} {Q : Value → Shared → Prop} (hl : LL h l (vs ++ [x])) (hn : vs.length < 2 ^ 20) (H : Q x (St h c t))
    (hs : subscripted slice false (.ref l) (.int (-1) u) = operate [.ref l, .int (-1) u] (getItem (.ref l) (.int (-1) u))) : wpAny (model pw w) A (subscriptTail value slice (.ref l) (.int (-1) u)) Q E (St h c t) := by
  refine tail_any (s := St h c t) hl.is.typeIs slot_list_getitem.lookup (wpAny_getItem_list_neg hl.is (by decide) (by simp; omega) (by decide) ?_ H) hs
  have e : (-1 + ((vs ++ [x]).toArray.size : Int)).toNat = vs.length := by simp; omega
  rw [e]
  simp
theorem pi_range {r : Addr} {n : Nat} {t₁ u₁ v₁ : Tok} {Q : Value → Shared → Prop} (hr : IsRange h r 0 n 1 t₁ u₁ v₁) (hn : n < 2 ^ 20) (H : ∀ h' I, Keeps h h' → h.get? I = none → I < h'.objs.size → IsRangeIter h' I 0 n 1 → Q (.ref I) (St h' c t)) :
    wpAny (model pw w) A (pyIter (.ref r)) Q E (St h c t) := by
  have e : Builtin.Range.rangeSize 0 n 1 = n := by
    unfold Builtin.Range.rangeSize
    rw [if_pos (by decide)]
    split
    · rw [Int.ediv_one]; omega
    · omega
  refine wpAny_pyIter_range (s := St h c t) hr ?_ ?_
  · unfold Builtin.Range.small Builtin.Range.rangeFitsLong
    rw [e]
    simp only [Bool.and_eq_true, Bool.or_eq_true, decide_eq_true_eq, beq_iff_eq, gt_iff_lt, Int.zero_lt_one, if_true]
    omega
  · rw [e]
    exact H _ _ (Keeps.push _ _) hs_none (by rw [Heap.size_push]; exact Nat.lt_succ_self _) (Heap.get?_push_size _ rfl)
theorem pi_list {l : Addr} {vs : List Value} {Q : Value → Shared → Prop} (hl : LL h l vs) (H : ∀ h' I, Keeps h h' → h.get? I = none → I < h'.objs.size → h'.IsListIter I l 0 → Q (.ref I) (St h' c t)) :
    wpAny (model pw w) A (pyIter (.ref l)) Q E (St h c t) :=
  wpAny_pyIter_list (s := St h c t) hl.is (H _ _ (Keeps.push _ _) hs_none (by rw [Heap.size_push]; exact Nat.lt_succ_self _) ⟨_, Heap.get?_push_size _ rfl, rfl, rfl⟩)
end
end R5_
open PySem PySem.W PyProof.Rows PySem.W.X
section
variable {w : World} {A : Around} {E : Value → Shared → Prop} {h : Heap} {c : Shared} {t : Nat} {env : Env} {m : Str → Option Value}
theorem svn {x : Str} {v : Value} {Q : Unit → Shared → Prop} (ns : h.Ns env.locals m)
    (H : ∀ h' t', h'.Ns env.locals (fun y => if y = x then some v else m y) → Heap.SameBut env.locals h h' → Q () (St h' c t'))
    (hk : env.scope.kind = .function) (hl : env.kindOf x = some .local) :
    wpAny (model pw w) A (storeName env x v) Q E (St h c t) :=
  wpAny_storeName_local hl ns (fun h' hn hs => H h' _ hn hs)
    (by show (env.scope.kind == .class || (env.scope.kind == .module && env.locals != env.globals)) = false; rw [hk]; rfl)
end
local macro_rules | `(tactic| walk_at "ww") => `(tactic| first
  | ((with_reducible refine' lcc ?F ?hv ?_ ?hk ?hl ?hc ?hd); (case F => assumption); (case hv => walk_at "lk"); (case hc => walk_at "hc"); (case hk | hl | hd => kernel_rfl!))
  | ((with_reducible refine' lvc ?F ?hv ?_ ?hk ?hl ?hd); (case F => assumption); (case hv => walk_at "lk"); (case hk | hl | hd => kernel_rfl!))
  | ((with_reducible refine' lcn ?hc ?F ?_ ?hk ?hl ?hd); (case hc => walk_at "hc"); (case F => assumption); (case hk | hl | hd => kernel_rfl!))
  | ((with_reducible refine' lvn ?F ?hv ?_ ?hk ?hl ?hd); (case F => assumption); (case hv => walk_at "lk"); (case hk | hl | hd => kernel_rfl!))
  | ((with_reducible refine' fv ?hc ?F ?_ ?hk ?hl ?hd ?hn); (case hc => with_unfolding_all rfl); (case F => assumption); (case hk | hl | hd | hn => kernel_rfl!))
  | walk_at "go")
section H2_
open PySem
theorem cmp_lt {v1 r1 v2 r2 : Int} : cmpVal v1 r1 v2 r2 < 0 ↔ v1.fdiv 2 < v2.fdiv 2 ∨ (v1.fdiv 2 = v2.fdiv 2 ∧ r1 < r2) := by
  unfold cmpVal
  by_cases e : v1.fdiv 2 = v2.fdiv 2
  · rw [if_neg (by simp [e])]; omega
  · rw [if_pos (by simpa using e)]; omega
noncomputable def hdv (val : Addr → Int) (S : Nat → List Addr) (k : Nat) : Int := match S k with
  | x :: _ => val x
  | [] => 0
noncomputable def ltS (val : Addr → Int) (rk : Addr → Nat) (S : Nat → List Addr) (a b : Addr) : Bool := decide (cmpVal (hdv val S (rk a)) (rk a) (hdv val S (rk b)) (rk b) < 0)
variable {val : Addr → Int} {rk : Addr → Nat} {S S0 : Nat → List Addr}
theorem ltS_iff {a b : Addr} : ltS val rk S a b = true ↔ (hdv val S (rk a)).fdiv 2 < (hdv val S (rk b)).fdiv 2 ∨ ((hdv val S (rk a)).fdiv 2 = (hdv val S (rk b)).fdiv 2 ∧ rk a < rk b) := by
  unfold ltS
  rw [decide_eq_true_iff, cmp_lt]
  omega
theorem ltS_not {a b : Addr} : ltS val rk S a b = false ↔ (hdv val S (rk b)).fdiv 2 < (hdv val S (rk a)).fdiv 2 ∨ ((hdv val S (rk a)).fdiv 2 = (hdv val S (rk b)).fdiv 2 ∧ rk b ≤ rk a) := by
  rw [← Bool.not_eq_true, ltS_iff]
  omega
theorem ltS_wk : Wk (ltS val rk S) where
  as := fun a b h => by
    rw [ltS_iff] at h; rw [ltS_not]
    rcases h with h | ⟨h, h2⟩
    · exact .inl h
    · exact .inr ⟨h.symm, Nat.le_of_lt h2⟩
  tr := fun a b c h1 h2 => by
    rw [ltS_not] at *
    rcases h1 with h1 | ⟨h1, x1⟩ <;> rcases h2 with h2 | ⟨h2, x2⟩
    · first | exact .inl (Int.lt_trans h2 h1) | exact .inl (Int.lt_trans h1 h2)
    · first | exact .inl (h2 ▸ h1) | exact .inl (h2.symm ▸ h1)
    · first | exact .inl (h1 ▸ h2) | exact .inl (h1.symm ▸ h2)
    · first | exact .inr ⟨h1.trans h2, Nat.le_trans x2 x1⟩ | exact .inr ⟨h2.trans h1, Nat.le_trans x1 x2⟩
structure LI (val : Addr → Int) (rk : Addr → Nat) (S0 S : Nat → List Addr) (kas ks pre : List Addr) : Prop where
  hp : HP (ltS val rk S) 0 ks
  nd : ks.Nodup
  mem : ∀ a, a ∈ ks ↔ a ∈ kas ∧ S (rk a) ≠ []
  inj : ∀ a b, a ∈ kas → b ∈ kas → rk a = rk b → a = b
  cov : ∀ k, S k ≠ [] → ∃ a ∈ kas, rk a = k
  mg : ∀ out, Mg val S out → Mg val S0 (pre ++ out)
variable {kas ks pre : List Addr}
theorem LI.start (inj : ∀ a b, a ∈ kas → b ∈ kas → rk a = rk b → a = b) (cov : ∀ k, S k ≠ [] → ∃ a ∈ kas, rk a = k) (ne : ∀ a ∈ kas, S (rk a) ≠ []) (nd : kas.Nodup) : LI val rk S S kas (hfy (ltS val rk S) (kas.length / 2) kas) [] := by
  have p := hfy_perm (lt := ltS val rk S) (kas.length / 2) kas (by omega)
  exact ⟨heapify_heap ltS_wk kas, p.nodup_iff.mpr nd, fun a => by rw [p.mem_iff]; exact ⟨fun h => ⟨h, ne a h⟩, fun h => h.1⟩, inj, cov, fun out m => m⟩
theorem LI.fin (I : LI val rk S0 S kas [] pre) : Mg val S0 pre := by
  have := I.mg [] (.done fun k => by
    cases e : S k with
    | nil => rfl
    | cons x l =>
      obtain ⟨a, ha, hk⟩ := I.cov k (by rw [e]; exact fun z => nomatch z)
      have := (I.mem a).mpr ⟨ha, by rw [hk, e]; exact fun z => nomatch z⟩
      cases this)
  simpa using this
theorem LI.min {a : Addr} {l : List Addr} (I : LI val rk S0 S kas (a :: l) pre) {b : Addr} (hb : b ∈ a :: l) (hne : b ≠ a) : cmpVal (hdv val S (rk a)) (rk a) (hdv val S (rk b)) (rk b) < 0 := by
  obtain ⟨j, hj, e⟩ := List.getElem_of_mem hb
  have := top_min ltS_wk I.hp j hj
  have e1 : (a :: l).getD j 0 = b := by rw [List.getD_eq_getElem?_getD, List.getElem?_eq_getElem hj]; exact e
  have e2 : (a :: l).getD 0 0 = a := rfl
  rw [e1, e2, ltS_not] at this
  rw [cmp_lt]
  have ha := (I.mem a).mp (.head _)
  have hb' := (I.mem b).mp hb
  have : rk a ≠ rk b := fun z => hne (I.inj b a hb'.1 ha.1 z.symm)
  omega
theorem LI.step {a x : Addr} {l r : List Addr} (I : LI val rk S0 S kas (a :: l) pre) (hx : S (rk a) = x :: r) {out : List Addr} (m : Mg val (upd S (rk a) r) out) : Mg val S (x :: out) := by
  refine .step hx (fun j y l' hj hne => ?_) m
  obtain ⟨b, hb, hk⟩ := I.cov j (by rw [hj]; exact fun z => nomatch z)
  have hbm := (I.mem b).mpr ⟨hb, by rw [hk, hj]; exact fun z => nomatch z⟩
  have := I.min hbm (fun z => hne (by rw [← hk, z]))
  rw [cmp_lt, hk] at this
  have e1 : hdv val S (rk a) = val x := by unfold hdv; rw [hx]
  have e2 : hdv val S j = val y := by unfold hdv; rw [hj]
  rw [e1, e2] at this
  unfold half
  omega
theorem hdv_upd {k j : Nat} {r : List Addr} (h : j ≠ k) : hdv val (upd S k r) j = hdv val S j := by unfold hdv upd; rw [if_neg h]
theorem LI.others {a : Addr} {l r : List Addr} (I : LI val rk S0 S kas (a :: l) pre) {b : Addr} (hb : b ∈ l) : rk b ≠ rk a := fun z => by
  have h1 := (I.mem b).mp (.tail _ hb)
  have h2 := (I.mem a).mp (.head _)
  have := I.inj b a h1.1 h2.1 z
  subst this
  exact (List.nodup_cons.mp I.nd).1 hb
theorem LI.replace {a x : Addr} {l r : List Addr} (I : LI val rk S0 S kas (a :: l) pre) (hx : S (rk a) = x :: r) (hr : r ≠ []) :
    LI val rk S0 (upd S (rk a) r) kas (siftup (ltS val rk (upd S (rk a) r)) 0 (a :: l)) (pre ++ [x]) := by
  have p := siftup_perm (lt := ltS val rk (upd S (rk a) r)) (pos := 0) (ks := a :: l) (by simp)
  have oth := fun b hb => I.others (r := r) (b := b) hb
  have h1 : HP (ltS val rk (upd S (rk a) r)) 1 (a :: l) := by
    have h0 : HP (ltS val rk S) 1 (a :: l) := fun j p q s => I.hp j p q (Nat.zero_le _)
    refine h0.other fun i j hi hj hi' hj' => ?_
    have g : ∀ i, 1 ≤ i → i < (a :: l).length → (a :: l).getD i 0 ∈ l := fun i h1 h2 => by
      obtain ⟨i, rfl⟩ : ∃ i', i = i' + 1 := ⟨i - 1, by omega⟩
      rw [List.getD_eq_getElem?_getD, List.getElem?_cons_succ, List.getElem?_eq_getElem (by simpa using h2)]
      exact List.getElem_mem _
    unfold ltS
    rw [hdv_upd (oth _ (g i hi hi')), hdv_upd (oth _ (g j hj hj'))]
  have em : ∀ b, b ∈ kas → (upd S (rk a) r (rk b) ≠ [] ↔ S (rk b) ≠ []) := fun b hb => by
    unfold upd
    by_cases e : rk b = rk a
    · rw [if_pos e, e, hx]; simp [hr]
    · rw [if_neg e]
  refine ⟨siftup_heap ltS_wk (by simp) h1, p.nodup_iff.mpr I.nd, fun b => ?_, I.inj, fun k hk => ?_, fun out m => ?_⟩
  · rw [p.mem_iff, I.mem b]
    exact ⟨fun h => ⟨h.1, (em b h.1).mpr h.2⟩, fun h => ⟨h.1, (em b h.1).mp h.2⟩⟩
  · refine I.cov k fun z => hk ?_
    unfold upd
    by_cases e : k = rk a
    · rw [e, hx] at z; cases z
    · rw [if_neg e]; exact z
  · rw [List.append_assoc]
    exact I.mg _ (I.step hx m)
theorem LI.off {a x y : Addr} {l ks1 : List Addr} (I : LI val rk S0 S kas (a :: l) pre) (hx : S (rk a) = [x]) (hk : a :: l = ks1 ++ [y]) :
    LI val rk S0 (upd S (rk a) []) kas (if ks1 = [] then [] else siftup (ltS val rk (upd S (rk a) [])) 0 (ks1.set 0 y)) (pre ++ [x]) := by
  have oth := fun b hb => I.others (r := []) (b := b) hb
  have cov : ∀ k, upd S (rk a) [] k ≠ [] → ∃ a ∈ kas, rk a = k := fun k hk => by
    refine I.cov k fun z => hk ?_
    unfold upd
    by_cases e : k = rk a
    · rw [if_pos e]
    · rw [if_neg e]; exact z
  have mg : ∀ out, Mg val (upd S (rk a) []) out → Mg val S0 (pre ++ [x] ++ out) := fun out m => by
    rw [List.append_assoc]
    exact I.mg _ (I.step hx m)
  have mem : ∀ b, (b ∈ kas ∧ upd S (rk a) [] (rk b) ≠ []) ↔ b ∈ l := fun b => by
    constructor
    · rintro ⟨h1, h2⟩
      unfold upd at h2
      by_cases e : rk b = rk a
      · rw [if_pos e] at h2; exact absurd rfl h2
      · rw [if_neg e] at h2
        rcases List.mem_cons.mp ((I.mem b).mpr ⟨h1, h2⟩) with z | z
        · exact absurd (by rw [z]) e
        · exact z
    · intro hb
      have := (I.mem b).mp (.tail _ hb)
      refine ⟨this.1, ?_⟩
      unfold upd
      rw [if_neg (oth b hb)]
      exact this.2
  cases ks1 with
  | nil =>
    have : l = [] := by simp at hk; exact hk.2
    subst this
    rw [if_pos rfl]
    exact ⟨fun j p q _ => by simp at q, .nil, fun b => by rw [mem b], I.inj, cov, mg⟩
  | cons b ks2 =>
    rw [if_neg (fun z => nomatch z)]
    have e1 : b = a := by simp at hk; exact hk.1.symm
    have e2 : l = ks2 ++ [y] := by simp at hk; exact hk.2
    subst e1
    show LI val rk S0 _ kas (siftup _ 0 (y :: ks2)) _
    have p := siftup_perm (lt := ltS val rk (upd S (rk b) [])) (pos := 0) (ks := y :: ks2) (by simp)
    have pl : (y :: ks2).Perm l := by rw [e2]; exact (List.perm_append_singleton y ks2).symm
    have hpop : HP (ltS val rk S) 0 (b :: ks2) := by
      have := I.hp
      rw [e2] at this
      exact HP.pop (x := y) this
    have h1 : HP (ltS val rk (upd S (rk b) [])) 1 (y :: ks2) := by
      have h0 : HP (ltS val rk S) 1 (y :: ks2) := HP.set0 (x := y) hpop
      refine h0.other fun i j hi hj hi' hj' => ?_
      have g : ∀ i, i < (y :: ks2).length → (y :: ks2).getD i 0 ∈ l := fun i h2 => by
        rw [List.getD_eq_getElem?_getD, List.getElem?_eq_getElem h2]
        exact pl.mem_iff.mp (List.getElem_mem _)
      unfold ltS
      rw [hdv_upd (oth _ (g i hi')), hdv_upd (oth _ (g j hj'))]
    have ndl := (List.nodup_cons.mp I.nd).2
    exact ⟨siftup_heap ltS_wk (by simp) h1, (p.trans pl).nodup_iff.mpr ndl, fun z => by rw [(p.trans pl).mem_iff, mem z], I.inj, cov, mg⟩
end H2_
open PySem PySem.W PyProof.Rows PySem.W.X
noncomputable def fdOf : Obj → FuncData
  | ⟨_, _, .func fd, _⟩ => fd
  | _ => { name := Str.ofString "", qualname := Str.ofString "", params := ⟨[], [], none, [], [], none, []⟩, body := .stmts [], scope := default, globals := 3, closure := [], defaults := .none, kwdefaults := .none, doc := .none, pyModule := .none, code := .none, closureTuple := .none }
noncomputable def mgEnv (P : Params) (L : Addr) : Env := callEnvC (fdOf (o98 P)) L 98
noncomputable def mgBody : List Stmt := fnBody (pw.main.body[15]?)
theorem mg_obj {P : Params} : ∃ o, (KB P).lookup 98 = some o ∧ o.data = .func (fdOf (o98 P)) := ⟨_, rfl, by kernel_rfl⟩
theorem mg_fd {P : Params} : (fdOf (o98 P)).body = .stmts mgBody := by kernel_rfl
theorem mg_cells {P : Params} {L : Addr} : (mgEnv P L).cells = [(Str.ofString "top", L + 1 + 1 + 1 + 1), (Str.ofString "keys", L + 1 + 1 + 1), (Str.ofString "made", L + 1 + 1), (Str.ofString "rows", L + 1)] := by kernel_rfl
theorem mg_kind {P : Params} {L : Addr} : (mgEnv P L).scope.kind = .function := by kernel_rfl
noncomputable def lcOf : Option Stmt → Option (PySem.Expr)
  | some (Stmt.Assign _ e _) => some e
  | _ => none
structure Lcp where
  elt : PySem.Expr
  iter : PySem.Expr
  x : Str
  px : Pos
  ifs : List PySem.Expr
  scope : Scope
  pos : Pos
noncomputable def lcParts : Option PySem.Expr → Lcp
  | some (.ListComp elt [⟨.Name x px, iter, ifs, _⟩] scope pos) => ⟨elt, iter, x, px, ifs, scope, pos⟩
  | _ => ⟨.Constant .none 0 ⟨0, 0, 0, 0⟩, .Constant .none 0 ⟨0, 0, 0, 0⟩, Str.ofString "", ⟨0, 0, 0, 0⟩, [], default, ⟨0, 0, 0, 0⟩⟩
noncomputable def lc1 : Lcp := lcParts (lcOf (mgBody[0]?))
theorem lc1_iter : lc1.iter = .Call (.Name (Str.ofString "range") ⟨105, 36, 105, 41⟩) [.Call (.Name (Str.ofString "len") ⟨105, 42, 105, 45⟩) [.Name (Str.ofString "rows") ⟨105, 46, 105, 50⟩] [] ⟨105, 42, 105, 51⟩] [] ⟨105, 36, 105, 52⟩ := by kernel_rfl
theorem lc1_ifs : lc1.ifs = [.Compare (.Subscript (.Name (Str.ofString "rows") ⟨105, 56, 105, 60⟩) (.Name (Str.ofString "k") ⟨105, 61, 105, 62⟩) ⟨105, 56, 105, 63⟩) [.NotEq] [.List [] ⟨105, 67, 105, 69⟩] ⟨105, 56, 105, 69⟩] := by kernel_rfl
theorem lc1_elt : lc1.elt = .BinOp (.List [.Name (Str.ofString "k") ⟨105, 14, 105, 15⟩] ⟨105, 13, 105, 16⟩) .Add (.Subscript (.Name (Str.ofString "rows") ⟨105, 19, 105, 23⟩) (.Name (Str.ofString "k") ⟨105, 24, 105, 25⟩) ⟨105, 19, 105, 26⟩) ⟨105, 13, 105, 26⟩ := by kernel_rfl
theorem lc1_x : lc1.x = Str.ofString "k" := by kernel_rfl
theorem lc1_clos {P : Params} {L : Addr} : closureFor lc1.scope (mgEnv P L) = pure [(Str.ofString "rows", L + 1)] := by kernel_rfl
theorem mg_rows {P : Params} {L : Addr} : (mgEnv P L).cells.lookup (Str.ofString "rows") = some (L + 1) := by kernel_rfl
theorem mg_made {P : Params} {L : Addr} : (mgEnv P L).cells.lookup (Str.ofString "made") = some (L + 1 + 1) := by kernel_rfl
theorem mg_keys {P : Params} {L : Addr} : (mgEnv P L).cells.lookup (Str.ofString "keys") = some (L + 1 + 1 + 1) := by kernel_rfl
theorem mg_top {P : Params} {L : Addr} : (mgEnv P L).cells.lookup (Str.ofString "top") = some (L + 1 + 1 + 1 + 1) := by kernel_rfl
noncomputable def lc2 : Lcp := lcParts (lcOf (mgBody[2]?))
theorem lc2_iter : lc2.iter = .Name (Str.ofString "lists") ⟨107, 33, 107, 38⟩ := by kernel_rfl
theorem lc2_ifs : lc2.ifs = [] := by kernel_rfl
theorem lc2_elt : lc2.elt = .Call (.Name (Str.ofString "made") ⟨107, 12, 107, 16⟩) [.Name (Str.ofString "one") ⟨107, 17, 107, 20⟩] [] ⟨107, 12, 107, 21⟩ := by kernel_rfl
theorem lc2_x : lc2.x = Str.ofString "one" := by kernel_rfl
theorem lc2_clos {P : Params} {L : Addr} : closureFor lc2.scope (mgEnv P L) = pure [(Str.ofString "made", L + 1 + 1)] := by kernel_rfl
noncomputable def whBody : Option Stmt → List Stmt
  | some (Stmt.While _ b _ _) => b
  | _ => []
noncomputable def sub2 : Option PySem.Expr → Option PySem.Expr
  | some (.Subscript _ (.Subscript e _ _) _) => some e
  | _ => none
noncomputable def wBody : List Stmt := whBody (mgBody[6]?)
noncomputable def lc3 : Lcp := lcParts (sub2 (lcOf (wBody[2]?)))
theorem lc3_iter : lc3.iter = .Call (.Name (Str.ofString "range") ⟨116, 33, 116, 38⟩) [.Call (.Name (Str.ofString "len") ⟨116, 39, 116, 42⟩) [.Name (Str.ofString "keys") ⟨116, 43, 116, 47⟩] [] ⟨116, 39, 116, 48⟩] [] ⟨116, 33, 116, 49⟩ := by kernel_rfl
theorem lc3_ifs : lc3.ifs = [.Compare (.Subscript (.Name (Str.ofString "keys") ⟨116, 53, 116, 57⟩) (.Name (Str.ofString "k") ⟨116, 58, 116, 59⟩) ⟨116, 53, 116, 60⟩) [.Is] [.Name (Str.ofString "top") ⟨116, 64, 116, 67⟩] ⟨116, 53, 116, 67⟩] := by kernel_rfl
theorem lc3_elt : lc3.elt = .Name (Str.ofString "k") ⟨116, 22, 116, 23⟩ := by kernel_rfl
theorem lc3_x : lc3.x = Str.ofString "k" := by kernel_rfl
theorem lc3_clos {P : Params} {L : Addr} : closureFor lc3.scope (mgEnv P L) = pure [(Str.ofString "top", L + 1 + 1 + 1 + 1), (Str.ofString "keys", L + 1 + 1 + 1)] := by kernel_rfl
theorem cl3_top {L C : Addr} {env : Env} : (compEnvC lc3.scope [(Str.ofString "top", L + 1 + 1 + 1 + 1), (Str.ofString "keys", L + 1 + 1 + 1)] C env).cells.lookup (Str.ofString "top") = some (L + 1 + 1 + 1 + 1) := by kernel_rfl
theorem cl3_keys {L C : Addr} {env : Env} : (compEnvC lc3.scope [(Str.ofString "top", L + 1 + 1 + 1 + 1), (Str.ofString "keys", L + 1 + 1 + 1)] C env).cells.lookup (Str.ofString "keys") = some (L + 1 + 1 + 1) := by kernel_rfl
theorem cl1_rows {L C : Addr} {env : Env} : (compEnvC lc1.scope [(Str.ofString "rows", L + 1)] C env).cells.lookup (Str.ofString "rows") = some (L + 1) := by kernel_rfl
theorem cl2_made {L C : Addr} {env : Env} : (compEnvC lc2.scope [(Str.ofString "made", L + 1 + 1)] C env).cells.lookup (Str.ofString "made") = some (L + 1 + 1) := by kernel_rfl
local macro_rules | `(tactic| walk_at "hc") => `(tactic| with_reducible (first | exact mg_rows | exact mg_made | exact mg_keys | exact mg_top | exact cl1_rows | exact cl2_made | exact cl3_top | exact cl3_keys))
section L2_
open PySem PySem.W PyProof.Rows PySem.W.X
section
variable {g h h' : Heap} {env : Env} {m cm : Str → Option Value}
theorem Fc.ownObj (F : Fc g env h m cm) (nd : (env.cells.map (·.1)).Nodup) : ∀ b ∈ own env, ∃ o, h.get? b = some o ∧ ((∃ es n, o.data = .dict es n) ∨ ∃ v, o.data = .cell v) := by
  intro b hb
  rcases List.mem_cons.mp hb with rfl | hb
  · obtain ⟨o, es, n, e, d, _⟩ := F.ns
    exact ⟨o, e, .inl ⟨es, n, d⟩⟩
  · obtain ⟨⟨n, a⟩, hm, rfl⟩ := List.mem_map.mp hb
    have : env.cells.lookup n = some a := by
      have aux : ∀ l : List (Str × Addr), (l.map (·.1)).Nodup → (n, a) ∈ l → l.lookup n = some a := by
        intro l
        induction l with
        | nil => intro _ h; cases h
        | cons q l ih =>
          intro hn hm
          rw [List.map_cons, List.nodup_cons] at hn
          rw [List.lookup_cons]
          rcases List.mem_cons.mp hm with e | e
          · subst e; simp
          · have : (n == q.1) = false := beq_eq_false_iff_ne.mpr fun z => hn.1 (z ▸ List.mem_map_of_mem (f := Prod.fst) e)
            rw [this]
            exact ih hn.2 e
      exact aux _ nd hm
    obtain ⟨o, e, d⟩ := F.cell n a this
    exact ⟨o, e, .inr ⟨_, d⟩⟩
theorem Fc.notOwn (F : Fc g env h m cm) (nd : (env.cells.map (·.1)).Nodup) {b : Addr} (hb : h.get? b = none) : b ∉ own env := fun z => by
  obtain ⟨o, e, _⟩ := F.ownObj nd b z
  rw [hb] at e
  cases e
theorem Fc.gOwn (F : Fc g env h m cm) {b : Addr} {o : Obj} (hb : g.get? b = some o) : b ∉ own env := fun z => by
  rcases List.mem_cons.mp z with rfl | z
  · rw [F.hidL] at hb; cases hb
  · obtain ⟨⟨n, a⟩, hm, rfl⟩ := List.mem_map.mp z
    rw [F.hidC n a hm] at hb; cases hb
theorem Fc.anew (F : Fc g env h m cm) (k : Keeps h h') : Fc (hideAll h' (own env)) env h' m cm ∧ Keeps g (hideAll h' (own env)) := by
  have F' := (F.grow k).base []
  rw [List.append_nil] at F'
  exact ⟨F', fun b o e => hideAll_get _ (k _ _ (F.keep _ _ e)) (F.gOwn e)⟩
end
section
variable {w : World} {A : Around} {E : Value → Shared → Prop} {c : Shared} {env : Env}
theorem lcAL {s : Shared} {elt iter : PySem.Expr} {x y : Str} {px py : Pos} {ifs : List PySem.Expr} {scope : Scope} {cl : List (Str × Addr)} {pos spos : Pos} {Q : Flow → Shared → Prop}
    (hsw : swapsWith (.ListComp elt [⟨.Name x px, iter, ifs, 0⟩] scope pos) (some (.Name y py)) spos.line env = pure true) (nd : (env.cells.map (·.1)).Nodup) (hk : env.scope.kind = .function) (hy : env.kindOf y = some .local)
    (hclos : closureFor scope env = pure cl) (hcell : ∀ y ∈ scope.names, y.2 ≠ .cell) (hkind : scope.kind = .function)
    (hnames : ∀ y ∈ scope.names, y.2 = .local → scope.names.lookup y.1 = some .local) (hx : scope.names.lookup x = some .local)
    (h : wpAny (model pw w) A (eval iter env) (fun xv s₁ => wpAny (model pw w) A (pyIter xv) (fun it s₂ => ∃ h₂ t₂ I fp wr n P S J g m cm, s₂ = St h₂ c t₂ ∧ it = .ref I ∧ LC0 w A c env scope cl x ifs elt h₂ t₂ I fp wr n P S J ∧ Fc g env h₂ m cm ∧ (∀ b ∈ own env, b ∉ wr) ∧
      (∀ C D h3 h t ys, h₂.get? C = none → h₂.get? D = none → C ≠ D → J C D n ys h3 → LL h D ys → (∀ b o, b ≠ C → b ∉ own env → h3.get? b = some o → h.get? b = some o) → (∀ b o, b ∉ wr → b ∉ own env → h₂.get? b = some o → h.get? b = some o) → Fc (hideAll h (own env)) env h (fun z => if z = y then some (.ref D) else m z) cm → Q .next (St h c t))) E s₁) E s)
    (hs : ∀ x, foldedSetIterable iter env x = pure x := by intro _; rfl) :
    wpAny (model pw w) A (exec (.Assign [.Name y py] (.ListComp elt [⟨.Name x px, iter, ifs, 0⟩] scope pos) spos) env) Q E s := by
  rw [exec_Assign_Name_used _ _ _ _ hsw]
  refine wpAny_bind (wpAny_standAt (wpAny_bind ?_))
  show wpAny _ A (do let _ ← comprehension (.ListComp elt [⟨.Name x px, iter, ifs, 0⟩] scope pos) scope env _ (newList []) false (eval iter env) (some (assign (.Name y py) env))) _ _ s
  refine wpAny_bind (wpAny_mono (wpAny_comprehension_free (use := some (assign (.Name y py) env)) (Q := fun _ s' => Q .next s') rfl hs hclos hkind hnames
    (wpAny_mono h (fun xv s₁ h₁ => wpAny_mono h₁ (fun it s₂ h₂ => ?_) fun _ _ e => e) fun _ _ e => e)) (fun _ s' hq => wpAny_pure (wpAny_pure hq)) fun _ _ e => e)
  obtain ⟨h₂, t₂, I, fp, wr, n, P, S, J, g, m, cm, rfl, rfl, L0, F, hown, fin⟩ := h₂
  refine lc_core (RR := fun acc C => compPost (model pw w) A E (some (assign (.Name y py) env)) (fun _ s' => Q .next s') acc C) L0 hcell hkind hx fun C D h3 t3 ys m' fC fD hCD hJ hl hn hk3 => ?_
  have nC := F.notOwn nd fC
  have nD := F.notOwn nd fD
  have F3 : Fc (hideAll h3 (own env)) env h3 m cm := F.move hide_all (hideAll_none _ (.head _)) (fun n c e => hideAll_none _ (own_cell e)) fun b hb o e => hk3 b o (hown b hb) e
  show wpAny _ A (assign (.Name y py) env (.ref D)) _ _ _
  refine wpAny_assign_Name (svc F3 (fun h4 t4 F4 s4 => ⟨m', hn.sameBut s4 (fun z => nC (z ▸ .head _)), fun h5 hs5 => ?_⟩) hk hy)
  have k35 : ∀ b o, b ≠ C → b ∉ own env → h3.get? b = some o → h5.get? b = some o := fun b o h1 h2 e => hs5.extBut b o h1 ((s4.2 b fun z => h2 (z ▸ .head _)).trans e)
  obtain ⟨nl, el⟩ := hl
  refine fin C D h3 h5 t4 ys fC fD hCD hJ ⟨nl, k35 _ _ hCD.symm nD el⟩ k35 (fun b o hb hb' e => k35 b o (fun z => by rw [z, fC] at e; cases e) hb' (hk3 b o hb e)) ?_
  exact F4.move hide_all (hideAll_none _ (.head _)) (fun n c e => hideAll_none _ (own_cell e)) fun b hb o e => hs5.extBut b o (fun z => nC (z ▸ hb)) e
theorem lcAC {s : Shared} {elt iter : PySem.Expr} {x y : Str} {px py : Pos} {ifs : List PySem.Expr} {scope : Scope} {cl : List (Str × Addr)} {pos spos : Pos} {Q : Flow → Shared → Prop}
    (hsw : swapsWith (.ListComp elt [⟨.Name x px, iter, ifs, 0⟩] scope pos) (some (.Name y py)) spos.line env = pure true) (nd : (env.cells.map (·.1)).Nodup) (hk : env.scope.kind = .function) (hy : env.kindOf y = some .cell) {a : Addr} (hca : env.cells.lookup y = some a)
    (hclos : closureFor scope env = pure cl) (hcell : ∀ y ∈ scope.names, y.2 ≠ .cell) (hkind : scope.kind = .function)
    (hnames : ∀ y ∈ scope.names, y.2 = .local → scope.names.lookup y.1 = some .local) (hx : scope.names.lookup x = some .local)
    (h : wpAny (model pw w) A (eval iter env) (fun xv s₁ => wpAny (model pw w) A (pyIter xv) (fun it s₂ => ∃ h₂ t₂ I fp wr n P S J g m cm, s₂ = St h₂ c t₂ ∧ it = .ref I ∧ LC0 w A c env scope cl x ifs elt h₂ t₂ I fp wr n P S J ∧ Fc g env h₂ m cm ∧ (∀ b ∈ own env, b ∉ wr) ∧
      (∀ C D h3 h t ys, h₂.get? C = none → h₂.get? D = none → C ≠ D → J C D n ys h3 → LL h D ys → (∀ b o, b ≠ C → b ∉ own env → h3.get? b = some o → h.get? b = some o) → (∀ b o, b ∉ wr → b ∉ own env → h₂.get? b = some o → h.get? b = some o) → Fc (hideAll h (own env)) env h m (fun z => if z = y then some (.ref D) else cm z) → Q .next (St h c t))) E s₁) E s)
    (hs : ∀ x, foldedSetIterable iter env x = pure x := by intro _; rfl) :
    wpAny (model pw w) A (exec (.Assign [.Name y py] (.ListComp elt [⟨.Name x px, iter, ifs, 0⟩] scope pos) spos) env) Q E s := by
  rw [exec_Assign_Name_used _ _ _ _ hsw]
  refine wpAny_bind (wpAny_standAt (wpAny_bind ?_))
  show wpAny _ A (do let _ ← comprehension (.ListComp elt [⟨.Name x px, iter, ifs, 0⟩] scope pos) scope env _ (newList []) false (eval iter env) (some (assign (.Name y py) env))) _ _ s
  refine wpAny_bind (wpAny_mono (wpAny_comprehension_free (use := some (assign (.Name y py) env)) (Q := fun _ s' => Q .next s') rfl hs hclos hkind hnames
    (wpAny_mono h (fun xv s₁ h₁ => wpAny_mono h₁ (fun it s₂ h₂ => ?_) fun _ _ e => e) fun _ _ e => e)) (fun _ s' hq => wpAny_pure (wpAny_pure hq)) fun _ _ e => e)
  obtain ⟨h₂, t₂, I, fp, wr, n, P, S, J, g, m, cm, rfl, rfl, L0, F, hown, fin⟩ := h₂
  refine lc_core (RR := fun acc C => compPost (model pw w) A E (some (assign (.Name y py) env)) (fun _ s' => Q .next s') acc C) L0 hcell hkind hx fun C D h3 t3 ys m' fC fD hCD hJ hl hn hk3 => ?_
  have nC := F.notOwn nd fC
  have nD := F.notOwn nd fD
  have F3 : Fc (hideAll h3 (own env)) env h3 m cm := F.move hide_all (hideAll_none _ (.head _)) (fun n c e => hideAll_none _ (own_cell e)) fun b hb o e => hk3 b o (hown b hb) e
  show wpAny _ A (assign (.Name y py) env (.ref D)) _ _ _
  refine wpAny_assign_Name (scc F3 (fun h4 t4 a' ha' F4 s4 => ⟨m', hn.sameBut s4 (fun z => nC (z ▸ own_cell ha')), fun h5 hs5 => ?_⟩) hk hy hca)
  have k35 : ∀ b o, b ≠ C → b ∉ own env → h3.get? b = some o → h5.get? b = some o := fun b o h1 h2 e => hs5.extBut b o h1 ((s4.2 b fun z => h2 (z ▸ own_cell ha')).trans e)
  obtain ⟨nl, el⟩ := hl
  refine fin C D h3 h5 t4 ys fC fD hCD hJ ⟨nl, k35 _ _ hCD.symm nD el⟩ k35 (fun b o hb hb' e => k35 b o (fun z => by rw [z, fC] at e; cases e) hb' (hk3 b o hb e)) ?_
  exact F4.move hide_all (hideAll_none _ (.head _)) (fun n c e => hideAll_none _ (own_cell e)) fun b hb o e => hs5.extBut b o (fun z => nC (z ▸ hb)) e
end
noncomputable abbrev nmE (s : String) (p : Pos) : PySem.Expr := .Name (Str.ofString s) p
noncomputable abbrev Lcp.e (l : Lcp) : PySem.Expr := .ListComp l.elt [⟨.Name l.x l.px, l.iter, l.ifs, 0⟩] l.scope l.pos
theorem mg_nd {P : Params} {L : Addr} : ((mgEnv P L).cells.map (·.1)).Nodup := by rw [mg_cells]; show [Str.ofString "top", Str.ofString "keys", Str.ofString "made", Str.ofString "rows"].Nodup; decide +kernel
theorem mg_own {P : Params} {L : Addr} : own (mgEnv P L) = [L, L + 1 + 1 + 1 + 1, L + 1 + 1 + 1, L + 1 + 1, L + 1] := by kernel_rfl
end L2_
section G2_
open PySem PySem.W PyProof.Rows PySem.W.X
theorem nms {l : List (Str × NameKind)} (h : (l.all fun y => y.2 != .local || decide (l.lookup y.1 = some .local)) = true) : ∀ y ∈ l, y.2 = .local → l.lookup y.1 = some .local := fun y hy e => by
  have := List.all_eq_true.mp h y hy
  rw [e] at this
  simpa using this
noncomputable def ix (R : Nat → List Addr) (n : Nat) : List Nat := (List.range n).filter fun k => !(R k).isEmpty
theorem ix_succ {R : Nat → List Addr} {n : Nat} : ix R (n + 1) = ix R n ++ (if (R n).isEmpty then [] else [n]) := by
  unfold ix
  rw [List.range_succ, List.filter_append]
  cases e : (R n).isEmpty <;> simp [e]
theorem ix_len {R : Nat → List Addr} {n : Nat} : (ix R n).length ≤ n := by
  have := List.length_filter_le (fun k => !(R k).isEmpty) (List.range n)
  rw [List.length_range] at this
  exact this
noncomputable def NL (h : Heap) (k : Nat) (l : Addr) (xs : List Addr) : Prop := ∃ u, LL h l (.int (k : Int) u :: xs.map Value.ref)
theorem lists_comp {w : World} {A : Around} {E : Value → Shared → Prop} {g h : Heap} {c : Shared} {t : Nat} {L rw : Addr} {m cm : Str → Option Value} {ra : List Addr} {R : Nat → List Addr} {Q : Flow → Shared → Prop}
    (KX : (KB w.params).In h) (hA : Room 2 A) (F : Fc g (mgEnv w.params L) h m cm) (hrow : cm (Str.ofString "rows") = some (.ref rw)) (hl : LL h rw (ra.map Value.ref)) (hn : ra.length < 2 ^ 10)
    (hR : ∀ k l, ra[k]? = some l → LL h l ((R k).map Value.ref) ∧ (R k).length < 2 ^ 10)
    (H : ∀ h' t' ls las, (∀ b o, b ∉ own (mgEnv w.params L) → h.get? b = some o → h'.get? b = some o) → LL h' ls (las.map Value.ref) → h.get? ls = none → Paired (fun k l => NL h' k l (R k) ∧ h.get? l = none ∧ l ≠ ls) (ix R ra.length) las → las.Nodup →
      Fc (hideAll h' (own (mgEnv w.params L))) (mgEnv w.params L) h' (fun z => if z = Str.ofString "lists" then some (.ref ls) else m z) cm → Q .next (St h' c t')) :
    wpAny (model pw w) A (exec (.Assign [nmE "lists" ⟨105, 4, 105, 9⟩] lc1.e ⟨105, 4, 105, 70⟩) (mgEnv w.params L)) Q E (St h c t) := by
  refine lcAL (c := c) (by kernel_rfl) mg_nd (by kernel_rfl) (by kernel_rfl) lc1_clos (no_cell (by kernel_rfl)) (by kernel_rfl) (nms (by kernel_rfl)) (by kernel_rfl) ?_ (by intro _; kernel_rfl)
  rw [lc1_iter]
  repeat' (walk_at "ww")
  refine i_len hl (by rw [List.length_map]; omega) fun u1 t1 => ?_
  rw [List.length_map]
  repeat' (walk_at "ww")
  refine c_range fun h2 r ta tb t2 k2 hr2 hR2 => ?_
  repeat' (walk_at "ww")
  refine pi_range hR2 (by omega) fun h3 I k3 nI zI hI => ?_
  have k03 : Keeps h h3 := Keeps.trans k2 k3
  have nIh : h.get? I = none := by
    cases q : h.get? I with
    | none => rfl
    | some o => rw [k2 _ _ q] at nI; cases nI
  have ce : ∀ h', Keeps (hideAll h3 [I]) h' → h'.IsCell (L + 1) (some (.ref rw)) := fun h' k => by
    have := F.cell (Str.ofString "rows") (L + 1) mg_rows
    rw [hrow] at this
    refine is_get (is_get this fun o q => k03 _ _ q) fun o q => k _ _ (hideAll_get _ q ?_)
    intro z
    rw [List.mem_singleton] at z
    obtain ⟨oc, e, _⟩ := this
    rw [z, nIh] at e
    cases e
  have hl3 : ∀ h', Keeps (hideAll h3 [I]) h' → ∀ {a : Addr} {vs : List Value}, LL h a vs → LL h' a vs := fun h' k a vs ⟨n, e⟩ => ⟨n, k _ _ (hideAll_get _ (k03 _ _ e) (by intro z; rw [List.mem_singleton] at z; rw [z, nIh] at e; cases e))⟩
  refine ⟨h3, t2, I, [I], [I], ra.length, _, _, fun C D i ys h' => ∃ las, ys = las.map Value.ref ∧ Paired (fun k l => NL h' k l (R k) ∧ h.get? l = none ∧ l ≠ C ∧ l ≠ D ∧ l ∉ [I]) (ix R i) las ∧ las.Nodup, g, m, cm, rfl, rfl, ⟨Walks.range hA.2.2 I 0 1 ra.length, by omega, ?_, ?_, ?_, ?_, ?_, ?_, ?_⟩, F.grow k03, fun b hb z => F.notOwn mg_nd nIh (by rw [List.mem_singleton] at z; rw [← z]; exact hb), ?_⟩
  · simpa using hI
  · intro b hb; rw [List.mem_singleton] at hb; subst hb; exact zI
  · intro i h' st b hb; rw [List.mem_singleton] at hb; subst hb; exact ⟨_, st⟩
  · intro C D h' _ _ _; exact ⟨[], rfl, .nil, .nil⟩
  · rintro C D i ys h' ⟨las, rfl, pr, _⟩
    rw [List.length_map, ← pr.length]
    exact ix_len
  · rintro C D i ys h' h'' ⟨las, rfl, pr, nd⟩ sb
    exact ⟨las, rfl, pr.mono fun k l ⟨⟨u, n, e⟩, q1, q2, q3, q4⟩ => ⟨⟨u, n, sb _ _ q2 q3 q4 e⟩, q1, q2, q3, q4⟩, nd⟩
  · rintro C D i v ys h4 t4 m4 E' hi ⟨tv, rfl⟩ nC nD hCD hk ns hm ⟨nD4, eD⟩ _ lv ⟨las, rfl, pr, nd⟩
    have ei : (0 + (i : Int) * 1) = (i : Int) := by omega
    rw [ei] at hm
    rw [lc1_x] at hm
    have kh : Keeps (hideAll h3 [I]) h4 := fun b o e => hk b o (fun z => by rw [hideAll_none _ z] at e; cases e) (of_hideAll _ e)
    have ce4 := ce h4 kh
    obtain ⟨lr, nr⟩ := hR i (ra[i]) (List.getElem?_eq_getElem hi)
    have l4 := hl3 h4 kh hl
    have lr4 := hl3 h4 kh lr
    obtain ⟨oC, _, _, eC, _⟩ := id ns
    rw [lc1_ifs, lc1_elt]
    refine wpAny_tests_one ?_
    repeat' (walk_at "ww")
    have gi : (ra.map Value.ref)[((i : Int)).toNat]? = some (.ref (ra[i])) := by simp [hi]
    refine itk l4 (by omega) (by omega) gi ?_ (by with_unfolding_all rfl)
    repeat' (walk_at "ww")
    refine nl (Nat.zero_le _) fun h5 le k5 l5 _ _ => ?_
    refine ne_nil (k5.list lr4) l5 (hA.le (by decide)) ?_
    repeat' (walk_at "ww")
    by_cases hem : (R i).isEmpty = true
    · refine if_f (by simp [hem]) ⟨h5, _, rfl, k5, las, rfl, ?_, nd⟩
      rw [ix_succ, if_pos hem, List.append_nil]
      exact pr.mono fun k l ⟨⟨u, n, e⟩, q⟩ => ⟨⟨u, n, k5 _ _ e⟩, q⟩
    · refine if_t (by simp [hem]) ?_
      have ns5 := ns.keeps k5
      have ce5 := is_get ce4 fun o q => k5 _ _ q
      clear ns ce4
      repeat' (walk_at "ww")
      refine nl (Nat.le_of_ble_eq_true rfl) fun h6 lk k6 l6 _ _ => ?_
      have ns6 := ns5.keeps k6
      have ce6 := is_get ce5 fun o q => k6 _ _ q
      clear ns5 ce5
      repeat' (walk_at "ww")
      refine itk (k6.list (k5.list l4)) (by omega) (by omega) gi ?_ (by with_unfolding_all rfl)
      refine add_l l6 (k6.list (k5.list lr4)) (by simp; omega) fun h7 la k7 l7 nla => ?_
      have k47 : Keeps h4 h7 := Keeps.trans k5 (Keeps.trans k6 k7)
      have nla4 : h4.get? la = none := by
        cases q : h4.get? la with
        | none => rfl
        | some o => rw [k6 _ _ (k5 _ _ q)] at nla; cases nla
      have ne4 : ∀ b o, h4.get? b = some o → la ≠ b := fun b o e z => by rw [z, e] at nla4; cases nla4
      refine ⟨h7, _, rfl, k47, las ++ [la], by simp, ?_, ?_⟩
      · rw [ix_succ, if_neg hem]
        refine Paired.snoc (pr.mono fun k l ⟨⟨u, n, e⟩, q⟩ => ⟨⟨u, n, k47 _ _ e⟩, q⟩) ⟨⟨tv, l7⟩, ?_, ?_, ?_, ?_⟩
        · cases q : h.get? la with
          | none => rfl
          | some o => exact absurd rfl (ne4 la o (kh _ _ (hideAll_get _ (k03 _ _ q) (by intro z; rw [List.mem_singleton] at z; rw [z, nIh] at q; cases q))))
        · exact ne4 _ _ eC
        · exact ne4 _ _ eD
        · intro z
          obtain ⟨o, e⟩ := lv _ z
          exact absurd rfl (ne4 _ _ e)
      · rw [List.nodup_append]
        refine ⟨nd, by simp, fun x hx y hy => ?_⟩
        rw [List.mem_singleton] at hy
        subst hy
        obtain ⟨k, ⟨u, n, e⟩, _⟩ := pr.right x hx
        exact fun z => ne4 _ _ e z.symm
  · rintro C D h3' h' t' ys nC nD hCD ⟨las, rfl, pr, nd⟩ lD kk hk F'
    refine H h' t' D las (fun b o hb e => hk b o (by intro z; rw [List.mem_singleton] at z; rw [z, nIh] at e; cases e) hb (k03 _ _ e)) lD ?_ (pr.mono fun k l ⟨⟨u, n, e⟩, q1, q2, q3, q4⟩ => ⟨⟨u, n, kk _ _ q2 (F.notOwn mg_nd q1) e⟩, q1, q3⟩) nd F'
    cases q : h.get? D with
    | none => rfl
    | some o => rw [k03 _ _ q] at nD; cases nD
end G2_
section G3_
open PySem PySem.W PyProof.Rows PySem.W.X
theorem keep_C {k : KA} (ap : k.apart) : keepIn (KC k) (.ref k.C) = true := by
  unfold keepIn
  dsimp only
  rw [lk_C ap]
  have s1 : specialIn (KC k) (.ref k.C) "__call__" = some (some (.builtin "type.__call__")) := by
    unfold specialIn
    rw [show typeIn (KC k) (.ref k.C) = some (.type "type") from by show Option.map _ ((KC k).lookup k.C) = _; rw [lk_C ap]; rfl]
    kernel_rfl
  show (specialIn (KC k) (.ref k.C) "__call__" == some (some (.builtin "type.__call__"))) = true
  rw [s1]
  kernel_rfl
noncomputable def KI3 (h : Heap) (k : KA) (x l C D I : Addr) : Prop := ∃ dx, h.get? x = some ⟨.ref k.C, some dx, .plain, #[some (.ref l)]⟩ ∧ h.get? dx = some emptyDict ∧ dx ≠ C ∧ dx ≠ D ∧ dx ≠ I ∧ x ≠ C ∧ x ≠ D ∧ x ≠ I
theorem keys_comp {w : World} {A : Around} {E : Value → Shared → Prop} {g h : Heap} {c : Shared} {t : Nat} {L ls : Addr} {m cm : Str → Option Value} {las : List Addr} {k : KA} {Q : Value → Shared → Prop}
    (KX : (KB w.params).In h) (hA : Room 4 A) (F : Fc g (mgEnv w.params L) h m cm) (hlist : m (Str.ofString "lists") = some (.ref ls)) (hmade : cm (Str.ofString "made") = some (.ref k.C)) (CA : ClassAt h k)
    (hl : LL h ls (las.map Value.ref)) (hn : las.length < 2 ^ 10)
    (H : ∀ h' t' ky kas, Keeps h h' → LL h' ky (kas.map Value.ref) → h.get? ky = none → Paired (fun l x => KI h' k x l ∧ h.get? x = none ∧ x ≠ ky) las kas → kas.Nodup → Q (.ref ky) (St h' c t')) :
    wpAny (model pw w) A (eval (.ListComp lc2.elt [⟨.Name lc2.x lc2.px, lc2.iter, lc2.ifs, 0⟩] lc2.scope lc2.pos) (mgEnv w.params L)) Q E (St h c t) := by
  refine lcg (c := c) lc2_clos (no_cell (by kernel_rfl)) (by kernel_rfl) (nms (by kernel_rfl)) (by kernel_rfl) ?_ (by intro _; kernel_rfl)
  rw [lc2_iter]
  repeat' (walk_at "ww")
  refine pi_list hl fun h3 I k03 nIh zI hI => ?_
  have nls : ls ≠ I := fun z => by obtain ⟨_, e⟩ := hl; rw [z, nIh] at e; cases e
  have ce : ∀ h', Keeps (hideAll h3 [I]) h' → h'.IsCell (L + 1 + 1) (some (.ref k.C)) := fun h' k => by
    have := F.cell (Str.ofString "made") (L + 1 + 1) mg_made
    rw [hmade] at this
    refine is_get (is_get this fun o q => k03 _ _ q) fun o q => k _ _ (hideAll_get _ q ?_)
    intro z
    rw [List.mem_singleton] at z
    obtain ⟨oc, e, _⟩ := this
    rw [z, nIh] at e
    cases e
  have up : ∀ h', Keeps (hideAll h3 [I]) h' → Keeps h h' := fun h' k b o e => k _ _ (hideAll_get _ (k03 _ _ e) (by intro z; rw [List.mem_singleton] at z; rw [z, nIh] at e; cases e))
  have hsz : (las.map Value.ref).toArray.size = las.length := by simp
  refine ⟨h3, t, I, [I, ls], [I], (las.map Value.ref).toArray.size, _, _, fun C D i ys h' => ∃ kas, ys = kas.map Value.ref ∧ Paired (fun l x => KI3 h' k x l C D I ∧ h.get? x = none) (las.take i) kas ∧ kas.Nodup, rfl, rfl, ⟨Walks.list hA.2.2 I ls nls (las.map Value.ref).toArray, by rw [hsz]; omega, ?_, ?_, ?_, ?_, ?_, ?_, ?_, ?_⟩⟩
  · exact ⟨hI, (k03.list hl).is⟩
  · intro b hb
    rcases List.mem_cons.mp hb with rfl | hb
    · exact zI
    · rw [List.mem_singleton] at hb; subst hb; exact (k03.list hl).lt
  · intro i h' st b hb
    rw [List.mem_singleton] at hb
    subst hb
    obtain ⟨o, e, _⟩ := st.1
    exact ⟨o, e⟩
  · intro C D h' _ _ _; exact ⟨[], rfl, .nil, .nil⟩
  · rintro C D i ys h' ⟨kas, rfl, pr, _⟩
    rw [List.length_map, ← pr.length, List.length_take]
    exact Nat.min_le_left _ _
  · rintro C D i ys h' h'' ⟨kas, rfl, pr, nd⟩ sb
    refine ⟨kas, rfl, pr.mono fun l x ⟨⟨dx, e1, e2, q1, q2, q3, q4, q5, q6⟩, q⟩ => ⟨⟨dx, sb _ _ q4 q5 (by simpa using q6) e1, sb _ _ q1 q2 (by simpa using q3) e2, q1, q2, q3, q4, q5, q6⟩, q⟩, nd⟩
  · rintro C D i v ys h4 t4 m4 E' hi hv nC nD hCD hk ns hm ⟨nD4, eD⟩ S4 lv ⟨kas, rfl, pr, nd⟩
    rw [hsz] at hi
    have hv' : v = .ref (las[i]) := by
      have : (las.map Value.ref).toArray[i]? = some (.ref (las[i])) := by simp [hi]
      rw [this] at hv
      exact (Option.some.inj hv).symm
    subst hv'
    rw [lc2_x] at hm
    have kh : Keeps (hideAll h3 [I]) h4 := fun b o e => hk b o (fun z => by rw [hideAll_none _ z] at e; cases e) (of_hideAll _ e)
    have ce4 := ce h4 kh
    have k04 := up h4 kh
    obtain ⟨oC, esC, epC, eC, dC, _, fC⟩ := id ns
    rw [lc2_ifs, lc2_elt]
    refine wpAny_tests_nil ?_
    refine if_t rfl ?_
    repeat' (walk_at "ww")
    refine callWith_K (CA.keeps k04).kin (keep_C CA.ap) ?_ rfl rfl
    repeat' (walk_at "ww")
    refine ⟨(CA.keeps k04).kin, cl (made_spec (KX.keeps k04) (CA.keeps k04) (hA.le (by decide)) fun h5 t5 x k5 I5 hx _ => rq_ret ?_)⟩
    have nx : h4.get? x = none := none_of_ge hx
    have ne4 : ∀ b o, h4.get? b = some o → x ≠ b := fun b o e z => by rw [z, e] at nx; cases nx
    obtain ⟨oI, eI⟩ := lv I (.head _)
    refine ⟨h5, t5, rfl, k5, kas ++ [x], by simp, ?_, ?_⟩
    · rw [List.take_succ_eq_append_getElem hi]
      refine Paired.snoc (pr.mono fun l y ⟨⟨dx, e1, e2, q⟩, q'⟩ => ⟨⟨dx, k5 _ _ e1, k5 _ _ e2, q⟩, q'⟩) ⟨?_, ?_⟩
      · obtain ⟨dx, e1, e2⟩ := I5
        refine ⟨dx, e1, e2, ?_, ?_, ?_, ne4 _ _ eC, ne4 _ _ eD, ne4 _ _ eI⟩
        · intro z
          rw [z, k5 _ _ eC] at e2
          cases e2
          cases dC
          have := fC (Str.ofString "one")
          rw [hm] at this
          cases this
        · intro z
          rw [z, k5 _ _ eD] at e2
          have e3 := congrArg Obj.data (Option.some.inj e2)
          cases e3
        · intro z
          obtain ⟨oI', eI', _, dI⟩ := S4.1
          rw [z, k5 _ _ eI'] at e2
          cases e2
          cases dI
      · cases q : h.get? x with
        | none => rfl
        | some o => exact absurd rfl (ne4 x o (k04 _ _ q))
    · rw [List.nodup_append]
      refine ⟨nd, by simp, fun y hy z hz => ?_⟩
      rw [List.mem_singleton] at hz
      subst hz
      obtain ⟨l, ⟨dx, e, _⟩, _⟩ := pr.right y hy
      exact fun z => ne4 _ _ e z.symm
  · rintro C D h' t' ys nC nD hCD ⟨kas, rfl, pr, nd⟩ lD hk
    have kk : Keeps h h' := up h' fun b o e => hk b o (fun z => by rw [hideAll_none _ z] at e; cases e) (of_hideAll _ e)
    rw [hsz, List.take_length] at pr
    refine H h' t' D kas kk lD ?_ (pr.mono fun l x ⟨⟨dx, e1, e2, _, _, _, _, q5, _⟩, q⟩ => ⟨⟨dx, e1, e2⟩, q, q5⟩) nd
    cases q : h.get? D with
    | none => rfl
    | some o => rw [k03 _ _ q] at nD; cases nD
end G3_
section G4_
open PySem PySem.W PyProof.Rows PySem.W.X
theorem find_comp {w : World} {A : Around} {E : Value → Shared → Prop} {g h : Heap} {c : Shared} {t : Nat} {L ky : Addr} {m cm : Str → Option Value} {kas : List Addr} {n : Nat} {x : Addr} {Q : Value → Shared → Prop}
    (KX : (KB w.params).In h) (hA : Room 2 A) (F : Fc g (mgEnv w.params L) h m cm) (hkeys : cm (Str.ofString "keys") = some (.ref ky)) (htop : cm (Str.ofString "top") = some (.ref x))
    (hl : LL h ky (kas.map Value.ref)) (hn : kas.length < 2 ^ 10) (nd : kas.Nodup) (hx : kas[n]? = some x) (hlive : ∀ y ∈ kas, ∃ o, h.get? y = some o ∧ o.cls ≠ .type "tuple")
    (H : ∀ h' t' l u, Keeps h h' → LL h' l [.int (n : Int) u] → Q (.ref l) (St h' c t')) :
    wpAny (model pw w) A (eval (.ListComp lc3.elt [⟨.Name lc3.x lc3.px, lc3.iter, lc3.ifs, 0⟩] lc3.scope lc3.pos) (mgEnv w.params L)) Q E (St h c t) := by
  have hnl : n < kas.length := by
    rcases Nat.lt_or_ge n kas.length with q | q
    · exact q
    · rw [List.getElem?_eq_none q] at hx; cases hx
  refine lcg (c := c) lc3_clos (no_cell (by kernel_rfl)) (by kernel_rfl) (nms (by kernel_rfl)) (by kernel_rfl) ?_ (by intro _; kernel_rfl)
  rw [lc3_iter]
  repeat' (walk_at "ww")
  refine i_len hl (by rw [List.length_map]; omega) fun u1 t1 => ?_
  rw [List.length_map]
  repeat' (walk_at "ww")
  refine c_range fun h2 r ta tb t2 k2 hr2 hR2 => ?_
  repeat' (walk_at "ww")
  refine pi_range hR2 (by omega) fun h3 I k3 nI zI hI => ?_
  have k03 : Keeps h h3 := Keeps.trans k2 k3
  have nIh : h.get? I = none := by
    cases q : h.get? I with
    | none => rfl
    | some o => rw [k2 _ _ q] at nI; cases nI
  have up : ∀ h', Keeps (hideAll h3 [I]) h' → Keeps h h' := fun h' k b o e => k _ _ (hideAll_get _ (k03 _ _ e) (by intro z; rw [List.mem_singleton] at z; rw [z, nIh] at e; cases e))
  have ce1 : h.IsCell (L + 1 + 1 + 1) (some (.ref ky)) := hkeys ▸ F.cell _ _ mg_keys
  have ce2 : h.IsCell (L + 1 + 1 + 1 + 1) (some (.ref x)) := htop ▸ F.cell _ _ mg_top
  refine ⟨h3, t2, I, [I], [I], kas.length, _, _, fun C D i ys h' => ∃ u, ys = if n < i then [.int (n : Int) u] else [], rfl, rfl, ⟨Walks.range hA.2.2 I 0 1 kas.length, by omega, ?_, ?_, ?_, ?_, ?_, ?_, ?_, ?_⟩⟩
  · simpa using hI
  · intro b hb; rw [List.mem_singleton] at hb; subst hb; exact zI
  · intro i h' st b hb; rw [List.mem_singleton] at hb; subst hb; exact ⟨_, st⟩
  · intro C D h' _ _ _; exact ⟨0, rfl⟩
  · rintro C D i ys h' ⟨u, rfl⟩
    split
    · simp; omega
    · simp
  · rintro C D i ys h' h'' ⟨u, rfl⟩ sb
    exact ⟨u, rfl⟩
  · rintro C D i v ys h4 t4 m4 E' hi ⟨tv, rfl⟩ nC nD hCD hk ns hm _ _ lv ⟨u, rfl⟩
    have ei : (0 + (i : Int) * 1) = (i : Int) := by omega
    rw [ei] at hm
    rw [lc3_x] at hm
    have k04 := up h4 fun b o e => hk b o (fun z => by rw [hideAll_none _ z] at e; cases e) (of_hideAll _ e)
    have c1 := is_get ce1 fun o q => k04 _ _ q
    have c2 := is_get ce2 fun o q => k04 _ _ q
    rw [lc3_ifs, lc3_elt]
    refine wpAny_tests_one ?_
    repeat' (walk_at "ww")
    have gi : (kas.map Value.ref)[((i : Int)).toNat]? = some (.ref (kas[i])) := by simp [hi]
    refine itk (k04.list hl) (by omega) (by omega) gi ?_ (by with_unfolding_all rfl)
    repeat' (walk_at "ww")
    obtain ⟨o1, e1, q1⟩ := hlive (kas[i]) (List.getElem_mem _)
    obtain ⟨o2, e2, q2⟩ := hlive x (List.mem_of_getElem? hx)
    refine is_rr (k04 _ _ e1) (k04 _ _ e2) q1 ?_
    repeat' (walk_at "ww")
    have ex : kas[i] = x ↔ i = n := by
      have hx' : kas[n] = x := by rw [List.getElem?_eq_getElem hnl] at hx; exact Option.some.inj hx
      constructor
      · intro e
        exact (List.getElem_inj nd).mp (e.trans hx'.symm)
      · rintro rfl; exact hx'
    by_cases hin : i = n
    · subst hin
      refine if_t (by simp [ex.mpr rfl]) ?_
      repeat' (walk_at "ww")
      refine ⟨h4, _, rfl, Keeps.refl _, tv, ?_⟩
      rw [if_neg (Nat.lt_irrefl _), if_pos (Nat.lt_succ_self _)]
      rfl
    · refine if_f (by simpa using fun e => hin (ex.mp e)) ⟨h4, _, rfl, Keeps.refl _, u, ?_⟩
      by_cases q : n < i
      · rw [if_pos q, if_pos (by omega)]
      · rw [if_neg q, if_neg (by omega)]
  · rintro C D h' t' ys nC nD hCD ⟨u, rfl⟩ lD hk
    rw [if_pos hnl] at lD
    exact H h' t' D u (up h' fun b o e => hk b o (fun z => by rw [hideAll_none _ z] at e; cases e) (of_hideAll _ e)) lD
end G4_
section G5_
open PySem PySem.W PyProof.Rows PySem.W.X
theorem kb_hide {P : Params} {h : Heap} {l : List Addr} (KX : (KB P).In h) (hl : ∀ b ∈ l, 104 ≤ b) : (KB P).In (hideAll h l) := fun b o e => hideAll_get _ (KX b o e) fun z => by rw [kb_lt (hl b z)] at e; cases e
noncomputable def ifBody : Option Stmt → List Stmt
  | some (Stmt.If _ b _ _) => b
  | _ => []
theorem mg_body : mgBody = [.Assign [nmE "lists" ⟨105, 4, 105, 9⟩] lc1.e ⟨105, 4, 105, 70⟩,
  .Assign [nmE "made" ⟨106, 4, 106, 8⟩] (.Call (nmE "cmp_to_key" ⟨106, 11, 106, 21⟩) [nmE "_law_compare" ⟨106, 22, 106, 34⟩] [] ⟨106, 11, 106, 35⟩) ⟨106, 4, 106, 35⟩,
  .Assign [nmE "keys" ⟨107, 4, 107, 8⟩] lc2.e ⟨107, 4, 107, 39⟩,
  .Assign [nmE "heap" ⟨108, 4, 108, 8⟩] (.Call (nmE "list" ⟨108, 11, 108, 15⟩) [nmE "keys" ⟨108, 16, 108, 20⟩] [] ⟨108, 11, 108, 21⟩) ⟨108, 4, 108, 21⟩,
  .If (.Compare (.Call (nmE "heapify" ⟨109, 7, 109, 14⟩) [nmE "heap" ⟨109, 15, 109, 19⟩] [] ⟨109, 7, 109, 20⟩) [.IsNot] [.Constant .none 0 ⟨109, 28, 109, 32⟩] ⟨109, 7, 109, 32⟩) (ifBody (mgBody[4]?)) [] ⟨109, 4, 110, 24⟩,
  .Assign [nmE "came" ⟨111, 4, 111, 8⟩] (.List [] ⟨111, 11, 111, 13⟩) ⟨111, 4, 111, 13⟩,
  .While (.Compare (nmE "heap" ⟨112, 10, 112, 14⟩) [.NotEq] [.List [] ⟨112, 18, 112, 20⟩] ⟨112, 10, 112, 20⟩) wBody [] ⟨112, 4, 120, 28⟩,
  .Return (some (nmE "came" ⟨121, 11, 121, 15⟩)) ⟨121, 4, 121, 15⟩] := by kernel_rfl
theorem w_body : wBody = [.Assign [nmE "top" ⟨113, 8, 113, 11⟩] (.Subscript (nmE "heap" ⟨113, 14, 113, 18⟩) (.Constant (.int 0) 0 ⟨113, 19, 113, 20⟩) ⟨113, 14, 113, 21⟩) ⟨113, 8, 113, 21⟩,
  .If (.BoolOp .And [.Compare (.Call (nmE "len" ⟨114, 11, 114, 14⟩) [nmE "came" ⟨114, 15, 114, 19⟩] [] ⟨114, 11, 114, 20⟩) [.Eq] [.Constant (.int 1) 0 ⟨114, 24, 114, 25⟩] ⟨114, 11, 114, 25⟩, .Call (nmE "_law_unlike" ⟨114, 30, 114, 41⟩) [nmE "top" ⟨114, 42, 114, 45⟩, .Subscript (nmE "heap" ⟨114, 47, 114, 51⟩) (.UnaryOp .USub (.Constant (.int 1) 0 ⟨114, 53, 114, 54⟩) ⟨114, 52, 114, 54⟩) ⟨114, 47, 114, 55⟩] [] ⟨114, 30, 114, 56⟩] ⟨114, 11, 114, 56⟩) (ifBody (wBody[1]?)) [] ⟨114, 8, 115, 28⟩,
  .Assign [nmE "here" ⟨116, 8, 116, 12⟩] (.Subscript (nmE "lists" ⟨116, 15, 116, 20⟩) (.Subscript lc3.e (.Constant (.int 0) 0 ⟨116, 69, 116, 70⟩) ⟨116, 21, 116, 71⟩) ⟨116, 15, 116, 72⟩) ⟨116, 8, 116, 72⟩,
  .Expr (.Call (.Attribute (nmE "came" ⟨117, 8, 117, 12⟩) (Str.ofString "append") ⟨117, 8, 117, 19⟩) [.Call (.Attribute (nmE "here" ⟨117, 20, 117, 24⟩) (Str.ofString "pop") ⟨117, 20, 117, 28⟩) [.Constant (.int 1) 0 ⟨117, 29, 117, 30⟩] [] ⟨117, 20, 117, 31⟩] [] ⟨117, 8, 117, 32⟩) ⟨117, 8, 117, 32⟩,
  .Assign [nmE "back" ⟨118, 8, 118, 12⟩] (.IfExp (.Compare (.Call (nmE "len" ⟨118, 41, 118, 44⟩) [nmE "here" ⟨118, 45, 118, 49⟩] [] ⟨118, 41, 118, 50⟩) [.Gt] [.Constant (.int 1) 0 ⟨118, 53, 118, 54⟩] ⟨118, 41, 118, 54⟩) (.Call (nmE "heapreplace" ⟨118, 15, 118, 26⟩) [nmE "heap" ⟨118, 27, 118, 31⟩, nmE "top" ⟨118, 33, 118, 36⟩] [] ⟨118, 15, 118, 37⟩) (.Call (nmE "heappop" ⟨118, 60, 118, 67⟩) [nmE "heap" ⟨118, 68, 118, 72⟩] [] ⟨118, 60, 118, 73⟩) ⟨118, 15, 118, 73⟩) ⟨118, 8, 118, 73⟩,
  .If (.Compare (nmE "back" ⟨119, 11, 119, 15⟩) [.IsNot] [nmE "top" ⟨119, 23, 119, 26⟩] ⟨119, 11, 119, 26⟩) (ifBody (wBody[5]?)) [] ⟨119, 8, 120, 28⟩] := by kernel_rfl
structure Rows (h : Heap) (rw : Addr) (ra : List Addr) (R : Nat → List Addr) (val : Addr → Int) : Prop where
  l : LL h rw (ra.map Value.ref)
  n : ra.length < 2 ^ 10
  r : ∀ k l, ra[k]? = some l → LL h l ((R k).map Value.ref) ∧ (R k).length < 2 ^ 10
  e : ∀ k, ra.length ≤ k → R k = []
  i : ∀ k x, x ∈ R k → ∃ u l, LL h x (.int (val x) u :: l)
theorem Rows.keeps {h h' : Heap} {rw : Addr} {ra : List Addr} {R : Nat → List Addr} {val : Addr → Int} (x : Rows h rw ra R val) (k : Keeps h h') : Rows h' rw ra R val :=
  ⟨k.list x.l, x.n, fun a b e => ⟨k.list (x.r a b e).1, (x.r a b e).2⟩, x.e, fun a b e => let ⟨u, l, q⟩ := x.i a b e; ⟨u, l, k.list q⟩⟩
end G5_
section G6_
open PySem PySem.W PyProof.Rows PySem.W.X
theorem Fc.back {g h h' : Heap} {env : Env} {m cm : Str → Option Value} {l : Addr} (F : Fc g env h m cm) (hl : l ∉ own env) (hg : g.get? l = none) (k : Keeps (hideAll h [l]) h') : Fc g env h' m cm := by
  refine F.move (fun b o e => k _ _ (hideAll_get _ (F.keep _ _ e) (by intro z; rw [List.mem_singleton] at z; rw [z, hg] at e; cases e))) F.hidL F.hidC fun b hb o e => k _ _ (hideAll_get _ e (by intro z; rw [List.mem_singleton] at z; exact hl (z ▸ hb)))
theorem LL.back {h h' : Heap} {a l : Addr} {vs : List Value} (x : LL h a vs) (ne : a ≠ l) (k : Keeps (hideAll h [l]) h') : LL h' a vs := let ⟨n, e⟩ := x; ⟨n, k _ _ (hideAll_get _ e (by simpa using ne))⟩
structure MB (w : World) (g : Heap) (k : KA) (ls ky : Addr) (las kas : List Addr) (rk : Addr → Nat) (la : Addr → Addr) (S0 : Nat → List Addr) (val : Addr → Int) : Prop where
  kx : (KB w.params).In g
  cls : ClassAt g k
  lls : LL g ls (las.map Value.ref)
  lky : LL g ky (kas.map Value.ref)
  nd : kas.Nodup
  nl : kas.length < 2 ^ 10
  ln : las.length = kas.length
  key : ∀ (n : Nat) a, kas[n]? = some a → las[n]? = some (la a)
  ki : ∀ a ∈ kas, KI g k a (la a)
  lin : ∀ a ∈ kas, ∀ b ∈ kas, la a = la b → a = b
  it : ∀ k x, x ∈ S0 k → ∃ u l, LL g x (.int (val x) u :: l)
structure MH (g : Heap) (env : Env) (hp ca : Addr) (kas : List Addr) (la : Addr → Addr) : Prop where
  hhp : g.get? hp = none
  hca : g.get? ca = none
  hla : ∀ a ∈ kas, g.get? (la a) = none
  hpo : hp ∉ own env
  cao : ca ∉ own env
  lao : ∀ a ∈ kas, la a ∉ own env
  hc : hp ≠ ca
  hl : ∀ a ∈ kas, hp ≠ la a
  cl : ∀ a ∈ kas, ca ≠ la a
structure MD (h : Heap) (hp ca : Addr) (kas : List Addr) (rk : Addr → Nat) (la : Addr → Addr) (S : Nat → List Addr) (ks pre : List Addr) : Prop where
  lhp : LL h hp (ks.map Value.ref)
  lca : LL h ca (pre.map Value.ref)
  lla : ∀ a ∈ kas, NL h (rk a) (la a) (S (rk a))
section
variable {w : World} {g h h' : Heap} {k : KA} {ls ky hp ca : Addr} {las kas ks pre : List Addr} {rk : Addr → Nat} {la : Addr → Addr} {S0 S : Nat → List Addr} {val : Addr → Int} {env : Env} {m cm : Str → Option Value}
theorem MD.keeps (D : MD h hp ca kas rk la S ks pre) (k : Keeps h h') : MD h' hp ca kas rk la S ks pre := ⟨k.list D.lhp, k.list D.lca, fun a ha => let ⟨u, q⟩ := D.lla a ha; ⟨u, k.list q⟩⟩
theorem MD.own (D : MD h hp ca kas rk la S ks pre) (M : MH g env hp ca kas la) {l : Addr} (hl : l ∈ Mine.own env) (s : Heap.SameBut l h h') : MD h' hp ca kas rk la S ks pre :=
  ⟨list_but D.lhp s fun z => M.hpo (z ▸ hl), list_but D.lca s fun z => M.cao (z ▸ hl), fun a ha => let ⟨u, q⟩ := D.lla a ha; ⟨u, list_but q s fun z => M.lao a ha (z ▸ hl)⟩⟩
theorem MD.two (D : MD h hp ca kas rk la S ks pre) (B : MB w g k ls ky las kas rk la S0 val) (hk : Keeps g h) (sub : ∀ k x, x ∈ S k → x ∈ S0 k) {a b : Addr} (ha : a ∈ kas) (hb : b ∈ kas) (na : S (rk a) ≠ []) (nb : S (rk b) ≠ []) :
    Two h k a b (hdv val S (rk a)) (rk a) (hdv val S (rk b)) (rk b) := by
  obtain ⟨ua, qa⟩ := D.lla a ha
  obtain ⟨ub, qb⟩ := D.lla b hb
  cases ea : S (rk a) with
  | nil => exact absurd ea na
  | cons x r =>
    cases eb : S (rk b) with
    | nil => exact absurd eb nb
    | cons y s =>
      obtain ⟨u1, l1, i1⟩ := B.it (rk a) x (sub _ _ (by rw [ea]; exact .head _))
      obtain ⟨u2, l2, i2⟩ := B.it (rk b) y (sub _ _ (by rw [eb]; exact .head _))
      rw [ea] at qa
      rw [eb] at qb
      have e1 : hdv val S (rk a) = val x := by unfold hdv; rw [ea]
      have e2 : hdv val S (rk b) = val y := by unfold hdv; rw [eb]
      rw [e1, e2]
      exact ⟨la a, la b, x, y, ua, ub, u1, u2, r.map Value.ref, s.map Value.ref, l1, l2, (B.ki a ha).keeps hk, (B.ki b hb).keeps hk, qa, hk.list i1, qb, hk.list i2⟩
theorem MD.lt {c : Shared} (D : MD h hp ca kas rk la S ks pre) (B : MB w g k ls ky las kas rk la S0 val) (M : MH g env hp ca kas la) (hk : Keeps g h) (sub : ∀ k x, x ∈ S k → x ∈ S0 k) {l : List Addr} (hl : ∀ a ∈ l, a ∈ kas ∧ S (rk a) ≠ []) :
    LtOK w c (hideAll h [hp]) (ltS val rk S) l := by
  intro a ha b hb A h2 t Q E hA hk2 H
  have ha' := hl a ha
  have hb' := hl b hb
  have kg : Keeps g (hideAll h [hp]) := fun b o e => hideAll_get _ (hk _ _ e) (by intro z; rw [List.mem_singleton] at z; rw [z, M.hhp] at e; cases e)
  have T : Two h2 k a b (hdv val S (rk a)) (rk a) (hdv val S (rk b)) (rk b) := by
    have D' : MD h2 hp ca kas rk la S [] [] → Two h2 k a b (hdv val S (rk a)) (rk a) (hdv val S (rk b)) (rk b) := fun D' => D'.two B (Keeps.trans kg hk2) sub ha'.1 hb'.1 ha'.2 hb'.2
    obtain ⟨ua, qa⟩ := D.lla a ha'.1
    obtain ⟨ub, qb⟩ := D.lla b hb'.1
    cases ea : S (rk a) with
    | nil => exact absurd ea ha'.2
    | cons x r =>
      cases eb : S (rk b) with
      | nil => exact absurd eb hb'.2
      | cons y s =>
        obtain ⟨u1, l1, i1⟩ := B.it (rk a) x (sub _ _ (by rw [ea]; exact .head _))
        obtain ⟨u2, l2, i2⟩ := B.it (rk b) y (sub _ _ (by rw [eb]; exact .head _))
        rw [ea] at qa
        rw [eb] at qb
        have e1 : hdv val S (rk a) = val x := by unfold hdv; rw [ea]
        have e2 : hdv val S (rk b) = val y := by unfold hdv; rw [eb]
        rw [e1, e2]
        have kk := Keeps.trans kg hk2
        exact ⟨la a, la b, x, y, ua, ub, u1, u2, r.map Value.ref, s.map Value.ref, l1, l2, (B.ki a ha'.1).keeps kk, (B.ki b hb'.1).keeps kk, LL.back qa (M.hl a ha'.1).symm hk2, kk.list i1, LL.back qb (M.hl b hb'.1).symm hk2, kk.list i2⟩
  exact c_lt (B.kx.keeps (Keeps.trans kg hk2)) (B.cls.keeps (Keeps.trans kg hk2)) (hA.le (by decide)) T fun h' t' kp => H h' t' kp
end
end G6_
section G8_
open PySem PySem.W PyProof.Rows PySem.W.X
theorem nd_le : ∀ {l1 l2 : List Addr}, l1.Nodup → (∀ x ∈ l1, x ∈ l2) → l1.length ≤ l2.length
  | [], _, _, _ => Nat.zero_le _
  | x :: l1, l2, nd, h => by
    have hx := h x (.head _)
    have n1 := List.nodup_cons.mp nd
    have := nd_le (l1 := l1) (l2 := l2.erase x) n1.2 fun y hy => (List.mem_erase_of_ne (fun (e : y = x) => n1.1 (by rw [← e]; exact hy))).mpr (h y (.tail _ hy))
    rw [List.length_erase_of_mem hx] at this
    have := List.length_pos_of_mem hx
    rw [List.length_cons]
    omega
theorem sum_upd {S : Nat → List Addr} {rk : Addr → Nat} {a x : Addr} {r : List Addr} (hx : S (rk a) = x :: r) : ∀ l : List Addr, l.Nodup → (∀ b ∈ l, rk b = rk a → b = a) →
    (a ∈ l → (l.map fun b => (upd S (rk a) r (rk b)).length).sum + 1 = (l.map fun b => (S (rk b)).length).sum) ∧ (a ∉ l → (l.map fun b => (upd S (rk a) r (rk b)).length).sum = (l.map fun b => (S (rk b)).length).sum)
  | [], _, _ => ⟨fun h => (by cases h), fun _ => rfl⟩
  | b :: l, nd, hi => by
    have n1 := List.nodup_cons.mp nd
    obtain ⟨i1, i2⟩ := sum_upd hx l n1.2 fun c hc => hi c (.tail _ hc)
    rw [List.map_cons, List.map_cons, List.sum_cons, List.sum_cons]
    by_cases e : b = a
    · subst e
      have e1 : upd S (rk b) r (rk b) = r := if_pos rfl
      have := i2 n1.1
      refine ⟨fun _ => ?_, fun h => absurd (.head _) h⟩
      rw [e1, hx, List.length_cons]
      omega
    · have e1 : upd S (rk a) r (rk b) = S (rk b) := if_neg fun z => e (hi b (.head _) z)
      rw [e1]
      refine ⟨fun h => ?_, fun h => ?_⟩
      · rcases List.mem_cons.mp h with z | z
        · exact absurd z.symm e
        · have := i1 z; omega
      · have := i2 fun z => h (.tail _ z); omega
structure LS (w : World) (g : Heap) (L : Addr) (c : Shared) (k : KA) (ls ky hp ca : Addr) (las kas : List Addr) (rk : Addr → Nat) (la : Addr → Addr) (S0 : Nat → List Addr) (val : Addr → Int) (n : Nat) (s : Shared) : Prop where
  ex : ∃ h t m cm S ks pre, s = St h c t ∧ Fc g (mgEnv w.params L) h m cm ∧ m (Str.ofString "lists") = some (.ref ls) ∧ m (Str.ofString "heap") = some (.ref hp) ∧ m (Str.ofString "came") = some (.ref ca) ∧ cm (Str.ofString "keys") = some (.ref ky) ∧
    MD h hp ca kas rk la S ks pre ∧ LI val rk S0 S kas ks pre ∧ (∀ k x, x ∈ S k → x ∈ S0 k) ∧ (∀ k, (S k).length < 2 ^ 10) ∧ (kas.map fun a => (S (rk a)).length).sum = n ∧ pre.length + n < 2 ^ 20
theorem turn {w : World} {A : Around} {g : Heap} {L : Addr} {c : Shared} {k : KA} {ls ky hp ca : Addr} {las kas : List Addr} {rk : Addr → Nat} {la : Addr → Addr} {S0 : Nat → List Addr} {val : Addr → Int} {Q : Flow → Shared → Prop} {E : Value → Shared → Prop} {n : Nat} {s : Shared}
    (hA : Room 12 A) (B : MB w g k ls ky las kas rk la S0 val) (M : MH g (mgEnv w.params L) hp ca kas la) (I : LS w g L c k ls ky hp ca las kas rk la S0 val n s)
    (fin : ∀ h t m cm pre, Fc g (mgEnv w.params L) h m cm → m (Str.ofString "came") = some (.ref ca) → LL h ca (pre.map Value.ref) → Mg val S0 pre → Q .next (St h c t)) :
    wpAny (model pw w) A (isTrue (.Compare (nmE "heap" ⟨112, 10, 112, 14⟩) [.NotEq] [.List [] ⟨112, 18, 112, 20⟩] ⟨112, 10, 112, 20⟩) (mgEnv w.params L) (eval (.Compare (nmE "heap" ⟨112, 10, 112, 14⟩) [.NotEq] [.List [] ⟨112, 18, 112, 20⟩] ⟨112, 10, 112, 20⟩) (mgEnv w.params L)))
      (fun b s₂ => if b = true then wpAny (model pw w) A (execs wBody (mgEnv w.params L)) (WEnd (LS w g L c k ls ky hp ca las kas rk la S0 val) n Q) E s₂ else Q .next s₂) E s := by
  obtain ⟨h, t, m, cm, S, ks, pre, rfl, F, m1, m2, m3, c1, D, LIv, sub, sl, hn, hb⟩ := I
  repeat' (walk_at "ww")
  refine nl (Nat.zero_le _) fun h1 le k1 l1 _ _ => ?_
  refine ne_nil (k1.list D.lhp) l1 (hA.le (by decide)) ?_
  repeat' (walk_at "ww")
  replace F := F.grow k1
  replace D := D.keeps k1
  clear l1
  cases ks with
  | nil =>
    refine if_f (by simp) ?_
    exact fin h1 _ m cm pre F m3 D.lca LIv.fin
  | cons a l =>
    refine if_t (by simp) ?_
    rw [w_body]
    obtain ⟨akas, hSa⟩ := (LIv.mem a).mp (.head _)
    have hlen : (a :: l).length < 2 ^ 10 := Nat.lt_of_le_of_lt (nd_le LIv.nd fun b hb => ((LIv.mem b).mp hb).1) B.nl
    repeat' (walk_at "ww")
    refine it0 (v0 := .ref a) (vs := l.map Value.ref) D.lhp ?_ (by with_unfolding_all rfl)
    refine scc F (fun h2 t2 ac hac F2 s2 => ?_) (by kernel_rfl) (by kernel_rfl) mg_top
    have D2 := D.own M (own_cell hac) s2
    have htop : (fun y => if y = Str.ofString "top" then some (Value.ref a) else cm y) (Str.ofString "top") = some (.ref a) := if_pos rfl
    have hkeys : (fun y => if y = Str.ofString "top" then some (Value.ref a) else cm y) (Str.ofString "keys") = some (.ref ky) := (if_neg (by decide +kernel)).trans c1
    generalize (fun y => if y = Str.ofString "top" then some (Value.ref a) else cm y) = cm2 at *
    clear F D k1
    have KX2 := B.kx.keeps F2.keep
    have CA2 := B.cls.keeps F2.keep
    obtain ⟨ks1, y, hky⟩ : ∃ ks1 y, a :: l = ks1 ++ [y] := ⟨(a :: l).dropLast, (a :: l).getLast (by simp), (List.dropLast_concat_getLast (by simp)).symm⟩
    have hym : y ∈ a :: l := by rw [hky]; simp
    have hyk := (LIv.mem y).mp hym
    have T2 := D2.two B F2.keep sub akas hyk.1 hSa hyk.2
    have hlt : a = y ∨ cmpVal (hdv val S (rk a)) (rk a) (hdv val S (rk y)) (rk y) < 0 := by
      by_cases e : a = y
      · exact .inl e
      · exact .inr (LIv.min hym fun z => e z.symm)
    refine co_next ?_
    refine seq_cut (P := fun s' => ∃ h3 t3, s' = St h3 c t3 ∧ Keeps h2 h3) ?_ ?_
    · repeat' (walk_at "ww")
      refine i_len D2.lca (by rw [List.length_map]; omega) fun u3 t3 => ?_
      rw [List.length_map]
      repeat' (walk_at "ww")
      by_cases hp1 : pre.length = 1
      · refine if_t (by simp [hp1]) ?_
        repeat' (walk_at "ww")
        have lh : LL h2 hp (ks1.map Value.ref ++ [.ref y]) := by have := D2.lhp; rw [hky, List.map_append] at this; exact this
        have hk1 : ks1.length < 2 ^ 10 := by have := congrArg List.length hky; rw [List.length_append] at this; simp at this; simp at hlen; omega
        refine it_last lh (by rw [List.length_map]; omega) ?_ (by with_unfolding_all rfl)
        repeat' (walk_at "ww")
        refine ⟨KX2, cl (unlike_spec KX2 CA2 (hA.le (by decide)) T2 hlt fun h3 t3 k3 => rq_ret ?_)⟩
        repeat' (walk_at "ww")
        refine if_f (by decide) ?_
        exact wpAny_execs_nil ⟨rfl, h3, _, rfl, k3⟩
      · refine if_f (by simpa using fun z => hp1 (by omega)) ?_
        refine if_f (by decide) ?_
        repeat' (walk_at "ww")
        exact ⟨rfl, h2, _, rfl, Keeps.refl _⟩
    rintro s3 ⟨h3, t3, rfl, k3⟩
    have F3 := F2.grow k3
    have D3 := D2.keeps k3
    clear F2 D2 KX2 CA2 T2 hlt k3
    have KX3 := B.kx.keeps F3.keep
    obtain ⟨j, hj, ej⟩ := List.getElem_of_mem akas
    have gj : kas[j]? = some a := by rw [List.getElem?_eq_getElem hj, ej]
    have gl : las[j]? = some (la a) := B.key j a gj
    have live : ∀ y ∈ kas, ∃ o, h3.get? y = some o ∧ o.cls ≠ .type "tuple" := fun y hy => by
      obtain ⟨dx, e, _⟩ := (B.ki y hy).keeps F3.keep
      exact ⟨_, e, fun z => nomatch z⟩
    repeat' (walk_at "ww")
    refine find_comp KX3 (hA.le (by decide)) F3 hkeys htop (F3.keep.list B.lky) B.nl B.nd gj live fun h4 t4 li u4 k4 l4 => ?_
    have F4 := F3.grow k4
    have D4 := D3.keeps k4
    clear F3 D3 k4 live
    repeat' (walk_at "ww")
    refine it0 (v0 := .int (j : Int) u4) (vs := []) l4 ?_ (by with_unfolding_all rfl)
    have g4 : (las.map Value.ref)[((j : Int)).toNat]? = some (.ref (la a)) := by rw [Int.toNat_natCast, List.getElem?_map, gl]; rfl
    refine itk (F4.keep.list B.lls) (by omega) (by have := B.nl; omega) g4 ?_ (by with_unfolding_all rfl)
    refine svc F4 (fun h5 t5 F5 s5 => ?_) (by kernel_rfl) (by kernel_rfl)
    have D5 := D4.own M (.head _) s5
    clear F4 D4 l4 s5
    refine co_next ?_
    have KX5 := B.kx.keeps F5.keep
    obtain ⟨x, r, hx⟩ : ∃ x r, S (rk a) = x :: r := by
      cases e : S (rk a) with
      | nil => exact absurd e hSa
      | cons x r => exact ⟨x, r, rfl⟩
    obtain ⟨ua, qa⟩ := D5.lla a akas
    rw [hx] at qa
    have hr10 : (x :: r).length < 2 ^ 10 := hx ▸ sl (rk a)
    repeat' (walk_at "ww")
    refine gm_append D5.lca ?_
    refine callWith_method1 ?_ rfl rfl
    repeat' (walk_at "ww")
    refine gm_pop qa ?_
    refine c_pop1 qa (by rw [List.length_map]; simp at hr10; omega) fun h6 t6 l6 s6 => ?_
    have F6 := F5.but s6 (M.lao a akas) (M.hla a akas)
    have ca6 : LL h6 ca (pre.map Value.ref) := list_but D5.lca s6 (M.cl a akas)
    have hp6 : LL h6 hp ((a :: l).map Value.ref) := list_but D5.lhp s6 (M.hl a akas)
    repeat' (walk_at "ww")
    refine c_append (l := ca) ca6 (by rw [List.length_map]; omega) fun h7 l7 s7 => ?_
    have F7 := F6.but s7 M.cao M.hca
    have D7 : MD h7 hp ca kas rk la (upd S (rk a) r) (a :: l) (pre ++ [x]) := by
      refine ⟨list_but hp6 s7 M.hc, by rw [List.map_append]; exact l7, fun b hb => ?_⟩
      by_cases e : b = a
      · subst e
        refine ⟨ua, ?_⟩
        have : upd S (rk b) r (rk b) = r := if_pos rfl
        rw [this]
        exact list_but l6 s7 (M.cl b hb).symm
      · have hne : rk b ≠ rk a := fun z => e (LIv.inj b a hb akas z)
        obtain ⟨ub, qb⟩ := D5.lla b hb
        refine ⟨ub, ?_⟩
        have : upd S (rk a) r (rk b) = S (rk b) := if_neg hne
        rw [this]
        exact list_but (list_but qb s6 fun z => e (B.lin b hb a akas z)) s7 (M.cl b hb).symm
    have sub' : ∀ k x, x ∈ upd S (rk a) r k → x ∈ S0 k := fun k z hz => by
      unfold upd at hz
      split at hz
      · rename_i ek
        exact sub k z (by rw [ek, hx]; exact .tail _ hz)
      · exact sub k z hz
    have sl' : ∀ k, (upd S (rk a) r k).length < 2 ^ 10 := fun k => by
      unfold upd
      split
      · simp at hr10; omega
      · exact sl k
    have sum' : (kas.map fun b => (upd S (rk a) r (rk b)).length).sum + 1 = n := by
      have := (sum_upd (S := S) hx (a := a) (rk := rk) kas B.nd fun b hb e => LIv.inj b a hb akas e).1 akas
      omega
    have KX7 := B.kx.keeps F7.keep
    refine ⟨rfl, ?_⟩
    have hm' : (fun y => if y = Str.ofString "here" then some (Value.ref (la a)) else m y) (Str.ofString "here") = some (.ref (la a)) := if_pos rfl
    have mm1 : (fun y => if y = Str.ofString "here" then some (Value.ref (la a)) else m y) (Str.ofString "lists") = some (.ref ls) := (if_neg (by decide +kernel)).trans m1
    have mm2 : (fun y => if y = Str.ofString "here" then some (Value.ref (la a)) else m y) (Str.ofString "heap") = some (.ref hp) := (if_neg (by decide +kernel)).trans m2
    have mm3 : (fun y => if y = Str.ofString "here" then some (Value.ref (la a)) else m y) (Str.ofString "came") = some (.ref ca) := (if_neg (by decide +kernel)).trans m3
    generalize (fun y => if y = Str.ofString "here" then some (Value.ref (la a)) else m y) = m' at *
    clear F5 D5 F6 ca6 hp6 l6 s6 l7 s7 qa KX5 KX3
    have kg7 : Keeps g (hideAll h7 [hp]) := fun b o e => hideAll_get _ (F7.keep _ _ e) (by intro z; rw [List.mem_singleton] at z; rw [z, M.hhp] at e; cases e)
    have tail : ∀ h8 t8 ks', Keeps (hideAll h7 [hp]) h8 → LL h8 hp (ks'.map Value.ref) → LI val rk S0 (upd S (rk a) r) kas ks' (pre ++ [x]) →
        wpAny (model pw w) A (storeName (mgEnv w.params L) (Str.ofString "back") (.ref a)) (fun _ => Cont w A [.If (.Compare (nmE "back" ⟨119, 11, 119, 15⟩) [.IsNot] [nmE "top" ⟨119, 23, 119, 26⟩] ⟨119, 11, 119, 26⟩) (ifBody (wBody[5]?)) [] ⟨119, 8, 120, 28⟩] (mgEnv w.params L) (WEnd (LS w g L c k ls ky hp ca las kas rk la S0 val) n Q) E .next) E (St h8 c t8) := by
      intro h8 t8 ks' k8 l8 LI8
      have F8 := F7.back M.hpo M.hhp k8
      have D8 : MD h8 hp ca kas rk la (upd S (rk a) r) ks' (pre ++ [x]) := ⟨l8, LL.back D7.lca M.hc.symm k8, fun b hb => let ⟨u, q⟩ := D7.lla b hb; ⟨u, LL.back q (M.hl b hb).symm k8⟩⟩
      refine svc F8 (fun h9 t9 F9 s9 => ?_) (by kernel_rfl) (by kernel_rfl)
      have D9 := D8.own M (.head _) s9
      refine co_next ?_
      repeat' (walk_at "ww")
      refine wpAny_isNot_ref_self ?_
      repeat' (walk_at "ww")
      refine if_f (by decide) ?_
      repeat' (walk_at "ww")
      refine wend_next ⟨n - 1, by omega, ⟨h9, _, _, cm2, _, ks', pre ++ [x], rfl, F9, (if_neg (by decide +kernel)).trans mm1, (if_neg (by decide +kernel)).trans mm2, (if_neg (by decide +kernel)).trans mm3, hkeys, D9, LI8, sub', sl', by omega, by rw [List.length_append, List.length_singleton]; omega⟩⟩
    obtain ⟨u7, q7⟩ := D7.lla a akas
    have eu : upd S (rk a) r (rk a) = r := if_pos rfl
    rw [eu] at q7
    have kin : ∀ b ∈ a :: l, b ∈ kas := fun b hb => ((LIv.mem b).mp hb).1
    repeat' (walk_at "ww")
    refine i_len q7 (by simp; simp at hr10; omega) fun u8 t8 => ?_
    repeat' (walk_at "ww")
    by_cases hr : r = []
    · refine if_f (by simp [hr]) ?_
      repeat' (walk_at "ww")
      refine ⟨KX7, cl ?_⟩
      have hk1 : ks1.length < 2 ^ 10 := by have := congrArg List.length hky; rw [List.length_append] at this; simp at this; simp at hlen; omega
      have lq : ∀ b ∈ ks1.set 0 y, b ∈ kas ∧ upd S (rk a) r (rk b) ≠ [] := by
        intro b hb
        have hbl : b ∈ l := by
          cases ks1 with
          | nil => simp at hb
          | cons z ks2 =>
            have e2 : l = ks2 ++ [y] := by simp at hky; exact hky.2
            rw [e2]
            rcases List.mem_cons.mp (show b ∈ y :: ks2 from hb) with e | e
            · rw [e]; simp
            · exact List.mem_append_left _ e
        refine ⟨kin b (.tail _ hbl), ?_⟩
        have : upd S (rk a) r (rk b) = S (rk b) := if_neg (LIv.others (r := r) hbl)
        rw [this]
        exact ((LIv.mem b).mp (.tail _ hbl)).2
      refine heappop_spec (lt := ltS val rk (upd S (rk a) r)) (g := hideAll h7 [hp]) (ks := ks1) (x := y) (B.kx.keeps kg7) (hA.le (by decide)) hide_keeps (Nat.le_of_eq (hideAll_size _ _)) hide_none (by rw [← hky]; exact D7.lhp) (by omega) (D7.lt B M F7.keep sub' lq) fun h9 t9 k9 l9 => rq_ret ?_
      have ea : (if ks1 = [] then y else ks1.getD 0 0) = a := by
        cases ks1 with
        | nil => simp at hky; rw [if_pos rfl]; exact hky.1.symm
        | cons b ks2 => simp at hky; rw [if_neg (fun z => nomatch z)]; exact hky.1.symm
      rw [ea]
      refine tail h9 _ _ k9 l9 ?_
      subst hr
      exact LIv.off hx hky
    · refine if_t (by have := List.length_pos_iff.mpr hr; simp; omega) ?_
      repeat' (walk_at "ww")
      refine ⟨KX7, cl ?_⟩
      have lq : ∀ b ∈ (a :: l).set 0 a, b ∈ kas ∧ upd S (rk a) r (rk b) ≠ [] := fun b hb => by
        have hb' : b ∈ a :: l := hb
        refine ⟨kin b hb', ?_⟩
        unfold upd
        split
        · exact hr
        · exact ((LIv.mem b).mp hb').2
      refine heapreplace_spec (lt := ltS val rk (upd S (rk a) r)) (g := hideAll h7 [hp]) (ks := a :: l) (x := a) (B.kx.keeps kg7) (hA.le (by decide)) hide_keeps (Nat.le_of_eq (hideAll_size _ _)) hide_none D7.lhp (by simp) (by omega) (D7.lt B M F7.keep sub' lq) fun h9 t9 k9 l9 => rq_ret ?_
      exact tail h9 _ _ k9 l9 (LIv.replace hx hr)
end G8_
section G9_
open PySem PySem.W PyProof.Rows PySem.W.X
variable {N : NB}
theorem ClassAt.hid {h : Heap} {k : KA} {l : List Addr} (CA : ClassAt h k) (h1 : ∀ p ∈ KC k, p.1 ∉ l) (h2 : k.cell ∉ l) (h3 : ∀ b ∈ l, ∀ o vs, h.get? b = some o → o.data ≠ .fields vs) : ClassAt (hideAll h l) k := by
  refine ⟨fun b o e => hideAll_get _ (CA.kin b o e) (h1 _ (lk_in e)), CA.ap, ?_, fun i hi => ?_⟩
  · obtain ⟨o, e, d⟩ := CA.cell
    exact ⟨o, hideAll_get _ e h2, d⟩
  · obtain ⟨c, o, vs, t, e, q, d, z⟩ := CA.code i hi
    exact ⟨c, o, vs, t, e, hideAll_get _ q fun hc => h3 c hc o vs q d, d, z⟩
theorem KF.hid {h : Heap} {l : List Addr} (h3 : ∀ b ∈ l, ∀ o vs, h.get? b = some o → o.data ≠ .fields vs) : KF h (hideAll h l) := fun b o vs e d => hideAll_get _ e fun z => h3 b z o vs e d
section
variable {g h h' : Heap} {env : Env} {m cm : Str → Option Value}
theorem Fc.noRec (F : Fc g env h m cm) (nd : (env.cells.map (·.1)).Nodup) : ∀ b ∈ own env, ∀ o vs, h.get? b = some o → o.data ≠ .fields vs := fun b hb o vs e d => by
  obtain ⟨o', e', q⟩ := F.ownObj nd b hb
  rw [e] at e'
  cases e'
  rw [d] at q
  rcases q with ⟨_, _, q⟩ | ⟨_, q⟩ <;> cases q
theorem Fc.ct (F : Fc g env h m cm) (nd : (env.cells.map (·.1)).Nodup) (T : CT N h) {l : Addr} (hl : l ∈ own env) (s : Heap.SameBut l h h') : CT N h' := by
  obtain ⟨o, e, _⟩ := F.ownObj nd l hl
  exact T.kf (KF.but s e fun vs d => F.noRec nd l hl o vs e d)
theorem Fc.ok (F : Fc g env h m cm) (nd : (env.cells.map (·.1)).Nodup) (h104 : ∀ b ∈ own env, 104 ≤ b) (o : Ok N h h') : Fc (hideAll h' (own env)) env h' m cm :=
  F.move hide_all (hideAll_none _ (.head _)) (fun n c e => hideAll_none _ (own_cell e)) fun b hb ob e => o b ob e (fun z => by have := h104 b hb; rw [z] at this; exact absurd this (by decide)) fun _ ps z => F.noRec nd b hb ob ps e (by rw [z])
end
theorem LL.notTab {h : Heap} {a : Addr} {vs : List Value} {n : Nat} : ∀ ps, listOf vs.toArray n ≠ tabObj ps := fun ps z => by
  have := congrArg Obj.data z
  cases this
theorem LL.ok {h h' : Heap} {a : Addr} {vs : List Value} {ps : Array Value} (x : LL h a vs) (o : Ok N h h') (h16 : h.get? 16 = some (tabObj ps)) : LL h' a vs := by
  obtain ⟨n, e⟩ := x
  refine ⟨n, o a _ e (fun z => ?_) fun _ ps z => ?_⟩
  · rw [z, h16] at e
    have := congrArg Obj.data (Option.some.inj e)
    cases this
  · have := congrArg Obj.data z
    cases this
theorem Paired.get {α β : Type} {F : α → β → Prop} : ∀ {l₁ : List α} {l₂ : List β}, Paired F l₁ l₂ → ∀ (n : Nat) b, l₂[n]? = some b → ∃ a, l₁[n]? = some a ∧ F a b
  | _, _, .nil, n, b, h => by simp at h
  | _, _, .cons h t, 0, b, e => by simp at e; subst e; exact ⟨_, rfl, h⟩
  | _, _, .cons h t, n + 1, b, e => by
    obtain ⟨a, e1, e2⟩ := Paired.get t n b (by simpa using e)
    exact ⟨a, by simpa using e1, e2⟩
theorem KI.hid {h : Heap} {k : KA} {x l : Addr} {L : List Addr} (I : KI h k x l) (hL : ∀ b ∈ L, ∀ o, h.get? b = some o → o.data ≠ .plain ∧ o ≠ emptyDict) : KI (hideAll h L) k x l := by
  obtain ⟨dx, e1, e2⟩ := I
  exact ⟨dx, hideAll_get _ e1 fun z => (hL _ z _ e1).1 rfl, hideAll_get _ e2 fun z => (hL _ z _ e2).2 rfl⟩
theorem lt_ok {w : World} {c : Shared} {g h : Heap} {k : KA} {ls ky hp : Addr} {las kas : List Addr} {rk : Addr → Nat} {la : Addr → Addr} {S0 S : Nat → List Addr} {val : Addr → Int}
    (B : MB w g k ls ky las kas rk la S0 val) (hhp : g.get? hp = none) (hhl : ∀ a ∈ kas, hp ≠ la a) (D : ∀ a ∈ kas, NL h (rk a) (la a) (S (rk a))) (hk : Keeps g h) (sub : ∀ k x, x ∈ S k → x ∈ S0 k) {l : List Addr} (hl : ∀ a ∈ l, a ∈ kas ∧ S (rk a) ≠ []) :
    LtOK w c (hideAll h [hp]) (ltS val rk S) l := by
  intro a ha b hb A h2 t Q E hA hk2 H
  have ha' := hl a ha
  have hb' := hl b hb
  have kg : Keeps g (hideAll h [hp]) := fun b o e => hideAll_get _ (hk _ _ e) (by intro z; rw [List.mem_singleton] at z; rw [z, hhp] at e; cases e)
  have T : Two h2 k a b (hdv val S (rk a)) (rk a) (hdv val S (rk b)) (rk b) := by
    obtain ⟨ua, qa⟩ := D a ha'.1
    obtain ⟨ub, qb⟩ := D b hb'.1
    cases ea : S (rk a) with
    | nil => exact absurd ea ha'.2
    | cons x r =>
      cases eb : S (rk b) with
      | nil => exact absurd eb hb'.2
      | cons y s =>
        obtain ⟨u1, l1, i1⟩ := B.it (rk a) x (sub _ _ (by rw [ea]; exact .head _))
        obtain ⟨u2, l2, i2⟩ := B.it (rk b) y (sub _ _ (by rw [eb]; exact .head _))
        rw [ea] at qa
        rw [eb] at qb
        have e1 : hdv val S (rk a) = val x := by unfold hdv; rw [ea]
        have e2 : hdv val S (rk b) = val y := by unfold hdv; rw [eb]
        rw [e1, e2]
        have kk := Keeps.trans kg hk2
        exact ⟨la a, la b, x, y, ua, ub, u1, u2, r.map Value.ref, s.map Value.ref, l1, l2, (B.ki a ha'.1).keeps kk, (B.ki b hb'.1).keeps kk, LL.back qa (hhl a ha'.1).symm hk2, kk.list i1, LL.back qb (hhl b hb'.1).symm hk2, kk.list i2⟩
  exact c_lt (B.kx.keeps (Keeps.trans kg hk2)) (B.cls.keeps (Keeps.trans kg hk2)) (hA.le (by decide)) T fun h' t' kp => H h' t' kp
end G9_
section G10_
open PySem PySem.W PyProof.Rows PySem.W.X
theorem nd_idx {α : Type} {l : List α} (nd : l.Nodup) {i j : Nat} {a : α} (hi : l[i]? = some a) (hj : l[j]? = some a) : i = j := by
  have li : i < l.length := by
    rcases Nat.lt_or_ge i l.length with q | q
    · exact q
    · rw [List.getElem?_eq_none q] at hi; cases hi
  have lj : j < l.length := by
    rcases Nat.lt_or_ge j l.length with q | q
    · exact q
    · rw [List.getElem?_eq_none q] at hj; cases hj
  rw [List.getElem?_eq_getElem li] at hi
  rw [List.getElem?_eq_getElem lj] at hj
  exact (List.getElem_inj nd).mp ((Option.some.inj hi).trans (Option.some.inj hj).symm)
theorem get_mem {α : Type} {l : List α} {a : α} (h : a ∈ l) : ∃ n : Nat, l[n]? = some a := by
  obtain ⟨n, hn, e⟩ := List.getElem_of_mem h
  exact ⟨n, by rw [List.getElem?_eq_getElem hn, e]⟩
theorem keyed {kas las : List Addr} {ixs : List Nat} {G : Addr → Addr → Prop} {N : Nat → Addr → Prop} (nd : kas.Nodup) (ndl : las.Nodup) (ndi : ixs.Nodup) (p1 : Paired N ixs las) (p2 : Paired G las kas) :
    ∃ (rk : Addr → Nat) (la : Addr → Addr), (∀ (n : Nat) a, kas[n]? = some a → las[n]? = some (la a)) ∧ (∀ a ∈ kas, G (la a) a ∧ N (rk a) (la a) ∧ la a ∈ las ∧ rk a ∈ ixs) ∧ (∀ a ∈ kas, ∀ b ∈ kas, la a = la b → a = b) ∧ (∀ a b, a ∈ kas → b ∈ kas → rk a = rk b → a = b) ∧ (∀ k ∈ ixs, ∃ a ∈ kas, rk a = k) := by
  have f : ∀ a, ∃ p : Nat × Addr, a ∈ kas → ∃ n : Nat, kas[n]? = some a ∧ las[n]? = some p.2 ∧ ixs[n]? = some p.1 ∧ G p.2 a ∧ N p.1 p.2 := fun a => by
    by_cases h : a ∈ kas
    · obtain ⟨n, e⟩ := get_mem h
      obtain ⟨l, e1, g⟩ := Paired.get p2 n a e
      obtain ⟨k, e2, q⟩ := Paired.get p1 n l e1
      exact ⟨(k, l), fun _ => ⟨n, e, e1, e2, g, q⟩⟩
    · exact ⟨(0, 0), fun z => absurd z h⟩
  refine ⟨fun a => (Classical.choose (f a)).1, fun a => (Classical.choose (f a)).2, ?_, ?_, ?_, ?_, ?_⟩
  · intro n a e
    obtain ⟨n', e', e1, _⟩ := Classical.choose_spec (f a) (List.mem_of_getElem? e)
    rw [nd_idx nd e e']
    exact e1
  · intro a ha
    obtain ⟨n, e, e1, e2, g, q⟩ := Classical.choose_spec (f a) ha
    exact ⟨g, q, List.mem_of_getElem? e1, List.mem_of_getElem? e2⟩
  · intro a ha b hb z
    obtain ⟨n, e, e1, _⟩ := Classical.choose_spec (f a) ha
    obtain ⟨n', e', e1', _⟩ := Classical.choose_spec (f b) hb
    dsimp only at z
    rw [z] at e1
    rw [nd_idx ndl e1 e1', e'] at e
    exact (Option.some.inj e).symm
  · intro a b ha hb z
    obtain ⟨n, e, _, e1, _⟩ := Classical.choose_spec (f a) ha
    obtain ⟨n', e', _, e1', _⟩ := Classical.choose_spec (f b) hb
    dsimp only at z
    rw [z] at e1
    rw [nd_idx ndi e1 e1', e'] at e
    exact (Option.some.inj e).symm
  · intro k hk
    obtain ⟨n, e⟩ := get_mem hk
    have hl : n < kas.length := by
      have l1 := p1.length
      have l2 := p2.length
      rcases Nat.lt_or_ge n ixs.length with q | q
      · omega
      · rw [List.getElem?_eq_none q] at e; cases e
    obtain ⟨n', e', _, e1, _⟩ := Classical.choose_spec (f (kas[n])) (List.getElem_mem _)
    have : n = n' := nd_idx nd (List.getElem?_eq_getElem hl) e'
    refine ⟨kas[n], List.getElem_mem _, ?_⟩
    rw [← this, e] at e1
    exact (Option.some.inj e1).symm
theorem ix_nd {R : Nat → List Addr} {n : Nat} : (ix R n).Nodup := List.Pairwise.filter _ List.nodup_range
theorem ix_mem {R : Nat → List Addr} {n k : Nat} : k ∈ ix R n ↔ k < n ∧ R k ≠ [] := by
  unfold ix
  rw [List.mem_filter, List.mem_range]
  simp
theorem sum_le {S : Nat → List Addr} {rk : Addr → Nat} : ∀ (l : List Addr), (∀ a ∈ l, (S (rk a)).length < 2 ^ 10) → (l.map fun a => (S (rk a)).length).sum ≤ l.length * 2 ^ 10
  | [], _ => by simp
  | a :: l, h => by
    rw [List.map_cons, List.sum_cons, List.length_cons]
    have := sum_le l fun b hb => h b (.tail _ hb)
    have := h a (.head _)
    omega
theorem ClassAt.seq {h h' : Heap} {k : KA} (CA : ClassAt h k) (hk : ∀ b o, h.get? b = some o → (∀ vs n, o.data ≠ .seq vs n) → h'.get? b = some o) : ClassAt h' k := by
  refine ⟨fun b o e => hk b o (CA.kin b o e) fun vs n z => ?_, CA.ap, ?_, fun i hi => ?_⟩
  · have := lk_in e
    simp only [KC, List.mem_cons, List.not_mem_nil, or_false, Prod.mk.injEq] at this
    rcases this with ⟨_, rfl⟩ | ⟨_, rfl⟩ | ⟨_, rfl⟩ | ⟨_, rfl⟩ | ⟨_, rfl⟩ | ⟨_, rfl⟩ | ⟨_, rfl⟩ | ⟨_, rfl⟩ | ⟨_, rfl⟩ <;> cases z
  · obtain ⟨o, e, d⟩ := CA.cell
    exact ⟨o, hk _ _ e (fun vs n z => by rw [d] at z; cases z), d⟩
  · obtain ⟨c, o, vs, t, e, q, d, z⟩ := CA.code i hi
    exact ⟨c, o, vs, t, e, hk _ _ q (fun vs n z => by rw [d] at z; cases z), d, z⟩
theorem KI.seq {h h' : Heap} {k : KA} {x l : Addr} (I : KI h k x l) (hk : ∀ b o, h.get? b = some o → (∀ vs n, o.data ≠ .seq vs n) → h'.get? b = some o) : KI h' k x l := by
  obtain ⟨dx, e1, e2⟩ := I
  exact ⟨dx, hk _ _ e1 (fun vs n z => by cases z), hk _ _ e2 (fun vs n z => by cases z)⟩
end G10_
section G7_
open PySem PySem.W PyProof.Rows PySem.W.X
variable {N : NB}
theorem merge_spec {w : World} {A : Around} {h : Heap} {c : Shared} {t : Nat} {R : Result → Shared → Prop} {rw fa : Addr} {ra : List Addr} {Rw : Nat → List Addr} {val : Addr → Int}
    (KX : (KB w.params).In h) (hA : Room 14 A) (hz : N.1 ≤ h.objs.size) (T : CT N h) (B : Rows h rw ra Rw val)
    (H : ∀ h' t' ca out, Ok N h h' → h.objs.size ≤ h'.objs.size → CT N h' → LL h' ca (out.map Value.ref) → h.get? ca = none → Mg val Rw out → R (.ok (.ret (.ref ca))) (St h' c t')) :
    codeAny (model pw w) A (.call (.ref 98) ⟨[.ref rw, .ref fa], []⟩) R (St h c t) := by
  obtain ⟨o98, l98, d98⟩ := mg_obj (P := w.params)
  refine codeAny_call_cells (s := St h c t) (binds := [(Str.ofString "rows", .ref rw), (Str.ofString "faults", .ref fa)]) hA.lim (KX 98 _ l98) d98 (nolimit KX) ⟨97, _, _, 301, by kernel_rfl, KX 97 _ (by rfl), rfl, by kernel_rfl⟩ mg_fd (by kernel_rfl) (by kernel_rfl) ?_ (fun s₁ X => ?_) (by kernel_rfl) (by kernel_rfl) (by kernel_rfl)
  · intro x hx
    rcases List.mem_cons.mp hx with rfl | hx
    · exact .inr ⟨by kernel_rfl, by kernel_rfl⟩
    · rw [List.mem_singleton] at hx
      subst hx
      exact .inl (by kernel_rfl)
  obtain ⟨⟨⟨h1, t1, rfl⟩, ns1, k1, fr1⟩, cell1, ap1, ab1⟩ := X
  have cr : h1.IsCell (h.objs.size + 1) (some (.ref rw)) := Eq.mp (congrArg (fun v => h1.IsCell (h.objs.size + 1) v) (by kernel_rfl)) (cell1 (Str.ofString "rows") (h.objs.size + 1) mg_rows)
  have mf : bindL (callEnvC (fdOf (Mine.o98 w.params)) (St h c t).heap.objs.size 98).kindOf [(Str.ofString "rows", .ref rw), (Str.ofString "faults", .ref fa)] (fun _ => none) (Str.ofString "faults") = some (.ref fa) := by kernel_rfl
  have cn : ∀ n ∈ [Str.ofString "top", Str.ofString "keys", Str.ofString "made"], bindC (callEnvC (fdOf (Mine.o98 w.params)) (St h c t).heap.objs.size 98).kindOf [(Str.ofString "rows", .ref rw), (Str.ofString "faults", .ref fa)] (fun _ => none) n = none := by
    intro n hn
    simp only [List.mem_cons, List.not_mem_nil, or_false] at hn
    rcases hn with rfl | rfl | rfl <;> kernel_rfl
  have cf : bindC (callEnvC (fdOf (Mine.o98 w.params)) (St h c t).heap.objs.size 98).kindOf [(Str.ofString "rows", .ref rw), (Str.ofString "faults", .ref fa)] (fun _ => none) (Str.ofString "rows") = some (.ref rw) := by kernel_rfl
  generalize bindL (callEnvC (fdOf (Mine.o98 w.params)) (St h c t).heap.objs.size 98).kindOf [(Str.ofString "rows", .ref rw), (Str.ofString "faults", .ref fa)] (fun _ => none) = m1 at *
  generalize bindC (callEnvC (fdOf (Mine.o98 w.params)) (St h c t).heap.objs.size 98).kindOf [(Str.ofString "rows", .ref rw), (Str.ofString "faults", .ref fa)] (fun _ => none) = c1 at *
  have hEe : callEnvC (fdOf (Mine.o98 w.params)) (St h c t).heap.objs.size 98 = mgEnv w.params h.objs.size := rfl
  rw [hEe] at *
  generalize hL : h.objs.size = L at *
  have F1 : Fc h (mgEnv w.params L) h1 m1 c1 := ⟨ns1, cell1, ap1, ab1, k1, none_of_ge (Nat.le_of_eq hL), fun n a e => none_of_ge (Nat.le_of_lt (Nat.lt_of_le_of_lt (Nat.le_of_eq hL) (ab1 n a e)))⟩
  clear ns1 cell1 ap1 ab1
  have own104 : ∀ b ∈ own (mgEnv w.params L), L ≤ b := by
    rw [mg_own]
    intro b hb
    simp only [List.mem_cons, List.not_mem_nil, or_false] at hb
    rcases hb with rfl | rfl | rfl | rfl | rfl <;> omega
  have nd := mg_nd (P := w.params) (L := L)
  have h104 : ∀ b ∈ own (mgEnv w.params L), 104 ≤ b := fun b hb => Nat.le_trans N.2 (Nat.le_trans hz (own104 b hb))
  have kk1 : Keeps h h1 := k1
  have hA' : Room 13 (A.deeper (mgEnv w.params L)) := Room.deeper hA
  generalize A.deeper (mgEnv w.params L) = A' at *
  rw [mg_body]
  refine ex_cons ?_
  refine lists_comp (KX.keeps kk1) (hA'.le (by decide)) F1 cf (kk1.list B.l) B.n (fun k l e => ⟨kk1.list (B.r k l e).1, (B.r k l e).2⟩) fun h3 t3 ls las k13 l3 nls pr3 ndl F3 => co_next ?_
  have ml3 : (fun z => if z = Str.ofString "lists" then some (Value.ref ls) else m1 z) (Str.ofString "lists") = some (.ref ls) := if_pos rfl
  generalize (fun z => if z = Str.ofString "lists" then some (Value.ref ls) else m1 z) = m3 at *
  have hOwn : ∀ b o, h.get? b = some o → b ∉ own (mgEnv w.params L) := fun b o e => F1.gOwn e
  have k3 : Keeps h h3 := fun b o e => k13 b o (hOwn b o e) (kk1 b o e)
  have KX3 := KX.keeps k3
  have T3 : CT N h3 := T.keeps k3
  have z3 : N.1 ≤ h3.objs.size := Nat.le_trans hz (Nat.le_of_lt F3.ns.lt)
  have nlsO := F1.notOwn nd nls
  have nlaO : ∀ l ∈ las, l ∉ own (mgEnv w.params L) := fun l hl => by
    obtain ⟨_, _, q, _⟩ := pr3.right l hl
    exact F1.notOwn nd q
  have new1 : ∀ b, h1.get? b = none → h.get? b = none := fun b e => by
    cases q : h.get? b with
    | none => rfl
    | some o => rw [kk1 _ _ q] at e; cases e
  obtain ⟨ps3, h16, _⟩ := id T3
  refine ex_cons ?_
  repeat' (walk_at "ww")
  refine ⟨KX3, cl (ck_spec KX3 (hA'.le (by decide)) z3 T3 fun h4 t4 k ok4 z4 T4 CA4 new4 => rq_ret ?_)⟩
  have F4 := F3.ok nd h104 ok4
  have ncell : k.cell ∉ own (mgEnv w.params L) := fun z => by
    obtain ⟨oc, e, d⟩ := CA4.cell
    rcases List.mem_cons.mp z with z | z
    · obtain ⟨o, es, n, e', d', _⟩ := F4.ns
      rw [← z, e] at e'
      cases e'
      rw [d] at d'
      cases d'
    · rw [mg_cells] at z
      have val79 : ∀ n a, (mgEnv w.params L).cells.lookup n = some a → k.cell = a → c1 n = some (.ref 79) := fun n a hl ea => by
        obtain ⟨o, e', d'⟩ := F4.cell n a hl
        rw [← ea, e] at e'
        cases e'
        rw [d] at d'
        injection d' with q
        exact q.symm
      simp only [List.map_cons, List.map_nil, List.mem_cons, List.not_mem_nil, or_false] at z
      rcases z with z | z | z | z
      · have := val79 _ _ mg_top z; rw [cn _ (.head _)] at this; cases this
      · have := val79 _ _ mg_keys z; rw [cn _ (.tail _ (.head _))] at this; cases this
      · have := val79 _ _ mg_made z; rw [cn _ (.tail _ (.tail _ (.head _)))] at this; cases this
      · have := val79 _ _ mg_rows z
        rw [cf] at this
        have e79 : rw = 79 := by injection this with q; injection q
        obtain ⟨n, q⟩ := B.l
        rw [e79, KX 79 _ (by rfl)] at q
        have := congrArg Obj.data (Option.some.inj q)
        cases this
  have CA4g : ClassAt (hideAll h4 (own (mgEnv w.params L))) k := CA4.hid (fun p hp => F3.notOwn nd (new4 p hp)) ncell (F4.noRec nd)
  have KX4g : (KB w.params).In (hideAll h4 (own (mgEnv w.params L))) := kb_hide (ok4.kb KX3) h104
  have l4 : LL (hideAll h4 (own (mgEnv w.params L))) ls (las.map Value.ref) := (LL.ok l3 ok4 h16).hid nlsO
  have pr4 : Paired (fun k l => NL (hideAll h4 (own (mgEnv w.params L))) k l (Rw k) ∧ h1.get? l = none ∧ l ≠ ls) (ix Rw ra.length) las := pr3.mono fun k l ⟨⟨u, q⟩, q1, q2⟩ => ⟨⟨u, (LL.ok q ok4 h16).hid (F1.notOwn nd q1)⟩, q1, q2⟩
  have it4 : ∀ k x, x ∈ Rw k → ∃ u l, LL (hideAll h4 (own (mgEnv w.params L))) x (.int (val x) u :: l) := fun k x hx => by
    obtain ⟨u, l, q⟩ := B.i k x hx
    have q3 := k3.list q
    refine ⟨u, l, (LL.ok q3 ok4 h16).hid ?_⟩
    obtain ⟨n, e⟩ := q
    exact hOwn _ _ e
  have T4g : CT N (hideAll h4 (own (mgEnv w.params L))) := T4.kf (KF.hid (F4.noRec nd))
  have ok4' : Ok N h (hideAll h4 (own (mgEnv w.params L))) := fun b o e n1 n2 => hideAll_get _ (ok4 b o (k3 b o e) n1 n2) (hOwn b o e)
  generalize hg4 : hideAll h4 (own (mgEnv w.params L)) = g4 at *
  refine scc F4 (fun h5 t5 a5 ha5 F5 s5 => co_next ?_) (by kernel_rfl) (by kernel_rfl) mg_made
  have cm5 : (fun y => if y = Str.ofString "made" then some (Value.ref k.C) else c1 y) (Str.ofString "made") = some (.ref k.C) := if_pos rfl
  generalize (fun y => if y = Str.ofString "made" then some (Value.ref k.C) else c1 y) = c5 at *
  clear F4 s5 ha5
  have lln : las.length < 2 ^ 10 := by
    rw [← pr4.length]
    exact Nat.lt_of_le_of_lt ix_len B.n
  refine ex_cons (wpAny_Assign_Name ?_ (by kernel_rfl!))
  refine keys_comp (KX4g.keeps F5.keep) (hA'.le (by decide)) F5 ml3 cm5 (CA4g.keeps F5.keep) (F5.keep.list l4) lln fun h6 t6 ky kas k6 l6 nky pr6 ndk => ?_
  obtain ⟨F6, kg6⟩ := F5.anew k6
  have ownND : ∀ b ∈ own (mgEnv w.params L), ∀ o, h6.get? b = some o → o.data ≠ .plain ∧ o ≠ emptyDict := fun b hb o e => by
    obtain ⟨o', e', q⟩ := F6.ownObj nd b hb
    rw [e] at e'
    cases e'
    refine ⟨fun z => (by rw [z] at q; rcases q with ⟨_, _, q⟩ | ⟨_, q⟩ <;> cases q), fun z => ?_⟩
    rcases List.mem_cons.mp hb with zb | zb
    · obtain ⟨o2, es, n, e2, d2, _, f2⟩ := F6.ns
      rw [← zb, e] at e2
      cases e2
      rw [z] at d2
      cases d2
      have := f2 (Str.ofString "lists")
      rw [ml3] at this
      cases this
    · have cc : ∀ n a, (mgEnv w.params L).cells.lookup n = some a → b = a → False := fun n a hl ea => by
        obtain ⟨o2, e2, d2⟩ := F6.cell n a hl
        rw [← ea, e] at e2
        cases e2
        rw [z] at d2
        cases d2
      rw [mg_cells] at zb
      simp only [List.map_cons, List.map_nil, List.mem_cons, List.not_mem_nil, or_false] at zb
      rcases zb with zb | zb | zb | zb
      · exact cc _ _ mg_top zb
      · exact cc _ _ mg_keys zb
      · exact cc _ _ mg_made zb
      · exact cc _ _ mg_rows zb
  have nkyO := F5.notOwn nd nky
  have pr6' : Paired (fun l x => KI (hideAll h6 (own (mgEnv w.params L))) k x l ∧ h5.get? x = none) las kas := pr6.mono fun l x ⟨q, q1, _⟩ => ⟨q.hid ownND, q1⟩
  have l6g : LL (hideAll h6 (own (mgEnv w.params L))) ky (kas.map Value.ref) := l6.hid nkyO
  obtain ⟨rk, la, ky1, ky2, ky3, ky4, ky5⟩ := keyed ndk ndl ix_nd pr4 pr6'
  have B6 : MB w (hideAll h6 (own (mgEnv w.params L))) k ls ky las kas rk la Rw val :=
    ⟨KX4g.keeps kg6, CA4g.keeps kg6, kg6.list l4, l6g, ndk, by rw [← pr6.length]; exact lln, pr6.length, ky1, fun a ha => (ky2 a ha).1.1, ky3, fun k x hx => let ⟨u, l, q⟩ := it4 k x hx; ⟨u, l, kg6.list q⟩⟩
  have nl6 : ∀ a ∈ kas, NL (hideAll h6 (own (mgEnv w.params L))) (rk a) (la a) (Rw (rk a)) := fun a ha => let ⟨u, q⟩ := (ky2 a ha).2.1.1; ⟨u, kg6.list q⟩
  have T6g : CT N (hideAll h6 (own (mgEnv w.params L))) := T4g.keeps kg6
  have ok6 : Ok N h (hideAll h6 (own (mgEnv w.params L))) := ok4'.trans (Ok.keeps kg6)
  have lah1 : ∀ a ∈ kas, h1.get? (la a) = none ∧ la a ≠ ls := fun a ha => (ky2 a ha).2.1.2
  generalize hg6 : hideAll h6 (own (mgEnv w.params L)) = g6 at *
  refine scc F6 (fun h7 t7 a7 ha7 F7 s7 => co_next ?_) (by kernel_rfl) (by kernel_rfl) mg_keys
  have cm7 : (fun y => if y = Str.ofString "keys" then some (Value.ref ky) else c5 y) (Str.ofString "keys") = some (.ref ky) := if_pos rfl
  generalize (fun y => if y = Str.ofString "keys" then some (Value.ref ky) else c5 y) = c7 at *
  clear F6 s7 ha7
  have KX7 := B6.kx.keeps F7.keep
  have lk10 : kas.length < 2 ^ 10 := B6.nl
  refine ex_cons ?_
  repeat' (walk_at "ww")
  refine cp_l (F7.keep.list B6.lky) (by rw [List.length_map]; omega) fun h8 hp k8 l8 nhp => ?_
  have hpO := F7.notOwn nd nhp
  have nhp6 : g6.get? hp = none := by
    cases q : g6.get? hp with
    | none => rfl
    | some o => rw [F7.keep _ _ q] at nhp; cases nhp
  have F8 := (F7.grow k8).base [hp]
  have kg8 : Keeps g6 (hideAll h8 (own (mgEnv w.params L) ++ [hp])) := fun b o e => hideAll_get _ (k8 _ _ (F7.keep _ _ e)) fun z => by
    rcases List.mem_append.mp z with z | z
    · exact F7.gOwn e z
    · rw [List.mem_singleton] at z; rw [z, nhp6] at e; cases e
  have nhp8 : (hideAll h8 (own (mgEnv w.params L) ++ [hp])).get? hp = none := hideAll_none _ (List.mem_append_right _ (.head _))
  generalize hg8 : hideAll h8 (own (mgEnv w.params L) ++ [hp]) = g8 at *
  have B8 : MB w g8 k ls ky las kas rk la Rw val := ⟨B6.kx.keeps kg8, B6.cls.keeps kg8, kg8.list B6.lls, kg8.list B6.lky, ndk, lk10, B6.ln, ky1, fun a ha => (B6.ki a ha).keeps kg8, ky3, fun k x hx => let ⟨u, l, q⟩ := B6.it k x hx; ⟨u, l, kg8.list q⟩⟩
  have nl8 : ∀ a ∈ kas, NL g8 (rk a) (la a) (Rw (rk a)) := fun a ha => let ⟨u, q⟩ := nl6 a ha; ⟨u, kg8.list q⟩
  have hpla : ∀ a ∈ kas, hp ≠ la a := fun a ha z => by obtain ⟨u, n, e⟩ := nl6 a ha; rw [← z, nhp6] at e; cases e
  refine svc F8 (fun h9 t9 F9 s9 => co_next ?_) (by kernel_rfl) (by kernel_rfl)
  have l9 : LL h9 hp (kas.map Value.ref) := list_but l8 s9 fun z => hpO (z ▸ .head _)
  have mh9 : (fun y => if y = Str.ofString "heap" then some (Value.ref hp) else m3 y) (Str.ofString "heap") = some (.ref hp) := if_pos rfl
  have ml9 : (fun y => if y = Str.ofString "heap" then some (Value.ref hp) else m3 y) (Str.ofString "lists") = some (.ref ls) := (if_neg (by decide +kernel)).trans ml3
  generalize (fun y => if y = Str.ofString "heap" then some (Value.ref hp) else m3 y) = m9 at *
  clear F8 s9
  have KX9 := B8.kx.keeps F9.keep
  have kg9 : Keeps g8 (hideAll h9 [hp]) := fun b o e => hideAll_get _ (F9.keep _ _ e) (by intro z; rw [List.mem_singleton] at z; rw [z, nhp8] at e; cases e)
  have lt9 : LtOK w c (hideAll h9 [hp]) (ltS val rk Rw) kas := lt_ok B8 nhp8 hpla (fun a ha => let ⟨u, q⟩ := nl8 a ha; ⟨u, F9.keep.list q⟩) F9.keep (fun _ _ q => q) fun a ha => ⟨ha, (ix_mem.mp (ky2 a ha).2.2.2).2⟩
  refine ex_cons ?_
  repeat' (walk_at "ww")
  refine ⟨KX9, cl ?_⟩
  refine heapify_spec (c := c) (lt := ltS val rk Rw) (g := hideAll h9 [hp]) (B8.kx.keeps kg9) (hA'.le (by decide)) hide_keeps (Nat.le_of_eq (hideAll_size _ _)) hide_none l9 (by omega) lt9 fun h10 t10 k10 l10 => rq_ret ?_
  have F10 := F9.back hpO nhp8 k10
  repeat' (walk_at "ww")
  refine wpAny_isNot_self (by decide +kernel) ?_
  repeat' (walk_at "ww")
  refine if_f (by decide) ?_
  repeat' (walk_at "ww")
  refine nl (Nat.zero_le _) fun h11 ca k11 l11 hca _ => ?_
  have nca : h10.get? ca = none := none_of_ge hca
  have caO := F10.notOwn nd nca
  have nca8 : g8.get? ca = none := by
    cases q : g8.get? ca with
    | none => rfl
    | some o => rw [F10.keep _ _ q] at nca; cases nca
  have seqla : ∀ l ∈ las, ∀ o, g8.get? l = some o → ∃ vs n, o.data = .seq vs n := fun l hl o e => by
    obtain ⟨_, ⟨u, n, q⟩, _⟩ := pr4.right l hl
    rw [kg8 _ _ (kg6 _ _ q)] at e
    cases e
    exact ⟨_, _, rfl⟩
  have kG : ∀ b o, g8.get? b = some o → b ∉ las → (hideAll h11 (own (mgEnv w.params L) ++ (hp :: ca :: las))).get? b = some o := fun b o e hb => hideAll_get _ (k11 _ _ (F10.keep _ _ e)) fun z => by
    rcases List.mem_append.mp z with z | z
    · exact F10.gOwn e z
    · rcases List.mem_cons.mp z with z | z
      · rw [z, nhp8] at e; cases e
      · rcases List.mem_cons.mp z with z | z
        · rw [z, nca8] at e; cases e
        · exact hb z
  have kS : ∀ b o, g8.get? b = some o → (∀ vs n, o.data ≠ .seq vs n) → (hideAll h11 (own (mgEnv w.params L) ++ (hp :: ca :: las))).get? b = some o := fun b o e ns => kG b o e fun z => by
    obtain ⟨vs, n, d⟩ := seqla b z o e
    exact ns vs n d
  have oldN : ∀ b o, h.get? b = some o → b ∉ las := fun b o e z => by
    obtain ⟨_, _, q, _⟩ := pr4.right b z
    rw [kk1 _ _ e] at q
    cases q
  have lsN : ls ∉ las := fun z => by
    obtain ⟨_, _, _, q⟩ := pr4.right ls z
    exact q rfl
  have kyN : ky ∉ las := fun z => by
    obtain ⟨_, ⟨u, n, q⟩, _⟩ := pr4.right ky z
    rw [F5.keep _ _ q] at nky
    cases nky
  have F11 := (F10.grow k11).base (hp :: ca :: las)
  have hpG : (hideAll h11 (own (mgEnv w.params L) ++ (hp :: ca :: las))).get? hp = none := hideAll_none _ (List.mem_append_right _ (.head _))
  have caG : (hideAll h11 (own (mgEnv w.params L) ++ (hp :: ca :: las))).get? ca = none := hideAll_none _ (List.mem_append_right _ (.tail _ (.head _)))
  have laG : ∀ l ∈ las, (hideAll h11 (own (mgEnv w.params L) ++ (hp :: ca :: las))).get? l = none := fun l hl => hideAll_none _ (List.mem_append_right _ (.tail _ (.tail _ hl)))
  generalize hG : hideAll h11 (own (mgEnv w.params L) ++ (hp :: ca :: las)) = G at *
  have BG : MB w G k ls ky las kas rk la Rw val := by
    refine ⟨fun b o e => kG b o (B8.kx b o e) (oldN b o (KX b o e)), B8.cls.seq kS, ?_, ?_, ndk, lk10, B6.ln, ky1, fun a ha => (B8.ki a ha).seq kS, ky3, fun k x hx => ?_⟩
    · obtain ⟨n, e⟩ := B8.lls
      exact ⟨n, kG _ _ e lsN⟩
    · obtain ⟨n, e⟩ := B8.lky
      exact ⟨n, kG _ _ e kyN⟩
    · obtain ⟨u, l, n, e⟩ := B8.it k x hx
      obtain ⟨_, _, n', e'⟩ := B.i k x hx
      exact ⟨u, l, n, kG _ _ e (oldN _ _ e')⟩
  have la8 : ∀ a ∈ kas, ∃ o, h10.get? (la a) = some o := fun a ha => by
    obtain ⟨u, n, e⟩ := nl8 a ha
    exact ⟨_, F10.keep _ _ e⟩
  have MG : MH G (mgEnv w.params L) hp ca kas la := by
    refine ⟨hpG, caG, fun a ha => laG _ (ky2 a ha).2.2.1, hpO, caO, fun a ha => nlaO _ (ky2 a ha).2.2.1, fun z => ?_, hpla, fun a ha z => ?_⟩
    · obtain ⟨n, e⟩ := l10
      rw [z, nca] at e
      cases e
    · obtain ⟨o, e⟩ := la8 a ha
      rw [← z, nca] at e
      cases e
  have TG : CT N G := (T6g.keeps kg8).kf fun b o vs e d => kS b o e fun vs' n z => by rw [d] at z; cases z
  have okG : Ok N h G := fun b o e n1 n2 => kG b o (kg8 _ _ (ok6 b o e n1 n2)) (oldN b o e)
  refine svc F11 (fun h12 t12 F12 s12 => co_next ?_) (by kernel_rfl) (by kernel_rfl)
  have D12 : MD h12 hp ca kas rk la Rw (hfy (ltS val rk Rw) (kas.length / 2) kas) [] := by
    refine ⟨list_but (k11.list l10) s12 fun z => hpO (z ▸ .head _), list_but l11 s12 fun z => caO (z ▸ .head _), fun a ha => ?_⟩
    obtain ⟨u, q⟩ := nl8 a ha
    exact ⟨u, list_but (k11.list (F10.keep.list q)) s12 fun z => nlaO _ (ky2 a ha).2.2.1 (z ▸ .head _)⟩
  have rl : ∀ k, (Rw k).length < 2 ^ 10 := fun k => by
    rcases Nat.lt_or_ge k ra.length with q | q
    · exact (B.r k _ (List.getElem?_eq_getElem q)).2
    · rw [B.e k q]; decide
  have sle := sum_le (S := Rw) (rk := rk) kas fun a _ => rl _
  refine ex_cons ?_
  refine wh (LS w G L c k ls ky hp ca las kas rk la Rw val) (kas.map fun a => (Rw (rk a)).length).sum ⟨h12, t12, _, c7, Rw, _, [], rfl, F12, (if_neg (by decide +kernel)).trans ml9, (if_neg (by decide +kernel)).trans mh9, if_pos rfl, cm7, D12, ?_, fun _ _ q => q, rl, rfl, ?_⟩ ?_
  · refine LI.start ky4 (fun k hk => ?_) (fun a ha => (ix_mem.mp (ky2 a ha).2.2.2).2) ndk
    refine ky5 k (ix_mem.mpr ⟨?_, hk⟩)
    rcases Nat.lt_or_ge k ra.length with q | q
    · exact q
    · exact absurd (B.e k q) hk
  · simp only [List.length_nil]
    omega
  · intro n s E' hI
    refine turn (hA'.le (by decide)) BG MG hI fun hE tE mE cE pre FE mc lE mg => co_next (ex_cons (wpAny_Return_some (lvc FE mc (co_ret ?_) (by kernel_rfl) (by kernel_rfl) (by decide +kernel))))
    refine H hE tE ca pre (okG.trans (Ok.keeps FE.keep)) (Nat.le_of_lt FE.ns.lt) (TG.keeps FE.keep) lE (none_of_ge ?_) mg
    rw [hL]
    exact Nat.le_trans (Nat.le_of_lt F10.ns.lt) hca
end G7_
section N1_
open PySem PySem.W PyProof.Rows PySem.W.X
noncomputable def itO (l : Addr) (i : Int) : Obj := { cls := .type "list_iterator", dict := none, data := .fields #[.ref l, .int i 0], slots := #[] }
section
variable {w : World} {A : Around} {h : Heap} {c : Shared} {t : Nat} {Q : Value → Shared → Prop} {E : Value → Shared → Prop} {l : Addr} {vs : List Value} {n : Nat}
local macro_rules | `(tactic| x_close) => `(tactic| (apply_assumption; assumption))
theorem c_iter (hl : h.get? l = some { cls := .type "list", dict := none, data := .seq ⟨vs⟩ n, slots := #[] }) (H : ∀ a h', Mem h h' [] [(a, itO l 0)] → Q (.ref a) (St h' c t)) :
   wpAny (model pw w) A (call (.builtin "iter") [.ref l]) Q E (St h c t) := by
  x_run
end
section
variable {w : World} {A : Around} {h : Heap} {c : Shared} {t : Nat} {Q : Value → Shared → Prop} {E : Value → Shared → Prop} {l a : Addr} {v0 : Value} {vs : List Value} {n : Nat}
theorem c_next (ha : h.IsListIter a l 0) (hl : LL h l (v0 :: vs)) (H : ∀ h', h'.IsListIter a l 1 → Heap.SameBut a h h' → Q v0 (St h' c t)) :
   wpAny (model pw w) A (call (.builtin "next") [.ref a]) Q E (St h c t) := by
  have e1 : entryFor table "next" = some Builtin.«next» := entryFor_of_tree (by kernel_rfl)
  have e2 : plainId "next" = true := by decide +kernel
  have e3 : checkBuiltinCall "next" ⟨[.ref a], []⟩ = pure () := by kernel_rfl
  obtain ⟨o, ho, hc, hd⟩ := id ha
  obtain ⟨nl, hol⟩ := id hl
  have sp : Looks (model pw w) h (specialOf (.ref a) (Str.ofString "__next__")) (some (.builtin "list_iterator.__next__")) := (Looks.ld ho).andThen (by
    show Looks _ _ (typeLookup o.cls _) _
    rw [hc]
    exact Looks.of_pure slot_listiter_next.lookup)
  refine cl (codeAny_call_builtin (s := St h c t) e2 e1 (wpAny_of_eq e3 ?_))
  unfold Builtin.«next»
  refine wpAny_bind (lp (a := [.ref a]) (by kernel_rfl) ?_)
  refine wpAny_bind (sp.here (s := St h c t) ?_)
  dsimp only
  rw [if_neg (by decide)]
  refine wpAny_bind (wpAny_callSpecial?_slot (s := St h c t) (name := Str.ofString "__next__") ha.typeIs slot_listiter_next
    (wpAny_call_entry slot_listiter_next ha.typeIs entry_listiter_next ?_ (args_listiter_next _)))
  show wpAny _ _ (field (.ref a) 0 >>= _) _ _ (St h c t)
  refine wpAny_bind (wpAny_field (s := St h c t) ho hd (x := .ref l) rfl ?_)
  show wpAny _ _ (if (Value.ref l == Value.none) = true then _ else _) _ _ (St h c t)
  rw [if_neg (show ¬ ((Value.ref l == Value.none) = true) from Bool.false_ne_true)]
  show wpAny _ _ (field (.ref a) 1 >>= _) _ _ (St h c t)
  refine wpAny_bind (wpAny_field (s := St h c t) ho hd (x := .int (0 : Nat) 0) rfl ?_)
  show wpAny _ _ (seqItems? (.ref l) >>= _) _ _ (St h c t)
  refine wpAny_bind (wpAny_seqItems (s := St h c t) hol rfl ?_)
  have hx : (v0 :: vs).toArray[0]? = some v0 := by simp
  simp only [Int.toNat_natCast, hx]
  refine wpAny_bind (wpAny_setField (s := St h c t) ho hd (by simp) (wpAny_pure ⟨v0, rfl, wpAny_pure (rq_ret (H _ ?_ (Heap.SameBut.update ..)))⟩))
  exact ⟨_, Heap.get?_update_self _ ho (Obj.isFreed_of_fields (Obj.data_mapFields hd _)), (Obj.cls_mapFields ..).trans hc, by
    rw [Obj.data_mapFields hd]; simp [rawInt]⟩
end
end N1_
section N2_
open PySem PySem.W PyProof.Rows PySem.W.X
variable {N : NB}
noncomputable def rdEnv (P : Params) (L : Addr) : Env := callEnv (fdOf (Mine.o30 P)) L 30
noncomputable def rdBody : List Stmt := fnBody (pw.main.body[3]?)
theorem rd_obj {P : Params} : ∃ o, (KB P).lookup 30 = some o ∧ o.data = .func (fdOf (Mine.o30 P)) := ⟨_, rfl, by kernel_rfl⟩
theorem rd_fd {P : Params} : (fdOf (Mine.o30 P)).body = .stmts rdBody := by kernel_rfl
noncomputable def tryS : Option Stmt → Option Stmt
  | some (Stmt.If _ (s :: _) _ _) => some s
  | _ => none
noncomputable def tryH : Option Stmt → ExceptHandler
  | some (Stmt.Try _ (h :: _) _ _ _) => h
  | _ => .ExceptHandler none none [] ⟨0, 0, 0, 0⟩
theorem rd_body : rdBody = [.Assign [nmE "it" ⟨29, 4, 29, 6⟩] (.Call (nmE "iter" ⟨29, 9, 29, 13⟩) [nmE "sequence" ⟨29, 14, 29, 22⟩] [] ⟨29, 9, 29, 23⟩) ⟨29, 4, 29, 23⟩,
  .If (.Compare (nmE "initial" ⟨30, 7, 30, 14⟩) [.Is] [nmE "_initial_missing" ⟨30, 18, 30, 34⟩] ⟨30, 7, 30, 34⟩)
    [.Try [.Assign [nmE "value" ⟨32, 12, 32, 17⟩] (.Call (nmE "next" ⟨32, 20, 32, 24⟩) [nmE "it" ⟨32, 25, 32, 27⟩] [] ⟨32, 20, 32, 28⟩) ⟨32, 12, 32, 28⟩] [tryH (tryS (rdBody[1]?))] [] [] ⟨31, 8, 34, 89⟩]
    [.Assign [nmE "value" ⟨36, 8, 36, 13⟩] (nmE "initial" ⟨36, 16, 36, 23⟩) ⟨36, 8, 36, 23⟩] ⟨30, 4, 36, 23⟩,
  .For (nmE "element" ⟨37, 8, 37, 15⟩) (nmE "it" ⟨37, 19, 37, 21⟩) [.Assign [nmE "value" ⟨38, 8, 38, 13⟩] (.Call (nmE "function" ⟨38, 16, 38, 24⟩) [nmE "value" ⟨38, 25, 38, 30⟩, nmE "element" ⟨38, 32, 38, 39⟩] [] ⟨38, 16, 38, 40⟩) ⟨38, 8, 38, 40⟩] [] ⟨37, 4, 38, 40⟩,
  .Return (some (nmE "value" ⟨39, 11, 39, 16⟩)) ⟨39, 4, 39, 16⟩] := by kernel_rfl
structure Rd (N : NB) (w : World) (c : Shared) (f : Addr) (ra : List Addr) (Inv : Nat → Value → Heap → Prop) : Prop where
  kb : ∀ i v h, Inv i v h → (KB w.params).In h
  fn : ∀ i v h, Inv i v h → ∃ o fd, h.get? f = some o ∧ o.data = .func fd
  mono : ∀ i v h h', Inv i v h → Keeps h h' → Inv i v h'
  hide : ∀ i v h L I m l j, Inv i v h → N.1 ≤ L → I ≠ 16 → (KB w.params).lookup I = none → h.Ns L m → h.IsListIter I l j → Inv i v (hideAll h [L, I])
  step : ∀ i v h t (A : Around) (Q : Value → Shared → Prop) (E : Value → Shared → Prop) r, ra[i]? = some r → Room 16 A → N.1 ≤ h.objs.size → Inv i v h → (∀ v' h' t', Ok N h h' → h.objs.size ≤ h'.objs.size → Inv (i + 1) v' h' → Q v' (St h' c t')) → wpAny (model pw w) A (call (.ref f) [v, .ref r]) Q E (St h c t)
theorem walks_from {w : World} {A : Around} {I : Addr} {fp wr : List Addr} {n k : Nat} {P : Nat → Value → Prop} {S : Nat → Heap → Prop} (W : Walks pw w A I fp wr n P S) (hk : k ≤ n) : Walks pw w A I fp wr (n - k) (fun i => P (k + i)) (fun i => S (k + i)) where
  sub := W.sub
  frame := fun i h h' => W.frame (k + i) h h'
  item := fun i s Q E hi st hQ => W.item (k + i) s Q E (by omega) st fun v h' tk hv hs hk => hQ v h' tk hv hs hk
  done := fun s Q E st hQ => W.done s Q E (by have : k + (n - k) = n := by omega
                                              rw [this] at st; exact st) hQ
  self := fun i s Q E st hQ => W.self (k + i) s Q E st hQ
section
variable {w : World} {A : Around} {E : Value → Shared → Prop} {h : Heap} {c : Shared} {t : Nat} {env : Env} {m : Str → Option Value}
theorem Ok.ns {h h' : Heap} {L : Addr} {m : Str → Option Value} (o : Ok N h h') (ns : h.Ns L m) (hL : N.1 ≤ L) : h'.Ns L m := ns.at' fun ob e => o L ob e (fun z => by rw [z] at hL; exact absurd (Nat.le_trans N.2 hL) (by decide)) fun _ ps z => by
  obtain ⟨o2, es, n, e2, d, _⟩ := ns
  rw [e] at e2
  cases e2
  rw [z] at d
  cases d
theorem Ok.iter {h h' : Heap} {I l : Addr} {i : Nat} (o : Ok N h h') (it : h.IsListIter I l i) (hI : I ≠ 16) : h'.IsListIter I l i := by
  obtain ⟨ob, e, hc, hd⟩ := it
  exact ⟨ob, o I ob e hI (fun _ ps z => by rw [z] at hc; cases hc), hc, hd⟩
end
noncomputable def Okx (N : NB) (L I : Addr) (h h' : Heap) : Prop := ∀ b o, h.get? b = some o → b ≠ L → b ≠ I → b ≠ 16 → (N.1 ≤ b → ∀ ps, o ≠ tabObj ps) → h'.get? b = some o
theorem rd_loop {w : World} {A : Around} {E : Value → Shared → Prop} {h : Heap} {c : Shared} {t : Nat} {L I sq f : Addr} {ra : List Addr} {Inv : Nat → Value → Heap → Prop} {m : Str → Option Value} {v : Value} {k : Nat} {Q : Flow → Shared → Prop}
    (D : Rd N w c f ra Inv) (hA : Room 16 A) (hk : k ≤ ra.length) (hL : N.1 ≤ L) (hI : I ≠ 16) (hIK : (KB w.params).lookup I = none) (hLI : L ≠ I) (hsL : sq ≠ L) (hsI : sq ≠ I) (hs16 : sq ≠ 16) (ns : h.Ns L m) (mit : m (Str.ofString "it") = some (.ref I)) (mv : m (Str.ofString "value") = some v) (mf : m (Str.ofString "function") = some (.ref f))
    (it : h.IsListIter I sq k) (ls : LL h sq (ra.map Value.ref)) (inv : Inv k v (hideAll h [L, I]))
    (H : ∀ v' h' t', Okx N L I h h' → L < h'.objs.size → Inv ra.length v' h' → Q (.ret v') (St h' c t')) :
    wpAny (model pw w) A (execs [.For (nmE "element" ⟨37, 8, 37, 15⟩) (nmE "it" ⟨37, 19, 37, 21⟩) [.Assign [nmE "value" ⟨38, 8, 38, 13⟩] (.Call (nmE "function" ⟨38, 16, 38, 24⟩) [nmE "value" ⟨38, 25, 38, 30⟩, nmE "element" ⟨38, 32, 38, 39⟩] [] ⟨38, 16, 38, 40⟩) ⟨38, 8, 38, 40⟩] [] ⟨37, 4, 38, 40⟩,
      .Return (some (nmE "value" ⟨39, 11, 39, 16⟩)) ⟨39, 4, 39, 16⟩] (rdEnv w.params L)) Q E (St h c t) := by
  have nsE : h.Ns (rdEnv w.params L).locals m := ns
  have hsz : (ra.map Value.ref).toArray.size = ra.length := by simp
  repeat' (walk_at "ww")
  refine wpAny_pyIter_listiter (s := St h c t) it ?_
  refine floop (walks_from (Walks.list hA.2.2 I sq hsI (ra.map Value.ref).toArray) (by rw [hsz]; exact hk)) (fun i h' => ∃ m' v', h'.Ns L m' ∧ m' (Str.ofString "value") = some v' ∧ m' (Str.ofString "function") = some (.ref f) ∧ Inv (k + i) v' (hideAll h' [L, I]) ∧ Okx N L I h h') ?_ ⟨it, ls.is⟩ ⟨m, v, ns, mv, mf, inv, fun _ _ e _ _ _ _ => e⟩ ?_ ?_ (fun _ => by kernel_rfl)
  · rintro i h1 h2 ⟨m', v', n1, q1, q2, q3, q4⟩ kk
    refine ⟨m', v', n1.at' fun o e => kk _ o (by simpa using hLI) e, q1, q2, D.mono _ _ _ _ q3 fun b o e => ?_, fun b o e a1 a2 a3 a4 => kk b o (by simpa using a2) (q4 b o e a1 a2 a3 a4)⟩
    have hb : b ∉ [L, I] := fun z => by rw [hideAll_none _ z] at e; cases e
    exact hideAll_get _ (kk b o (by simp at hb; simpa using hb.2) (of_hideAll _ e)) hb
  · rintro i h1 t1 x E' hi hx ⟨S1, S2⟩ ⟨m', v', n1, q1, q2, q3, q4⟩
    have hx' : ra[k + i]? = some (ra[k + i]'(by rw [hsz] at hi; omega)) := List.getElem?_eq_getElem _
    have ex : x = .ref (ra[k + i]'(by rw [hsz] at hi; omega)) := by
      have : (ra.map Value.ref).toArray[k + i]? = some (.ref (ra[k + i]'(by rw [hsz] at hi; omega))) := by rw [List.getElem?_toArray, List.getElem?_map, hx']; rfl
      rw [this] at hx
      exact (Option.some.inj hx).symm
    subst ex
    generalize ra[k + i]'(by rw [hsz] at hi; omega) = r at *
    have n1E : h1.Ns (rdEnv w.params L).locals m' := n1
    refine wpAny_assign_Name (svn n1E (fun h2 t2 n2 s2 => ?_) (by kernel_rfl) (by kernel_rfl))
    have s2L : Heap.SameBut L h1 h2 := s2
    have v2 : (fun y => if y = Str.ofString "element" then some (Value.ref r) else m' y) (Str.ofString "value") = some v' := (if_neg (by decide +kernel)).trans q1
    have f2 : (fun y => if y = Str.ofString "element" then some (Value.ref r) else m' y) (Str.ofString "function") = some (.ref f) := (if_neg (by decide +kernel)).trans q2
    have e2 : (fun y => if y = Str.ofString "element" then some (Value.ref r) else m' y) (Str.ofString "element") = some (.ref r) := if_pos rfl
    generalize (fun y => if y = Str.ofString "element" then some (Value.ref r) else m' y) = m2 at *
    have kg : Keeps (hideAll h1 [L, I]) h2 := fun b o e => (s2L.2 b fun z => by subst z; rw [hideAll_none _ (.head _)] at e; cases e).trans (of_hideAll _ e)
    have I2 := D.mono _ _ _ _ q3 kg
    have it2 : h2.IsListIter I sq (k + (i + 1)) := S1.at fun o e => (s2L.2 I hLI.symm).trans e
    have ls2 : h2.IsList sq (ra.map Value.ref).toArray := S2.at fun o e => (s2L.2 sq hsL).trans e
    have n2L : h2.Ns L m2 := n2
    have KX2 := D.kb _ _ _ I2
    obtain ⟨of', fd, ef, df⟩ := D.fn _ _ _ I2
    repeat' (walk_at "ww")
    refine callWith_def df ?_ rfl
    repeat' (walk_at "ww")
    refine ⟨ef, D.step (k + i) v' h2 _ A _ _ r hx' hA (Nat.le_trans hL (Nat.le_of_lt n2L.lt)) I2 fun v3 h3 t3 o3 z3 I3 => ?_⟩
    have n3 := o3.ns n2L hL
    have n3E : h3.Ns (rdEnv w.params L).locals m2 := n3
    have it3 := o3.iter it2 hI
    have ls3 : h3.IsList sq (ra.map Value.ref).toArray := by
      obtain ⟨ob, e, hc, hd⟩ := ls2
      exact ⟨ob, o3 sq ob e hs16 (fun _ ps z => by rw [z] at hc; cases hc), hc, hd⟩
    refine svn n3E (fun h4 t4 n4 s4 => ?_) (by kernel_rfl) (by kernel_rfl)
    have s4L : Heap.SameBut L h3 h4 := s4
    have I3h := D.hide _ _ _ _ _ _ _ _ I3 hL hI hIK n3 it3
    refine co_next (wpAny_execs_nil (fend_next ⟨h4, t4, rfl, ⟨it3.at fun o e => (s4L.2 I hLI.symm).trans e, ls3.at fun o e => (s4L.2 sq hsL).trans e⟩, _, v3, n4, if_pos rfl, (if_neg (by decide +kernel)).trans f2, D.mono _ _ _ _ I3h fun b o e => ?_, fun b o e a1 a2 a3 a4 => ?_⟩))
    · have hb : b ∉ [L, I] := fun z => by rw [hideAll_none _ z] at e; cases e
      exact hideAll_get _ ((s4L.2 b fun z => hb (z ▸ .head _)).trans (of_hideAll _ e)) hb
    · exact (s4L.2 b a1).trans (o3 b o ((s2L.2 b a1).trans (q4 b o e a1 a2 a3 a4)) a3 a4)
  · rintro h1 t1 ⟨m', v', n1, q1, q2, q3, q4⟩
    have n1E : h1.Ns (rdEnv w.params L).locals m' := n1
    refine co_next ?_
    repeat' (walk_at "ww")
    rw [hsz, show k + (ra.length - k) = ra.length from by omega] at q3
    exact H v' h1 _ q4 n1.lt (D.mono _ _ _ _ q3 hide_all)
theorem red3 {w : World} {A : Around} {h : Heap} {c : Shared} {t : Nat} {R : Result → Shared → Prop} {sq f a0 : Addr} {ra : List Addr} {Inv : Nat → Value → Heap → Prop} {o0 : Obj}
    (D : Rd N w c f ra Inv) (hA : Room 17 A) (hz : N.1 ≤ h.objs.size) (ls : LL h sq (ra.map Value.ref)) (hs16 : sq ≠ 16) (inv : Inv 0 (.ref a0) h) (h0 : h.get? a0 = some o0) (hc0 : o0.cls ≠ .type "tuple") (h22 : a0 ≠ 22) (h16 : ∃ o, h.get? 16 = some o)
    (H : ∀ v' h' t', Ok N h h' → h.objs.size ≤ h'.objs.size → Inv ra.length v' h' → R (.ok (.ret v')) (St h' c t')) :
    codeAny (model pw w) A (.call (.ref 30) ⟨[.ref f, .ref sq, .ref a0], []⟩) R (St h c t) := by
  obtain ⟨o30, l30, d30⟩ := rd_obj (P := w.params)
  have KX := D.kb _ _ _ inv
  refine codeAny_call_def (s := St h c t) (binds := [(Str.ofString "function", .ref f), (Str.ofString "sequence", .ref sq), (Str.ofString "initial", .ref a0)]) hA.lim (KX 30 _ l30) d30 (nolimit KX) ⟨29, _, _, 200, by kernel_rfl, KX 29 _ (by rfl), rfl, by kernel_rfl⟩ rd_fd (kp_binds (s := St h c t) KX fun S => by kernel_rfl) (no_cell (by kernel_rfl)) (locs (by kernel_rfl)) (fun h₁ ns kp => ?_) (by kernel_rfl) (by kernel_rfl) (by kernel_rfl)
  have hE : callEnv (fdOf (Mine.o30 w.params)) (St h c t).heap.objs.size 30 = rdEnv w.params h.objs.size := rfl
  rw [hE]
  have kk : Keeps h h₁ := kp
  generalize hL : h.objs.size = L at *
  have nsE : h₁.Ns (rdEnv w.params L).locals (fun x => List.lookup x [(Str.ofString "function", Value.ref f), (Str.ofString "sequence", .ref sq), (Str.ofString "initial", .ref a0)].reverse) := ns
  clear ns
  have mf : (fun x => List.lookup x [(Str.ofString "function", Value.ref f), (Str.ofString "sequence", .ref sq), (Str.ofString "initial", .ref a0)].reverse) (Str.ofString "function") = some (.ref f) := by kernel_rfl
  have ms : (fun x => List.lookup x [(Str.ofString "function", Value.ref f), (Str.ofString "sequence", .ref sq), (Str.ofString "initial", .ref a0)].reverse) (Str.ofString "sequence") = some (.ref sq) := by kernel_rfl
  have mi : (fun x => List.lookup x [(Str.ofString "function", Value.ref f), (Str.ofString "sequence", .ref sq), (Str.ofString "initial", .ref a0)].reverse) (Str.ofString "initial") = some (.ref a0) := by kernel_rfl
  generalize (fun x => List.lookup x [(Str.ofString "function", Value.ref f), (Str.ofString "sequence", .ref sq), (Str.ofString "initial", .ref a0)].reverse) = m1 at *
  have KX1 := KX.keeps kk
  have hA' : Room 16 (A.deeper (rdEnv w.params L)) := Room.deeper hA
  generalize A.deeper (rdEnv w.params L) = A' at *
  rw [rd_body]
  show wpAny _ _ _ _ _ (St h₁ c _)
  repeat' (walk_at "ww")
  obtain ⟨nq, eq⟩ := kk.list ls
  refine c_iter (n := nq) (vs := ra.map Value.ref) eq fun I h2 D2 => ?_
  have k2 := mem_keeps D2
  have it2 : h2.IsListIter I sq 0 := ⟨_, D2.at 0 I _ rfl, rfl, rfl⟩
  have nI : h₁.get? I = none := (D2.nw _ (.head _)).2
  have ns2 := nsE.keeps k2
  refine svn ns2 (fun h3 t3 n3 s3 => co_next ?_) (by kernel_rfl) (by kernel_rfl)
  have s3L : Heap.SameBut L h2 h3 := s3
  have hnL : h.get? L = none := none_of_ge (Nat.le_of_eq hL)
  have nLI : L ≠ I := fun z => by
    obtain ⟨o, _, _, e, _⟩ := nsE
    have e' : h₁.get? L = some o := e
    rw [z, nI] at e'
    cases e'
  have hnI : h.get? I = none := by
    cases q : h.get? I with
    | none => rfl
    | some o => rw [kk _ _ q] at nI; cases nI
  have k03 : Keeps h h3 := fun b o e => (s3L.2 b fun z => by rw [z, hnL] at e; cases e).trans (k2 _ _ (kk _ _ e))
  have KX3 := KX.keeps k03
  have mi3 : (fun y => if y = Str.ofString "it" then some (Value.ref I) else m1 y) (Str.ofString "initial") = some (.ref a0) := (if_neg (by decide +kernel)).trans mi
  have mf3 : (fun y => if y = Str.ofString "it" then some (Value.ref I) else m1 y) (Str.ofString "function") = some (.ref f) := (if_neg (by decide +kernel)).trans mf
  have mt3 : (fun y => if y = Str.ofString "it" then some (Value.ref I) else m1 y) (Str.ofString "it") = some (.ref I) := if_pos rfl
  generalize (fun y => if y = Str.ofString "it" then some (Value.ref I) else m1 y) = m3 at *
  clear ns2 nsE
  repeat' (walk_at "ww")
  refine is_rr (k03 _ _ h0) (KX3 22 _ (by rfl)) hc0 ?_
  repeat' (walk_at "ww")
  refine if_f (by simpa using h22) ?_
  repeat' (walk_at "ww")
  refine svn n3 (fun h4 t4 n4 s4 => ?_) (by kernel_rfl) (by kernel_rfl)
  have s4L : Heap.SameBut L h3 h4 := s4
  have k04 : Keeps h h4 := fun b o e => (s4L.2 b fun z => by rw [z, hnL] at e; cases e).trans (k03 _ _ e)
  have it4 : h4.IsListIter I sq 0 := it2.at fun o e => (s4L.2 I nLI.symm).trans ((s3L.2 I nLI.symm).trans e)
  have zI : I ≠ 16 := fun z => by
    obtain ⟨o, e⟩ := h16
    rw [z, e] at hnI
    cases hnI
  have zK : (KB w.params).lookup I = none := by
    cases q : (KB w.params).lookup I with
    | none => rfl
    | some o => rw [KX _ _ q] at hnI; cases hnI
  refine co_next (wpAny_execs_nil (co_next ?_))
  refine rd_loop (k := 0) (v := .ref a0) D hA' (Nat.zero_le _) hz zI zK nLI ?_ ?_ hs16 n4 ((if_neg (by decide +kernel)).trans mt3) (if_pos rfl) ((if_neg (by decide +kernel)).trans mf3) it4 (k04.list ls) (D.mono _ _ _ _ inv fun b o e => hideAll_get _ (k04 _ _ e) ?_) fun v' h' t' ox hsz I' => ?_
  · obtain ⟨n, e⟩ := ls
    exact fun z => by rw [z, hnL] at e; cases e
  · obtain ⟨n, e⟩ := ls
    exact fun z => by rw [z, hnI] at e; cases e
  · intro z
    simp only [List.mem_cons, List.not_mem_nil, or_false] at z
    rcases z with z | z
    · rw [z, hnL] at e; cases e
    · rw [z, hnI] at e; cases e
  · refine H v' h' t' (fun b o e n1 n2 => ox b o (k04 _ _ e) (fun z => by rw [z, hnL] at e; cases e) (fun z => by rw [z, hnI] at e; cases e) n1 n2) (Nat.le_of_lt hsz) I'
end N2_
section N3_
open PySem PySem.W PyProof.Rows PySem.W.X
variable {N : NB}
theorem red2 {w : World} {A : Around} {h : Heap} {c : Shared} {t : Nat} {R : Result → Shared → Prop} {sq f a0 : Addr} {ra : List Addr} {Inv : Nat → Value → Heap → Prop}
    (D : Rd N w c f (a0 :: ra) Inv) (hA : Room 17 A) (hz : N.1 ≤ h.objs.size) (ls : LL h sq ((a0 :: ra).map Value.ref)) (hs16 : sq ≠ 16) (inv : Inv 1 (.ref a0) h) (h16 : ∃ o, h.get? 16 = some o)
    (H : ∀ v' h' t', Ok N h h' → h.objs.size ≤ h'.objs.size → Inv (a0 :: ra).length v' h' → R (.ok (.ret v')) (St h' c t')) :
    codeAny (model pw w) A (.call (.ref 30) ⟨[.ref f, .ref sq], []⟩) R (St h c t) := by
  obtain ⟨o30, l30, d30⟩ := rd_obj (P := w.params)
  have KX := D.kb _ _ _ inv
  refine codeAny_call_def (s := St h c t) (binds := [(Str.ofString "function", .ref f), (Str.ofString "sequence", .ref sq), (Str.ofString "initial", .ref 22)]) hA.lim (KX 30 _ l30) d30 (nolimit KX) ⟨29, _, _, 200, by kernel_rfl, KX 29 _ (by rfl), rfl, by kernel_rfl⟩ rd_fd (kp_binds (s := St h c t) KX fun S => by kernel_rfl) (no_cell (by kernel_rfl)) (locs (by kernel_rfl)) (fun h₁ ns kp => ?_) (by kernel_rfl) (by kernel_rfl) (by kernel_rfl)
  have hE : callEnv (fdOf (Mine.o30 w.params)) (St h c t).heap.objs.size 30 = rdEnv w.params h.objs.size := rfl
  rw [hE]
  have kk : Keeps h h₁ := kp
  generalize hL : h.objs.size = L at *
  have nsE : h₁.Ns (rdEnv w.params L).locals (fun x => List.lookup x [(Str.ofString "function", Value.ref f), (Str.ofString "sequence", .ref sq), (Str.ofString "initial", .ref 22)].reverse) := ns
  clear ns
  have mf : (fun x => List.lookup x [(Str.ofString "function", Value.ref f), (Str.ofString "sequence", .ref sq), (Str.ofString "initial", .ref 22)].reverse) (Str.ofString "function") = some (.ref f) := by kernel_rfl
  have ms : (fun x => List.lookup x [(Str.ofString "function", Value.ref f), (Str.ofString "sequence", .ref sq), (Str.ofString "initial", .ref 22)].reverse) (Str.ofString "sequence") = some (.ref sq) := by kernel_rfl
  have mi : (fun x => List.lookup x [(Str.ofString "function", Value.ref f), (Str.ofString "sequence", .ref sq), (Str.ofString "initial", .ref 22)].reverse) (Str.ofString "initial") = some (.ref 22) := by kernel_rfl
  generalize (fun x => List.lookup x [(Str.ofString "function", Value.ref f), (Str.ofString "sequence", .ref sq), (Str.ofString "initial", .ref 22)].reverse) = m1 at *
  have KX1 := KX.keeps kk
  have hA' : Room 16 (A.deeper (rdEnv w.params L)) := Room.deeper hA
  generalize A.deeper (rdEnv w.params L) = A' at *
  rw [rd_body]
  show wpAny _ _ _ _ _ (St h₁ c _)
  repeat' (walk_at "ww")
  obtain ⟨nq, eq⟩ := kk.list ls
  refine c_iter (n := nq) (vs := (a0 :: ra).map Value.ref) eq fun I h2 D2 => ?_
  have k2 := mem_keeps D2
  have it2 : h2.IsListIter I sq 0 := ⟨_, D2.at 0 I _ rfl, rfl, rfl⟩
  have nI : h₁.get? I = none := (D2.nw _ (.head _)).2
  have ns2 := nsE.keeps k2
  refine svn ns2 (fun h3 t3 n3 s3 => co_next ?_) (by kernel_rfl) (by kernel_rfl)
  have s3L : Heap.SameBut L h2 h3 := s3
  have hnL : h.get? L = none := none_of_ge (Nat.le_of_eq hL)
  have nLI : L ≠ I := fun z => by
    obtain ⟨o, _, _, e, _⟩ := nsE
    have e' : h₁.get? L = some o := e
    rw [z, nI] at e'
    cases e'
  have hnI : h.get? I = none := by
    cases q : h.get? I with
    | none => rfl
    | some o => rw [kk _ _ q] at nI; cases nI
  have k03 : Keeps h h3 := fun b o e => (s3L.2 b fun z => by rw [z, hnL] at e; cases e).trans (k2 _ _ (kk _ _ e))
  have KX3 := KX.keeps k03
  have mi3 : (fun y => if y = Str.ofString "it" then some (Value.ref I) else m1 y) (Str.ofString "initial") = some (.ref 22) := (if_neg (by decide +kernel)).trans mi
  have mf3 : (fun y => if y = Str.ofString "it" then some (Value.ref I) else m1 y) (Str.ofString "function") = some (.ref f) := (if_neg (by decide +kernel)).trans mf
  have mt3 : (fun y => if y = Str.ofString "it" then some (Value.ref I) else m1 y) (Str.ofString "it") = some (.ref I) := if_pos rfl
  generalize (fun y => if y = Str.ofString "it" then some (Value.ref I) else m1 y) = m3 at *
  clear ns2 nsE
  repeat' (walk_at "ww")
  refine is_rr (KX3 22 _ (by rfl)) (KX3 22 _ (by rfl)) (by intro z; injection z with q; exact absurd q (by decide)) ?_
  repeat' (walk_at "ww")
  refine if_t (by decide) ?_
  refine ex_cons (wpAny_Try_except ?_)
  have it3 : h3.IsListIter I sq 0 := it2.at fun o e => (s3L.2 I nLI.symm).trans e
  repeat' (walk_at "ww")
  refine c_next it3 (k03.list ls) fun h3' it3' sI => ?_
  have n3' : h3'.Ns (rdEnv w.params L).locals m3 := n3.sameBut sI nLI
  have k03' : Keeps h h3' := fun b o e => (sI.2 b fun z => by rw [z, hnI] at e; cases e).trans (k03 _ _ e)
  refine svn n3' (fun h4 t4 n4 s4 => ?_) (by kernel_rfl) (by kernel_rfl)
  have s4L : Heap.SameBut L h3' h4 := s4
  have k04 : Keeps h h4 := fun b o e => (s4L.2 b fun z => by rw [z, hnL] at e; cases e).trans (k03' _ _ e)
  have it4 : h4.IsListIter I sq 1 := it3'.at fun o e => (s4L.2 I nLI.symm).trans e
  have zI : I ≠ 16 := fun z => by
    obtain ⟨o, e⟩ := h16
    rw [z, e] at hnI
    cases hnI
  have zK : (KB w.params).lookup I = none := by
    cases q : (KB w.params).lookup I with
    | none => rfl
    | some o => rw [KX _ _ q] at hnI; cases hnI
  refine co_next (wpAny_execs_nil ?_)
  refine wpAny_execs_nil ?_
  refine co_next (wpAny_execs_nil (co_next ?_))
  refine rd_loop (k := 1) (v := .ref a0) D hA' (by simp) hz zI zK nLI ?_ ?_ hs16 n4 ((if_neg (by decide +kernel)).trans mt3) (if_pos rfl) ((if_neg (by decide +kernel)).trans mf3) it4 (k04.list ls) (D.mono _ _ _ _ inv fun b o e => hideAll_get _ (k04 _ _ e) ?_) fun v' h' t' ox hsz I' => ?_
  · obtain ⟨n, e⟩ := ls
    exact fun z => by rw [z, hnL] at e; cases e
  · obtain ⟨n, e⟩ := ls
    exact fun z => by rw [z, hnI] at e; cases e
  · intro z
    simp only [List.mem_cons, List.not_mem_nil, or_false] at z
    rcases z with z | z
    · rw [z, hnL] at e; cases e
    · rw [z, hnI] at e; cases e
  · refine H v' h' t' (fun b o e n1 n2 => ox b o (k04 _ _ e) (fun z => by rw [z, hnL] at e; cases e) (fun z => by rw [z, hnI] at e; cases e) n1 n2) (Nat.le_of_lt hsz) I'
end N3_
section N4_
open PySem PySem.W PyProof.Rows PySem.W.X
variable {N : NB}
noncomputable def KF2 (h h' : Heap) : Prop := ∀ b o vs, h.get? b = some o → o.data = .fields vs → (o.cls = .none ∨ o.cls = .type "code" ∨ ∃ q t, vs[1]? = some (.str q t)) → h'.get? b = some o
theorem CT.kf2 {h h' : Heap} (T : CT N h) (k : KF2 h h') : CT N h' := by
  have kr : ∀ {cv : Value} {q : Str}, h.CodeRec cv q → h'.CodeRec cv q := fun ⟨c, o, vs, t, e, g, r, z⟩ => ⟨c, o, vs, t, e, k _ _ _ g r (.inr (.inr ⟨_, _, z⟩)), r, z⟩
  obtain ⟨ps, e, ht, hc⟩ := T
  refine ⟨ps, k _ _ _ e rfl (.inl rfl), ht, fun cv z => ?_⟩
  obtain ⟨cc, P, rfl, C, ⟨pp, q1, q2, q3⟩, r⟩ := hc cv z
  refine ⟨cc, P, rfl, ?_, ⟨pp, k _ _ _ q1 rfl (.inl rfl), q2, fun x hx cv z => kr (q3 x hx cv z)⟩, r⟩
  obtain ⟨o, vs, f1, f2, f3, f4, f5, f6, f7, e1, e2, e3, r⟩ := C
  exact ⟨o, vs, f1, f2, f3, f4, f5, f6, f7, k _ _ _ e1 e3 (.inr (.inl e2)), e2, e3, r⟩
theorem CT.hide2 {h : Heap} {L I l : Addr} {j : Nat} {m : Str → Option Value} (T : CT N h) (ns : h.Ns L m) (it : h.IsListIter I l j) : CT N (hideAll h [L, I]) := T.kf2 fun b o vs e d hc => hideAll_get _ e fun z => by
  simp only [List.mem_cons, List.not_mem_nil, or_false] at z
  rcases z with z | z
  · obtain ⟨o2, _, _, e2, d2, _⟩ := ns
    rw [← z, e] at e2
    cases e2
    rw [d] at d2
    cases d2
  · obtain ⟨o2, e2, c2, d2⟩ := it
    rw [← z, e] at e2
    cases e2
    rw [c2] at hc
    rw [d] at d2
    cases d2
    rcases hc with hc | hc | ⟨_, _, hc⟩
    · cases hc
    · injection hc with q; exact absurd q (by decide)
    · simp at hc
theorem LL.hide2 {h : Heap} {L I l a : Addr} {j : Nat} {m : Str → Option Value} {vs : List Value} (x : LL h a vs) (ns : h.Ns L m) (it : h.IsListIter I l j) : LL (hideAll h [L, I]) a vs := by
  obtain ⟨n, e⟩ := x
  refine ⟨n, hideAll_get _ e fun z => ?_⟩
  simp only [List.mem_cons, List.not_mem_nil, or_false] at z
  rcases z with z | z
  · obtain ⟨o2, _, _, e2, d2, _⟩ := ns
    rw [← z, e] at e2
    cases e2
    cases d2
  · obtain ⟨o2, e2, c2, d2⟩ := it
    rw [← z, e] at e2
    cases e2
    cases d2
theorem kb_hide2 {P : Params} {h : Heap} {L I : Addr} (KX : (KB P).In h) (hL : 104 ≤ L) (hI : (KB P).lookup I = none) : (KB P).In (hideAll h [L, I]) := fun b o e => hideAll_get _ (KX b o e) fun z => by
  simp only [List.mem_cons, List.not_mem_nil, or_false] at z
  rcases z with z | z
  · rw [z, kb_lt hL] at e; cases e
  · rw [z, hI] at e; cases e
end N4_
section T1_
open PySem PySem.W PyProof.Rows PySem.W.X
structure RD (h : Heap) (rw : Addr) (ra : List Addr) (R : Nat → List Addr) : Prop where
  l : LL h rw (ra.map Value.ref)
  r : ∀ k l, ra[k]? = some l → LL h l ((R k).map Value.ref)
  e : ∀ k, ra.length ≤ k → R k = []
  i : ∀ (k p : Nat) x, (R k)[p]? = some x → ∃ v u1 u2 u3, LL h x [.int v u1, .int k u2, .int p u3]
theorem RD.at {h h' : Heap} {rw : Addr} {ra : List Addr} {R : Nat → List Addr} (x : RD h rw ra R) (k : ∀ a vs, LL h a vs → LL h' a vs) : RD h' rw ra R :=
  ⟨k _ _ x.l, fun a b e => k _ _ (x.r a b e), x.e, fun a p b e => let ⟨v, u1, u2, u3, q⟩ := x.i a p b e; ⟨v, u1, u2, u3, k _ _ q⟩⟩
noncomputable def tot (R : Nat → List Addr) : Nat → Nat
  | 0 => 0
  | n + 1 => tot R n + (R n).length
theorem tot_congr {R R' : Nat → List Addr} : ∀ {n : Nat}, (∀ k, k < n → R' k = R k) → tot R' n = tot R n
  | 0, _ => rfl
  | n + 1, h => by unfold tot; rw [tot_congr fun k hk => h k (Nat.lt_succ_of_lt hk), h n (Nat.lt_succ_self _)]
theorem tot_le {R : Nat → List Addr} : ∀ {n k : Nat}, k < n → (R k).length ≤ tot R n
  | 0, _, h => absurd h (Nat.not_lt_zero _)
  | n + 1, k, h => by
    unfold tot
    by_cases e : k = n
    · subst e; omega
    · have := tot_le (R := R) (n := n) (k := k) (by omega); omega
noncomputable def isItem : Value → Bool
  | .int i _ => i.fmod 3 != 0
  | _ => false
theorem ns_ne {h : Heap} {L a : Addr} {m : Str → Option Value} {vs : List Value} (ns : h.Ns L m) (x : LL h a vs) : a ≠ L := fun z => by
  obtain ⟨o, _, _, e, d, _⟩ := ns
  obtain ⟨n, q⟩ := x
  rw [z, e] at q
  cases q
  cases d
theorem it_ne {h : Heap} {I a l : Addr} {j : Nat} {vs : List Value} (it : h.IsListIter I l j) (x : LL h a vs) : a ≠ I := fun z => by
  obtain ⟨o, e, hc, d⟩ := it
  obtain ⟨n, q⟩ := x
  rw [z, e] at q
  cases q
  cases d
theorem Room.lift {n : Nat} {A : Around} (r : Room n A) : A.handled = none := r.2.2
theorem map_ref_ne {ra : List Addr} {i : Int} {u : Tok} {l : List Value} : Value.int i u :: l ≠ ra.map Value.ref := by
  cases ra with
  | nil => intro h; cases h
  | cons a ra => intro h; cases h
theorem RD.row {h h' : Heap} {rw nr : Addr} {ra : List Addr} {R : Nat → List Addr} (D : RD h rw ra R) (s : Heap.SameBut rw h h') (hl : LL h' rw ((ra ++ [nr]).map Value.ref)) (hn : LL h nr []) (hne : nr ≠ rw) (nd : rw ∉ ra) : RD h' rw (ra ++ [nr]) R := by
  refine ⟨hl, fun k l e => ?_, fun k hk => D.e k (by simp at hk; omega), fun k p x e => ?_⟩
  · by_cases hk : k < ra.length
    · rw [List.getElem?_append_left hk] at e
      exact list_but (D.r k l e) s fun z => nd (z ▸ List.mem_of_getElem? e)
    · have hk' : k = ra.length := by
        by_cases q : k = ra.length
        · exact q
        · rw [List.getElem?_eq_none (by simp; omega)] at e; cases e
      subst hk'
      simp at e
      subst e
      rw [D.e _ (Nat.le_refl _)]
      exact list_but hn s hne
  · obtain ⟨v, u1, u2, u3, q⟩ := D.i k p x e
    exact ⟨v, u1, u2, u3, list_but q s fun z => map_ref_ne (LL.inj (z ▸ q) D.l)⟩
theorem RD.item {h h' : Heap} {rw lr it : Addr} {ra : List Addr} {R : Nat → List Addr} {v : Int} {u1 u2 u3 : Tok} (D : RD h rw (ra ++ [lr]) R) (hi : LL h it [.int v u1, .int (ra.length : Nat) u2, .int ((R ra.length).length : Nat) u3]) (s : Heap.SameBut lr h h') (hl : LL h' lr ((R ra.length ++ [it]).map Value.ref))
    (nd : (rw :: (ra ++ [lr])).Nodup) : RD h' rw (ra ++ [lr]) (upd R ra.length (R ra.length ++ [it])) := by
  have n1 := List.nodup_cons.mp nd
  have n2 := List.nodup_append.mp n1.2
  have lR : LL h lr ((R ra.length).map Value.ref) := D.r _ _ (by simp)
  refine ⟨list_but D.l s fun z => n1.1 (by rw [z]; simp), fun k l e => ?_, fun k hk => ?_, fun k p x e => ?_⟩
  · unfold upd
    by_cases hk : k = ra.length
    · subst hk
      simp at e
      subst e
      rw [if_pos rfl]
      exact hl
    · rw [if_neg hk]
      have hk' : k < ra.length := by
        by_cases q : k < ra.length
        · exact q
        · rw [List.getElem?_eq_none (by simp; omega)] at e; cases e
      refine list_but (D.r k l e) s fun z => ?_
      rw [List.getElem?_append_left hk'] at e
      exact n2.2.2 l (List.mem_of_getElem? e) lr (by simp) z
  · unfold upd
    rw [if_neg (by simp at hk; omega)]
    exact D.e k hk
  · have ne : ∀ {y : Addr} {a : Int} {u : Tok} {us : List Value}, LL h y (.int a u :: us) → y ≠ lr := fun q z => map_ref_ne (LL.inj (z ▸ q) lR)
    unfold upd at e
    by_cases hk : k = ra.length
    · subst hk
      rw [if_pos rfl] at e
      by_cases hp : p < (R ra.length).length
      · rw [List.getElem?_append_left hp] at e
        obtain ⟨v, u1, u2, u3, q⟩ := D.i _ p x e
        exact ⟨v, u1, u2, u3, list_but q s (ne q)⟩
      · have hp' : p = (R ra.length).length := by
          by_cases q : p = (R ra.length).length
          · exact q
          · rw [List.getElem?_eq_none (by simp; omega)] at e; cases e
        subst hp'
        simp at e
        subst e
        exact ⟨v, u1, u2, u3, list_but hi s (ne hi)⟩
    · rw [if_neg hk] at e
      obtain ⟨v, u1, u2, u3, q⟩ := D.i _ p x e
      exact ⟨v, u1, u2, u3, list_but q s (ne q)⟩
theorem RD.inn {h : Heap} {rw I : Addr} {ra : List Addr} {R : Nat → List Addr} (D : RD h rw ra R) (it : ∀ a vs, LL h a vs → a ≠ I) : RD (hideAll h [I]) rw ra R :=
  D.at fun a vs x => x.hid (by simpa using it a vs x)
theorem RD.out {h : Heap} {rw I : Addr} {ra : List Addr} {R : Nat → List Addr} (D : RD (hideAll h [I]) rw ra R) : RD h rw ra R := D.at fun _ _ ⟨n, e⟩ => ⟨n, of_hideAll _ e⟩
theorem ife {w : World} {A : Around} {E : Value → Shared → Prop} {s : Shared} {h : Heap} {c : Shared} {b : Prop} [Decidable b] {m1 m2 : Sem Value} {Q : Value → Shared → Prop}
    (H1 : wpAny (model pw w) A m1 (fun v s' => ∃ i u t, v = .int i u ∧ s' = St h c t) E s) (H2 : wpAny (model pw w) A m2 (fun v s' => ∃ i u t, v = .int i u ∧ s' = St h c t) E s) (H : ∀ i u t, Q (.int i u) (St h c t)) :
    if b then wpAny (model pw w) A m1 Q E s else wpAny (model pw w) A m2 Q E s := by
  split
  · exact wpAny_mono H1 (fun v s' ⟨i, u, t, a, b⟩ => by subst a b; exact H i u t) fun _ _ x => x
  · exact wpAny_mono H2 (fun v s' ⟨i, u, t, a, b⟩ => by subst a b; exact H i u t) fun _ _ x => x
noncomputable def rsBody : List Stmt := fnBody (pw.main.body[11]?)
theorem rows_spec {w : World} {A : Around} {h : Heap} {c : Shared} {t : Nat} {Q : Result → Shared → Prop} {nb : Addr} {vs : List Value}
    (KX : (KB w.params).In h) (hA : Room 2 A) (hl : LL h nb vs) (hv : ∀ v ∈ vs, ∃ i u, v = .int i u) (hn : vs.length < 2 ^ 9)
    (H : ∀ h' t' rw ra R, Keeps h h' → h.objs.size ≤ h'.objs.size → RD h' rw ra R → ra.length + tot R ra.length = vs.length + 1 → 0 < ra.length → tot R ra.length = vs.countP isItem → Q (.ok (.ret (.ref rw))) (St h' c t')) :
    codeAny (model pw w) A (.call (.ref 72) ⟨[.ref nb], []⟩) Q (St h c t) := by
  refine call_pos_ret hA.lim (KX 72 _ (by rfl)) rfl (nolimit KX) ⟨_, _, _, _, rfl, KX 71 _ (by rfl), rfl, rfl⟩ rfl (locs rfl) (fun h₁ F => ?_)
  have hl0 := hl
  replace hl := Keeps.list F.keep hl
  show wpAny _ _ _ _ _ (St h₁ c _)
  generalize hk : t + _ = t'
  clear hk
  generalize hL : (St h c t).heap.objs.size = L at *
  have hLn : h.get? L = none := none_of_ge (Nat.le_of_eq hL)
  repeat' (walk_at "ww")
  refine nl (Nat.zero_le _) fun h2 lr k2 l2 z2 _ => ?_
  repeat' (walk_at "ww")
  refine nl (Nat.le_of_ble_eq_true rfl) fun h3 rw0 k3 l3 z3 _ => ?_
  have hlr : h.get? lr = none := by
    cases q : h.get? lr with
    | none => rfl
    | some o => have q1 := F.keep _ _ q; rw [none_of_ge z2] at q1; cases q1
  have hrw : h.get? rw0 = none := by
    cases q : h.get? rw0 with
    | none => rfl
    | some o => have q1 := k2 _ _ (F.keep _ _ q); rw [none_of_ge z3] at q1; cases q1
  have hne : rw0 ≠ lr := fun z => by
    obtain ⟨n, e⟩ := l2
    rw [← z, none_of_ge z3] at e; cases e
  have F3 := Fr.grow F (k2.trans k3)
  refine sv F3 (fun h4 t4 F4 s4 => ?_) (by kernel_rfl) (by kernel_rfl)
  have s4L : Heap.SameBut L h3 h4 := s4
  have LLL : LL h4 rw0 ([lr].map Value.ref) := list_but l3 s4L (ns_ne F3.ns l3)
  have ll2 : LL h4 lr [] := list_but (k3.list l2) s4L (ns_ne F3.ns (k3.list l2))
  have hl4 : LL h4 nb vs := list_but (k3.list (k2.list hl)) s4L (ns_ne F3.ns (k3.list (k2.list hl)))
  clear l2 l3 F3 k2 k3 z2 z3 F hl s4
  repeat' (walk_at "ww")
  refine pi_list hl4 fun h5 I k5 nI zI hI => ?_
  have hIn : h.get? I = none := by
    cases q : h.get? I with
    | none => rfl
    | some o => rw [F4.keep _ _ q] at nI; cases nI
  have hLI : L ≠ I := fun z => by
    obtain ⟨o, _, _, e, _⟩ := F4.ns
    have e' : h4.get? L = some o := e
    rw [z, nI] at e'; cases e'
  have hA' := hA.deeper (env := envOf (Str.ofString "_law_rows") { kind := ScopeKind.function, names := [(Str.ofString "numbers", NameKind.local), (Str.ofString "rows", NameKind.local), (Str.ofString "x", NameKind.local), (Str.ofString "len", NameKind.globalImplicit)], isGenerator := false, isCoroutine := false } L 72 (Value.ref 71))
  have hnI : nb ≠ I := fun z => by obtain ⟨n, e⟩ := hl0; rw [z, hIn] at e; cases e
  have hsz : vs.toArray.size = vs.length := by simp
  refine floop (Walks.list hA'.2.2 I nb hnI vs.toArray) (fun i h' => ∃ m' ra R, Fr h L h' m' ∧ m' (Str.ofString "rows") = some (.ref rw0) ∧ RD (hideAll h' [I]) rw0 ra R ∧ (rw0 :: ra).Nodup ∧ (∀ a ∈ ra, h.get? a = none) ∧ ra.length + tot R ra.length = i + 1 ∧ 0 < ra.length ∧ tot R ra.length = (vs.take i).countP isItem)
    ?_ ⟨hI, (k5.list hl4).is⟩ ⟨_, [lr], fun _ => [], Fr.grow F4 k5, if_pos rfl, RD.inn ⟨k5.list LLL, fun k l e => ?_, fun _ _ => rfl, fun k p x e => by simp at e⟩ (fun a us x => it_ne hI x), by simpa using hne, by simpa using hlr, rfl, by simp, by simp [tot]⟩ ?_ ?_ (fun _ => rfl)
  · rintro i h1 h2 ⟨m', ra, R, Fm, m1, D, nd, hr, q⟩ kk
    refine ⟨m', ra, R, Fr.fr Fm hLI hIn kk, m1, D.at fun a us ⟨n, e⟩ => ⟨n, ?_⟩, nd, hr, q⟩
    have hb : a ∉ [I] := fun z => by rw [hideAll_none _ z] at e; cases e
    exact hideAll_get _ (kk a _ hb (of_hideAll _ e)) hb
  · have : l = lr := by
      cases k with
      | zero => simpa using e.symm
      | succ k => simp at e
    subst this
    exact k5.list ll2
  · rintro i h1 t1 v E' hi hv' ⟨S1, S2⟩ ⟨m', ra, R, Fm, m1, D0, nd, hr, q1, q2, q3⟩
    rw [hsz] at hi
    have gv' : vs[i]? = some v := by simpa using hv'
    have vm : v ∈ vs := List.mem_of_getElem? gv'
    obtain ⟨xv, xu, rfl⟩ := hv v vm
    have D1 := D0.out
    have tk : vs.take (i + 1) = vs.take i ++ [.int xv xu] := by rw [List.take_add_one, gv']; rfl
    refine wpAny_assign_Name (sv Fm (fun h2 t2 F2 s2 => ?_) (by kernel_rfl) (by kernel_rfl))
    have s2L : Heap.SameBut L h1 h2 := s2
    have D2 := D1.at fun a us x => list_but x s2L (ns_ne Fm.ns x)
    have it2 : h2.IsListIter I nb (i + 1) := S1.at fun o e => (s2L.2 I hLI.symm).trans e
    have nb2 : h2.IsList nb vs.toArray := S2.at fun o e => (s2L.2 nb (fun z => by obtain ⟨n, e⟩ := hl0; rw [z, hLn] at e; cases e)).trans e
    have m1' : (fun y => if y = Str.ofString "x" then some (Value.int xv xu) else m' y) (Str.ofString "rows") = some (.ref rw0) := (if_neg (by decide +kernel)).trans m1
    have m2' : (fun y => if y = Str.ofString "x" then some (Value.int xv xu) else m' y) (Str.ofString "x") = some (.int xv xu) := if_pos rfl
    generalize (fun y => if y = Str.ofString "x" then some (Value.int xv xu) else m' y) = m2 at *
    clear Fm D0 D1 S1 S2 s2
    have KX2 := KX.keeps F2.keep
    have n1 := List.nodup_cons.mp nd
    have fin : ∀ h4 t4 ra' R', Fr h L h4 m2 → RD h4 rw0 ra' R' → (rw0 :: ra').Nodup → (∀ a ∈ ra', h.get? a = none) → ra'.length + tot R' ra'.length = i + 2 → 0 < ra'.length → tot R' ra'.length = (vs.take (i + 1)).countP isItem → h4.IsListIter I nb (i + 1) → h4.IsList nb vs.toArray →
        FEnd (fun s₃ => ∃ h' t', s₃ = St h' c t' ∧ (h'.IsListIter I nb (i + 1) ∧ h'.IsList nb vs.toArray) ∧ ∃ m' ra R, Fr h L h' m' ∧ m' (Str.ofString "rows") = some (.ref rw0) ∧ RD (hideAll h' [I]) rw0 ra R ∧ (rw0 :: ra).Nodup ∧ (∀ a ∈ ra, h.get? a = none) ∧ ra.length + tot R ra.length = i + 1 + 1 ∧ 0 < ra.length ∧ tot R ra.length = (vs.take (i + 1)).countP isItem) (fun f s' => True) .next (St h4 c t4) :=
      fun h4 t4 ra' R' a1 a2 a3 a4 a5 a6 a7 a8 a9 => fend_next ⟨h4, t4, rfl, ⟨a8, a9⟩, m2, ra', R', a1, m1', a2.inn fun a us x => it_ne a8 x, a3, a4, a5, a6, a7⟩
    have gnb : h.get? nb ≠ none := fun z => by obtain ⟨n, e⟩ := hl0; rw [z] at e; cases e
    repeat' (walk_at "ww")
    by_cases h0 : xv.fmod 3 = 0
    · refine if_t (by simp [h0]) ?_
      repeat' (walk_at "ww")
      refine gm_append D2.l ?_
      refine callWith_method1 ?_ rfl rfl
      repeat' (walk_at "ww")
      refine nl (Nat.zero_le _) fun h3 nr k3 l3 z3 _ => ?_
      repeat' (walk_at "ww")
      have D3 := D2.at fun a us x => k3.list x
      have hnr2 : h2.get? nr = none := none_of_ge z3
      have ner : ∀ a us, LL h2 a us → nr ≠ a := fun a us ⟨n, e⟩ z => by rw [← z, hnr2] at e; cases e
      refine c_append D3.l (by rw [List.length_map]; omega) fun h4 l4 s4 => ?_
      refine ⟨rfl, ?_⟩
      repeat' (walk_at "ww")
      have l4' : LL h4 rw0 ((ra ++ [nr]).map Value.ref) := by rw [List.map_append]; exact l4
      have hnr : h.get? nr = none := by
        cases q : h.get? nr with
        | none => rfl
        | some o => rw [F2.keep _ _ q] at hnr2; cases hnr2
      refine fin h4 _ (ra ++ [nr]) R (Fr.but (Fr.grow F2 k3) s4 (ns_ne F2.ns D2.l).symm hrw) (D3.row s4 l4' l3 (ner _ _ D2.l) n1.1) ?_ ?_ ?_ ?_ ?_ ?_ ?_
      · rw [← List.cons_append, List.nodup_append]
        refine ⟨nd, by simp, fun x hx y hy => ?_⟩
        rw [List.mem_singleton] at hy
        subst hy
        rcases List.mem_cons.mp hx with rfl | hx
        · exact (ner _ _ D2.l).symm
        · obtain ⟨k, hk, ek⟩ := List.getElem_of_mem hx
          exact (ner _ _ (D2.r k x (by rw [List.getElem?_eq_getElem hk, ek]))).symm
      · intro a ha
        rcases List.mem_append.mp ha with ha | ha
        · exact hr a ha
        · rw [List.mem_singleton] at ha; rw [ha]; exact hnr
      · rw [List.length_append]
        show ra.length + 1 + (tot R ra.length + (R ra.length).length) = _
        rw [D2.e _ (Nat.le_refl _)]
        simp; omega
      · simp
      · rw [List.length_append, tk, List.countP_append]
        show tot R ra.length + (R ra.length).length = _
        rw [D2.e _ (Nat.le_refl _), q3]
        simp [isItem, h0]
      · exact it2.at fun o e => (s4.2 I (it_ne it2 D2.l).symm).trans (k3 _ _ e)
      · exact nb2.at fun o e => (s4.2 nb (fun z => gnb (z ▸ hrw))).trans (k3 _ _ e)
    · refine if_f (by simp [h0]) ?_
      obtain ⟨ra0, lr0, rfl⟩ : ∃ ra0 lr0, ra = ra0 ++ [lr0] := ⟨ra.dropLast, ra.getLast (by intro z; rw [z] at q2; cases q2), (List.dropLast_concat_getLast _).symm⟩
      have lR : LL h2 lr0 ((R ra0.length).map Value.ref) := D2.r _ _ (by simp)
      have dl : LL h2 rw0 (ra0.map Value.ref ++ [.ref lr0]) := by have := D2.l; rw [List.map_append] at this; exact this
      have hlr0 := hr lr0 (by simp)
      have hlen : ra0.length + 1 + (tot R ra0.length + (R ra0.length).length) = i + 1 := by
        have := q1; rw [List.length_append] at this; exact this
      repeat' (walk_at "ww")
      refine it_last dl (by rw [List.length_map]; omega) ?_ (by with_unfolding_all rfl)
      refine gm_append lR ?_
      refine callWith_method1 ?_ rfl rfl
      repeat' (walk_at "ww")
      refine ife (h := h2) (c := c) ?_ ?_ fun iv iu it => ?_
      · repeat' (walk_at "ww")
        exact ⟨_, _, _, rfl, rfl⟩
      · repeat' (walk_at "ww")
        exact ⟨_, _, _, rfl, rfl⟩
      repeat' (walk_at "ww")
      refine i_len D2.l (by rw [List.length_map, List.length_append, List.length_singleton]; omega) fun ul tl => ?_
      repeat' (walk_at "ww")
      refine it_last dl (by rw [List.length_map]; omega) ?_ (by with_unfolding_all rfl)
      repeat' (walk_at "ww")
      refine i_len lR (by rw [List.length_map]; omega) fun ul2 tl2 => ?_
      repeat' (walk_at "ww")
      refine nl (Nat.le_of_ble_eq_true rfl) fun h3 ni k3 l3 z3 _ => ?_
      repeat' (walk_at "ww")
      have e1 : (((ra0 ++ [lr0]).map Value.ref).length : Int) - 1 = (ra0.length : Nat) := by simp
      have e2 : (((R ra0.length).map Value.ref).length : Int) = ((R ra0.length).length : Nat) := by simp
      rw [e1, e2] at l3
      have D3 := D2.at fun a us x => k3.list x
      have hni2 : h2.get? ni = none := none_of_ge z3
      refine c_append (k3.list lR) (by rw [List.length_map]; omega) fun h4 l4 s4 => ?_
      refine ⟨rfl, ?_⟩
      repeat' (walk_at "ww")
      have l4' : LL h4 lr0 ((R ra0.length ++ [ni]).map Value.ref) := by rw [List.map_append]; exact l4
      refine fin h4 _ (ra0 ++ [lr0]) _ (Fr.but (Fr.grow F2 k3) s4 (ns_ne F2.ns lR).symm hlr0) (D3.item l3 s4 l4' nd) nd hr ?_ q2 ?_ ?_ ?_
      · rw [List.length_append]
        show ra0.length + 1 + (tot _ ra0.length + (upd R ra0.length _ ra0.length).length) = _
        rw [show tot (upd R ra0.length (R ra0.length ++ [ni])) ra0.length = tot R ra0.length from tot_congr fun k hk => if_neg (Nat.ne_of_lt hk), show upd R ra0.length (R ra0.length ++ [ni]) ra0.length = R ra0.length ++ [ni] from if_pos rfl, List.length_append]
        simp; omega
      · rw [List.length_append, tk, List.countP_append, ← q3, List.length_append]
        show tot _ ra0.length + (upd R ra0.length _ ra0.length).length = tot R ra0.length + (R ra0.length).length + _
        rw [show tot (upd R ra0.length (R ra0.length ++ [ni])) ra0.length = tot R ra0.length from tot_congr fun k hk => if_neg (Nat.ne_of_lt hk), show upd R ra0.length (R ra0.length ++ [ni]) ra0.length = R ra0.length ++ [ni] from if_pos rfl, List.length_append]
        simp [isItem, h0]; omega
      · exact it2.at fun o e => (s4.2 I (it_ne it2 lR).symm).trans (k3 _ _ e)
      · exact nb2.at fun o e => (s4.2 nb (fun z => gnb (z ▸ hlr0))).trans (k3 _ _ e)
  · rintro h1 t1 ⟨m', ra, R, Fm, m1, D0, nd, hr, q1, q2, q3⟩
    refine co_next ?_
    repeat' (walk_at "ww")
    rw [hsz] at q1 q3
    rw [List.take_of_length_le (Nat.le_refl _)] at q3
    exact H h1 _ rw0 ra R Fm.keep (Nat.le_of_lt Fm.ns.lt) D0.out q1 q2 q3
end T1_
section T2_
open PySem PySem.W PyProof.Rows PySem.W.X
noncomputable def mx (l : List Int) : Int := open Classical in if e : ∃ M, M ∈ l ∧ ∀ a ∈ l, a ≤ M then e.choose else 0
theorem mx_eq {l : List Int} {M : Int} (h1 : M ∈ l) (h2 : ∀ a ∈ l, a ≤ M) : mx l = M := by
  unfold mx
  have e : ∃ M, M ∈ l ∧ ∀ a ∈ l, a ≤ M := ⟨M, h1, h2⟩
  rw [dif_pos e]
  have q := e.choose_spec
  have := h2 _ q.1
  have := q.2 _ h1
  omega
theorem mx_ex : ∀ {l : List Int}, l ≠ [] → ∃ M, M ∈ l ∧ ∀ a ∈ l, a ≤ M
  | [], h => absurd rfl h
  | [x], _ => ⟨x, .head _, fun a h => by rw [List.mem_singleton] at h; omega⟩
  | x :: y :: l, _ => by
    obtain ⟨M, h1, h2⟩ := mx_ex (l := y :: l) (fun z => nomatch z)
    by_cases c : x ≤ M
    · exact ⟨M, .tail _ h1, fun a h => by rcases List.mem_cons.mp h with rfl | h; exact c; exact h2 a h⟩
    · exact ⟨x, .head _, fun a h => by rcases List.mem_cons.mp h with rfl | h; omega; have := h2 a h; omega⟩
theorem mx_spec {l : List Int} (h : l ≠ []) : mx l ∈ l ∧ ∀ a ∈ l, a ≤ mx l := by
  obtain ⟨M, h1, h2⟩ := mx_ex h
  rw [mx_eq h1 h2]
  exact ⟨h1, h2⟩
noncomputable def hval (h : Heap) (x : Addr) : Int := open Classical in if e : ∃ v : Int, ∃ u l, LL h x (.int v u :: l) then e.choose else 0
noncomputable def hrow (h : Heap) (x : Addr) : Int := open Classical in if e : ∃ r : Int, ∃ v u u2 l, LL h x (.int v u :: .int r u2 :: l) then e.choose else 0
noncomputable def hplc (h : Heap) (x : Addr) : Int := open Classical in if e : ∃ p : Int, ∃ v u r u2 u3 l, LL h x (.int v u :: .int r u2 :: .int p u3 :: l) then e.choose else 0
theorem hval_eq {h : Heap} {x : Addr} {v : Int} {u : Tok} {l : List Value} (q : LL h x (.int v u :: l)) : hval h x = v := by
  unfold hval
  have e : ∃ v : Int, ∃ u l, LL h x (.int v u :: l) := ⟨v, u, l, q⟩
  rw [dif_pos e]
  obtain ⟨u', l', q'⟩ := e.choose_spec
  have := LL.inj q' q
  simp only [List.cons.injEq, Value.int.injEq] at this
  exact this.1.1
theorem hrow_eq {h : Heap} {x : Addr} {v r : Int} {u u2 : Tok} {l : List Value} (q : LL h x (.int v u :: .int r u2 :: l)) : hrow h x = r := by
  unfold hrow
  have e : ∃ r : Int, ∃ v u u2 l, LL h x (.int v u :: .int r u2 :: l) := ⟨r, v, u, u2, l, q⟩
  rw [dif_pos e]
  obtain ⟨v', u', u2', l', q'⟩ := e.choose_spec
  have := LL.inj q' q
  simp only [List.cons.injEq, Value.int.injEq] at this
  exact this.2.1.1
theorem hplc_eq {h : Heap} {x : Addr} {v r p : Int} {u u2 u3 : Tok} {l : List Value} (q : LL h x (.int v u :: .int r u2 :: .int p u3 :: l)) : hplc h x = p := by
  unfold hplc
  have e : ∃ p : Int, ∃ v u r u2 u3 l, LL h x (.int v u :: .int r u2 :: .int p u3 :: l) := ⟨p, v, u, r, u2, u3, l, q⟩
  rw [dif_pos e]
  obtain ⟨v', u', r', u2', u3', l', q'⟩ := e.choose_spec
  have := LL.inj q' q
  simp only [List.cons.injEq, Value.int.injEq] at this
  exact this.2.2.1.1
noncomputable def gh (val : Addr → Int) (R : Nat → List Addr) (k p : Nat) : Int := mx (((R k).take (p + 1)).map (half val))
noncomputable def KY (h : Heap) (R : Nat → List Addr) : Ky := ⟨fun x => gh (hval h) R (hrow h x).toNat (hplc h x).toNat, hrow h, hplc h⟩
section
variable {h : Heap} {rw : Addr} {ra : List Addr} {R : Nat → List Addr}
theorem RD.row' (D : RD h rw ra R) {k p : Nat} {x : Addr} (e : (R k)[p]? = some x) : hrow h x = k := let ⟨_, _, _, _, q⟩ := D.i k p x e; hrow_eq q
theorem RD.plc (D : RD h rw ra R) {k p : Nat} {x : Addr} (e : (R k)[p]? = some x) : hplc h x = p := let ⟨_, _, _, _, q⟩ := D.i k p x e; hplc_eq q
theorem RD.M (D : RD h rw ra R) {k p : Nat} {x : Addr} (e : (R k)[p]? = some x) : (KY h R).M x = gh (hval h) R k p := by
  show gh _ _ (hrow h x).toNat (hplc h x).toNat = _
  rw [D.row' e, D.plc e]
  rfl
theorem gh_spec {val : Addr → Int} {k p : Nat} {x : Addr} (e : (R k)[p]? = some x) : (∃ q y, q ≤ p ∧ (R k)[q]? = some y ∧ half val y = gh val R k p) ∧ ∀ q y, q ≤ p → (R k)[q]? = some y → half val y ≤ gh val R k p := by
  have hm : ∀ q y, q ≤ p → (R k)[q]? = some y → y ∈ (R k).take (p + 1) := fun q y hq hy => by
    refine List.mem_of_getElem? (i := q) ?_
    rw [List.getElem?_take_of_lt (by omega)]
    exact hy
  have ne : (((R k).take (p + 1)).map (half val)) ≠ [] := fun z => by
    have := List.mem_map_of_mem (f := half val) (hm p x (Nat.le_refl _) e)
    rw [z] at this
    cases this
  obtain ⟨h1, h2⟩ := mx_spec ne
  refine ⟨?_, fun q y hq hy => h2 _ (List.mem_map_of_mem (hm q y hq hy))⟩
  obtain ⟨y, hy, e2⟩ := List.mem_map.mp h1
  obtain ⟨q, hq⟩ := get_mem hy
  have hlt : q < p + 1 := by
    rcases Nat.lt_or_ge q (p + 1) with h | h
    · exact h
    · rw [List.getElem?_take] at hq
      rw [if_neg (by omega)] at hq
      cases hq
  rw [List.getElem?_take_of_lt hlt] at hq
  exact ⟨q, y, by omega, hq, e2⟩
theorem RD.good (D : RD h rw ra R) : Good (hval h) (KY h R) R := by
  have mono : ∀ {k p q : Nat} {x y : Addr}, p ≤ q → (R k)[p]? = some x → (R k)[q]? = some y → (KY h R).M x ≤ (KY h R).M y := fun {k p q x y} hpq hx hy => by
    rw [D.M hx, D.M hy]
    obtain ⟨⟨r, z, h1, h2, h3⟩, _⟩ := gh_spec (val := hval h) hx
    obtain ⟨_, g2⟩ := gh_spec (val := hval h) hy
    rw [← h3]
    exact g2 r z (by omega) h2
  refine ⟨fun k => ?_, fun i j x y hij hx hy => ?_, fun k x hx => ?_, fun k x hx => ?_⟩
  · rw [List.pairwise_iff_getElem]
    intro i j hi hj hij
    have ei := List.getElem?_eq_getElem hi
    have ej := List.getElem?_eq_getElem hj
    have := mono (Nat.le_of_lt hij) ei ej
    have r1 : (KY h R).rr (R k)[i] = k := D.row' ei
    have r2 : (KY h R).rr (R k)[j] = k := D.row' ej
    have p1 : (KY h R).kk (R k)[i] = i := D.plc ei
    have p2 : (KY h R).kk (R k)[j] = j := D.plc ej
    rcases Int.lt_or_eq_of_le this with g | g
    · exact .inl g
    · exact .inr ⟨g, .inr ⟨r1.trans r2.symm, by rw [p1, p2]; exact Int.ofNat_lt.mpr hij⟩⟩
  · obtain ⟨p, ep⟩ := get_mem hx
    obtain ⟨q, eq⟩ := get_mem hy
    have r1 : (KY h R).rr x = i := D.row' ep
    have r2 : (KY h R).rr y = j := D.row' eq
    omega
  · obtain ⟨p, ep⟩ := get_mem hx
    rw [D.M ep]
    exact (gh_spec ep).2 p x (Nat.le_refl _) ep
  · obtain ⟨p, ep⟩ := get_mem hx
    obtain ⟨⟨q, y, h1, h2, h3⟩, _⟩ := gh_spec (val := hval h) ep
    refine ⟨y, List.mem_of_getElem? h2, by rw [D.M ep]; exact h3, ?_⟩
    by_cases e : q = p
    · subst e
      rw [ep] at h2
      exact .inl (Option.some.inj h2).symm
    · right
      have m1 := mono h1 h2 ep
      have r1 : (KY h R).rr x = k := D.row' ep
      have r2 : (KY h R).rr y = k := D.row' h2
      have p1 : (KY h R).kk x = p := D.plc ep
      have p2 : (KY h R).kk y = q := D.plc h2
      unfold Kl
      omega
end
noncomputable def two (a b : List Addr) : Nat → List Addr
  | 0 => a
  | 1 => b
  | _ => []
theorem good_two {val : Addr → Int} {K : Ky} {R : Nat → List Addr} {a b : List Addr} {I J : Nat → Prop} (G : Good val K R) (sa : a.Pairwise (Kl K)) (sb : b.Pairwise (Kl K)) (ma : ∀ y, y ∈ a ↔ ∃ k, I k ∧ y ∈ R k) (mb : ∀ y, y ∈ b ↔ ∃ k, J k ∧ y ∈ R k) (IJ : ∀ i j, I i → J j → i < j) :
    Good val K (two a b) := by
  refine ⟨fun k => ?_, fun i j x y hij hx hy => ?_, fun k x hx => ?_, fun k x hx => ?_⟩
  · match k with
    | 0 => exact sa
    | 1 => exact sb
    | _ + 2 => exact .nil
  · match i, j, hij with
    | 0, 1, _ =>
      obtain ⟨k1, h1, e1⟩ := (ma x).mp hx
      obtain ⟨k2, h2, e2⟩ := (mb y).mp hy
      exact G.c2 k1 k2 x y (IJ _ _ h1 h2) e1 e2
    | 0, _ + 2, _ => cases hy
    | 1, _ + 2, _ => cases hy
    | _ + 2, _, _ => cases hx
  · match k with
    | 0 => obtain ⟨k, _, e⟩ := (ma x).mp hx; exact G.c3 k x e
    | 1 => obtain ⟨k, _, e⟩ := (mb x).mp hx; exact G.c3 k x e
    | _ + 2 => cases hx
  · match k with
    | 0 =>
      obtain ⟨k, h, e⟩ := (ma x).mp hx
      obtain ⟨y, q1, q2⟩ := G.c4 k x e
      exact ⟨y, (ma y).mpr ⟨k, h, q1⟩, q2⟩
    | 1 =>
      obtain ⟨k, h, e⟩ := (mb x).mp hx
      obtain ⟨y, q1, q2⟩ := G.c4 k x e
      exact ⟨y, (mb y).mpr ⟨k, h, q1⟩, q2⟩
    | _ + 2 => cases hx
theorem mg_good {val : Addr → Int} {K : Ky} {S : Nat → List Addr} {out : List Addr} (m : Mg val S out) (G : Good val K S) : out.Pairwise (Kl K) ∧ ∀ y, y ∈ out ↔ ∃ k, y ∈ S k :=
  mg_sorted m (fun _ => []) (by simpa using G) (fun i x j y h => by cases h)
theorem mg_two {val : Addr → Int} {K : Ky} {R : Nat → List Addr} {a b out : List Addr} {I J : Nat → Prop} (G : Good val K R) (sa : a.Pairwise (Kl K)) (sb : b.Pairwise (Kl K)) (ma : ∀ y, y ∈ a ↔ ∃ k, I k ∧ y ∈ R k) (mb : ∀ y, y ∈ b ↔ ∃ k, J k ∧ y ∈ R k) (IJ : ∀ i j, I i → J j → i < j) (m : Mg val (two a b) out) :
    out.Pairwise (Kl K) ∧ ∀ y, y ∈ out ↔ ∃ k, (I k ∨ J k) ∧ y ∈ R k := by
  obtain ⟨s, q⟩ := mg_good m (good_two G sa sb ma mb IJ)
  refine ⟨s, fun y => (q y).trans ⟨fun ⟨k, e⟩ => ?_, fun ⟨k, h, e⟩ => ?_⟩⟩
  · match k, e with
    | 0, e => obtain ⟨k, h, e⟩ := (ma y).mp e; exact ⟨k, .inl h, e⟩
    | 1, e => obtain ⟨k, h, e⟩ := (mb y).mp e; exact ⟨k, .inr h, e⟩
    | _ + 2, e => cases e
  · rcases h with h | h
    · exact ⟨0, (ma y).mpr ⟨k, h, e⟩⟩
    · exact ⟨1, (mb y).mpr ⟨k, h, e⟩⟩
theorem Kl.nd {K : Ky} {l : List Addr} (s : l.Pairwise (Kl K)) : l.Nodup := s.imp fun {a b} h z => by subst z; exact Kl.asymm h h
theorem flat_len {R : Nat → List Addr} : ∀ n, ((List.range n).flatMap R).length = tot R n
  | 0 => rfl
  | n + 1 => by rw [List.range_succ, List.flatMap_append, List.length_append, flat_len n]; show _ = tot R n + (R n).length; simp
theorem out_len {K : Ky} {R : Nat → List Addr} {n : Nat} {out : List Addr} (s : out.Pairwise (Kl K)) (h : ∀ y ∈ out, ∃ k, k < n ∧ y ∈ R k) : out.length ≤ tot R n := by
  rw [← flat_len]
  refine nd_le (Kl.nd s) fun y hy => ?_
  obtain ⟨k, hk, e⟩ := h y hy
  exact List.mem_flatMap.mpr ⟨k, List.mem_range.mpr hk, e⟩
end T2_
section Q1_
open PySem PySem.W PyProof.Rows
noncomputable def runT {α : Type} (o : Nat → Nat → Bool) : KasT α → α
  | .ret a => a
  | .ask i j k => runT o (k (o i j))
theorem runT_bind {α β : Type} {o : Nat → Nat → Bool} {f : α → KasT β} : ∀ t : KasT α, runT o (t.bind f) = runT o (f (runT o t))
  | .ret _ => rfl
  | .ask i j k => runT_bind (k (o i j))
theorem wp_run {α : Type} {cmp : Nat → Nat → (Bool → Shared → Prop) → Shared → Prop} {o : Nat → Nat → Bool} {I : Shared → Prop} (hc : ∀ i j (Q : Bool → Shared → Prop) s, I s → (∀ s', I s' → Q (o i j) s') → cmp i j Q s) {Q : α → Shared → Prop} :
    ∀ (t : KasT α) (s : Shared), I s → (∀ s', I s' → Q (runT o t) s') → t.kasWp cmp Q s
  | .ret a, s, hs, H => H s hs
  | .ask i j k, s, hs, H => hc i j _ s hs fun s' hs' => wp_run hc (k (o i j)) s' hs' H
noncomputable def Asc (o : Nat → Nat → Bool) (p : Array Nat) (k : Nat) : Prop := ∀ i j, i < j → j < k → o (p.getD i 0) (p.getD j 0) = true
theorem asc_run {o : Nat → Nat → Bool} (tr : ∀ a b c, o a b = true → o b c = true → o a c = true) (tot : ∀ a b, a ≠ b → o a b = false → o b a = true) {p : Array Nat} (nd : ∀ i j, i < j → j < p.size → p.getD i 0 ≠ p.getD j 0) :
    ∀ (f n : Nat), 0 < n → n + f ≤ p.size → Asc o p n → Asc o p (runT o (kas_asc p f n)) ∧ n ≤ runT o (kas_asc p f n) ∧ runT o (kas_asc p f n) ≤ n + f ∧ (runT o (kas_asc p f n) < n + f → o (p.getD (runT o (kas_asc p f n)) 0) (p.getD (runT o (kas_asc p f n) - 1) 0) = true)
  | 0, n, h0, hs, ha => ⟨ha, Nat.le_refl _, Nat.le_refl _, fun h => absurd h (Nat.lt_irrefl _)⟩
  | f + 1, n, h0, hs, ha => by
    unfold kas_asc
    show Asc o p (runT o (if o (p.getD n 0) (p.getD (n - 1) 0) = true then .ret n else kas_asc p f (n + 1))) ∧ _ ≤ runT o (if o (p.getD n 0) (p.getD (n - 1) 0) = true then .ret n else kas_asc p f (n + 1)) ∧ runT o (if o (p.getD n 0) (p.getD (n - 1) 0) = true then .ret n else kas_asc p f (n + 1)) ≤ _ ∧ (runT o (if o (p.getD n 0) (p.getD (n - 1) 0) = true then .ret n else kas_asc p f (n + 1)) < _ → o (p.getD (runT o (if o (p.getD n 0) (p.getD (n - 1) 0) = true then .ret n else kas_asc p f (n + 1))) 0) (p.getD (runT o (if o (p.getD n 0) (p.getD (n - 1) 0) = true then .ret n else kas_asc p f (n + 1)) - 1) 0) = true)
    by_cases c : o (p.getD n 0) (p.getD (n - 1) 0) = true
    · rw [if_pos c]
      exact ⟨ha, Nat.le_refl _, by show n ≤ _; omega, fun _ => c⟩
    · rw [if_neg c]
      have c' : o (p.getD (n - 1) 0) (p.getD n 0) = true := tot _ _ (fun z => nd (n - 1) n (by omega) (by omega) z.symm) (by simpa using c)
      have ha' : Asc o p (n + 1) := fun i j hij hj => by
        by_cases e : j = n
        · subst e
          by_cases e2 : i = j - 1
          · subst e2; exact c'
          · exact tr _ _ _ (ha i (j - 1) (by omega) (by omega)) c'
        · exact ha i j hij (by omega)
      obtain ⟨q1, q2, q3, q4⟩ := asc_run tr tot nd f (n + 1) (by omega) (by omega) ha'
      exact ⟨q1, by omega, by omega, fun h => q4 (by omega)⟩
end Q1_
section Q2_
open PySem PySem.W PyProof.Rows
theorem place_run {o : Nat → Nat → Bool} (tr : ∀ a b c, o a b = true → o b c = true → o a c = true) (tot : ∀ a b, a ≠ b → o a b = false → o b a = true) {p : Array Nat} {k : Nat} (hk : k < p.size) (nd : ∀ i j, i < j → j < p.size → p.getD i 0 ≠ p.getD j 0) (ha : Asc o p k) :
    ∀ (f l r : Nat), r - l ≤ f → l ≤ r → r ≤ k → (∀ i, i < l → o (p.getD i 0) (p.getD k 0) = true) → (∀ i, r ≤ i → i < k → o (p.getD k 0) (p.getD i 0) = true) →
      runT o (kas_place p k f l r) ≤ k ∧ (∀ i, i < runT o (kas_place p k f l r) → o (p.getD i 0) (p.getD k 0) = true) ∧ (∀ i, runT o (kas_place p k f l r) ≤ i → i < k → o (p.getD k 0) (p.getD i 0) = true)
  | 0, l, r, hf, hl, hr, A, B => by
    unfold kas_place
    exact ⟨by show l ≤ k; omega, A, fun i h1 h2 => B i (by have : l ≤ i := h1; omega) h2⟩
  | f + 1, l, r, hf, hl, hr, A, B => by
    unfold kas_place
    by_cases c : l ≥ r
    · rw [if_pos c]
      exact ⟨by show l ≤ k; omega, A, fun i h1 h2 => B i (by have : l ≤ i := h1; omega) h2⟩
    · rw [if_neg c]
      have key : ∀ b, b = o (p.getD k 0) (p.getD ((l + r) / 2) 0) → runT o (if b = true then kas_place p k f l ((l + r) / 2) else kas_place p k f ((l + r) / 2 + 1) r) ≤ k ∧ (∀ i, i < runT o (if b = true then kas_place p k f l ((l + r) / 2) else kas_place p k f ((l + r) / 2 + 1) r) → o (p.getD i 0) (p.getD k 0) = true) ∧ (∀ i, runT o (if b = true then kas_place p k f l ((l + r) / 2) else kas_place p k f ((l + r) / 2 + 1) r) ≤ i → i < k → o (p.getD k 0) (p.getD i 0) = true) := by
        intro b hb
        cases b with
        | true =>
          rw [if_pos rfl]
          refine place_run tr tot hk nd ha f l ((l + r) / 2) (by omega) (by omega) (by omega) A fun i h1 h2 => ?_
          by_cases e : i = (l + r) / 2
          · rw [e]; exact hb.symm
          · exact tr _ _ _ hb.symm (ha ((l + r) / 2) i (by omega) h2)
        | false =>
          rw [if_neg (by decide)]
          have c' : o (p.getD ((l + r) / 2) 0) (p.getD k 0) = true := tot _ _ (fun z => nd ((l + r) / 2) k (by omega) hk z.symm) hb.symm
          refine place_run tr tot hk nd ha f ((l + r) / 2 + 1) r (by omega) (by omega) hr (fun i h1 => ?_) B
          by_cases e : i = (l + r) / 2
          · rw [e]; exact c'
          · exact tr _ _ _ (ha i ((l + r) / 2) (by omega) (by omega)) c'
      exact key _ rfl
end Q2_
section Q3_
open PySem PySem.W PyProof.Rows
theorem bub_get {p : Array Nat} {k l : Nat} (hk : k < p.size) (hl : l ≤ k) (i : Nat) : (bubble p k (k - l)).getD i 0 = if i = l then p.getD k 0 else if l < i ∧ i ≤ k then p.getD (i - 1) 0 else p.getD i 0 := by
  rw [Array.getD_eq_getD_getElem?, getElem?_bubble hk (k - l) (by omega), show k - (k - l) = l from by omega]
  simp only [Array.getD_eq_getD_getElem?]
  by_cases h1 : i = l
  · rw [if_pos h1, if_pos h1]
  · rw [if_neg h1, if_neg h1]
    by_cases h2 : l < i ∧ i ≤ k
    · rw [if_pos h2, if_pos h2]
    · rw [if_neg h2, if_neg h2]
noncomputable def Nd (p : Array Nat) : Prop := ∀ i j, i < j → j < p.size → p.getD i 0 ≠ p.getD j 0
theorem bub_nd {p : Array Nat} {k l : Nat} (hk : k < p.size) (hl : l ≤ k) (nd : Nd p) : Nd (bubble p k (k - l)) := by
  intro i j hij hj
  rw [bubble_size] at hj
  have ne : ∀ a b, a ≠ b → a < p.size → b < p.size → p.getD a 0 ≠ p.getD b 0 := fun a b h1 h2 h3 => by
    rcases Nat.lt_or_gt_of_ne h1 with h | h
    · exact nd a b h h3
    · exact fun z => nd b a h h2 z.symm
  rw [bub_get hk hl, bub_get hk hl]
  generalize hg : (fun i => p.getD i 0) = g
  have ge : ∀ i, p.getD i 0 = g i := fun i => by rw [← hg]
  simp only [ge] at ne ⊢
  repeat' split
  all_goals first | (exfalso; omega) | (apply ne <;> omega)
theorem bin_run {o : Nat → Nat → Bool} (tr : ∀ a b c, o a b = true → o b c = true → o a c = true) (tot : ∀ a b, a ≠ b → o a b = false → o b a = true) :
    ∀ (f : Nat) (p : Array Nat) (k : Nat), k + f = p.size → Nd p → Asc o p k → (runT o (kas_bin f p k)).Perm p ∧ Asc o (runT o (kas_bin f p k)) p.size
  | 0, p, k, hf, nd, ha => by
    unfold kas_bin
    exact ⟨Array.Perm.refl _, by rw [← hf]; exact ha⟩
  | f + 1, p, k, hf, nd, ha => by
    unfold kas_bin
    rw [runT_bind]
    have hk : k < p.size := by omega
    obtain ⟨q1, q2, q3⟩ := place_run tr tot hk nd ha k 0 k (by omega) (by omega) (Nat.le_refl _) (fun i h => absurd h (by omega)) (fun i h1 h2 => absurd h1 (by omega))
    generalize runT o (kas_place p k k 0 k) = l at *
    have ha' : Asc o (bubble p k (k - l)) (k + 1) := fun i j hij hj => by
      rw [bub_get hk q1, bub_get hk q1]
      unfold Asc at ha
      generalize hg : (fun i => p.getD i 0) = g
      have ge : ∀ i, p.getD i 0 = g i := fun i => by rw [← hg]
      simp only [ge] at q2 q3 ha ⊢
      repeat' split
      all_goals first
        | (exfalso; omega)
        | (apply q2; omega)
        | (apply q3 <;> omega)
        | (apply ha <;> omega)
    obtain ⟨r1, r2⟩ := bin_run tr tot f (bubble p k (k - l)) (k + 1) (by rw [bubble_size]; omega) (bub_nd hk q1 nd) ha'
    rw [bubble_size] at r2
    exact ⟨r1.trans (bubble_perm _ _ _), r2⟩
end Q3_
section Q4_
open PySem PySem.W PyProof.Rows
noncomputable def Dsc (o : Nat → Nat → Bool) (p : Array Nat) (k : Nat) : Prop := ∀ i j, i < j → j < k → o (p.getD j 0) (p.getD i 0) = true
theorem desc_run {o : Nat → Nat → Bool} (tr : ∀ a b c, o a b = true → o b c = true → o a c = true) (tot : ∀ a b, a ≠ b → o a b = false → o b a = true) {p : Array Nat} (nd : Nd p) :
    ∀ (f n : Nat), 0 < n → n + f ≤ p.size → Dsc o p n → ∃ m, runT o (kas_desc f p n 0) = (p, m, 0) ∧ Dsc o p m ∧ n ≤ m ∧ m ≤ n + f
  | 0, n, h0, hs, ha => ⟨n, rfl, ha, Nat.le_refl _, Nat.le_refl _⟩
  | f + 1, n, h0, hs, ha => by
    cases c : o (p.getD n 0) (p.getD (n - 1) 0) with
    | true =>
      have ha' : Dsc o p (n + 1) := fun i j hij hj => by
        by_cases e : j = n
        · subst e
          by_cases e2 : i = j - 1
          · subst e2; exact c
          · exact tr _ _ _ c (ha i (j - 1) (by omega) (by omega))
        · exact ha i j hij (by omega)
      obtain ⟨m, q1, q2, q3, q4⟩ := desc_run tr tot nd f (n + 1) (by omega) (by omega) ha'
      refine ⟨m, ?_, q2, by omega, by omega⟩
      unfold kas_desc
      simp only [runT, c, if_true]
      exact q1
    | false =>
      have c' : o (p.getD (n - 1) 0) (p.getD n 0) = true := tot _ _ (fun z => nd (n - 1) n (by omega) (by omega) z.symm) c
      refine ⟨n, ?_, ha, Nat.le_refl _, by omega⟩
      unfold kas_desc
      simp only [runT, c, c', Bool.false_eq_true, if_false, if_true]
end Q4_
section Q5_
open PySem PySem.W PyProof.Rows
theorem mir_get {p : Array Nat} {n : Nat} (hn : n ≤ p.size) (i : Nat) : (kas_rev p 0 n).getD i 0 = if i < n then p.getD (n - 1 - i) 0 else p.getD i 0 := by
  unfold kas_rev
  rw [Array.getD_eq_getD_getElem?, getElem?_mirror_all hn]
  simp only [Array.getD_eq_getD_getElem?, Nat.zero_le, true_and, Nat.zero_add]
  by_cases h1 : i < n
  · rw [if_pos h1, if_pos h1]
  · rw [if_neg h1, if_neg h1]
theorem mir_nd {p : Array Nat} {n : Nat} (hn : n ≤ p.size) (nd : Nd p) : Nd (kas_rev p 0 n) := by
  intro i j hij hj
  have hz : (kas_rev p 0 n).size = p.size := mirror_size _ _ _ _
  rw [hz] at hj
  have ne : ∀ a b, a ≠ b → a < p.size → b < p.size → p.getD a 0 ≠ p.getD b 0 := fun a b h1 h2 h3 => by
    rcases Nat.lt_or_gt_of_ne h1 with h | h
    · exact nd a b h h3
    · exact fun z => nd b a h h2 z.symm
  rw [mir_get hn, mir_get hn]
  generalize hg : (fun i => p.getD i 0) = g
  have ge : ∀ i, p.getD i 0 = g i := fun i => by rw [← hg]
  simp only [ge] at ne ⊢
  repeat' split
  all_goals first | (exfalso; omega) | (apply ne <;> omega)
theorem mir_asc {o : Nat → Nat → Bool} {p : Array Nat} {n : Nat} (hn : n ≤ p.size) (h : Dsc o p n) : Asc o (kas_rev p 0 n) n := fun i j hij hj => by
  rw [mir_get hn, mir_get hn, if_pos (by omega), if_pos hj]
  exact h _ _ (by omega) (by omega)
end Q5_
section Q6_
open PySem PySem.W PyProof.Rows
theorem count_run {o : Nat → Nat → Bool} (tr : ∀ a b c, o a b = true → o b c = true → o a c = true) (tot : ∀ a b, a ≠ b → o a b = false → o b a = true) {p : Array Nat} (nd : Nd p) {n : Nat} (hn : n = p.size) (h2 : 2 ≤ n) :
    ∃ m p', runT o (kas_count n p) = (m, p') ∧ p'.Perm p ∧ Nd p' ∧ 1 ≤ m ∧ m ≤ n ∧ Asc o p' m := by
  obtain ⟨a1, a2, a3, a4⟩ := asc_run tr tot nd (n - 1) 1 (by omega) (by omega) (fun i j h1 h2 => absurd h2 (by omega))
  unfold kas_count
  rw [runT_bind]
  generalize runT o (kas_asc p (n - 1) 1) = k at *
  by_cases e : k = n
  · subst e
    rw [if_pos (by simp)]
    exact ⟨k, p, rfl, Array.Perm.refl _, nd, a2, by omega, a1⟩
  · rw [if_neg (by simpa using e)]
    by_cases e1 : k > 1
    · rw [if_pos e1]
      have c : o (p.getD 0 0) (p.getD (k - 1) 0) = true := a1 0 (k - 1) (by omega) (by omega)
      refine ⟨k, p, ?_, Array.Perm.refl _, nd, a2, by omega, a1⟩
      simp only [runT, c, if_true]
    · rw [if_neg e1]
      have ek : k = 1 := by omega
      subst ek
      have c := a4 (by omega)
      unfold kas_descPart
      rw [runT_bind]
      obtain ⟨m, q1, q2, q3, q4⟩ := desc_run tr tot nd (n - (1 + 1)) (1 + 1) (by omega) (by omega) (fun i j h1 h2 => by
        have : i = 0 := by omega
        have : j = 1 := by omega
        subst_vars
        exact c)
      rw [q1]
      simp only [gt_iff_lt, Nat.lt_irrefl, if_false]
      unfold kas_tail3
      rw [runT_bind]
      have hm : m ≤ p.size := by omega
      have hz : (kas_rev p 0 m).size = p.size := mirror_size _ _ _ _
      obtain ⟨b1, b2, b3, _⟩ := asc_run tr tot (mir_nd hm nd) (n - m) m (by omega) (by rw [hz]; omega) (mir_asc hm q2)
      exact ⟨_, _, rfl, mirror_perm _ _ _ _, mir_nd hm nd, by omega, by omega, b1⟩
theorem sort_run {o : Nat → Nat → Bool} (tr : ∀ a b c, o a b = true → o b c = true → o a c = true) (tot : ∀ a b, a ≠ b → o a b = false → o b a = true) {n : Nat} (h2 : 2 ≤ n) :
    (runT o (kas_sort n)).Perm (List.range n).toArray ∧ Asc o (runT o (kas_sort n)) n := by
  have nd : Nd (List.range n).toArray := fun i j hij hj => by
    simp only [List.size_toArray, List.length_range] at hj
    simp [hj, Nat.lt_trans hij hj]
    omega
  obtain ⟨m, p', e, pp, nd', h1, hm, ha⟩ := count_run tr tot nd (n := n) (by simp) h2
  unfold kas_sort
  rw [runT_bind, e]
  have hz : p'.size = n := by rw [pp.size_eq]; simp
  by_cases c : m < n
  · rw [if_pos c]
    have e2 : max m 1 = m := by omega
    simp only [e2]
    obtain ⟨r1, r2⟩ := bin_run tr tot (n - m) p' m (by omega) nd' ha
    rw [hz] at r2
    exact ⟨r1.trans pp, r2⟩
  · rw [if_neg c]
    have : m = n := by omega
    subst this
    exact ⟨pp, ha⟩
end Q6_
section Q7_
open PySem PySem.W PyProof.Rows
noncomputable def Tr {α : Type} (n : Nat) (R : α → Prop) : KasT α → Prop
  | .ret a => R a
  | .ask i j k => i < n ∧ j < n ∧ ∀ b, Tr n R (k b)
theorem Tr.bind {α β : Type} {n : Nat} {R : α → Prop} {R' : β → Prop} {f : α → KasT β} (hf : ∀ a, R a → Tr n R' (f a)) : ∀ t : KasT α, Tr n R t → Tr n R' (t.bind f)
  | .ret a, h => hf a h
  | .ask _ _ k, h => ⟨h.1, h.2.1, fun b => Tr.bind hf (k b) (h.2.2 b)⟩
theorem wp_runB {α : Type} {n : Nat} {R : α → Prop} {cmp : Nat → Nat → (Bool → Shared → Prop) → Shared → Prop} {o : Nat → Nat → Bool} {I : Shared → Prop} (hc : ∀ i j (Q : Bool → Shared → Prop) s, i < n → j < n → I s → (∀ s', I s' → Q (o i j) s') → cmp i j Q s) {Q : α → Shared → Prop} :
    ∀ (t : KasT α) (s : Shared), Tr n R t → I s → (∀ s', I s' → Q (runT o t) s') → t.kasWp cmp Q s
  | .ret _, s, _, hs, H => H s hs
  | .ask i j k, s, ht, hs, H => hc i j _ s ht.1 ht.2.1 hs fun s' hs' => wp_runB hc (k (o i j)) s' (ht.2.2 _) hs' H
noncomputable def Bd (n : Nat) (p : Array Nat) : Prop := ∀ i, p.getD i 0 < n
theorem Bd.of {n : Nat} {p : Array Nat} (h0 : 0 < n) (h : ∀ x ∈ p, x < n) : Bd n p := fun i => by
  rw [Array.getD_eq_getD_getElem?]
  cases e : p[i]? with
  | none => exact h0
  | some x => exact h x (Array.mem_of_getElem? e)
theorem Bd.mem {n : Nat} {p : Array Nat} (h : Bd n p) : ∀ x ∈ p, x < n := fun x hx => by
  obtain ⟨i, hi, e⟩ := Array.getElem_of_mem hx
  have := h i
  rw [Array.getD_eq_getD_getElem?, Array.getElem?_eq_getElem hi, e] at this
  exact this
theorem Bd.perm {n : Nat} {p q : Array Nat} (h : Bd n p) (e : q.Perm p) : Bd n q := Bd.of (Nat.lt_of_le_of_lt (Nat.zero_le _) (h 0)) fun x hx => h.mem x (e.mem_iff.mp hx)
theorem Bd.rev {n : Nat} {p : Array Nat} (h : Bd n p) (i j : Nat) : Bd n (kas_rev p i j) := h.perm (mirror_perm _ _ _ _)
theorem tr_asc {n : Nat} {p : Array Nat} (h : Bd n p) : ∀ f k, Tr n (fun _ => True) (kas_asc p f k)
  | 0, _ => trivial
  | f + 1, k => by
    unfold kas_asc
    refine ⟨h _, h _, fun b => ?_⟩
    cases b with
    | true => exact trivial
    | false => exact tr_asc h f (k + 1)
theorem tr_desc {n : Nat} : ∀ f {p : Array Nat} k q, Bd n p → Tr n (fun r : Array Nat × Nat × Nat => Bd n r.1) (kas_desc f p k q)
  | 0, _, _, _, h => h
  | f + 1, p, k, q, h => by
    unfold kas_desc
    refine ⟨h _, h _, fun b => ?_⟩
    cases b with
    | true =>
      dsimp only
      rw [if_pos rfl]
      split
      · exact tr_desc f _ _ (h.rev _ _)
      · exact tr_desc f _ _ h
    | false =>
      dsimp only
      rw [if_neg (by decide)]
      refine ⟨h _, h _, fun d => ?_⟩
      cases d with
      | true => exact h
      | false => exact tr_desc f _ _ h
theorem tr_tail3 {n m nrem : Nat} {p : Array Nat} (h : Bd n p) : Tr n (fun r : Nat × Array Nat => Bd n r.2) (kas_tail3 m nrem p) := by
  refine Tr.bind (R := fun _ => True) (fun a _ => ?_) _ (tr_asc (h.rev _ _) _ _)
  exact h.rev _ _
theorem tr_descPart {n m nrem : Nat} {p : Array Nat} (h : Bd n p) : Tr n (fun r : Nat × Array Nat => Bd n r.2) (kas_descPart m nrem p) := by
  refine Tr.bind (fun r hr => ?_) _ (tr_desc _ _ _ h)
  split
  · exact tr_tail3 (hr.rev _ _)
  · exact tr_tail3 hr
theorem tr_count {n nrem : Nat} {p : Array Nat} (h : Bd n p) : Tr n (fun r : Nat × Array Nat => Bd n r.2) (kas_count nrem p) := by
  refine Tr.bind (fun r _ => ?_) _ (tr_asc h _ _)
  split
  · exact h
  · split
    · refine ⟨h _, h _, fun b => ?_⟩
      cases b with
      | true => exact h
      | false => exact tr_descPart (h.rev _ _)
    · exact tr_descPart h
theorem tr_place {n k : Nat} {p : Array Nat} (h : Bd n p) : ∀ f l r, Tr n (fun _ => True) (kas_place p k f l r)
  | 0, _, _ => trivial
  | f + 1, l, r => by
    unfold kas_place
    split
    · exact trivial
    · refine ⟨h _, h _, fun b => ?_⟩
      cases b with
      | true => exact tr_place h f _ _
      | false => exact tr_place h f _ _
theorem tr_bin {n : Nat} : ∀ f {p : Array Nat} k, Bd n p → Tr n (fun _ => True) (kas_bin f p k)
  | 0, _, _, _ => trivial
  | f + 1, p, k, h => by
    unfold kas_bin
    exact Tr.bind (fun _ _ => tr_bin f _ (h.perm (bubble_perm _ _ _))) _ (tr_place h _ _ _)
theorem tr_sort {n : Nat} (h0 : 0 < n) : Tr n (fun _ => True) (kas_sort n) := by
  unfold kas_sort
  refine Tr.bind (fun r hr => ?_) _ (tr_count (Bd.of h0 fun x hx => by simpa using hx))
  split
  · exact tr_bin _ _ hr
  · exact trivial
end Q7_
section T3_
open PySem PySem.W PyProof.Rows PySem.W.X
open PySem.SeqAt PySem.AutoSeq1 PySem.MeetsSeq PySem.MeetsSeq2 PySem.MeetsSeq3
noncomputable def lexlt : List (Int × Tok) → List (Int × Tok) → Bool
  | x :: xs, y :: ys => if x.1 = y.1 then lexlt xs ys else decide (x.1 < y.1)
  | _, _ => false
noncomputable abbrev iv (p : Int × Tok) : Value := .int p.1 p.2
theorem lt_loop (l b : Addr) (xs ys : List (Int × Tok)) (n n2 : Nat) (hsz : xs.length = ys.length) (k : Nat) :
    ∀ i : Nat, xs.length - i = k → Meets (Builtin.«list.__eq__.loop» ⟨[.ref l, .ref b, rawInt i, rawInt 0], []⟩)
      (fun _ R s => s.heap.get? l = some { cls := .type "list", dict := none, data := .seq (xs.map iv).toArray n, slots := #[] } ∧ s.heap.get? b = some { cls := .type "list", dict := none, data := .seq (ys.map iv).toArray n2, slots := #[] } ∧
        R (.ok (.ret (.bool (lexlt (xs.drop i) (ys.drop i))))) s) := by
  induction k with
  | zero =>
    intro i hk prog w A R s h
    obtain ⟨hp, g, d, tk, os⟩ := s; obtain ⟨hl, hb, h⟩ := h
    wp_walk using wpAny_loadPart' hl, wpAny_loadPart' hb
    have hi1 : (xs.map iv).toArray[((i : Nat) : Int).toNat]? = none := by simp; omega
    have hi2 : (ys.map iv).toArray[((i : Nat) : Int).toNat]? = none := by simp; omega
    have hd : xs.drop i = [] := List.drop_of_length_le (by omega)
    rw [hd] at h
    rw [hi1, hi2]
    wp_walk using wpAny_loadPart' hl, wpAny_loadPart' hb
    show R (.ok (.ret (.bool (decide ((xs.map iv).toArray.size < (ys.map iv).toArray.size))))) _
    have : decide ((xs.map iv).toArray.size < (ys.map iv).toArray.size) = false := by simp; omega
    rw [this]
    exact h
  | succ k ih =>
    intro i hk prog w A R s h
    obtain ⟨hp, g, d, tk, os⟩ := s; obtain ⟨hl, hb, h⟩ := h
    wp_walk using wpAny_loadPart' hl, wpAny_loadPart' hb
    have hlt : i < xs.length := by omega
    have hlt2 : i < ys.length := by omega
    have hi1 : (xs.map iv).toArray[((i : Nat) : Int).toNat]? = some (iv xs[i]) := by simp [hlt]
    have hi2 : (ys.map iv).toArray[((i : Nat) : Int).toNat]? = some (iv ys[i]) := by simp [hlt2]
    have hc : ((i : Int) + 1) = ((i + 1 : Nat) : Int) := by push_cast; rfl
    rw [List.drop_eq_getElem_cons hlt, List.drop_eq_getElem_cons hlt2] at h
    rw [hi1, hi2]
    refine wpAny_bind (EqAt.int_int xs[i].1 xs[i].2 ys[i].1 ys[i].2 prog w _ _ ?_)
    unfold lexlt at h
    by_cases e : xs[i].1 = ys[i].1
    · rw [if_pos e] at h
      have e' : (xs[i].1 == ys[i].1) = true := by simpa using e
      rw [e']
      wp_walk
      rw [hc]
      exact ⟨plainId_quiet plain_eq_loop _, codeAny_builtin entry_eq_loop (by
        rw [Around.under_plainId plain_eq_loop _]
        exact ih (i + 1) (by omega) prog w A R _ ⟨hl, hb, h⟩)⟩
    · rw [if_neg e] at h
      have e' : (xs[i].1 == ys[i].1) = false := by simpa using e
      rw [e']
      wp_walk using wpAny_loadPart' hl, wpAny_loadPart' hb
      rw [hi1, hi2]
      refine wpAny_bind ?_
      refine lt_int ?_
      exact wpAny_pure h
theorem list_ltI (l b : Addr) (xs ys : List (Int × Tok)) (n n2 : Nat) (hsz : xs.length = ys.length) :
    Meets (Builtin.«list.__lt__» ⟨[.ref l, .ref b], []⟩)
      (fun _ R s => s.heap.get? l = some { cls := .type "list", dict := none, data := .seq (xs.map iv).toArray n, slots := #[] } ∧ s.heap.get? b = some { cls := .type "list", dict := none, data := .seq (ys.map iv).toArray n2, slots := #[] } ∧
        R (.ok (.ret (.bool (lexlt xs ys)))) s) := by
  intro prog w A R s h
  obtain ⟨hp, g, d, tk, os⟩ := s; obtain ⟨hl, hb, h⟩ := h
  have f3 := AutoSeq1.sub_list_list
  wp_walk using wpAny_loadPart' hl, wpAny_loadPart' hb
  exact ⟨plainId_quiet plain_eq_loop _, codeAny_builtin entry_eq_loop (by
    rw [Around.under_plainId plain_eq_loop _]
    exact lt_loop l b xs ys n n2 hsz _ 0 rfl prog w A R _ ⟨hl, hb, h⟩)⟩
end T3_
section T4_
open PySem PySem.W PyProof.Rows PySem.W.X
/-! the order of rows of ints -/
theorem lex_tr : ∀ {a b c : List (Int × Tok)}, lexlt a b = true → lexlt b c = true → lexlt a c = true
  | [], _, _, h, _ => by cases h
  | _ :: _, [], _, h, _ => by cases h
  | _ :: _, _ :: _, [], _, h => by cases h
  | x :: a, y :: b, z :: c, h1, h2 => by
    unfold lexlt at *
    by_cases e1 : x.1 = y.1
    · rw [if_pos e1] at h1
      by_cases e2 : y.1 = z.1
      · rw [if_pos e2] at h2
        rw [if_pos (e1.trans e2)]
        exact lex_tr h1 h2
      · rw [if_neg e2] at h2
        rw [if_neg (by omega)]
        rw [e1]; exact h2
    · rw [if_neg e1] at h1
      have q1 := of_decide_eq_true h1
      by_cases e2 : y.1 = z.1
      · rw [if_neg (by omega), ← e2]; exact h1
      · rw [if_neg e2] at h2
        have q2 := of_decide_eq_true h2
        rw [if_neg (by omega)]
        exact decide_eq_true (by omega)
theorem lex_tot : ∀ {a b : List (Int × Tok)}, a.length = b.length → a.map (·.1) ≠ b.map (·.1) → lexlt a b = false → lexlt b a = true
  | [], [], _, h, _ => absurd rfl h
  | _ :: _, [], h, _, _ => by cases h
  | [], _ :: _, h, _, _ => by cases h
  | x :: a, y :: b, hl, hn, h => by
    unfold lexlt at *
    by_cases e : x.1 = y.1
    · rw [if_pos e] at h
      rw [if_pos e.symm]
      exact lex_tot (by simpa using hl) (fun z => hn (by rw [List.map_cons, List.map_cons, e, z])) h
    · rw [if_neg e] at h
      rw [if_neg (fun z => e z.symm)]
      have := of_decide_eq_false h
      exact decide_eq_true (by omega)
noncomputable def oS (n : Nat) (kf : Nat → List (Int × Tok)) (i j : Nat) : Bool := if i < n then (if j < n then lexlt (kf i) (kf j) else true) else if j < n then false else decide (i < j)
theorem oS_tr {n : Nat} {kf : Nat → List (Int × Tok)} : ∀ a b c, oS n kf a b = true → oS n kf b c = true → oS n kf a c = true := by
  intro a b c h1 h2
  unfold oS at *
  by_cases ha : a < n <;> by_cases hb : b < n <;> by_cases hc : c < n <;> simp only [ha, hb, hc, if_true, if_false, Bool.false_eq_true, decide_eq_true_eq] at h1 h2 ⊢
  · exact lex_tr h1 h2
  · omega
theorem oS_tot {n : Nat} {kf : Nat → List (Int × Tok)} (hl : ∀ i j, i < n → j < n → (kf i).length = (kf j).length) (hi : ∀ i j, i < n → j < n → i ≠ j → (kf i).map (·.1) ≠ (kf j).map (·.1)) : ∀ a b, a ≠ b → oS n kf a b = false → oS n kf b a = true := by
  intro a b hab h
  unfold oS at *
  by_cases ha : a < n <;> by_cases hb : b < n <;> simp only [ha, hb, if_true, if_false, decide_eq_true_eq, decide_eq_false_iff_not, Bool.true_eq_false] at h ⊢
  · exact lex_tot (hl a b ha hb) (hi a b ha hb hab) h
  · omega
section
variable {w : World} {A : Around} {E : Value → Shared → Prop} {h : Heap} {c : Shared} {t : Nat}
theorem one_lt {x y : Addr} {xs ys : List (Int × Tok)} {Q : Bool → Shared → Prop} (hx : LL h x (xs.map iv)) (hy : LL h y (ys.map iv)) (hl : xs.length = ys.length) (hu : A.units < cLine) (H : Q (lexlt xs ys) (St h c t)) :
    wpAny (model pw w) A (keyLt' oneType' (.ref x) (.ref y)) Q E (St h c t) := by
  rw [keyLt'_oneType, oneLt'_eq]
  simp only [if_true]
  refine wpAny_bind (wpAny_cRoomFor hu ?_)
  have T := hx.is.typeIs (s := St h c t)
  obtain ⟨n, ex⟩ := hx
  obtain ⟨n2, ey⟩ := hy
  refine wpAny_bind (wpAny_callSpecialIfBound?_slot T F.slot_list_lt (call_meets F.slot_list_lt T F.entry_list_lt (F.args_list_lt_2 _ _) (list_ltI x y xs ys n n2 hl) ⟨ex, ey, ?_⟩))
  exact wpAny_truthy_bool H
theorem c_sorted {L l : Addr} {m : Str → Option Value} {ds : List Addr} {kf : Nat → List (Int × Tok)} {Q : Value → Shared → Prop} (ns : h.Ns L m) (hA : Room 0 A) (hl : LL h l (ds.map Value.ref)) (nl : l ≠ L) (h2 : 2 ≤ ds.length) (h64 : ds.length < 64)
    (hk : ∀ i, i < ds.length → LL h (ds.getD i 0) ((kf i).map iv) ∧ ds.getD i 0 ≠ L ∧ (kf i).length = 3) (hi : ∀ i j, i < ds.length → j < ds.length → i ≠ j → (kf i).map (·.1) ≠ (kf j).map (·.1))
    (H : ∀ h' D p, h'.Ns L m → (∀ b o, b ≠ L → h.get? b = some o → h'.get? b = some o) → h.get? D = none → D ≠ L → p.Perm (List.range ds.length).toArray → Asc (oS ds.length kf) p ds.length → LL h' D ((p.toList.map fun i => ds.getD i 0).map Value.ref) → Q (.ref D) (St h' c t)) :
    wpAny (model pw w) A (call (.builtin "sorted") [.ref l]) Q E (St h c t) := by
  have hL : L < h.objs.size := ns.lt
  let news : List (Addr × Obj) := (List.range h.objs.size).filterMap fun b => if b = L then none else (h.get? b).map fun o => (b, o)
  have e0 : ∀ b, (⟨#[], {}⟩ : Heap).get? b = none := fun b => none_of_ge (Nat.zero_le _)
  have F : Fr (⟨#[], {}⟩ : Heap) L (St h c t).heap m := ⟨ns, (fun b o e => by rw [e0] at e; cases e), Nat.zero_le _⟩
  have hn : ∀ b o, h.get? b = some o → b ≠ L → (b, o) ∈ news := fun b o e hb => by
    refine List.mem_filterMap.mpr ⟨b, List.mem_range.mpr (Heap.lt_size e), ?_⟩
    rw [if_neg hb, e]
    rfl
  have nn : ∀ p ∈ news, h.get? p.1 = some p.2 ∧ p.1 ≠ L := fun p hp => by
    obtain ⟨b, _, e⟩ := List.mem_filterMap.mp hp
    split at e
    · cases e
    · rename_i hb
      cases q : h.get? b with
      | none => rw [q] at e; cases e
      | some o => rw [q] at e; cases e; exact ⟨q, hb⟩
  have N : News (⟨#[], {}⟩ : Heap) L (St h c t).heap news := fun p hp => ⟨(nn p hp).1, (nn p hp).2, e0 _⟩
  have hlen : (ds.map Value.ref).length = ds.length := List.length_map ..
  have gl : ∀ i, i < ds.length → ∃ n, (ds.getD i 0, ({ cls := .type "list", dict := none, data := .seq ((kf i).map iv).toArray n, slots := #[] } : Obj)) ∈ news := fun i hi' => by
    obtain ⟨⟨n, e⟩, q, _⟩ := hk i hi'
    exact ⟨n, hn _ _ e q⟩
  have gv : ∀ i, i < ds.length → (ds.map Value.ref).getD i Value.none = .ref (ds.getD i 0) := fun i hi' => by
    simp [List.getD_eq_getElem?_getD, hi']
  refine kas_sorted (s := St h c t) (T := .type "list") F N hl.is (by rw [hlen]; exact h2) (by rw [hlen]; exact h64) (fun h1 F1 N1 v hv => ?_) (by decide) fun D e1 h1 F1 N1 lt => ?_
  · obtain ⟨a, ha, rfl⟩ := List.mem_map.mp hv
    obtain ⟨i, hi', e⟩ := List.getElem_of_mem ha
    obtain ⟨n, hm⟩ := gl i hi'
    have ea : ds.getD i 0 = a := by rw [List.getD_eq_getElem?_getD, List.getElem?_eq_getElem hi']; exact e
    rw [ea] at hm
    exact (Looks.ld (N1 _ hm).1).andThen .now
  · rw [hlen]
    have hu : A.in1.in1.units < cLine := by
      have := hA.2.1
      show A.units + 1 + 1 < 9900
      omega
    have up : ∀ {h2 : Heap}, News (⟨#[], {}⟩ : Heap) L h2 ((D, seqObj "list" #[] e1) :: news) → ∀ b o, b ≠ L → h.get? b = some o → h2.get? b = some o := fun N2 b o hb e => (N2 _ (.tail _ (hn b o e hb))).1
    have hnD : h.get? D = none := by
      cases q : h.get? D with
      | none => rfl
      | some o =>
        by_cases e : D = L
        · exact absurd e (N1 _ (.head _)).2.1
        · exact absurd (lt _ (hn _ _ q e)) (Nat.lt_irrefl _)
    refine wp_runB (o := oS ds.length kf) (n := ds.length) (R := fun _ => True) (I := fun s' => s' = { St h c t with heap := h1 }) (fun i j Q' s' hi1 hj1 es HQ => ?_) _ _ (tr_sort (by omega)) rfl fun s' es => ?_
    · subst es
      show wpAny _ _ (keyLt' oneType' ((ds.map Value.ref).getD i Value.none) ((ds.map Value.ref).getD j Value.none)) _ _ _
      rw [gv i hi1, gv j hj1]
      obtain ⟨n, m1⟩ := gl i hi1
      obtain ⟨n2, m2⟩ := gl j hj1
      refine one_lt (h := h1) (c := c) (t := t) (xs := kf i) (ys := kf j) ⟨n, (N1 _ (.tail _ m1)).1⟩ ⟨n2, (N1 _ (.tail _ m2)).1⟩ ((hk i hi1).2.2.trans (hk j hj1).2.2.symm) hu ?_
      have := HQ _ rfl
      unfold oS at this
      rw [if_pos hi1, if_pos hj1] at this
      exact this
    · subst es
      obtain ⟨pp, pa⟩ := sort_run (o := oS ds.length kf) oS_tr (oS_tot (fun i j a b => (hk i a).2.2.trans (hk j b).2.2.symm) hi) h2
      refine KasFin.intro F1 N1 (UpdF.head ?_) fun h' c' F' N' => ?_
      · intro p hp
        exact Nat.ne_of_lt (lt p hp)
      · refine H h' D _ F'.ns (fun b o hb e => (N' _ (.tail _ (hn b o e hb))).1) hnD (N1 _ (.head _)).2.1 pp pa ⟨c', ?_⟩
        have ee : ((runT (oS ds.length kf) (kas_sort ds.length)).toList.map fun i => ds.getD i 0).map Value.ref = (runT (oS ds.length kf) (kas_sort ds.length)).toList.map fun i => (ds.map Value.ref).getD i Value.none := by
          rw [List.map_map]
          refine List.map_congr_left fun i hi' => ?_
          have : i < ds.length := by
            have := pp.mem_iff.mp (Array.mem_toList_iff.mp hi')
            simpa using this
          exact (gv i this).symm
        rw [ee]
        exact (N' _ (.head _)).1
end
end T4_
section T5_
open PySem PySem.W PyProof.Rows PySem.W.X
section
variable {w : World} {A : Around} {E : Value → Shared → Prop} {h : Heap} {c : Shared} {t : Nat}
theorem sl_l {value slice : PySem.Expr} {l : Addr} {vs : List Value} {vl vu vk : Value} {lo hi st : Option Int} {ops : List Value} {Q : Value → Shared → Prop} (hl : h.IsList l vs.toArray) (hn : vs.length < 2 ^ 20) (pl : IsPart vl lo) (pu : IsPart vu hi) (pk : IsPart vk st) (h0 : st ≠ some 0)
    (H : ∀ h' D, Keeps h h' → LL h' D (slicePick vs.toArray lo hi st).toList → h.get? D = none → Q (.ref D) (St h' c t))
    (hs : subscripted slice false (.ref l) (.ref h.objs.size) = operate ops (getItem (.ref l) (.ref h.objs.size)))
    (ht : ∀ r, letTemporaryGo value (.ref l) r = pure ()) :
    wpAny (model pw w) A (subscriptTail value slice (.ref l) (.ref h.objs.size)) Q E { St h c t with heap := h.push { cls := .type "slice", data := .fields #[vl, vu, vk] } } := by
  refine subscriptTail_ops (Heap.IsList.typeIs (s := { St h c t with heap := h.push { cls := .type "slice", data := .fields #[vl, vu, vk] } }) (hl.push _)) list_getitem_lookup
    (wpAny_getItem_list_slice (hl.push _) (Heap.IsSliceOf.new ..) pl pu pk h0 ?_ (by rw [sizeLine_is]; simp; omega)) hs ht
  show Q (.ref (h.push _).objs.size) _
  refine H _ _ (Keeps.trans (Keeps.push h _) (Keeps.push _ _)) ⟨0, Heap.get?_push_size _ rfl⟩ (none_of_ge ?_)
  rw [Heap.size_push]
  exact Nat.le_succ _
theorem fm_map {α β : Type} {f : α → Option β} {g : α → β} : ∀ l : List α, (∀ k ∈ l, f k = some (g k)) → l.filterMap f = l.map g
  | [], _ => rfl
  | k :: l, h => by rw [List.filterMap_cons, h k (.head _)]; show _ :: _ = _ :: _; rw [fm_map l fun x hx => h x (.tail _ hx)]
theorem rev_pick (vs : List Value) : (slicePick vs.toArray none none (some (-1))).toList = vs.reverse := by
  have eb : sliceBounds none none (some (-1)) vs.toArray.size = ((vs.length : Int) - 1, -1, -1) := by simp [sliceBounds]
  unfold slicePick
  rw [eb]
  have er : sliceRange ((vs.length : Int) - 1) (-1) (-1) = (List.range vs.length).map fun k => vs.length - 1 - k := by
    unfold sliceRange
    have ec : ((if (-1 : Int) > 0 then (if (vs.length : Int) - 1 < -1 then (-1 - ((vs.length : Int) - 1) + -1 - 1) / -1 else 0) else (if (vs.length : Int) - 1 > -1 then ((vs.length : Int) - 1 - -1 - -1 - 1) / (- -1) else 0)) : Int).toNat = vs.length := by
      rw [if_neg (by decide)]
      split
      · rw [show (- -1 : Int) = 1 from rfl, Int.ediv_one]; omega
      · omega
    simp only [ec]
    refine List.map_congr_left fun k hk => ?_
    rw [List.mem_range] at hk
    omega
  show List.filterMap (fun x => vs.toArray[x]?) (sliceRange ((vs.length : Int) - 1) (-1) (-1)) = _
  rw [er, List.filterMap_map]
  have ef : List.filterMap ((fun x => vs.toArray[x]?) ∘ fun k => vs.length - 1 - k) (List.range vs.length) = (List.range vs.length).map fun k => vs.getD (vs.length - 1 - k) .none := by
    refine fm_map _ fun k hk => ?_
    rw [List.mem_range] at hk
    have : vs.length - 1 - k < vs.length := by omega
    simp [List.getD_eq_getElem?_getD, this]
  rw [ef]
  refine List.ext_getElem (by simp) fun k h1 h2 => ?_
  have hk : k < vs.length := by simpa using h2
  have : vs.length - 1 - k < vs.length := by omega
  simp [List.getD_eq_getElem?_getD, List.getElem_reverse, this]
theorem c_max {l : Addr} {xs : List (Int × Tok)} {Q : Value → Shared → Prop} (hA : A.handled = none) (hl : LL h l (xs.map iv)) (hne : xs ≠ [])
    (H : ∀ h' t' u, Keeps h h' → Q (.int (mx (xs.map (·.1))) u) (St h' c t')) : wpAny (model pw w) A (call (.builtin "max") [.ref l]) Q E (St h c t) := by
  have e : (intItems xs.toArray) = (xs.map iv).toArray := by simp [intItems]
  have hz : 0 < xs.toArray.size := by
    cases xs with
    | nil => exact absurd rfl hne
    | cons x l => simp
  refine max_intList (s := St h c t) (xs := xs.toArray) hA (e ▸ hl.is) hz fun v h' tk hv hk => ?_
  obtain ⟨u, rfl⟩ := intItems_at hv
  obtain ⟨h1, h2⟩ := argBest_gt (numAt xs.toArray) (xs.toArray.size - 1)
  have en : ∀ i, numAt xs.toArray i = (xs.map (·.1)).getD i 0 := fun i => by rw [numAt_eq]
  have em : mx (xs.map (·.1)) = numAt xs.toArray (argBest (fun i j => decide (numAt xs.toArray i > numAt xs.toArray j)) (xs.toArray.size - 1)) := by
    refine mx_eq ?_ fun a ha => ?_
    · rw [en]
      exact getD_mem (by rw [List.length_map]; simp at h1 hz ⊢; omega)
    · obtain ⟨j, hj, rfl⟩ := mem_getD ha
      rw [← en]
      exact h2 j (by rw [List.length_map] at hj; simp; omega)
  rw [← em]
  exact H h' tk u fun b o e => hk b o e
theorem eq_nil {a b : Addr} {vs : List Value} {Q : Value → Shared → Prop} (ha : LL h a vs) (hb : LL h b []) (hA : Room 0 A) (H : Q (.bool vs.isEmpty) (St h c t)) :
    wpAny (model pw w) A (compareOp .Eq (.ref a) (.ref b)) Q E (St h c t) := by
  have hu : A.units < cLine := by have := hA.2.1; show A.units < 9900; omega
  cases vs with
  | nil => exact (SeqAt.RcAt.lists (s := St h c t) (e := fun _ => true) ha.is hb.is rfl hu fun j h1 => absurd h1 (by simp)) pw w E Q (by simpa using H)
  | cons v vs => exact (SeqAt.RcAt.lists_lengths (s := St h c t) ha.is hb.is (by simp) hu) pw w E Q (by simpa using H)
end
end T5_
open PySem PySem.W PyProof.Rows PySem.W.X
noncomputable def lwEnv (P : Params) (L : Addr) : Env := callEnvC (fdOf (o103 P)) L 103
noncomputable def lwBody : List Stmt := fnBody (pw.main.body[16]?)
theorem lw_obj {P : Params} : ∃ o, (KB P).lookup 103 = some o ∧ o.data = .func (fdOf (o103 P)) := ⟨_, rfl, by kernel_rfl⟩
theorem lw_fd {P : Params} : (fdOf (o103 P)).body = .stmts lwBody := by kernel_rfl
theorem lw_cells {P : Params} {L : Addr} : (lwEnv P L).cells = [(Str.ofString "faults", L + 1 + 1), (Str.ofString "rows", L + 1)] := by kernel_rfl
theorem lw_kind {P : Params} {L : Addr} : (lwEnv P L).scope.kind = .function := by kernel_rfl
theorem lw_rows {P : Params} {L : Addr} : (lwEnv P L).cells.lookup (Str.ofString "rows") = some (L + 1) := by kernel_rfl
theorem lw_faults {P : Params} {L : Addr} : (lwEnv P L).cells.lookup (Str.ofString "faults") = some (L + 1 + 1) := by kernel_rfl
theorem lw_nd {P : Params} {L : Addr} : ((lwEnv P L).cells.map (·.1)).Nodup := by rw [lw_cells]; show [Str.ofString "faults", Str.ofString "rows"].Nodup; decide +kernel
theorem lw_own {P : Params} {L : Addr} : own (lwEnv P L) = [L, L + 1 + 1, L + 1] := by kernel_rfl
theorem lw_own' {P : Params} {L : Addr} : ∀ b ∈ own (lwEnv P L), L ≤ b := by
  rw [lw_own]
  intro b hb
  simp only [List.mem_cons, List.not_mem_nil, or_false] at hb
  rcases hb with rfl | rfl | rfl
  · exact Nat.le_refl _
  · exact Nat.le_succ_of_le (Nat.le_succ _)
  · exact Nat.le_succ _
noncomputable def lwS (i : Nat) : Stmt := lwBody.getD i (.Pass ⟨0, 0, 0, 0⟩)
theorem lw_body : lwBody = [lwS 0, lwS 1, lwS 2, lwS 3, lwS 4, lwS 5, lwS 6, lwS 7, lwS 8, lwS 9] := by kernel_rfl
noncomputable def asVal : Stmt → PySem.Expr
  | .Assign _ e _ => e
  | _ => .Constant .none 0 ⟨0, 0, 0, 0⟩
noncomputable def asPos : Stmt → Pos
  | .Assign _ _ p => p
  | _ => ⟨0, 0, 0, 0⟩
noncomputable def opL : PySem.Expr → PySem.Expr
  | .BinOp a _ _ _ => a
  | e => e
noncomputable def opR : PySem.Expr → PySem.Expr
  | .BinOp _ _ b _ => b
  | e => e
noncomputable def arg0 : PySem.Expr → PySem.Expr
  | .Call _ (a :: _) _ _ => a
  | e => e
noncomputable def lca : Lcp := lcParts (some (opR (opL (arg0 (asVal (lwS 0))))))
theorem lca_elt : lca.elt = .BinOp (nmE "x" ⟨123, 42, 123, 43⟩) .Mod (.Constant (.int 90) 0 ⟨123, 46, 123, 48⟩) ⟨123, 42, 123, 48⟩ := by kernel_rfl
theorem lca_iter : lca.iter = .Subscript (nmE "script" ⟨123, 58, 123, 64⟩) (.Slice none (some (.Constant (.int 6) 0 ⟨123, 66, 123, 67⟩)) none ⟨123, 65, 123, 67⟩) ⟨123, 58, 123, 68⟩ := by kernel_rfl
theorem lca_ifs : lca.ifs = [] := by kernel_rfl
theorem lca_x : lca.x = Str.ofString "x" := by kernel_rfl
theorem lca_clos {P : Params} {L : Addr} : closureFor lca.scope (lwEnv P L) = pure [] := by kernel_rfl
theorem lw_s0 : lwS 0 = .Assign [nmE "rows" ⟨123, 4, 123, 8⟩] (.Call (nmE "_law_rows" ⟨123, 11, 123, 20⟩) [.BinOp (.BinOp (opL (opL (arg0 (asVal (lwS 0))))) .Add lca.e ⟨123, 21, 123, 69⟩) .Add (opR (arg0 (asVal (lwS 0)))) ⟨123, 21, 123, 90⟩] [] ⟨123, 11, 123, 91⟩) (asPos (lwS 0)) := by kernel_rfl
noncomputable def lcd : Lcp := lcParts (some (asVal (lwS 3)))
theorem lcd_elt : lcd.elt = .Subscript (.Subscript (nmE "rows" ⟨128, 11, 128, 15⟩) (.Subscript (nmE "one" ⟨128, 16, 128, 19⟩) (.Constant (.int 1) 0 ⟨128, 20, 128, 21⟩) ⟨128, 16, 128, 22⟩) ⟨128, 11, 128, 23⟩) (.Subscript (nmE "one" ⟨128, 24, 128, 27⟩) (.Constant (.int 2) 0 ⟨128, 28, 128, 29⟩) ⟨128, 24, 128, 30⟩) ⟨128, 11, 128, 31⟩ := by kernel_rfl
theorem lcd_iter : lcd.iter = .Call (nmE "sorted" ⟨128, 43, 128, 49⟩) [nmE "due" ⟨128, 50, 128, 53⟩] [] ⟨128, 43, 128, 54⟩ := by kernel_rfl
theorem lcd_ifs : lcd.ifs = [] := by kernel_rfl
theorem lcd_x : lcd.x = Str.ofString "one" := by kernel_rfl
theorem lcd_clos {P : Params} {L : Addr} : closureFor lcd.scope (lwEnv P L) = pure [(Str.ofString "rows", L + 1)] := by kernel_rfl
theorem lw_s3 : lwS 3 = .Assign [nmE "due" ⟨128, 4, 128, 7⟩] lcd.e (asPos (lwS 3)) := by kernel_rfl
theorem cld_rows {L C : Addr} {env : Env} : (compEnvC lcd.scope [(Str.ofString "rows", L + 1)] C env).cells.lookup (Str.ofString "rows") = some (L + 1) := by kernel_rfl
local macro_rules | `(tactic| walk_at "hc") => `(tactic| with_reducible (first | exact lw_rows | exact lw_faults | exact cld_rows))
noncomputable def allInt (vs : List Value) : Prop := ∀ v ∈ vs, ∃ i u, v = .int i u
theorem allInt.take {vs : List Value} (h : allInt vs) (n : Nat) : allInt (vs.take n) := fun v hv => h v (List.mem_of_mem_take hv)
theorem ints5 {w : World} {A : Around} {E : Value → Shared → Prop} {h : Heap} {c : Shared} {t : Nat} {env : Env} {Q : Value → Shared → Prop} {e : PySem.Expr} (P : List Value → Prop)
    (he : (e = opL (opL (arg0 (asVal (lwS 0)))) ∧ P = fun vs => allInt vs ∧ vs.length = 5 ∧ 2 ≤ vs.countP isItem) ∨ (e = opR (arg0 (asVal (lwS 0))) ∧ P = fun vs => allInt vs ∧ vs.length = 5))
    (H : ∀ h' t' l vs, Keeps h h' → h.get? l = none → LL h' l vs → P vs → Q (.ref l) (St h' c t')) : wpAny (model pw w) A (eval e env) Q E (St h c t) := by
  rcases he with ⟨rfl, rfl⟩ | ⟨rfl, rfl⟩
  · show wpAny _ _ (eval (.List [.Constant (.int 4) 0 _, .Constant (.int 28) 0 _, .Constant (.int 0) 0 _, .Constant (.int 7) 0 _, .Constant (.int 13) 0 _] _) _) _ _ _
    repeat' (walk_at "ww")
    refine nl (Nat.le_of_ble_eq_true rfl) fun h2 l k2 l2 z2 _ => H _ _ _ _ k2 (none_of_ge z2) l2 ⟨?_, rfl, ?_⟩
    · intro v hv
      simp only [List.mem_cons, List.not_mem_nil, or_false] at hv
      rcases hv with rfl | rfl | rfl | rfl | rfl <;> exact ⟨_, _, rfl⟩
    · simp [isItem, List.countP_cons]
  · show wpAny _ _ (eval (.List [.Constant (.int 3) 0 _, .Constant (.int 10) 0 _, .Constant (.int 22) 0 _, .Constant (.int 5) 0 _, .Constant (.int 16) 0 _] _) _) _ _ _
    repeat' (walk_at "ww")
    refine nl (Nat.le_of_ble_eq_true rfl) fun h2 l k2 l2 z2 _ => H _ _ _ _ k2 (none_of_ge z2) l2 ⟨?_, rfl⟩
    intro v hv
    simp only [List.mem_cons, List.not_mem_nil, or_false] at hv
    rcases hv with rfl | rfl | rfl | rfl | rfl <;> exact ⟨_, _, rfl⟩
theorem rems {w : World} {A : Around} {E : Value → Shared → Prop} {g h : Heap} {c : Shared} {t : Nat} {L sc : Addr} {m cm : Str → Option Value} {vs : List Value} {Q : Value → Shared → Prop}
    (hA : Room 2 A) (F : Fc g (lwEnv w.params L) h m cm) (hm : m (Str.ofString "script") = some (.ref sc)) (hl : h.IsList sc vs.toArray) (hi : allInt vs) (hn : vs.length ≤ 63)
    (H : ∀ h' t' l us, Keeps h h' → LL h' l us → allInt us → us.length ≤ 6 → Q (.ref l) (St h' c t')) :
    wpAny (model pw w) A (eval lca.e (lwEnv w.params L)) Q E (St h c t) := by
  refine lcg (c := c) lca_clos (no_cell (by kernel_rfl)) (by kernel_rfl) (nms (by kernel_rfl)) (by kernel_rfl) ?_ (by intro _; kernel_rfl)
  rw [lca_iter]
  repeat' (walk_at "ww")
  refine sl_l hl (by omega) .none (.int 6 _) .none (by decide) (fun h2 D k2 l2 nD => ?_) (by with_unfolding_all rfl) (by intro _; with_unfolding_all rfl)
  have e6 : (slicePick vs.toArray none (some 6) none).toList = vs.take 6 := by
    have := slicePick_upto' vs.toArray 6
    rw [show ((6 : Nat) : Int) = 6 from rfl] at this
    rw [this]
  rw [e6] at l2
  refine pi_list l2 fun h3 I k3 nI zI hI => ?_
  have hDI : D ≠ I := fun z => by obtain ⟨n, e⟩ := l2; rw [z, nI] at e; cases e
  have hIh : h.get? I = none := by
    cases q : h.get? I with
    | none => rfl
    | some o => rw [k2 _ _ q] at nI; cases nI
  have k03 := Keeps.trans k2 k3
  have hsz : (vs.take 6).toArray.size = (vs.take 6).length := by simp
  have l6 : (vs.take 6).length ≤ 6 := by simp; omega
  refine ⟨h3, _, I, [I, D], [I], _, _, _, fun C D' i ys h' => ys.length = i ∧ allInt ys, rfl, rfl, ⟨Walks.list hA.2.2 I D hDI (vs.take 6).toArray, by rw [hsz]; omega, ?_, ?_, ?_, ?_, ?_, ?_, ?_, ?_⟩⟩
  · exact ⟨hI, (k3.list l2).is⟩
  · intro b hb
    simp only [List.mem_cons, List.not_mem_nil, or_false] at hb
    rcases hb with rfl | rfl
    · exact zI
    · exact (k3.list l2).lt
  · intro i h' st b hb; rw [List.mem_singleton] at hb; subst hb; obtain ⟨⟨o, e, _⟩, _⟩ := st; exact ⟨o, e⟩
  · intro C D' h' _ _ _; exact ⟨rfl, fun v hv => by cases hv⟩
  · rintro C D' i ys h' ⟨e, _⟩; exact Nat.le_of_eq e
  · rintro C D' i ys h' h'' ⟨e1, e2⟩ _; exact ⟨e1, e2⟩
  · rintro C D' i v ys h4 t4 m4 E' hi4 hv nC nD hCD hk ns hm4 lD S lv ⟨e1, e2⟩
    have gv : (vs.take 6)[i]? = some v := by simpa using hv
    obtain ⟨xv, xu, rfl⟩ := hi.take 6 v (List.mem_of_getElem? gv)
    rw [lca_ifs, lca_elt]
    rw [lca_x] at hm4
    refine wpAny_tests_nil ?_
    repeat' (walk_at "ww")
    refine if_t rfl ?_
    repeat' (walk_at "ww")
    refine ⟨h4, _, rfl, Keeps.refl _, by rw [List.length_append, e1]; rfl, fun v hv => ?_⟩
    rcases List.mem_append.mp hv with q | q
    · exact e2 v q
    · rw [List.mem_singleton] at q; exact ⟨_, _, q⟩
  · rintro C D' h' t' ys nC nD hCD ⟨e1, e2⟩ lD hk
    have up : Keeps h h' := fun b o e => hk b o (by intro z; rw [List.mem_singleton] at z; rw [z, hIh] at e; cases e) (k03 _ _ e)
    exact H h' t' D' ys up lD e2 (by rw [e1, hsz]; exact l6)
section T7_
open PySem PySem.W PyProof.Rows PySem.W.X
section
variable {g h h' : Heap} {env : Env} {m cm : Str → Option Value}
theorem Fc.ll (F : Fc g env h m cm) (nd : (env.cells.map (·.1)).Nodup) {a : Addr} {vs : List Value} (x : LL h a vs) : a ∉ own env := fun z => by
  obtain ⟨n, e⟩ := x
  obtain ⟨o, e', q⟩ := F.ownObj nd a z
  rw [e] at e'
  cases e'
  rcases q with ⟨_, _, q⟩ | ⟨_, q⟩ <;> cases q
theorem Fc.llBase (F : Fc g env h m cm) (nd : (env.cells.map (·.1)).Nodup) {a : Addr} {vs : List Value} (x : LL h a vs) : LL (hideAll h (own env)) a vs := x.hid (F.ll nd x)
theorem LL.own' {l a : Addr} {vs : List Value} (x : LL h a vs) (s : Heap.SameBut l h h') (F : Fc g env h m cm) (nd : (env.cells.map (·.1)).Nodup) (hl : l ∈ own env) : LL h' a vs := list_but x s fun z => F.ll nd x (z ▸ hl)
end
section
variable {w : World} {A : Around} {E : Value → Shared → Prop} {h : Heap} {c : Shared} {t : Nat} {env : Env} {Q : Value → Shared → Prop}
noncomputable def lwI0 : PySem.Expr := opL (opL (arg0 (asVal (lwS 0))))
noncomputable def lwI1 : PySem.Expr := opR (arg0 (asVal (lwS 0)))
theorem lw_s0' : lwS 0 = .Assign [nmE "rows" ⟨123, 4, 123, 8⟩] (.Call (nmE "_law_rows" ⟨123, 11, 123, 20⟩) [.BinOp (.BinOp lwI0 .Add lca.e ⟨123, 21, 123, 69⟩) .Add lwI1 ⟨123, 21, 123, 90⟩] [] ⟨123, 11, 123, 91⟩) (asPos (lwS 0)) := lw_s0
theorem ints5a {e : PySem.Expr} (he : lwI0 = e) (H : ∀ h' t' l vs, Keeps h h' → h.get? l = none → LL h' l vs → allInt vs ∧ vs.length = 5 ∧ 2 ≤ vs.countP isItem → Q (.ref l) (St h' c t')) : wpAny (model pw w) A (eval e env) Q E (St h c t) := ints5 _ (.inl ⟨he.symm, rfl⟩) H
theorem ints5b {e : PySem.Expr} (he : lwI1 = e) (H : ∀ h' t' l vs, Keeps h h' → h.get? l = none → LL h' l vs → allInt vs ∧ vs.length = 5 → Q (.ref l) (St h' c t')) : wpAny (model pw w) A (eval e env) Q E (St h c t) := ints5 _ (.inr ⟨he.symm, rfl⟩) H
end
theorem law_s0 {w : World} {A : Around} {E : Value → Shared → Prop} {g h : Heap} {c : Shared} {t : Nat} {L sc : Addr} {m cm : Str → Option Value} {vs : List Value} {Q : Flow → Shared → Prop}
    (KX : (KB w.params).In g) (hA : Room 3 A) (F : Fc g (lwEnv w.params L) h m cm) (hm : m (Str.ofString "script") = some (.ref sc)) (hl : g.IsList sc vs.toArray) (hi : allInt vs) (hn : vs.length ≤ 63)
    (H : ∀ g' h' t' rw ra R, Keeps g g' → Fc g' (lwEnv w.params L) h' m (fun y => if y = Str.ofString "rows" then some (.ref rw) else cm y) → RD g' rw ra R → 0 < ra.length → ra.length + tot R ra.length ≤ 17 → 2 ≤ tot R ra.length → Q .next (St h' c t')) :
    wpAny (model pw w) A (exec (lwS 0) (lwEnv w.params L)) Q E (St h c t) := by
  have KXh := KX.keeps F.keep
  rw [lw_s0']
  generalize he0 : lwI0 = e0
  generalize he1 : lwI1 = e1
  generalize hec : lca.e = ec
  iterate 3 (walk_at "ww")
  refine cw_fn (by rfl) (by rfl) ?_ (by rfl)
  refine spliced_more ?_ (by rfl)
  refine wpAny_BinOp (wpAny_BinOp ?_)
  refine ints5a he0 fun h2 t2 l2 v2 k2 n2 L2 ⟨i2, c2, p2⟩ => ?_
  have F2 := F.grow k2
  rw [← hec]
  refine rems (hA.le (by decide)) F2 hm (hl.at fun o e => F2.keep _ _ e) hi hn fun h3 t3 l3 v3 k3 L3 i3 c3 => ?_
  refine add_l (k3.list L2) L3 (by omega) fun h4 l4 k4 L4 n4 => ?_
  refine ints5b he1 fun h5 t5 l5 v5 k5 n5 L5 ⟨i5, c5⟩ => ?_
  refine add_l (k5.list L4) L5 (by rw [List.length_append]; omega) fun h6 l6 k6 L6 n6 => ?_
  have k26 := k3.trans (k4.trans (k5.trans k6))
  have F6 := F2.grow k26
  have KX6 := KX.keeps F6.keep
  repeat' (walk_at "ww")
  refine ⟨KX6, ?_⟩
  refine cl (rows_spec KX6 (hA.le (by decide)) L6 (fun v hv => ?_) (by simp only [List.length_append]; omega) fun h7 t7 rw ra R k7 z7 D7 q1 q2 q3 => rq_ret ?_)
  · rcases List.mem_append.mp hv with hv | hv
    · rcases List.mem_append.mp hv with hv | hv
      · exact i2 v hv
      · exact i3 v hv
    · exact i5 v hv
  · have F7 := F6.grow k7
    refine scc F7 (fun h8 t8 a8 m8 F8 s8 => ?_) (by kernel_rfl) (by kernel_rfl) lw_rows
    have D8 : RD h8 rw ra R := D7.at fun a us x => x.own' s8 F7 lw_nd (own_cell m8)
    obtain ⟨F9, kg⟩ := F8.anew (Keeps.refl _)
    refine H _ h8 t8 rw ra R kg F9 (D8.at fun a us x => F8.llBase lw_nd x) q2 ?_ ?_
    · rw [q1]
      simp only [List.length_append]
      omega
    · rw [q3, List.countP_append, List.countP_append]
      omega
noncomputable def forBody : Stmt → List Stmt
  | .For _ _ b _ _ => b
  | _ => []
noncomputable def stE : Stmt → PySem.Expr
  | .Expr e _ => e
  | _ => .Constant .none 0 ⟨0, 0, 0, 0⟩
noncomputable def elts0 : PySem.Expr → PySem.Expr
  | .List (a :: _) _ => a
  | e => e
noncomputable def lwIn : Stmt := (forBody ((forBody (lwS 2)).getD 0 (.Pass ⟨0, 0, 0, 0⟩))).getD 0 (.Pass ⟨0, 0, 0, 0⟩)
noncomputable def lcb : Lcp := lcParts (some (arg0 (elts0 (arg0 (stE lwIn)))))
theorem lcb_elt : lcb.elt = .BinOp (.Subscript (nmE "item" ⟨127, 29, 127, 33⟩) (.Constant (.int 0) 0 ⟨127, 34, 127, 35⟩) ⟨127, 29, 127, 36⟩) .FloorDiv (.Constant (.int 2) 0 ⟨127, 40, 127, 41⟩) ⟨127, 29, 127, 41⟩ := by kernel_rfl
theorem lcb_iter : lcb.iter = .Subscript (nmE "row" ⟨127, 54, 127, 57⟩) (.Slice none (some (.BinOp (nmE "k" ⟨127, 59, 127, 60⟩) .Add (.Constant (.int 1) 0 ⟨127, 63, 127, 64⟩) ⟨127, 59, 127, 64⟩)) none ⟨127, 58, 127, 64⟩) ⟨127, 54, 127, 65⟩ := by kernel_rfl
theorem lcb_ifs : lcb.ifs = [] := by kernel_rfl
theorem lcb_x : lcb.x = Str.ofString "item" := by kernel_rfl
theorem lcb_clos {P : Params} {L : Addr} : closureFor lcb.scope (lwEnv P L) = pure [] := by kernel_rfl
theorem halves {w : World} {A : Around} {E : Value → Shared → Prop} {g h : Heap} {c : Shared} {t : Nat} {L l : Addr} {m cm : Str → Option Value} {its : List Addr} {p : Nat} {u : Tok} {val : Addr → Int} {Q : Value → Shared → Prop}
    (hA : Room 2 A) (F : Fc g (lwEnv w.params L) h m cm) (hm : m (Str.ofString "row") = some (.ref l)) (hk : m (Str.ofString "k") = some (.int (p : Nat) u)) (hl : LL h l (its.map Value.ref)) (hn : its.length < 2 ^ 10) (hv : ∀ x ∈ its, ∃ u l, LL h x (.int (val x) u :: l))
    (H : ∀ h' t' l (xs : List (Int × Tok)), Keeps h h' → LL h' l (xs.map iv) → xs.map (·.1) = (its.take (p + 1)).map (half val) → Q (.ref l) (St h' c t')) :
    wpAny (model pw w) A (eval lcb.e (lwEnv w.params L)) Q E (St h c t) := by
  refine lcg (c := c) lcb_clos (no_cell (by kernel_rfl)) (by kernel_rfl) (nms (by kernel_rfl)) (by kernel_rfl) ?_ (by intro _; kernel_rfl)
  rw [lcb_iter]
  repeat' (walk_at "ww")
  refine sl_l hl.is (by rw [List.length_map]; omega) .none (.int _ _) .none (by decide) (fun h2 D k2 l2 nD => ?_) (by with_unfolding_all rfl) (by intro _; with_unfolding_all rfl)
  have e6 : (slicePick (its.map Value.ref).toArray none (some ((p : Int) + 1)) none).toList = (its.take (p + 1)).map Value.ref := by
    have := slicePick_upto' (its.map Value.ref).toArray (p + 1)
    rw [show ((p + 1 : Nat) : Int) = (p : Int) + 1 from rfl] at this
    rw [this, List.map_take]
  rw [e6] at l2
  generalize hT : its.take (p + 1) = T at *
  have hTl : T.length < 2 ^ 10 := by rw [← hT, List.length_take]; omega
  have hTv : ∀ x ∈ T, ∃ u l, LL h x (.int (val x) u :: l) := fun x hx => hv x (List.mem_of_mem_take (hT ▸ hx))
  refine pi_list l2 fun h3 I k3 nI zI hI => ?_
  have hDI : D ≠ I := fun z => by obtain ⟨n, e⟩ := l2; rw [z, nI] at e; cases e
  have hIh : h.get? I = none := by
    cases q : h.get? I with
    | none => rfl
    | some o => rw [k2 _ _ q] at nI; cases nI
  have k03 := Keeps.trans k2 k3
  have up : ∀ h', (∀ b o, b ∉ [I] → h3.get? b = some o → h'.get? b = some o) → Keeps h h' := fun h' hk b o e => hk b o (by intro z; rw [List.mem_singleton] at z; rw [z, hIh] at e; cases e) (k03 _ _ e)
  have hsz : (T.map Value.ref).toArray.size = T.length := by simp
  refine ⟨h3, _, I, [I, D], [I], _, _, _, fun C D' i ys h' => ∃ xs : List (Int × Tok), ys = xs.map iv ∧ xs.map (·.1) = (T.take i).map (half val), rfl, rfl, ⟨Walks.list hA.2.2 I D hDI (T.map Value.ref).toArray, by rw [hsz]; omega, ⟨hI, (k3.list l2).is⟩, ?_, ?_, ?_, ?_, ?_, ?_, ?_⟩⟩
  · intro b hb
    simp only [List.mem_cons, List.not_mem_nil, or_false] at hb
    rcases hb with rfl | rfl
    · exact zI
    · exact (k3.list l2).lt
  · intro i h' st b hb; rw [List.mem_singleton] at hb; subst hb; obtain ⟨⟨o, e, _⟩, _⟩ := st; exact ⟨o, e⟩
  · intro C D' h' _ _ _; exact ⟨[], rfl, by simp⟩
  · rintro C D' i ys h' ⟨xs, rfl, e⟩
    have := congrArg List.length e
    simp only [List.length_map, List.length_take] at this ⊢
    omega
  · rintro C D' i ys h' h'' ⟨xs, e1, e2⟩ _; exact ⟨xs, e1, e2⟩
  · rintro C D' i v ys h4 t4 m4 E' hi4 hv4 nC nD hCD hk ns hm4 lD S lv ⟨xs, rfl, e2⟩
    have gi : i < T.length := by simpa using hi4
    have gv : (T.map Value.ref)[i]? = some v := by simpa using hv4
    rw [List.getElem?_map, List.getElem?_eq_getElem gi] at gv
    cases gv
    obtain ⟨ux, lx, ex⟩ := hTv T[i] (List.getElem_mem _)
    have ex4 := (up h4 hk).list ex
    rw [lcb_ifs, lcb_elt]
    rw [lcb_x] at hm4
    refine wpAny_tests_nil ?_
    rw [if_pos rfl]
    repeat' (walk_at "ww")
    refine it0 ex4 ?_ (by with_unfolding_all rfl)
    repeat' (walk_at "ww")
    refine ⟨h4, _, rfl, Keeps.refl _, xs ++ [((val T[i]).fdiv 2, _)], by rw [List.map_append]; rfl, ?_⟩
    rw [List.map_append, e2, List.take_add_one, List.getElem?_eq_getElem gi, List.map_append]
    rfl
  · rintro C D' h' t' ys nC nD hCD ⟨xs, rfl, e2⟩ lD hk
    rw [hsz, List.take_of_length_le (Nat.le_refl _)] at e2
    exact H h' t' D' xs (up h' hk) lD e2
end T7_
section T8_
open PySem PySem.W PyProof.Rows PySem.W.X
theorem lw_in : lwIn = .Expr (.Call (.Attribute (nmE "due" ⟨127, 12, 127, 15⟩) (Str.ofString "append") ⟨127, 12, 127, 22⟩) [.List [.Call (nmE "max" ⟨127, 24, 127, 27⟩) [lcb.e] [] ⟨127, 24, 127, 67⟩, .Subscript (.Subscript (nmE "row" ⟨127, 69, 127, 72⟩) (nmE "k" ⟨127, 73, 127, 74⟩) ⟨127, 69, 127, 75⟩) (.Constant (.int 1) 0 ⟨127, 76, 127, 77⟩) ⟨127, 69, 127, 78⟩, nmE "k" ⟨127, 80, 127, 81⟩] ⟨127, 23, 127, 82⟩] [] ⟨127, 12, 127, 83⟩) ⟨127, 12, 127, 83⟩ := by kernel_rfl
noncomputable def lwFor : Stmt := (forBody (lwS 2)).getD 0 (.Pass ⟨0, 0, 0, 0⟩)
theorem lw_for : lwFor = .For (nmE "k" ⟨126, 12, 126, 13⟩) (.Call (nmE "range" ⟨126, 17, 126, 22⟩) [.Call (nmE "len" ⟨126, 23, 126, 26⟩) [nmE "row" ⟨126, 27, 126, 30⟩] [] ⟨126, 23, 126, 31⟩] [] ⟨126, 17, 126, 32⟩) [lwIn] [] ⟨126, 8, 127, 83⟩ := by kernel_rfl
theorem lw_s2 : lwS 2 = .For (nmE "row" ⟨125, 8, 125, 11⟩) (nmE "rows" ⟨125, 15, 125, 19⟩) [lwFor] [] ⟨125, 4, 127, 83⟩ := by kernel_rfl
noncomputable def TR (h : Heap) (val : Addr → Int) (R : Nat → List Addr) (kp : Nat × Nat) (d : Addr) : Prop := ∃ u1 u2 u3, LL h d [.int (gh val R kp.1 kp.2) u1, .int (kp.1 : Nat) u2, .int (kp.2 : Nat) u3]
theorem body_in {w : World} {A : Around} {E : Value → Shared → Prop} {g h : Heap} {c : Shared} {t : Nat} {L l rw du : Addr} {m cm : Str → Option Value} {ra ds : List Addr} {R : Nat → List Addr} {k p : Nat} {u : Tok} {Q : Flow → Shared → Prop}
    (KX : (KB w.params).In g) (hA : Room 3 A) (F : Fc g (lwEnv w.params L) h m cm) (D : RD g rw ra R) (hd : m (Str.ofString "due") = some (.ref du)) (hm : m (Str.ofString "row") = some (.ref l)) (hk : m (Str.ofString "k") = some (.int (p : Nat) u))
    (hr : ra[k]? = some l) (hp : p < (R k).length) (hn : (R k).length < 2 ^ 10) (ldu : LL h du (ds.map Value.ref)) (gdu : g.get? du = none) (hds : ds.length < 2 ^ 10)
    (H : ∀ h' t' d, Fc g (lwEnv w.params L) h' m cm → LL h' du ((ds ++ [d]).map Value.ref) → TR h' (hval g) R (k, p) d → (∀ b o, b ≠ du → h.get? b = some o → h'.get? b = some o) → h.get? d = none → Q .next (St h' c t')) :
    wpAny (model pw w) A (exec lwIn (lwEnv w.params L)) Q E (St h c t) := by
  have KXh := KX.keeps F.keep
  have lR := D.r k l hr
  have lRh := F.keep.list lR
  have duO := F.ll lw_nd ldu
  rw [lw_in]
  generalize hec : lcb = ec
  repeat' (walk_at "ww")
  refine gm_append ldu ?_
  refine callWith_method1 ?_ rfl rfl
  repeat' (walk_at "ww")
  rw [← hec]
  have itv : ∀ x ∈ R k, ∃ u l, LL h x (.int (hval g x) u :: l) := fun x hx => by
    obtain ⟨q, eq⟩ := get_mem hx
    obtain ⟨v, u1, u2, u3, e⟩ := D.i k q x eq
    exact ⟨u1, _, by rw [hval_eq e]; exact F.keep.list e⟩
  refine halves (its := R k) (val := hval g) (hA.le (by decide)) F hm hk lRh hn itv fun h2 t2 lh xs k2 lxs ex => ?_
  repeat' (walk_at "ww")
  have hne : xs ≠ [] := fun z => by
    rw [z] at ex
    have := congrArg List.length ex
    simp at this
    omega
  refine c_max hA.2.2 lxs hne fun h3 t3 u3 k3 => ?_
  rw [ex]
  have k03 := Keeps.trans k2 k3
  have F3 := F.grow k03
  repeat' (walk_at "ww")
  have ep : (R k)[p]? = some ((R k).getD p 0) := by rw [List.getD_eq_getElem?_getD, List.getElem?_eq_getElem hp]; rfl
  obtain ⟨v, u1, u2, u3', ei⟩ := D.i k p _ ep
  refine itr (F3.keep.list lR) rfl hp (by omega) ?_ (by with_unfolding_all rfl)
  repeat' (walk_at "ww")
  refine it1 (F3.keep.list ei) ?_ (by with_unfolding_all rfl)
  repeat' (walk_at "ww")
  refine nl (Nat.le_of_ble_eq_true rfl) fun h4 d k4 l4 z4 _ => ?_
  repeat' (walk_at "ww")
  have k04 := Keeps.trans k03 k4
  have nd : h.get? d = none := by
    cases q : h.get? d with
    | none => rfl
    | some o => have := k03 _ _ q; rw [none_of_ge z4] at this; cases this
  have dne : d ≠ du := fun z => by obtain ⟨n, e⟩ := ldu; rw [← z, nd] at e; cases e
  refine c_append (k04.list ldu) (by rw [List.length_map]; omega) fun h5 l5 s5 => ?_
  refine ⟨rfl, H h5 _ d ((F3.grow k4).but s5 duO gdu) (by rw [List.map_append]; exact l5) ⟨_, _, _, list_but l4 s5 dne⟩ (fun b o hb e => (s5.2 b hb).trans (k04 b o e)) nd⟩
end T8_
section T9_
open PySem PySem.W PyProof.Rows PySem.W.X
noncomputable def prs (R : Nat → List Addr) (n : Nat) : List (Nat × Nat) := (List.range n).flatMap fun k => (List.range (R k).length).map fun p => (k, p)
theorem prs_succ {R : Nat → List Addr} {n : Nat} : prs R (n + 1) = prs R n ++ (List.range (R n).length).map fun p => (n, p) := by
  unfold prs
  rw [List.range_succ, List.flatMap_append]
  simp
theorem prs_len {R : Nat → List Addr} : ∀ {n : Nat}, (prs R n).length = tot R n
  | 0 => rfl
  | n + 1 => by rw [prs_succ, List.length_append, prs_len]; simp [tot]
structure DI (g : Heap) (env : Env) (cm : Str → Option Value) (R : Nat → List Addr) (du : Addr) (W : List Addr) (φ : (Str → Option Value) → Prop) (P : List (Nat × Nat)) (h : Heap) : Prop where
  m : ∃ m, Fc g env h m cm ∧ m (Str.ofString "due") = some (.ref du) ∧ φ m
  ds : ∃ ds, LL h du (ds.map Value.ref) ∧ Paired (fun kp d => TR h (hval g) R kp d ∧ d ∉ W) P ds
theorem TR.at {h h' : Heap} {val : Addr → Int} {R : Nat → List Addr} {kp : Nat × Nat} {d : Addr} (x : TR h val R kp d) (k : ∀ vs, LL h d vs → LL h' d vs) : TR h' val R kp d := let ⟨a, b, c, e⟩ := x; ⟨a, b, c, k _ e⟩
theorem Fc.mv {g h h' : Heap} {env : Env} {m cm : Str → Option Value} (F : Fc g env h m cm) {W : List Addr} (hg : ∀ b ∈ W, g.get? b = none) (ho : ∀ b ∈ own env, b ∉ W) (k : ∀ b o, b ∉ W → h.get? b = some o → h'.get? b = some o) : Fc g env h' m cm :=
  F.move (fun b o e => k b o (fun z => by rw [hg b z] at e; cases e) (F.keep _ _ e)) F.hidL F.hidC fun b hb o e => k b o (ho b hb) e
theorem DI.mv {g h h' : Heap} {env : Env} {cm : Str → Option Value} {R : Nat → List Addr} {du : Addr} {W : List Addr} {φ : (Str → Option Value) → Prop} {P : List (Nat × Nat)} (D : DI g env cm R du W φ P h) (hg : ∀ b ∈ W, g.get? b = none) (ho : ∀ b ∈ own env, b ∉ W) (hd : du ∉ W) (k : ∀ b o, b ∉ W → h.get? b = some o → h'.get? b = some o) : DI g env cm R du W φ P h' := by
  obtain ⟨⟨m, F, q⟩, ds, ⟨n, l⟩, pr⟩ := D
  exact ⟨⟨m, F.mv hg ho k, q⟩, ds, ⟨n, k _ _ hd l⟩, pr.mono fun kp d ⟨x, y⟩ => ⟨x.at fun vs ⟨n, e⟩ => ⟨n, k _ _ y e⟩, y⟩⟩
theorem pair_len {α β : Type} {F : α → β → Prop} {a : List α} {b : List β} (h : Paired F a b) : b.length = a.length := h.length.symm
theorem inner {w : World} {A : Around} {E : Value → Shared → Prop} {g h : Heap} {c : Shared} {t : Nat} {L l rw du I1 : Addr} {cm : Str → Option Value} {ra : List Addr} {R : Nat → List Addr} {k : Nat} {P : List (Nat × Nat)} {Q : Flow → Shared → Prop}
    (KX : (KB w.params).In g) (hA : Room 3 A) (D : RD g rw ra R) (hr : ra[k]? = some l) (hn : (R k).length < 2 ^ 8) (gdu : g.get? du = none) (gI : g.get? I1 = none) (oI : ∀ b ∈ own (lwEnv w.params L), b ∉ [I1]) (hd1 : du ∉ [I1]) (lI : ∃ o, h.get? I1 = some o) (hP : P.length < 2 ^ 8)
    (X : DI g (lwEnv w.params L) cm R du [I1] (fun m => m (Str.ofString "row") = some (.ref l)) P h)
    (H : ∀ h' t', DI g (lwEnv w.params L) cm R du [I1] (fun _ => True) (P ++ (List.range (R k).length).map fun p => (k, p)) h' → (∀ b o, b ∉ own (lwEnv w.params L) → b ≠ du → h.get? b = some o → h'.get? b = some o) → Q .next (St h' c t')) :
    wpAny (model pw w) A (exec lwFor (lwEnv w.params L)) Q E (St h c t) := by
  obtain ⟨⟨m, F, md, mr⟩, ds, ldu, pr⟩ := X
  have KXh := KX.keeps F.keep
  have lR := F.keep.list (D.r k l hr)
  rw [lw_for]
  generalize hin : lwIn = sin
  repeat' (walk_at "ww")
  refine lenr lR (by omega) fun u1 t1 => ?_
  repeat' (walk_at "ww")
  refine c_range fun h2 r ta tb t2 k2 hr2 hR2 => ?_
  repeat' (walk_at "ww")
  refine pi_range hR2 (by omega) fun h3 I2 k3 nI zI hI => ?_
  have k03 : Keeps h h3 := Keeps.trans k2 k3
  have nIh : h.get? I2 = none := by
    cases q : h.get? I2 with
    | none => rfl
    | some o => rw [k2 _ _ q] at nI; cases nI
  have gI2 : g.get? I2 = none := by
    cases q : g.get? I2 with
    | none => rfl
    | some o => rw [F.keep _ _ q] at nIh; cases nIh
  have oI2 : ∀ b ∈ own (lwEnv w.params L), b ∉ [I2] := fun b hb z => F.notOwn lw_nd nIh (by rw [List.mem_singleton] at z; rw [← z]; exact hb)
  have hd2 : du ∉ [I2] := fun z => by rw [List.mem_singleton] at z; obtain ⟨n, e⟩ := ldu; rw [z, nIh] at e; cases e
  have I12 : I1 ≠ I2 := fun z => by obtain ⟨o, e⟩ := lI; rw [z, nIh] at e; cases e
  have oI1 : I1 ∉ own (lwEnv w.params L) := fun z => oI I1 z (.head _)
  have gW : ∀ b ∈ [I1, I2], g.get? b = none := fun b hb => by
    simp only [List.mem_cons, List.not_mem_nil, or_false] at hb
    rcases hb with rfl | rfl
    · exact gI
    · exact gI2
  have oW : ∀ b ∈ own (lwEnv w.params L), b ∉ [I1, I2] := fun b hb z => by
    rcases List.mem_cons.mp z with z | z
    · exact oI b hb (z ▸ .head _)
    · exact oI2 b hb z
  have dW : du ∉ [I1, I2] := fun z => by
    rcases List.mem_cons.mp z with z | z
    · exact hd1 (z ▸ .head _)
    · exact hd2 z
  refine floop (Walks.range hA.2.2 I2 0 1 (R k).length) (fun i h' => DI g (lwEnv w.params L) cm R du [I1, I2] (fun m => m (Str.ofString "row") = some (.ref l)) (P ++ (List.range i).map fun p => (k, p)) h' ∧ (∀ b o, b ∉ own (lwEnv w.params L) → b ≠ du → h.get? b = some o → h'.get? b = some o))
    ?_ (by simpa using hI) ⟨⟨⟨m, F.grow k03, md, mr⟩, ds, k03.list ldu, ?_⟩, fun b o _ _ e => k03 b o e⟩ ?_ ?_ (fun _ => rfl)
  · rintro i h1 h1' ⟨X1, K1⟩ kk
    refine ⟨X1.mv gW oW dW fun b o hb e => kk b o (fun z => hb (.tail _ z)) e, fun b o h1 h2 e => kk b o (fun z => ?_) (K1 b o h1 h2 e)⟩
    rw [List.mem_singleton] at z
    rw [z, nIh] at e
    cases e
  · simp only [List.range_zero, List.map_nil, List.append_nil]
    refine pr.mono fun kp d q => ⟨q.1.at fun vs e => k03.list e, fun z => ?_⟩
    obtain ⟨x, y⟩ := q
    rcases List.mem_cons.mp z with z | z
    · exact y (z ▸ .head _)
    · rw [List.mem_singleton] at z
      obtain ⟨_, _, _, n, e⟩ := x
      rw [z, nIh] at e
      cases e
  · rintro i h1 t1 v E' hi ⟨tv, rfl⟩ S1 ⟨⟨⟨m1, F1, md1, mr1⟩, ds1, ldu1, pr1⟩, K1⟩
    have ei : (0 + (i : Int) * 1) = (i : Int) := by omega
    rw [ei]
    refine wpAny_assign_Name (svc F1 (fun h4 t4 F4 s4 => ?_) (by kernel_rfl) (by kernel_rfl))
    have L4 : (lwEnv w.params L).locals ∈ own (lwEnv w.params L) := .head _
    have ldu4 := ldu1.own' s4 F1 lw_nd L4
    have ll := pair_len pr1
    rw [List.length_append, List.length_map, List.length_range] at ll
    subst hin
    refine ex_cons ?_
    refine body_in KX hA F4 D ((if_neg (by decide +kernel)).trans md1) ((if_neg (by decide +kernel)).trans mr1) (if_pos rfl) hr hi (by omega) ldu4 gdu (by omega) fun h5 t5 d F5 l5 tr5 k5 nd5 => co_next (wpAny_execs_nil (fend_next ⟨h5, t5, rfl, ?_, ⟨⟨_, F5, (if_neg (by decide +kernel)).trans md1, (if_neg (by decide +kernel)).trans mr1⟩, ds1 ++ [d], l5, ?_⟩, fun b o h1 h2 e => k5 b o h2 ((s4.2 b fun z => h1 (z ▸ L4)).trans (K1 b o h1 h2 e))⟩))
    · have q := (s4.2 I2 fun z => oI2 _ L4 (z ▸ .head _)).trans S1
      have := k5 I2 _ (fun z => hd2 (z ▸ .head _)) q
      simpa using this
    · rw [List.range_succ, List.map_append, ← List.append_assoc]
      show Paired (fun kp d => TR h5 (hval g) R kp d ∧ d ∉ [I1, I2]) ((P ++ (List.range i).map fun p => (k, p)) ++ [(k, i)]) (ds1 ++ [d])
      refine Paired.snoc (pr1.mono fun kp d q => ⟨q.1.at fun vs e => ?_, q.2⟩) ⟨tr5, fun z => ?_⟩
      rotate_left
      · obtain ⟨x, y⟩ := q
        have e4 := e.own' s4 F1 lw_nd L4
        obtain ⟨n, e5⟩ := e4
        refine ⟨n, k5 _ _ (fun z => ?_) e5⟩
        subst z
        obtain ⟨_, _, _, q⟩ := x
        exact map_ref_ne (LL.inj q ldu1)
      · have live : ∃ o, h4.get? d = some o := by
          rcases List.mem_cons.mp z with z | z
          · obtain ⟨o, e⟩ := lI
            have q := K1 I1 o oI1 (fun z => hd1 (z ▸ .head _)) e
            exact ⟨o, by rw [z]; exact (s4.2 I1 fun z => oI1 (z ▸ L4)).trans q⟩
          · rw [List.mem_singleton] at z
            exact ⟨_, by rw [z]; exact (s4.2 I2 fun z => oI2 _ L4 (z ▸ .head _)).trans S1⟩
        obtain ⟨o, e⟩ := live
        rw [nd5] at e
        cases e
  · rintro h1 t1 ⟨⟨⟨m1, F1, md1, mr1⟩, ds1, ldu1, pr1⟩, K1⟩
    exact H h1 t1 ⟨⟨m1, F1, md1, trivial⟩, ds1, ldu1, pr1.mono fun kp d ⟨x, y⟩ => ⟨x, fun z => y (by rw [List.mem_singleton] at z; rw [z]; exact .head _)⟩⟩ K1
end T9_
section T10_
open PySem PySem.W PyProof.Rows PySem.W.X
theorem tot_succ {R : Nat → List Addr} {n : Nat} : tot R (n + 1) = tot R n + (R n).length := rfl
theorem tot_mono {R : Nat → List Addr} {n k : Nat} : tot R n ≤ tot R (n + k) := by
  induction k with
  | zero => exact Nat.le_refl _
  | succ k ih => exact Nat.le_trans ih (Nat.le_add_right _ _)
theorem law_s2 {w : World} {A : Around} {E : Value → Shared → Prop} {g h : Heap} {c : Shared} {t : Nat} {L rw du : Addr} {m cm : Str → Option Value} {ra : List Addr} {R : Nat → List Addr} {Q : Flow → Shared → Prop}
    (KX : (KB w.params).In g) (hA : Room 3 A) (D : RD g rw ra R) (hn : ra.length + tot R ra.length ≤ 17) (F : Fc g (lwEnv w.params L) h m cm) (hrow : cm (Str.ofString "rows") = some (.ref rw)) (md : m (Str.ofString "due") = some (.ref du)) (gdu : g.get? du = none) (ldu : LL h du [])
    (H : ∀ h' t', DI g (lwEnv w.params L) cm R du [] (fun _ => True) (prs R ra.length) h' → Q .next (St h' c t')) :
    wpAny (model pw w) A (exec (lwS 2) (lwEnv w.params L)) Q E (St h c t) := by
  have lrw := F.keep.list D.l
  rw [lw_s2]
  generalize hin : lwFor = sin
  repeat' (walk_at "ww")
  refine pi_list lrw fun h2 I k2 nI zI hI => ?_
  have gI : g.get? I = none := by
    cases q : g.get? I with
    | none => rfl
    | some o => rw [F.keep _ _ q] at nI; cases nI
  have oI : ∀ b ∈ own (lwEnv w.params L), b ∉ [I] := fun b hb z => F.notOwn lw_nd nI (by rw [List.mem_singleton] at z; rw [← z]; exact hb)
  have neI : ∀ {a : Addr} {us : List Value}, LL h a us → a ≠ I := fun {a us} x z => by obtain ⟨n, e⟩ := x; rw [z, nI] at e; cases e
  have hd1 : du ∉ [I] := fun z => by rw [List.mem_singleton] at z; exact neI ldu z
  have gW : ∀ b ∈ [I], g.get? b = none := fun b hb => by rw [List.mem_singleton] at hb; rw [hb]; exact gI
  have hsz : (ra.map Value.ref).toArray.size = ra.length := by simp
  have rwdu : rw ≠ du := fun z => by obtain ⟨n, e⟩ := D.l; rw [z, gdu] at e; cases e
  refine floop (Walks.list hA.2.2 I rw (neI lrw) (ra.map Value.ref).toArray) (fun i h' => DI g (lwEnv w.params L) cm R du [I] (fun _ => True) (prs R i) h')
    (fun i h1 h1' X kk => X.mv gW oI hd1 kk) ⟨hI, (k2.list lrw).is⟩ ⟨⟨m, F.grow k2, md, trivial⟩, [], k2.list ldu, .nil⟩ ?_ ?_ (fun _ => rfl)
  · rintro i h1 t1 v E' hi hv ⟨S1, S2⟩ ⟨⟨m1, F1, md1, _⟩, ds1, ldu1, pr1⟩
    rw [hsz] at hi
    have er : ra[i]? = some ra[i] := List.getElem?_eq_getElem hi
    have gv : (ra.map Value.ref)[i]? = some v := by simpa using hv
    rw [List.getElem?_map, er] at gv
    cases gv
    generalize ra[i] = l at *
    refine wpAny_assign_Name (svc F1 (fun h4 t4 F4 s4 => ?_) (by kernel_rfl) (by kernel_rfl))
    have L4 : (lwEnv w.params L).locals ∈ own (lwEnv w.params L) := .head _
    subst hin
    refine ex_cons ?_
    have hl1 : ra.length + tot R (i + 1) ≤ 17 := by
      have := tot_mono (R := R) (n := i + 1) (k := ra.length - (i + 1))
      rw [show i + 1 + (ra.length - (i + 1)) = ra.length from by omega] at this
      omega
    rw [tot_succ] at hl1
    have oIm : I ∉ own (lwEnv w.params L) := fun z => oI I z (.head _)
    have S14 : h4.IsListIter I rw (i + 1) := S1.at fun o e => (s4.2 I fun z => oIm (z ▸ L4)).trans e
    have rwO : rw ∉ own (lwEnv w.params L) := F.ll lw_nd lrw
    have S24 : h4.IsList rw (ra.map Value.ref).toArray := S2.at fun o e => (s4.2 rw fun z => rwO (z ▸ L4)).trans e
    refine inner KX hA D er (by omega) gdu gI oI hd1 (by obtain ⟨o, e, _⟩ := S14; exact ⟨o, e⟩) (by rw [prs_len]; omega) ⟨⟨_, F4, (if_neg (by decide +kernel)).trans md1, if_pos rfl⟩, ds1, ldu1.own' s4 F1 lw_nd L4, pr1.mono fun kp d q => ⟨q.1.at fun vs e => e.own' s4 F1 lw_nd L4, q.2⟩⟩ fun h5 t5 X5 K5 => co_next (wpAny_execs_nil (fend_next ⟨h5, t5, rfl, ⟨?_, ?_⟩, ?_⟩))
    · exact S14.at fun o e => K5 I o oIm (fun z => hd1 (z ▸ .head _)) e
    · exact S24.at fun o e => K5 rw o rwO rwdu e
    · rw [prs_succ]
      exact X5
  · intro h1 t1 X
    rw [hsz] at X
    exact H h1 t1 ⟨X.m, let ⟨ds, a, b⟩ := X.ds; ⟨ds, a, b.mono fun kp d q => ⟨q.1, fun z => by cases z⟩⟩⟩
theorem lw_s1 : lwS 1 = .Assign [nmE "due" ⟨124, 4, 124, 7⟩] (.List [] ⟨124, 10, 124, 12⟩) ⟨124, 4, 124, 12⟩ := by kernel_rfl
theorem law_s1 {w : World} {A : Around} {E : Value → Shared → Prop} {g h : Heap} {c : Shared} {t : Nat} {L : Addr} {m cm : Str → Option Value} {Q : Flow → Shared → Prop} (F : Fc g (lwEnv w.params L) h m cm)
    (H : ∀ h' t' du, Fc g (lwEnv w.params L) h' (fun y => if y = Str.ofString "due" then some (.ref du) else m y) cm → LL h' du [] → g.get? du = none → Q .next (St h' c t')) :
    wpAny (model pw w) A (exec (lwS 1) (lwEnv w.params L)) Q E (St h c t) := by
  rw [lw_s1]
  repeat' (walk_at "ww")
  refine nl (Nat.zero_le _) fun h2 du k2 l2 z2 _ => ?_
  have F2 := F.grow k2
  refine svc F2 (fun h3 t3 F3 s3 => H h3 t3 du F3 (l2.own' s3 F2 lw_nd (.head _)) ?_) (by kernel_rfl) (by kernel_rfl)
  cases q : g.get? du with
  | none => rfl
  | some o => have := F.keep _ _ q; rw [none_of_ge z2] at this; cases this
end T10_
section T11_
open PySem PySem.W PyProof.Rows PySem.W.X
/-! due in order is the items in order -/
noncomputable def itm (R : Nat → List Addr) (kp : Nat × Nat) : Addr := (R kp.1).getD kp.2 0
theorem prs_mem {R : Nat → List Addr} {n : Nat} {kp : Nat × Nat} : kp ∈ prs R n ↔ kp.1 < n ∧ kp.2 < (R kp.1).length := by
  unfold prs
  rw [List.mem_flatMap]
  constructor
  · rintro ⟨k, hk, h⟩
    obtain ⟨p, hp, rfl⟩ := List.mem_map.mp h
    exact ⟨List.mem_range.mp hk, List.mem_range.mp hp⟩
  · rintro ⟨h1, h2⟩
    exact ⟨kp.1, List.mem_range.mpr h1, List.mem_map.mpr ⟨kp.2, List.mem_range.mpr h2, rfl⟩⟩
theorem prs_nd {R : Nat → List Addr} : ∀ {n : Nat}, (prs R n).Nodup
  | 0 => List.nodup_nil
  | n + 1 => by
    rw [prs_succ, List.nodup_append]
    refine ⟨prs_nd, ?_, fun a ha b hb z => ?_⟩
    · refine List.Pairwise.map _ (fun a b h z => h ?_) List.nodup_range
      exact (Prod.mk.inj z).2
    · subst z
      obtain ⟨p, _, rfl⟩ := List.mem_map.mp hb
      exact Nat.lt_irrefl _ (prs_mem.mp ha).1
theorem itm_get {R : Nat → List Addr} {n : Nat} {kp : Nat × Nat} (h : kp ∈ prs R n) : (R kp.1)[kp.2]? = some (itm R kp) := by
  have := (prs_mem.mp h).2
  unfold itm
  rw [List.getD_eq_getElem?_getD, List.getElem?_eq_getElem this]
  rfl
theorem len3 {α : Type} : ∀ {l : List α}, l.length = 3 → ∃ a b c, l = [a, b, c]
  | [a, b, c], _ => ⟨a, b, c, rfl⟩
theorem lex3 {a b : List (Int × Tok)} {a1 a2 a3 b1 b2 b3 : Int} (ha : a.map (·.1) = [a1, a2, a3]) (hb : b.map (·.1) = [b1, b2, b3]) (h : lexlt a b = true) : a1 < b1 ∨ (a1 = b1 ∧ (a2 < b2 ∨ (a2 = b2 ∧ a3 < b3))) := by
  obtain ⟨x1, x2, x3, rfl⟩ := len3 (l := a) (by have := congrArg List.length ha; simpa using this)
  obtain ⟨y1, y2, y3, rfl⟩ := len3 (l := b) (by have := congrArg List.length hb; simpa using this)
  simp only [List.map_cons, List.map_nil, List.cons.injEq, and_true] at ha hb
  obtain ⟨rfl, rfl, rfl⟩ := ha
  obtain ⟨rfl, rfl, rfl⟩ := hb
  unfold lexlt at h
  by_cases e1 : x1.1 = y1.1
  · rw [if_pos e1] at h
    unfold lexlt at h
    by_cases e2 : x2.1 = y2.1
    · rw [if_pos e2] at h
      unfold lexlt at h
      by_cases e3 : x3.1 = y3.1
      · rw [if_pos e3] at h
        cases h
      · rw [if_neg e3] at h
        exact .inr ⟨e1, .inr ⟨e2, of_decide_eq_true h⟩⟩
    · rw [if_neg e2] at h
      exact .inr ⟨e1, .inl (of_decide_eq_true h)⟩
  · rw [if_neg e1] at h
    exact .inl (of_decide_eq_true h)
theorem getD_of {α : Type} {l : List α} {i : Nat} {x d : α} (h : l[i]? = some x) : l.getD i d = x := by rw [List.getD_eq_getElem?_getD, h]; rfl
noncomputable def kyi (g : Heap) (R : Nat → List Addr) (kp : Nat × Nat) : List Int := [gh (hval g) R kp.1 kp.2, (kp.1 : Nat), (kp.2 : Nat)]
theorem due_sorted {g : Heap} {rw : Addr} {ra : List Addr} {R : Nat → List Addr} {kf : Nat → List (Int × Tok)} {p : Array Nat} {N : Nat} (D : RD g rw ra R) (hN : (prs R ra.length).length = N) (hp : p.Perm (List.range N).toArray) (ha : Asc (oS N kf) p N)
    (hk : ∀ i, i < N → (kf i).map (·.1) = kyi g R ((prs R ra.length).getD i (0, 0))) :
    (p.toList.map fun i => itm R ((prs R ra.length).getD i (0, 0))).Pairwise (Kl (KY g R)) ∧ ∀ y, y ∈ (p.toList.map fun i => itm R ((prs R ra.length).getD i (0, 0))) ↔ ∃ k, y ∈ R k := by
  have hz : p.size = N := by rw [hp.size_eq]; simp
  have hlt : ∀ i, i < N → p.getD i 0 < N := fun i hi => by
    have : p[i]'(by omega) ∈ p := Array.getElem_mem _
    have := hp.mem_iff.mp this
    rw [Array.getD_eq_getD_getElem?, Array.getElem?_eq_getElem (by omega)]
    simpa using this
  have hin : ∀ i, i < N → (prs R ra.length).getD i (0, 0) ∈ prs R ra.length := fun i hi => by
    rw [List.getD_eq_getElem?_getD, List.getElem?_eq_getElem (by omega)]
    exact List.getElem_mem _
  constructor
  · rw [List.pairwise_iff_getElem]
    intro i j hi hj hij
    rw [List.length_map, Array.length_toList, hz] at hi hj
    have h := ha i j hij hj
    unfold oS at h
    rw [if_pos (hlt i hi), if_pos (hlt j hj)] at h
    have ei : p.toList[i]'(by simpa [hz] using hi) = p.getD i 0 := by rw [Array.getD_eq_getD_getElem?, Array.getElem?_eq_getElem (by omega)]; simp
    have ej : p.toList[j]'(by simpa [hz] using hj) = p.getD j 0 := by rw [Array.getD_eq_getD_getElem?, Array.getElem?_eq_getElem (by omega)]; simp
    rw [List.getElem_map, List.getElem_map, ei, ej]
    have hi' := hin _ (hlt i hi)
    have hj' := hin _ (hlt j hj)
    have q := lex3 (hk _ (hlt i hi)) (hk _ (hlt j hj)) h
    generalize (prs R ra.length).getD (p.getD i 0) (0, 0) = a at *
    generalize (prs R ra.length).getD (p.getD j 0) (0, 0) = b at *
    have ga := itm_get hi'
    have gb := itm_get hj'
    have r1 : (KY g R).rr (itm R a) = (a.1 : Nat) := D.row' ga
    have r2 : (KY g R).rr (itm R b) = (b.1 : Nat) := D.row' gb
    have p1 : (KY g R).kk (itm R a) = (a.2 : Nat) := D.plc ga
    have p2 : (KY g R).kk (itm R b) = (b.2 : Nat) := D.plc gb
    unfold Kl
    rw [D.M ga, D.M gb, r1, r2, p1, p2]
    exact q
  · intro y
    constructor
    · intro hy
      obtain ⟨i, hi, rfl⟩ := List.mem_map.mp hy
      have hi' : i < N := by
        have := hp.mem_iff.mp (Array.mem_toList_iff.mp hi)
        simpa using this
      exact ⟨_, List.mem_of_getElem? (itm_get (hin i hi'))⟩
    · rintro ⟨k, hy⟩
      obtain ⟨q, e⟩ := get_mem hy
      have hq : q < (R k).length := by
        rcases Nat.lt_or_ge q (R k).length with h | h
        · exact h
        · rw [List.getElem?_eq_none h] at e; cases e
      have hkn : k < ra.length := by
        rcases Nat.lt_or_ge k ra.length with h | h
        · exact h
        · rw [D.e k h] at e; cases e
      have hm : (k, q) ∈ prs R ra.length := prs_mem.mpr ⟨hkn, hq⟩
      obtain ⟨i, ei⟩ := get_mem hm
      have hiN : i < N := by
        rcases Nat.lt_or_ge i N with h | h
        · exact h
        · rw [List.getElem?_eq_none (by omega)] at ei; cases ei
      refine List.mem_map.mpr ⟨i, Array.mem_toList_iff.mpr (hp.mem_iff.mpr (by simpa using hiN)), ?_⟩
      rw [getD_of ei]
      have := itm_get hm
      rw [e] at this
      exact (Option.some.inj this).symm
theorem kf_of {h g : Heap} {R : Nat → List Addr} {n : Nat} {ds : List Addr} (pr : Paired (fun kp d => TR h (hval g) R kp d ∧ d ∉ ([] : List Addr)) (prs R n) ds) :
    ∃ kf : Nat → List (Int × Tok), ∀ i, i < ds.length → LL h (ds.getD i 0) ((kf i).map iv) ∧ (kf i).map (·.1) = kyi g R ((prs R n).getD i (0, 0)) := by
  have : ∀ i, ∃ xs : List (Int × Tok), i < ds.length → LL h (ds.getD i 0) (xs.map iv) ∧ xs.map (·.1) = kyi g R ((prs R n).getD i (0, 0)) := fun i => by
    by_cases hi : i < ds.length
    · have e : ds[i]? = some (ds.getD i 0) := by rw [List.getD_eq_getElem?_getD, List.getElem?_eq_getElem hi]; rfl
      obtain ⟨kp, ek, ⟨u1, u2, u3, q⟩, _⟩ := Paired.get pr i _ e
      exact ⟨[(gh (hval g) R kp.1 kp.2, u1), ((kp.1 : Nat), u2), ((kp.2 : Nat), u3)], fun _ => ⟨q, by rw [getD_of ek]; rfl⟩⟩
    · exact ⟨[], fun h => absurd h hi⟩
  exact Classical.skolem.mp this
end T11_
section T12_
open PySem PySem.W PyProof.Rows PySem.W.X
theorem it2 {w : World} {A : Around} {E : Value → Shared → Prop} {h : Heap} {c : Shared} {t : Nat} {u : Tok} {value slice : PySem.Expr} {l : Addr} {v0 v1 v2 : Value} {vs : List Value} {Q : Value → Shared → Prop} (hl : LL h l (v0 :: v1 :: v2 :: vs)) (H : Q v2 (St h c t))
    (hs : subscripted slice false (.ref l) (.int 2 u) = operate [.ref l, .int 2 u] (getItem (.ref l) (.int 2 u))) : wpAny (model pw w) A (subscriptTail value slice (.ref l) (.int 2 u)) Q E (St h c t) :=
  tail_any (s := St h c t) hl.is.typeIs slot_list_getitem.lookup (wpAny_getItem_list hl.is (by decide) (by decide) (by simp) H) hs
theorem law_s3 {w : World} {A : Around} {E : Value → Shared → Prop} {g h : Heap} {c : Shared} {t : Nat} {L rw du : Addr} {cm : Str → Option Value} {ra : List Addr} {R : Nat → List Addr} {Q : Flow → Shared → Prop}
    (KX : (KB w.params).In g) (hA : Room 3 A) (D : RD g rw ra R) (hn : ra.length + tot R ra.length ≤ 17) (h2t : 2 ≤ tot R ra.length) (hrow : cm (Str.ofString "rows") = some (.ref rw)) (X : DI g (lwEnv w.params L) cm R du [] (fun _ => True) (prs R ra.length) h)
    (H : ∀ g' h' t' m ld (xs : List Addr), Keeps g g' → Fc g' (lwEnv w.params L) h' m cm → m (Str.ofString "due") = some (.ref ld) → LL g' ld (xs.map Value.ref) → xs.Pairwise (Kl (KY g R)) → (∀ y, y ∈ xs ↔ ∃ k, y ∈ R k) → Q .next (St h' c t')) :
    wpAny (model pw w) A (exec (lwS 3) (lwEnv w.params L)) Q E (St h c t) := by
  obtain ⟨⟨m, F, md, _⟩, ds, ldu, pr⟩ := X
  obtain ⟨kf, hkf⟩ := kf_of pr
  have hlen : ds.length = (prs R ra.length).length := pair_len pr
  have hN : ds.length = tot R ra.length := hlen.trans prs_len
  have KXh := KX.keeps F.keep
  have kyl : ∀ i, i < ds.length → (kf i).length = 3 := fun i hi => by
    have := congrArg List.length (hkf i hi).2
    rw [List.length_map] at this
    exact this
  rw [lw_s3]
  refine lcAL (c := c) (by kernel_rfl) lw_nd (by kernel_rfl) (by kernel_rfl) lcd_clos (no_cell (by kernel_rfl)) (by kernel_rfl) (nms (by kernel_rfl)) (by kernel_rfl) ?_ (by intro _; kernel_rfl)
  rw [lcd_iter]
  repeat' (walk_at "ww")
  refine c_sorted (L := (lwEnv w.params L).locals) (kf := kf) F.ns (hA.le (by decide)) ldu (fun z => F.ll lw_nd ldu (z ▸ .head _)) (by omega) (by omega) (fun i hi => ⟨(hkf i hi).1, fun z => F.ll lw_nd (hkf i hi).1 (z ▸ .head _), kyl i hi⟩) (fun i j hi hj hij z => ?_) fun h2 S p ns2 k2 nS neS pp pa lS => ?_
  · rw [(hkf i hi).2, (hkf j hj).2] at z
    unfold kyi at z
    simp only [List.cons.injEq, and_true] at z
    have e1 : (prs R ra.length).getD i (0, 0) = (prs R ra.length).getD j (0, 0) := Prod.ext (Int.ofNat.inj z.2.1) (Int.ofNat.inj z.2.2)
    rw [List.getD_eq_getElem?_getD, List.getD_eq_getElem?_getD, List.getElem?_eq_getElem (by omega), List.getElem?_eq_getElem (by omega)] at e1
    exact hij ((List.getElem_inj prs_nd).mp e1)
  · obtain ⟨sx, mx'⟩ := due_sorted D hlen.symm pp pa fun i hi => (hkf i hi).2
    have hpl : p.toList.length = ds.length := by rw [Array.length_toList, pp.size_eq]; simp
    have hpm : ∀ i, i ∈ p.toList → i < ds.length := fun i hi => by
      have := pp.mem_iff.mp (Array.mem_toList_iff.mp hi)
      simpa using this
    generalize hpt : p.toList = pt at *
    have L0 : (lwEnv w.params L).locals ∈ own (lwEnv w.params L) := .head _
    have F2 : Fc g (lwEnv w.params L) h2 m cm := by
      refine ⟨ns2, fun n a e => is_get (F.cell n a e) fun o q => k2 _ _ (Nat.ne_of_gt (F.above n a (mem_lookup e))) q, F.apart, F.above, fun b o e => k2 b o (fun z => ?_) (F.keep _ _ e), F.hidL, F.hidC⟩
      rw [z, F.hidL] at e
      cases e
    refine pi_list lS fun h3 I k3 nI zI hI => ?_
    have F3 := F2.grow k3
    have gI : g.get? I = none := by
      cases q : g.get? I with
      | none => rfl
      | some o => rw [F2.keep _ _ q] at nI; cases nI
    have hSI : S ≠ I := fun z => by obtain ⟨n, e⟩ := lS; rw [z, nI] at e; cases e
    have hsz : ((pt.map fun i => ds.getD i 0).map Value.ref).toArray.size = pt.length := by simp
    have up : ∀ h', (∀ b o, b ∉ [I] → h3.get? b = some o → h'.get? b = some o) → Keeps g h' := fun h' hk b o e => hk b o (by intro z; rw [List.mem_singleton] at z; rw [z, gI] at e; cases e) (F3.keep _ _ e)
    have ce3 : h3.IsCell (L + 1) (some (.ref rw)) := hrow ▸ F3.cell _ _ lw_rows
    have lds : ∀ i, i < ds.length → LL h2 (ds.getD i 0) ((kf i).map iv) := fun i hi => by
      obtain ⟨n, e⟩ := (hkf i hi).1
      exact ⟨n, k2 _ _ (fun z => F.ll lw_nd (hkf i hi).1 (z ▸ L0)) e⟩
    refine ⟨h3, _, I, [I, S], [I], _, _, _, fun C D' i ys h' => ys = ((pt.take i).map fun i => itm R ((prs R ra.length).getD i (0, 0))).map Value.ref, g, m, cm, rfl, rfl, ⟨Walks.list hA.2.2 I S hSI ((pt.map fun i => ds.getD i 0).map Value.ref).toArray, by rw [hsz]; omega, ⟨hI, (k3.list lS).is⟩, ?_, ?_, ?_, ?_, ?_, ?_⟩, F3, fun b hb z => F2.notOwn lw_nd nI (by rw [List.mem_singleton] at z; rw [← z]; exact hb), ?_⟩
    · intro b hb
      simp only [List.mem_cons, List.not_mem_nil, or_false] at hb
      rcases hb with rfl | rfl
      · exact zI
      · exact (k3.list lS).lt
    · intro i h' st b hb; rw [List.mem_singleton] at hb; subst hb; obtain ⟨⟨o, e, _⟩, _⟩ := st; exact ⟨o, e⟩
    · intro C D' h' _ _ _; rfl
    · rintro C D' i ys h' rfl
      rw [List.length_map, List.length_map, List.length_take]
      omega
    · rintro C D' i ys h' h'' e _; exact e
    · rintro C D' i v ys h4 t4 m4 E' hi4 hv4 nC nD hCD hk ns hm4 lD S4 lv rfl
      have gi : i < pt.length := by simpa using hi4
      have gv : ((pt.map fun i => ds.getD i 0).map Value.ref)[i]? = some v := by simpa using hv4
      rw [List.getElem?_map, List.getElem?_map, List.getElem?_eq_getElem gi] at gv
      cases gv
      have ii := hpm _ (List.getElem_mem gi)
      have hm4' := hm4
      generalize hpi : pt[i] = ix at *
      have l4 : LL h4 (ds.getD ix 0) ((kf ix).map iv) := by
        obtain ⟨n, e⟩ := lds ix ii
        refine ⟨n, hk _ _ (fun z => ?_) (k3 _ _ e)⟩
        rw [List.mem_singleton] at z
        rw [z, nI] at e
        cases e
      have kin : (prs R ra.length).getD ix (0, 0) ∈ prs R ra.length := by
        rw [List.getD_eq_getElem?_getD, List.getElem?_eq_getElem (by omega)]
        exact List.getElem_mem _
      have e3 := (hkf ix ii).2
      have ec : ((pt.take (i + 1)).map fun i => itm R ((prs R ra.length).getD i (0, 0))) = ((pt.take i).map fun i => itm R ((prs R ra.length).getD i (0, 0))) ++ [itm R ((prs R ra.length).getD ix (0, 0))] := by
        rw [List.take_add_one, List.getElem?_eq_getElem gi, hpi, List.map_append]
        rfl
      rw [ec]
      generalize (prs R ra.length).getD ix (0, 0) = kp at *
      obtain ⟨h1k, h2k⟩ := prs_mem.mp kin
      obtain ⟨x1, x2, x3, ekf⟩ := len3 (kyl ix ii)
      rw [ekf] at e3 l4
      unfold kyi at e3
      simp only [List.map_cons, List.map_nil, List.cons.injEq, and_true] at e3
      obtain ⟨_, q2, q3⟩ := e3
      obtain ⟨v2, u2⟩ := x2
      obtain ⟨v3, u3⟩ := x3
      simp only at q2 q3
      subst q2 q3
      have ce4 := is_get ce3 fun o q => hk _ _ (by intro z; rw [List.mem_singleton] at z; exact F2.notOwn lw_nd nI (z ▸ own_cell (mem_lookup lw_rows))) q
      have gk := up h4 hk
      rw [lcd_x] at hm4
      rw [lcd_ifs, lcd_elt]
      refine wpAny_tests_nil ?_
      rw [if_pos rfl]
      repeat' (walk_at "ww")
      refine it1 l4 ?_ (by with_unfolding_all rfl)
      refine itr (gk.list D.l) rfl h1k (by omega) ?_ (by with_unfolding_all rfl)
      repeat' (walk_at "ww")
      refine it2 l4 ?_ (by with_unfolding_all rfl)
      have er : ra[kp.1]? = some (ra.getD kp.1 0) := by rw [List.getD_eq_getElem?_getD, List.getElem?_eq_getElem h1k]; rfl
      have hlR : (R kp.1).length < 2 ^ 60 := by
        have := tot_le (R := R) h1k
        omega
      refine itr (gk.list (D.r _ _ er)) rfl h2k hlR ?_ (by with_unfolding_all rfl)
      refine ⟨h4, _, rfl, Keeps.refl _, ?_⟩
      rw [List.map_append]
      rfl
    · rintro C D' h4 h5 t5 ys nC nD hCD rfl lD kk hk F5
      rw [hsz, List.take_of_length_le (Nat.le_refl _)] at lD
      refine H _ h5 t5 _ D' _ (fun b o e => hideAll_get _ (hk b o (fun z => ?_) (F.gOwn e) (F3.keep _ _ e)) (F.gOwn e)) F5 (if_pos rfl) (F5.llBase lw_nd lD) sx mx'
      rw [List.mem_singleton] at z
      rw [z, gI] at e
      cases e
end T12_
section T13_
open PySem PySem.W PyProof.Rows PySem.W.X
variable {N : NB}
theorem lw_s4 : lwS 4 = .Assign [nmE "faults" ⟨129, 4, 129, 10⟩] (.List [] ⟨129, 13, 129, 15⟩) ⟨129, 4, 129, 15⟩ := by kernel_rfl
theorem lw_s5 : lwS 5 = .Assign [nmE "whole" ⟨130, 4, 130, 9⟩] (.Call (nmE "_law_merge" ⟨130, 12, 130, 22⟩) [nmE "rows" ⟨130, 23, 130, 27⟩, nmE "faults" ⟨130, 29, 130, 35⟩] [] ⟨130, 12, 130, 36⟩) ⟨130, 4, 130, 36⟩ := by kernel_rfl
section
variable {w : World} {A : Around} {E : Value → Shared → Prop} {g h h' : Heap} {c : Shared} {t : Nat} {L : Addr} {m cm : Str → Option Value} {rw : Addr} {ra : List Addr} {R : Nat → List Addr} {val : Addr → Int} {env : Env} {P : Params} {Q : Flow → Shared → Prop}
theorem law_s4 (F : Fc g (lwEnv w.params L) h m cm)
    (H : ∀ g' h' t' fa, Keeps g g' → Fc g' (lwEnv w.params L) h' m (fun y => if y = Str.ofString "faults" then some (.ref fa) else cm y) → LL g' fa [] → Q .next (St h' c t')) :
    wpAny (model pw w) A (exec (lwS 4) (lwEnv w.params L)) Q E (St h c t) := by
  rw [lw_s4]
  repeat' (walk_at "ww")
  refine nl (Nat.zero_le _) fun h2 fa k2 l2 z2 _ => ?_
  have F2 := F.grow k2
  refine scc F2 (fun h3 t3 a3 m3 F3 s3 => ?_) (by kernel_rfl) (by kernel_rfl) lw_faults
  obtain ⟨F4, k4⟩ := F3.anew (Keeps.refl _)
  exact H _ h3 t3 fa k4 F4 (F3.llBase lw_nd (l2.own' s3 F2 lw_nd (own_cell m3)))
theorem Fc.okb (F : Fc g env h m cm) (nd : (env.cells.map (·.1)).Nodup) (h104 : ∀ b ∈ own env, 104 ≤ b) (o : Ok N h h') (T : CT N h') : Fc (hideAll h' (own env)) env h' m cm ∧ Ok N g (hideAll h' (own env)) ∧ CT N (hideAll h' (own env)) := by
  have F' := F.ok nd h104 o
  exact ⟨F', fun b ob e n1 n2 => hideAll_get _ (o b ob (F.keep _ _ e) n1 n2) (F.gOwn e), T.kf (KF.hid (F'.noRec nd))⟩
theorem Rows.ok {ps : Array Value} (x : Rows h rw ra R val) (o : Ok N h h') (h16 : h.get? 16 = some (tabObj ps)) : Rows h' rw ra R val :=
  ⟨LL.ok x.l o h16, x.n, fun a b e => ⟨LL.ok (x.r a b e).1 o h16, (x.r a b e).2⟩, x.e, fun a b e => let ⟨u, l, q⟩ := x.i a b e; ⟨u, l, LL.ok q o h16⟩⟩
structure LG (N : NB) (w : World) (g : Heap) (rw : Addr) (ra : List Addr) (R : Nat → List Addr) (val : Addr → Int) (fa ld : Addr) (xs : List Addr) (ps : Array Value) : Prop where
  kx : (KB w.params).In g
  ct : CT N g
  rows : Rows g rw ra R val
  tab : g.get? 100 = some (tabObj ps)
  fa : LL g fa []
  due : LL g ld (xs.map Value.ref)
theorem LG.ok {fa ld : Addr} {xs : List Addr} {ps : Array Value} (x : LG N w g rw ra R val fa ld xs ps) (o : Ok N g h) (T : CT N h) : LG N w h rw ra R val fa ld xs ps := by
  obtain ⟨p16, h16, _⟩ := id x.ct
  exact ⟨o.kb x.kx, T, x.rows.ok o h16, o 100 _ x.tab (by decide) (fun z => absurd (Nat.le_trans N.2 z) (by decide)), LL.ok x.fa o h16, LL.ok x.due o h16⟩
theorem lw_104 (hz : N.1 ≤ L) : ∀ b ∈ own (lwEnv P L), 104 ≤ b := fun b hb => Nat.le_trans N.2 (Nat.le_trans hz (lw_own' b hb))
theorem law_s5 {fa ld : Addr} {xs : List Addr} {ps : Array Value} (hA : Room 14 A) (hz : N.1 ≤ L) (G : LG N w g rw ra R val fa ld xs ps) (F : Fc g (lwEnv w.params L) h m cm) (hrow : cm (Str.ofString "rows") = some (.ref rw)) (hfa : cm (Str.ofString "faults") = some (.ref fa))
    (H : ∀ g' h' t' ca out, Ok N g g' → LG N w g' rw ra R val fa ld xs ps → Fc g' (lwEnv w.params L) h' (fun y => if y = Str.ofString "whole" then some (.ref ca) else m y) cm → LL g' ca (out.map Value.ref) → Mg val R out → Q .next (St h' c t')) :
    wpAny (model pw w) A (exec (lwS 5) (lwEnv w.params L)) Q E (St h c t) := by
  have KXh := G.kx.keeps F.keep
  rw [lw_s5]
  repeat' (walk_at "ww")
  refine ⟨KXh, cl (merge_spec KXh hA (Nat.le_trans hz (Nat.le_of_lt F.ns.lt)) (G.ct.keeps F.keep) (G.rows.keeps F.keep) fun h2 t2 ca out o2 z2 T2 l2 n2 mg => rq_ret ?_)⟩
  obtain ⟨F3, o3, T3⟩ := F.okb lw_nd (lw_104 hz) o2 T2
  have l3 := F3.llBase lw_nd l2
  refine svc F3 (fun h4 t4 F4 s4 => H _ h4 t4 ca out o3 (G.ok o3 T3) F4 l3 mg) (by kernel_rfl) (by kernel_rfl)
end
end T13_
section T14_
open PySem PySem.W PyProof.Rows PySem.W.X
variable {N : NB}
noncomputable def CRec (h : Heap) (c : Addr) (q : Str) : Prop := ∃ o vs t, h.get? c = some o ∧ o.cls = .type "code" ∧ o.data = .fields vs ∧ vs[1]? = some (.str q t)
theorem CRec.rec' {h : Heap} {c : Addr} {q : Str} (x : CRec h c q) : h.CodeRec (.ref c) q := let ⟨o, vs, t, a, _, b, d⟩ := x; ⟨c, o, vs, t, rfl, a, b, d⟩
theorem CRec.at {h h' : Heap} {c : Addr} {q : Str} (x : CRec h c q) (k : ∀ o, h.get? c = some o → o.cls = .type "code" → (∃ vs, o.data = .fields vs) → h'.get? c = some o) : CRec h' c q := let ⟨o, vs, t, a, b, d, e⟩ := x; ⟨o, vs, t, k o a b ⟨vs, d⟩, b, d, e⟩
structure Lm where
  params : Arguments
  body : PySem.Expr
  scope : Scope
  pos : Pos
noncomputable def lmOf : PySem.Expr → Lm
  | .Lambda p b s q => ⟨p, b, s, q⟩
  | _ => ⟨⟨[], [], none, [], [], none, []⟩, .Constant .none 0 ⟨0, 0, 0, 0⟩, default, ⟨0, 0, 0, 0⟩⟩
noncomputable def lm (b : Bool) : Lm := lmOf (arg0 (asVal (lwS (if b = true then 7 else 6))))
noncomputable abbrev lmQ : Str := Str.ofString "law.<locals>.<lambda>"
noncomputable abbrev lmO (b : Bool) (cl : Addr) (c' : Addr) (ct : Value) : Obj := kla_obj "<lambda>" lmQ (lm b).params (lm b).body (lm b).scope [(Str.ofString "faults", cl)] (.str (Str.ofString "law_mg0032_01") 265) c' ct
theorem lm_body0 : (lm false).body = .Call (nmE "_law_merge" ⟨131, 34, 131, 44⟩) [.List [nmE "came" ⟨131, 46, 131, 50⟩, nmE "row" ⟨131, 52, 131, 55⟩] ⟨131, 45, 131, 56⟩, nmE "faults" ⟨131, 58, 131, 64⟩] [] ⟨131, 34, 131, 65⟩ := by kernel_rfl
theorem lm_body1 : (lm true).body = .Call (nmE "_law_merge" ⟨132, 36, 132, 46⟩) [.List [nmE "row" ⟨132, 48, 132, 51⟩, nmE "came" ⟨132, 53, 132, 57⟩] ⟨132, 47, 132, 58⟩, nmE "faults" ⟨132, 60, 132, 66⟩] [] ⟨132, 36, 132, 67⟩ := by kernel_rfl
theorem lm_clos {P : Params} {L : Addr} {b : Bool} : closureFor (lm b).scope (lwEnv P L) = pure [(Str.ofString "faults", L + 1 + 1)] := by cases b <;> kernel_rfl
section
variable {w : World} {A : Around} {E : Value → Shared → Prop} {h : Heap} {c : Shared} {t : Nat}
theorem mkl {env : Env} {name qual : Str} {params : Arguments} {body : PySem.Expr} {scope : Scope} {pos : Pos} {fl : Nat} {q : Str × Addr} {c0 P : Addr} {ps : Array Value} {Q : Value → Shared → Prop}
    (KX : (KB w.params).In h) (hcl : closureFor scope env = pure [q]) (hge : env.globals = mainGlobals) (hcode : env.code = .ref c0) (C : CodeHd h c0 P) (hP : h.get? P = some (tabObj ps)) (ht : TriplesOk ps.toList) (hnf : codeAmong pos ps.toList = none)
    (H : ∀ h' t' f c' ctv, Heap.ExtBut P h h' → h'.get? f = some (kla_obj name qual params body scope [q] (.str (Str.ofString "law_mg0032_01") 265) c' ctv) → CRec h' c' qual → h.get? f = none → h.get? c' = none → h'.get? P = some (tabObj (ps ++ #[rawInt pos.line, rawInt pos.col, .ref c'])) → Q (.ref f) (St h' c t')) :
    wpAny (model pw w) A (makeFunction name qual params (.expr body) scope env [] [] [] pos fl) Q E (St h c t) := by
  obtain ⟨mg, hn, hm1, hm2⟩ := gl_ns KX
  obtain ⟨bm, ob, hbm, hne0, _, hneP, hbo, hcls, hdict, hdata⟩ := bl_at KX hm1 hP
  have h3 : mainGlobals ≠ P := by
    rintro rfl
    have := KX 3 _ (by rfl)
    rw [show (3 : Addr) = mainGlobals from rfl, hP] at this
    cases this
  rw [makeFunction_eq]
  simp only [List.zip_nil_right, List.filterMap_nil, List.isEmpty_nil, if_true, pure_bind]
  unfold makeTail
  rw [hcl, hge]
  refine wpAny_bind (wpAny_pure ?_)
  simp only [List.isEmpty_cons, Bool.false_eq_true, if_false]
  refine wpAny_bind (wpAny_newTextTuple ?_)
  have kp : Keeps h (h.push { cls := .type "tuple", data := .seq (([q].mergeSort fun a b => a.1.cps.toList ≤ b.1.cps.toList).map (.ref ·.2)).toArray }) := Keeps.push _ _
  refine wpAny_bind (wpAny_functionCodeX hcode ((C.keeps kp).code (kp _ _ hP) ht) ((C.keeps kp).tab (kp _ _ hP)) hnf fun c' h' tk hx hge' hlt _ hrec htb hnew => ?_)
  have hx' : Heap.ExtBut P h h' := fun b o hb e => hx b o hb (kp _ _ e)
  refine wpAny_bind (wpAny_builtinsFor ((hn.keeps kp).extBut hx h3) hbm hne0 (hx' _ _ hneP hbo) hcls hdict hdata ?_)
  refine wpAny_bind (wpAny_nsGet ((hn.keeps kp).extBut hx h3) ?_)
  have hgc : h.objs.size ≤ c' := Nat.le_trans (by rw [Heap.size_push]; exact Nat.le_succ _) hge'
  rw [hm2]
  refine wpAny_bind (wpAny_pure (wpAny_newObj_type ?_ (by size_fits)))
  obtain ⟨P', _, hi, ht'⟩ := hnew
  obtain ⟨⟨o, vs, e1, e2, e3, _⟩, _⟩ := ht'
  obtain ⟨c2, o2, vs2, t2, z, e4, e5, e6⟩ := hrec
  cases z
  rw [e1] at e4
  cases e4
  refine H _ tk h'.objs.size c' _ (fun b o hb e => Heap.get?_push_of_some _ (hx' b o hb e)) (Heap.get?_push_size _ rfl) ⟨o, vs2, t2, Heap.get?_push_of_some _ e1, e2, e5, e6⟩ (none_of_ge ?_) (none_of_ge hgc) (Heap.get?_push_of_some _ htb.2)
  exact Nat.le_of_lt (Nat.lt_of_le_of_lt hgc hlt)
end
theorem rows_two {h : Heap} {pl x y : Addr} {a b : List Addr} {val : Addr → Int} (l : LL h pl [.ref x, .ref y]) (lx : LL h x (a.map Value.ref)) (ly : LL h y (b.map Value.ref)) (na : a.length < 2 ^ 10) (nb : b.length < 2 ^ 10) (ia : ∀ z ∈ a, ∃ u l, LL h z (.int (val z) u :: l)) (ib : ∀ z ∈ b, ∃ u l, LL h z (.int (val z) u :: l)) :
    Rows h pl [x, y] (two a b) val := by
  refine ⟨l, Nat.le_of_ble_eq_true rfl, fun k z e => ?_, fun k hk => ?_, fun k z hz => ?_⟩
  · match k with
    | 0 => cases e; exact ⟨lx, na⟩
    | 1 => cases e; exact ⟨ly, nb⟩
    | _ + 2 => cases e
  · match k with
    | 0 => exact absurd hk (Nat.not_le_of_lt (Nat.zero_lt_succ _))
    | 1 => exact absurd hk (Nat.not_le_of_lt (Nat.lt_succ_self _))
    | _ + 2 => rfl
  · match k with
    | 0 => exact ia z hz
    | 1 => exact ib z hz
    | _ + 2 => cases hz
theorem lam_call {w : World} {A : Around} {E : Value → Shared → Prop} {h : Heap} {c : Shared} {t : Nat} {Q : Value → Shared → Prop} {b : Bool} {f fc c' fa ca r : Addr} {ct : Value} {out its : List Addr} {val : Addr → Int}
    (KX : (KB w.params).In h) (hA : Room 15 A) (hz : N.1 ≤ h.objs.size) (T : CT N h) (hf : h.get? f = some (lmO b fc c' ct)) (hr : CRec h c' lmQ) (hc : h.IsCell fc (some (.ref fa)))
    (l1 : LL h ca (out.map Value.ref)) (l2 : LL h r (its.map Value.ref)) (n1 : out.length < 2 ^ 10) (n2 : its.length < 2 ^ 10) (i1 : ∀ z ∈ out, ∃ u l, LL h z (.int (val z) u :: l)) (i2 : ∀ z ∈ its, ∃ u l, LL h z (.int (val z) u :: l))
    (H : ∀ h' t' ca' out', Ok N h h' → h.objs.size ≤ h'.objs.size → CT N h' → LL h' ca' (out'.map Value.ref) → Mg val (if b = true then two its out else two out its) out' → Q (.ref ca') (St h' c t')) :
    wpAny (model pw w) A (call (.ref f) [.ref ca, .ref r]) Q E (St h c t) := by
  refine cl (kla_callFunE (s := St h c t) hA.lim hf rfl (by cases b <;> kernel_rfl) (by cases b <;> kernel_rfl) rfl hr.rec' ?_)
  have hb : bindArgs (kla_fn "<lambda>" lmQ (lm b).params (lm b).body (lm b).scope [(Str.ofString "faults", fc)] (.str (Str.ofString "law_mg0032_01") 265) (.ref c') ct) ⟨[.ref ca, .ref r], []⟩ = pure [(Str.ofString "came", .ref ca), (Str.ofString "row", .ref r)] := by cases b <;> kernel_rfl
  rw [hb]
  have hcell : ∀ x ∈ (lm b).scope.names, x.2 ≠ .cell := by cases b <;> exact no_cell (by kernel_rfl)
  have hloc : ∀ x ∈ [(Str.ofString "came", Value.ref ca), (Str.ofString "row", .ref r)], (lm b).scope.names.lookup x.1 = some .local := fun x hx => by
    simp only [List.mem_cons, List.not_mem_nil, or_false] at hx
    rcases hx with rfl | rfl <;> cases b <;> kernel_rfl
  have hkind : (lm b).scope.kind = .function := by cases b <;> kernel_rfl
  refine wpAny_pure (wpAny_newFunctionEnv hcell hloc (fun h₁ hns hsb => ⟨(nolimit KX).fresh _ hsb, ?_⟩) hkind)
  have hk₁ : Keeps h h₁ := fun b o e => hsb.extBut b o (Nat.ne_of_lt (Heap.lt_size e)) (Heap.get?_push_of_some _ e)
  generalize hL : (St h c t).heap.objs.size = L' at hns hsb ⊢
  have hL' : h.objs.size = L' := hL
  have F : Fr h L' h₁ (fun x => [(Str.ofString "came", Value.ref ca), (Str.ofString "row", .ref r)].reverse.lookup x) := ⟨hns, hk₁, Nat.le_of_eq hL'⟩
  have KX1 := KX.keeps hk₁
  have mc : (fun x => [(Str.ofString "came", Value.ref ca), (Str.ofString "row", .ref r)].reverse.lookup x) (Str.ofString "came") = some (.ref ca) := by kernel_rfl
  have mr : (fun x => [(Str.ofString "came", Value.ref ca), (Str.ofString "row", .ref r)].reverse.lookup x) (Str.ofString "row") = some (.ref r) := by kernel_rfl
  generalize (fun x => [(Str.ofString "came", Value.ref ca), (Str.ofString "row", .ref r)].reverse.lookup x) = m at *
  have c1 : h₁.IsCell fc (some (.ref fa)) := is_get hc fun o q => hk₁ _ _ q
  have z1 : h.objs.size ≤ h₁.objs.size := by rw [hL']; exact Nat.le_of_lt F.ns.lt
  have fin : ∀ (A' : Around) h2 t2 pl x y (a d : List Addr) (R : Result → Shared → Prop), Room 14 A' → Keeps h₁ h2 → h₁.objs.size < h2.objs.size → LL h2 pl [.ref x, .ref y] → LL h x (a.map Value.ref) → LL h y (d.map Value.ref) → a.length < 2 ^ 10 → d.length < 2 ^ 10 → (∀ z ∈ a, ∃ u l, LL h z (.int (val z) u :: l)) → (∀ z ∈ d, ∃ u l, LL h z (.int (val z) u :: l)) →
      (∀ h' t' ca' out', Ok N h h' → h.objs.size ≤ h'.objs.size → CT N h' → LL h' ca' (out'.map Value.ref) → Mg val (two a d) out' → R (.ok (.ret (.ref ca'))) (St h' c t')) → codeAny (model pw w) A' (.call (.ref 98) ⟨[.ref pl, .ref fa], []⟩) R (St h2 c t2) := by
    intro A' h2 t2 pl x y a d R hA' k2 z2 lp lx ly na nb ia ib HH
    have k02 := hk₁.trans k2
    refine merge_spec (KX.keeps k02) hA' (Nat.le_trans hz (Nat.le_trans z1 (Nat.le_of_lt z2))) (T.keeps k02) (rows_two lp (k02.list lx) (k02.list ly) na nb (fun z hz => let ⟨u, l, q⟩ := ia z hz; ⟨u, l, k02.list q⟩) (fun z hz => let ⟨u, l, q⟩ := ib z hz; ⟨u, l, k02.list q⟩)) fun h' t' ca' out' o' z' T' l' _ mg => HH h' t' ca' out' ((Ok.keeps k02).trans o') (Nat.le_trans z1 (Nat.le_trans (Nat.le_of_lt z2) z')) T' l' mg
  have hA' : Room 14 (A.deeper (callEnv (kla_fn "<lambda>" lmQ (lm b).params (lm b).body (lm b).scope [(Str.ofString "faults", fc)] (.str (Str.ofString "law_mg0032_01") 265) (.ref c') ct) L' f)) := hA.deeper
  refine kla_codeExpr (env := callEnv (kla_fn "<lambda>" lmQ (lm b).params (lm b).body (lm b).scope [(Str.ofString "faults", fc)] (.str (Str.ofString "law_mg0032_01") 265) (.ref c') ct) L' f) ?_
  show wpAny _ _ _ _ _ (St h₁ c _)
  generalize A.deeper _ = A' at *
  clear hns hsb hb hcell hloc hkind hf
  have F' : Fr h (callEnv (kla_fn "<lambda>" lmQ (lm b).params (lm b).body (lm b).scope [(Str.ofString "faults", fc)] (.str (Str.ofString "law_mg0032_01") 265) (.ref c') ct) L' f).locals h₁ m := F
  clear F
  cases b
  · rw [lm_body0]
    repeat' (walk_at "ww")
    refine nl (Nat.le_of_ble_eq_true rfl) fun h2 pl k2 lp zp z2 => ?_
    have c2 := is_get c1 fun o q => k2 _ _ q
    repeat' (walk_at "ww")
    refine ⟨KX1.keeps k2, cl (fin _ h2 _ pl ca r out its _ hA' k2 z2 lp l1 l2 n1 n2 i1 i2 fun h' t' ca' out' o z T' l mg => rq_ret ?_)⟩
    exact rq_ret (H h' t' ca' out' o z T' l mg)
  · rw [lm_body1]
    repeat' (walk_at "ww")
    refine nl (Nat.le_of_ble_eq_true rfl) fun h2 pl k2 lp zp z2 => ?_
    have c2 := is_get c1 fun o q => k2 _ _ q
    repeat' (walk_at "ww")
    refine ⟨KX1.keeps k2, cl (fin _ h2 _ pl r ca its out _ hA' k2 z2 lp l2 l1 n2 n1 i2 i1 fun h' t' ca' out' o z T' l mg => rq_ret ?_)⟩
    exact rq_ret (H h' t' ca' out' o z T' l mg)
end T14_
section T15_
open PySem PySem.W PyProof.Rows PySem.W.X
variable {N : NB}
theorem ok_get {h h' : Heap} {b : Addr} {ob : Obj} {p : Array Value} (o : Ok N h h') (h16 : h.get? 16 = some (tabObj p)) (e : h.get? b = some ob) (hne : ∀ ps, ob ≠ tabObj ps) : h'.get? b = some ob :=
  o b ob e (fun z => by subst z; rw [h16] at e; exact hne _ (Option.some.inj e).symm) fun _ => hne
theorem hid_get {h : Heap} {L I l b : Addr} {j : Nat} {m : Str → Option Value} {o : Obj} (e : h.get? b = some o) (ns : h.Ns L m) (it : h.IsListIter I l j) (h1 : ∀ es n, o.data ≠ .dict es n) (h2 : o.cls ≠ .type "list_iterator") : (hideAll h [L, I]).get? b = some o := hideAll_get _ e fun z => by
  simp only [List.mem_cons, List.not_mem_nil, or_false] at z
  rcases z with z | z
  · obtain ⟨o2, _, _, e2, d2, _⟩ := ns
    rw [← z, e] at e2
    cases e2
    exact h1 _ _ d2
  · obtain ⟨o2, e2, c2, _⟩ := it
    rw [← z, e] at e2
    cases e2
    exact h2 c2
section
variable {w : World} {g h h' : Heap} {c : Shared} {rw : Addr} {ra : List Addr} {R : Nat → List Addr} {val : Addr → Int} {fa ld : Addr} {xs : List Addr} {ps : Array Value} {K : Ky}
theorem LG.keeps (x : LG N w g rw ra R val fa ld xs ps) (k : Keeps g h) : LG N w h rw ra R val fa ld xs ps := x.ok (Ok.keeps k) (x.ct.keeps k)
structure Fl (h : Heap) (b : Bool) (f fc c' fa : Addr) (ct : Value) : Prop where
  f : h.get? f = some (lmO b fc c' ct)
  r : CRec h c' lmQ
  c : h.IsCell fc (some (.ref fa))
theorem Fl.ok {b : Bool} {f fc c' : Addr} {ct : Value} {p : Array Value} (x : Fl h b f fc c' fa ct) (o : Ok N h h') (h16 : h.get? 16 = some (tabObj p)) : Fl h' b f fc c' fa ct :=
  ⟨ok_get o h16 x.f (fun ps z => by have := congrArg Obj.data z; cases this), x.r.at (fun ob e hc _ => ok_get o h16 e fun ps z => by rw [z] at hc; cases hc), is_get x.c (fun ob e => ok_get o h16 e fun ps z => by
    obtain ⟨o2, e2, d2⟩ := x.c
    rw [e] at e2
    cases e2
    rw [z] at d2
    cases d2)⟩
theorem Fl.keeps {b : Bool} {f fc c' : Addr} {ct : Value} (x : Fl h b f fc c' fa ct) (k : Keeps h h') : Fl h' b f fc c' fa ct := ⟨k _ _ x.f, x.r.at fun _ e _ _ => k _ _ e, is_get x.c fun _ e => k _ _ e⟩
noncomputable def Iv (N : NB) (w : World) (rw : Addr) (ra : List Addr) (R : Nat → List Addr) (val : Addr → Int) (fa ld : Addr) (xs : List Addr) (ps : Array Value) (K : Ky) (b : Bool) (f fc c' : Addr) (ct : Value) (M : Nat → Nat → Prop) (i : Nat) (v : Value) (h : Heap) : Prop :=
  ∃ (ca : Addr) (out : List Addr), v = .ref ca ∧ LL h ca (out.map Value.ref) ∧ out.Pairwise (Kl K) ∧ (∀ y, y ∈ out ↔ ∃ k, M i k ∧ y ∈ R k) ∧ LG N w h rw ra R val fa ld xs ps ∧ Fl h b f fc c' fa ct
theorem rd_inst {b : Bool} {f fc c' : Addr} {ct : Value} {M : Nat → Nat → Prop} {rl : List Addr} {σ : Nat → Nat} (G : Good val K R) (hσ : ∀ i r, rl[i]? = some r → ra[σ i]? = some r) (Ms : ∀ i k, i < rl.length → (M (i + 1) k ↔ M i k ∨ k = σ i)) (Mo : ∀ i k, i < rl.length → M i k → if b = true then σ i < k else k < σ i) (hn : tot R ra.length < 2 ^ 10) :
    Rd N w c f rl (Iv N w rw ra R val fa ld xs ps K b f fc c' ct M) where
  kb := fun i v h ⟨_, _, _, _, _, _, x, _⟩ => x.kx
  fn := fun i v h ⟨_, _, _, _, _, _, _, x⟩ => ⟨_, _, x.f, rfl⟩
  mono := fun i v h h' ⟨ca, out, a1, a2, a3, a4, a5, a6⟩ k => ⟨ca, out, a1, k.list a2, a3, a4, a5.keeps k, a6.keeps k⟩
  hide := fun i v h L I m l j ⟨ca, out, a1, a2, a3, a4, a5, a6⟩ hL hI hIK ns it => by
    refine ⟨ca, out, a1, a2.hide2 ns it, a3, a4, ⟨kb_hide2 a5.kx (Nat.le_trans N.2 hL) hIK, a5.ct.hide2 ns it, ⟨a5.rows.l.hide2 ns it, a5.rows.n, fun k l e => ⟨(a5.rows.r k l e).1.hide2 ns it, (a5.rows.r k l e).2⟩, a5.rows.e, fun k x e => let ⟨u, l, q⟩ := a5.rows.i k x e; ⟨u, l, q.hide2 ns it⟩⟩, ?_, a5.fa.hide2 ns it, a5.due.hide2 ns it⟩, ⟨?_, ?_, ?_⟩⟩
    · exact hid_get a5.tab ns it (fun _ _ z => by cases z) (fun z => by cases z)
    · exact hid_get a6.f ns it (fun _ _ z => by cases z) (fun z => by injection z with q; exact absurd q (by decide))
    · exact a6.r.at fun o e hc ⟨vs, hd⟩ => hid_get e ns it (fun _ _ z => by rw [hd] at z; cases z) (fun z => by rw [hc] at z; injection z with q; exact absurd q (by decide))
    · obtain ⟨o, e, d⟩ := a6.c
      refine ⟨o, ?_, d⟩
      refine hideAll_get _ e fun z => ?_
      simp only [List.mem_cons, List.not_mem_nil, or_false] at z
      rcases z with z | z
      · obtain ⟨o2, _, _, e2, d2, _⟩ := ns
        rw [← z, e] at e2
        cases e2
        rw [d] at d2
        cases d2
      · obtain ⟨o2, e2, _, d2⟩ := it
        rw [← z, e] at e2
        cases e2
        rw [d] at d2
        cases d2
  step := fun i v h t A Q E r er hA hz ⟨ca, out, a1, a2, a3, a4, a5, a6⟩ H => by
    subst a1
    have hi : i < rl.length := by
      rcases Nat.lt_or_ge i rl.length with q | q
      · exact q
      · rw [List.getElem?_eq_none q] at er; cases er
    have hs := hσ i r er
    obtain ⟨lr, nr⟩ := a5.rows.r _ _ hs
    have kn : ∀ k y, y ∈ R k → k < ra.length := fun k y hy => by
      rcases Nat.lt_or_ge k ra.length with q | q
      · exact q
      · rw [a5.rows.e k q] at hy; cases hy
    have nout : out.length < 2 ^ 10 := Nat.lt_of_le_of_lt (out_len a3 fun y hy => let ⟨k, _, q⟩ := (a4 y).mp hy; ⟨k, kn k y q, q⟩) hn
    obtain ⟨p16, h16, _⟩ := id a5.ct
    refine lam_call (its := R (σ i)) (val := val) a5.kx (hA.le (by decide)) hz a5.ct a6.f a6.r a6.c a2 lr nout nr (fun y hy => let ⟨k, _, q⟩ := (a4 y).mp hy; a5.rows.i k y q) (fun y hy => a5.rows.i _ y hy) fun h' t' ca' out' o' z' T' l' mg => H _ h' t' o' z' ⟨ca', out', rfl, l', ?_⟩
    have base : out'.Pairwise (Kl K) ∧ ∀ y, y ∈ out' ↔ ∃ k, M (i + 1) k ∧ y ∈ R k := by
      have mr : ∀ y, y ∈ R (σ i) ↔ ∃ k, k = σ i ∧ y ∈ R k := fun y => ⟨fun q => ⟨_, rfl, q⟩, fun ⟨k, e, q⟩ => e ▸ q⟩
      cases b with
      | false =>
        rw [if_neg (by decide)] at mg
        obtain ⟨s, q⟩ := mg_two (I := M i) (J := fun k => k = σ i) G a3 (G.c1 _) a4 mr (fun k1 k2 h1 h2 => h2 ▸ Mo i k1 hi h1) mg
        exact ⟨s, fun y => (q y).trans ⟨fun ⟨k, h1, h2⟩ => ⟨k, (Ms i k hi).mpr h1, h2⟩, fun ⟨k, h1, h2⟩ => ⟨k, (Ms i k hi).mp h1, h2⟩⟩⟩
      | true =>
        rw [if_pos rfl] at mg
        obtain ⟨s, q⟩ := mg_two (I := fun k => k = σ i) (J := M i) G (G.c1 _) a3 mr a4 (fun k1 k2 h1 h2 => h1 ▸ Mo i k2 hi h2) mg
        exact ⟨s, fun y => (q y).trans ⟨fun ⟨k, h1, h2⟩ => ⟨k, (Ms i k hi).mpr h1.symm, h2⟩, fun ⟨k, h1, h2⟩ => ⟨k, ((Ms i k hi).mp h1).symm, h2⟩⟩⟩
    exact ⟨base.1, base.2, a5.ok o' T', a6.ok o' h16⟩
end
end T15_
section T16_
open PySem PySem.W PyProof.Rows PySem.W.X
variable {N : NB}
theorem kb_100 {P : Params} : (KB P).lookup 100 = none := rfl
section
variable {w : World} {g h h' : Heap} {c : Shared} {t : Nat} {rw : Addr} {ra : List Addr} {R : Nat → List Addr} {val : Addr → Int} {fa ld : Addr} {xs : List Addr} {ps ps' : Array Value} {K : Ky} {env : Env} {m cm : Str → Option Value} {A : Around} {E : Value → Shared → Prop} {L : Addr}
theorem CT.ext (T : CT N h) (hx : Heap.ExtBut 100 h h') (h100 : h.get? 100 = some (tabObj ps)) (ht : TriplesOk ps.toList) : CT N h' := by
  obtain ⟨p, h16, h2, h3⟩ := T
  refine ⟨p, hx _ _ (by decide) h16, h2, fun cv e => ?_⟩
  obtain ⟨cc, P, rfl, C, ⟨pp, q1, q2, q3⟩, k, n1, n2⟩ := h3 cv e
  refine ⟨cc, P, rfl, ?_, ⟨pp, hx _ _ (fun z => by rw [z] at k; exact absurd (Nat.le_trans N.2 k) (by decide)) q1, q2, fun y hy cv e => rec_but (q3 y hy cv e) hx (rec_ne h100 ht (q3 y hy cv e))⟩, k, n1, n2⟩
  obtain ⟨o, vs, f1, f2, f3, f4, f5, f6, f7, e1, e2, r⟩ := C
  refine ⟨o, vs, f1, f2, f3, f4, f5, f6, f7, hx _ _ (fun z => ?_) e1, e2, r⟩
  rw [z, h100] at e1
  cases e1
  cases e2
theorem LL.ext {a : Addr} {vs : List Value} (x : LL h a vs) (hx : Heap.ExtBut 100 h h') (h100 : h.get? 100 = some (tabObj ps)) : LL h' a vs := let ⟨n, e⟩ := x; ⟨n, hx _ _ (fun z => by rw [z, h100] at e; exact LL.notTab (h := h) (a := a) ps (Option.some.inj e).symm) e⟩
theorem LG.ext (x : LG N w g rw ra R val fa ld xs ps) (hx : Heap.ExtBut 100 g h) (ht : TriplesOk ps.toList) (t' : h.get? 100 = some (tabObj ps')) : LG N w h rw ra R val fa ld xs ps' :=
  ⟨fun b o e => hx b o (fun z => by rw [z, kb_100] at e; cases e) (x.kx b o e), x.ct.ext hx x.tab ht, ⟨x.rows.l.ext hx x.tab, x.rows.n, fun k l e => ⟨(x.rows.r k l e).1.ext hx x.tab, (x.rows.r k l e).2⟩, x.rows.e, fun k y e => let ⟨u, l, q⟩ := x.rows.i k y e; ⟨u, l, q.ext hx x.tab⟩⟩, t', x.fa.ext hx x.tab, x.due.ext hx x.tab⟩
theorem C102 (KX : (KB w.params).In h) : CodeHd h 102 100 :=
  ⟨_, _, Str.ofString "/claim/cut.py", 310, 3, 0, true, 181, 0, KX 102 _ (by rfl), rfl, rfl, by kernel_rfl, by kernel_rfl, by kernel_rfl, by kernel_rfl, by kernel_rfl, by kernel_rfl, by decide⟩
theorem lw_code {P : Params} : (lwEnv P L).code = .ref 102 := by kernel_rfl
theorem lw_qual {P : Params} : (lwEnv P L).qual ++ "<lambda>" = lmQ := by kernel_rfl
theorem Fc.ext (F : Fc g env h m cm) (nd : (env.cells.map (·.1)).Nodup) (hx : Heap.ExtBut 100 h h') (h100 : h.get? 100 = some (tabObj ps)) : Fc (hideAll h' (own env)) env h' m cm :=
  F.move hide_all (hideAll_none _ (.head _)) (fun n c e => hideAll_none _ (own_cell e)) fun b hb o e => hx b o (fun z => by
    obtain ⟨o', e', q⟩ := F.ownObj nd b hb
    rw [z, h100] at e'
    cases e'
    rcases q with ⟨_, _, q⟩ | ⟨_, q⟩ <;> cases q) e
theorem law_lam {b : Bool} {Q : Value → Shared → Prop} (G : LG N w g rw ra R val fa ld xs ps) (ht : TriplesOk ps.toList) (hnf : codeAmong (lm b).pos ps.toList = none) (F : Fc g (lwEnv w.params L) h m cm) (hfa : cm (Str.ofString "faults") = some (.ref fa))
    (H : ∀ g' h' t' f c' ct, Fc g' (lwEnv w.params L) h' m cm → LG N w g' rw ra R val fa ld xs (ps ++ #[rawInt (lm b).pos.line, rawInt (lm b).pos.col, .ref c']) → Fl h' b f (L + 1 + 1) c' fa ct → (∀ a us, LL g a us → LL g' a us) → Heap.ExtBut 100 g g' → Q (.ref f) (St h' c t')) :
    wpAny (model pw w) A (eval (.Lambda (lm b).params (lm b).body (lm b).scope (lm b).pos) (lwEnv w.params L)) Q E (St h c t) := by
  have KXh := G.kx.keeps F.keep
  have tab := F.keep _ _ G.tab
  refine kla_eval (by cases b <;> kernel_rfl) ?_
  rw [lw_qual]
  refine mkl KXh lm_clos (by kernel_rfl) lw_code (C102 KXh) tab ht hnf fun h' t' f c' ct hx ef cr nf nc tab' => ?_
  have F' := F.ext lw_nd hx tab
  have n100 : 100 ∉ own (lwEnv w.params L) := fun z => by
    obtain ⟨o', e', q⟩ := F.ownObj lw_nd 100 z
    rw [tab] at e'
    cases e'
    rcases q with ⟨_, _, q⟩ | ⟨_, q⟩ <;> cases q
  have gx : Heap.ExtBut 100 g (hideAll h' (own (lwEnv w.params L))) := fun b o hb e => hideAll_get _ (hx b o hb (F.keep _ _ e)) (F.gOwn e)
  refine H _ h' t' f c' ct F' (G.ext gx ht (hideAll_get _ tab' n100)) ⟨ef, cr, ?_⟩ (fun a us x => x.ext gx G.tab) gx
  have := F'.cell _ _ lw_faults
  rw [hfa] at this
  exact this
end
end T16_
section T17_
open PySem PySem.W PyProof.Rows PySem.W.X
variable {N : NB}
noncomputable def Oe (N : NB) (h h' : Heap) : Prop := ∀ b o, h.get? b = some o → b ≠ 16 → b ≠ 100 → (N.1 ≤ b → ∀ ps, o ≠ tabObj ps) → h'.get? b = some o
theorem lw_s6 : lwS 6 = .Assign [nmE "on" ⟨131, 4, 131, 6⟩] (.Call (nmE "reduce" ⟨131, 9, 131, 15⟩) [.Lambda (lm false).params (lm false).body (lm false).scope (lm false).pos, nmE "rows" ⟨131, 67, 131, 71⟩, .List [] ⟨131, 73, 131, 75⟩] [] ⟨131, 9, 131, 76⟩) ⟨131, 4, 131, 76⟩ := by kernel_rfl
theorem lw_s7 : lwS 7 = .Assign [nmE "back" ⟨132, 4, 132, 8⟩] (.Call (nmE "reduce" ⟨132, 11, 132, 17⟩) [.Lambda (lm true).params (lm true).body (lm true).scope (lm true).pos, .Subscript (nmE "rows" ⟨132, 69, 132, 73⟩) (.Slice none none (some (.UnaryOp .USub (.Constant (.int 1) 0 ⟨132, 77, 132, 78⟩) ⟨132, 76, 132, 78⟩)) ⟨132, 74, 132, 78⟩) ⟨132, 69, 132, 79⟩] [] ⟨132, 11, 132, 80⟩) ⟨132, 4, 132, 80⟩ := by kernel_rfl
section
variable {w : World} {A : Around} {E : Value → Shared → Prop} {g h : Heap} {c : Shared} {t : Nat} {L rw : Addr} {m cm : Str → Option Value} {ra : List Addr} {R : Nat → List Addr} {val : Addr → Int} {fa ld : Addr} {xs : List Addr} {ps : Array Value} {K : Ky} {Q : Flow → Shared → Prop}
theorem law_s6 (hA : Room 17 A) (hz : N.1 ≤ L) (G : LG N w g rw ra R val fa ld xs ps) (GK : Good val K R) (hn : ra.length + tot R ra.length ≤ 17) (ht : TriplesOk ps.toList) (hnf : codeAmong (lm false).pos ps.toList = none) (F : Fc g (lwEnv w.params L) h m cm) (hrow : cm (Str.ofString "rows") = some (.ref rw)) (hfa : cm (Str.ofString "faults") = some (.ref fa))
    (H : ∀ g' h' t' ca (out : List Addr) c', LG N w g' rw ra R val fa ld xs (ps ++ #[rawInt (lm false).pos.line, rawInt (lm false).pos.col, .ref c']) → Fc g' (lwEnv w.params L) h' (fun y => if y = Str.ofString "on" then some (.ref ca) else m y) cm → LL g' ca (out.map Value.ref) → out.Pairwise (Kl K) → (∀ y, y ∈ out ↔ ∃ k, y ∈ R k) → (∀ a us, LL g a us → LL g' a us) → Oe N g g' → Q .next (St h' c t')) :
    wpAny (model pw w) A (exec (lwS 6) (lwEnv w.params L)) Q E (St h c t) := by
  have KXh := G.kx.keeps F.keep
  rw [lw_s6]
  generalize hl : lm false = l0
  iterate 3 (walk_at "ww")
  refine cw_fn (by rfl) (by rfl) ?_ (by rfl)
  refine spliced_more ?_ (by rfl)
  subst hl
  refine law_lam G ht hnf F hfa fun g1 h1 t1 f c' ct F1 G1 X1 up1 gx1 => ?_
  have KX1 := G1.kx.keeps F1.keep
  repeat' (walk_at "ww")
  refine nl (Nat.zero_le _) fun h2 a0 k2 l0 z0 _ => ?_
  repeat' (walk_at "ww")
  have F2 := F1.grow k2
  have G2 := G1.keeps F2.keep
  have KX2 := G2.kx
  obtain ⟨p16, h16, _⟩ := id G2.ct
  have nr16 : rw ≠ 16 := fun z => by
    obtain ⟨n, e⟩ := G2.rows.l
    rw [z, h16] at e
    cases e
  have n22 : a0 ≠ 22 := fun z => by
    have := KX1 22 _ (by rfl)
    rw [← z, none_of_ge z0] at this
    cases this
  obtain ⟨nl0, el0⟩ := id l0
  refine ⟨KX2, cl ?_⟩
  refine red3 (ra := ra) (Inv := Iv N w rw ra R val fa ld xs (ps ++ #[rawInt (lm false).pos.line, rawInt (lm false).pos.col, .ref c']) K false f (L + 1 + 1) c' ct fun i k => k < i) (rd_inst (σ := fun i => i) GK (fun i r e => e) (fun i k _ => by omega) (fun i k _ q => by rw [if_neg (by decide)]; exact q) (by omega)) hA (Nat.le_trans hz (Nat.le_of_lt F2.ns.lt)) G2.rows.l nr16
    ⟨a0, [], rfl, l0, .nil, fun y => ⟨fun q => (by cases q), fun ⟨k, q, _⟩ => absurd q (Nat.not_lt_zero _)⟩, G2, X1.keeps k2⟩ el0 (fun z => by injection z with q; exact absurd q (by decide)) n22 ⟨_, h16⟩ fun v' h' t' o' z' I' => rq_ret ?_
  obtain ⟨ca, out, rfl, a2, a3, a4, a5, a6⟩ := I'
  obtain ⟨F3, o3, T3⟩ := F2.okb lw_nd (lw_104 hz) o' a5.ct
  have l3 := F3.llBase lw_nd a2
  obtain ⟨q16, g16, _⟩ := id G1.ct
  refine svc F3 (fun h4 t4 F4 s4 => H _ h4 t4 ca out c' (G1.ok o3 T3) F4 l3 a3 (fun y => (a4 y).trans ⟨fun ⟨k, _, q⟩ => ⟨k, q⟩, fun ⟨k, q⟩ => ⟨k, ?_, q⟩⟩) (fun a us x => LL.ok (up1 a us x) o3 g16) fun b o e n1 n2 n3 => o3 b o (gx1 b o n2 e) n1 n3) (by kernel_rfl) (by kernel_rfl)
  rcases Nat.lt_or_ge k ra.length with z | z
  · exact z
  · rw [a5.rows.e k z] at q; cases q
theorem law_s7 (hA : Room 17 A) (hz : N.1 ≤ L) (G : LG N w g rw ra R val fa ld xs ps) (GK : Good val K R) (h0 : 0 < ra.length) (hn : ra.length + tot R ra.length ≤ 17) (ht : TriplesOk ps.toList) (hnf : codeAmong (lm true).pos ps.toList = none) (F : Fc g (lwEnv w.params L) h m cm) (hrow : cm (Str.ofString "rows") = some (.ref rw)) (hfa : cm (Str.ofString "faults") = some (.ref fa))
    (H : ∀ g' h' t' ca (out : List Addr) c', LG N w g' rw ra R val fa ld xs (ps ++ #[rawInt (lm true).pos.line, rawInt (lm true).pos.col, .ref c']) → Fc g' (lwEnv w.params L) h' (fun y => if y = Str.ofString "back" then some (.ref ca) else m y) cm → LL g' ca (out.map Value.ref) → out.Pairwise (Kl K) → (∀ y, y ∈ out ↔ ∃ k, y ∈ R k) → (∀ a us, LL g a us → LL g' a us) → Oe N g g' → Q .next (St h' c t')) :
    wpAny (model pw w) A (exec (lwS 7) (lwEnv w.params L)) Q E (St h c t) := by
  have KXh := G.kx.keeps F.keep
  rw [lw_s7]
  generalize hl : lm true = l0
  iterate 3 (walk_at "ww")
  refine cw_fn (by rfl) (by rfl) ?_ (by rfl)
  refine spliced_more ?_ (by rfl)
  subst hl
  refine law_lam G ht hnf F hfa fun g1 h1 t1 f c' ct F1 G1 X1 up1 gx1 => ?_
  have lrw := F1.keep.list G1.rows.l
  repeat' (walk_at "ww")
  refine sl_l lrw.is (by rw [List.length_map]; omega) .none .none (.int (-1) _) (by decide) (fun h2 D k2 l2 nD => ?_) (by with_unfolding_all rfl) (by intro _; with_unfolding_all rfl)
  rw [rev_pick, ← List.map_reverse] at l2
  repeat' (walk_at "ww")
  have F2 := F1.grow k2
  have G2 := G1.keeps F2.keep
  have KX2 := G2.kx
  obtain ⟨p16, h16, _⟩ := id G2.ct
  have nr16 : D ≠ 16 := fun z => by
    obtain ⟨n, e⟩ := l2
    rw [z, h16] at e
    cases e
  have kn : ∀ k y, y ∈ R k → k < ra.length := fun k y hy => by
    rcases Nat.lt_or_ge k ra.length with q | q
    · exact q
    · rw [G.rows.e k q] at hy; cases hy
  have hrl : ra.reverse.length = ra.length := List.length_reverse
  have hrev : ∀ i r, ra.reverse[i]? = some r → ra[ra.length - 1 - i]? = some r := fun i r e => by
    have hi : i < ra.length := by
      rcases Nat.lt_or_ge i ra.length with q | q
      · exact q
      · rw [List.getElem?_eq_none (by omega)] at e; cases e
    rw [List.getElem?_reverse hi] at e
    exact e
  obtain ⟨r0, rr, hrr⟩ : ∃ r0 rr, ra.reverse = r0 :: rr := by
    cases q : ra.reverse with
    | nil => rw [q] at hrl; simp at hrl; omega
    | cons a l => exact ⟨a, l, rfl⟩
  have e0 : ra[ra.length - 1]? = some r0 := hrev 0 r0 (by rw [hrr]; rfl)
  have lr0 := (G2.rows.r _ _ e0).1
  have inst := rd_inst (N := N) (w := w) (c := c) (rw := rw) (fa := fa) (ld := ld) (xs := xs) (ps := ps ++ #[rawInt (lm true).pos.line, rawInt (lm true).pos.col, .ref c']) (b := true) (f := f) (fc := L + 1 + 1) (c' := c') (ct := ct) (rl := ra.reverse) (M := fun i k => ra.length ≤ k + i ∧ k < ra.length) (σ := fun i => ra.length - 1 - i) GK hrev (fun i k hi => by omega) (fun i k hi q => by rw [if_pos rfl]; omega) (by omega)
  rw [hrr] at inst l2
  refine ⟨KX2, cl ?_⟩
  refine red2 inst hA (Nat.le_trans hz (Nat.le_of_lt F2.ns.lt)) l2 nr16 ⟨r0, R (ra.length - 1), rfl, lr0, GK.c1 _, fun y => ⟨fun q => ⟨_, by omega, q⟩, fun ⟨k, q1, q2⟩ => ?_⟩, G2, X1.keeps k2⟩ ⟨_, h16⟩ fun v' h' t' o' z' I' => rq_ret ?_
  · have : k = ra.length - 1 := by omega
    subst this
    exact q2
  · obtain ⟨ca, out, rfl, a2, a3, a4, a5, a6⟩ := I'
    obtain ⟨F3, o3, T3⟩ := F2.okb lw_nd (lw_104 hz) o' a5.ct
    have l3 := F3.llBase lw_nd a2
    obtain ⟨q16, g16, _⟩ := id G1.ct
    have hrl' : (r0 :: rr).length = ra.length := by rw [← hrr]; exact hrl
    refine svc F3 (fun h4 t4 F4 s4 => H _ h4 t4 ca out c' (G1.ok o3 T3) F4 l3 a3 (fun y => (a4 y).trans ⟨fun ⟨k, _, q⟩ => ⟨k, q⟩, fun ⟨k, q⟩ => ⟨k, ⟨by rw [hrl']; omega, kn k y q⟩, q⟩⟩) (fun a us x => LL.ok (up1 a us x) o3 g16) fun b o e n1 n2 n3 => o3 b o (gx1 b o n2 e) n1 n3) (by kernel_rfl) (by kernel_rfl)
end
end T17_
section T18_
open PySem PySem.W PyProof.Rows PySem.W.X
structure Zc where
  elt : PySem.Expr
  iter : PySem.Expr
  a : Str
  pa : Pos
  b : Str
  pb : Pos
  k : Nat
  pt : Pos
  ifs : List PySem.Expr
  scope : Scope
  pos : Pos
noncomputable def zcOf : PySem.Expr → Zc
  | .ListComp elt [⟨.Tuple [.Name a pa, .Name b pb] k pt, iter, ifs, _⟩] scope pos => ⟨elt, iter, a, pa, b, pb, k, pt, ifs, scope, pos⟩
  | _ => ⟨.Constant .none 0 ⟨0, 0, 0, 0⟩, .Constant .none 0 ⟨0, 0, 0, 0⟩, Str.ofString "", ⟨0, 0, 0, 0⟩, Str.ofString "", ⟨0, 0, 0, 0⟩, 0, ⟨0, 0, 0, 0⟩, [], default, ⟨0, 0, 0, 0⟩⟩
noncomputable abbrev Zc.e (z : Zc) : PySem.Expr := .ListComp z.elt [⟨.Tuple [.Name z.a z.pa, .Name z.b z.pb] z.k z.pt, z.iter, z.ifs, 0⟩] z.scope z.pos
section
variable {w : World} {A : Around} {E : Value → Shared → Prop} {c : Shared} {env : Env}
theorem cloop {elt target iter : PySem.Expr} {ifs : List PySem.Expr} {scope : Scope} {pos : Pos} {it acc : Value} {env : Env} {R : Result → Shared → Prop} (I : Nat → Shared → Prop)
    (turn : ∀ n s, I n s → wpAny (model pw w) A (pyNext it) (fun r s₁ => match r with
      | none => R (.ok .next) s₁
      | some v => wpAny (model pw w) A (letOwnedTupleGo target it v) (fun _ s₁' => wpAny (model pw w) A (assign target env v) (fun _ s₂ =>
          wpAny (model pw w) A (tsts ifs env) (fun ok s₃ => ok = false ∧ ∃ m, m < n ∧ I m s₃) (notedBy (model pw w) A env fun e s' => R (.error e) s') s₂) (notedBy (model pw w) A env fun e s' => R (.error e) s') s₁') (notedBy (model pw w) A env fun e s' => R (.error e) s') s₁) (notedBy (model pw w) A env fun e s' => R (.error e) s') s)
    (n : Nat) {s : Shared} (h : I n s) : codeAny (model pw w) A (.compLoop (.ListComp elt [⟨target, iter, ifs, 0⟩] scope pos) 0 it acc env) R s := by
  refine codeAny_loop rfl I (fun n s hI => ?_) n h
  show wpAny _ A ((compTurn (.ListComp elt [⟨target, iter, ifs, 0⟩] scope pos) 0 it acc env).onRaise (fun x => do noteFrame x env; theTreesLotGoes x)) _ _ s
  refine wpAny_noted ?_
  rw [compTurn_list]
  refine wpAny_bind (wpAny_standAt (wpAny_bind (wpAny_mono (turn n s hI) (fun r s₁ h₁ => ?_) fun _ _ h' => h')))
  cases r with
  | none => exact wpAny_pure h₁
  | some v =>
    refine wpAny_bind (wpAny_mono h₁ (fun _ s₁' h₁' => ?_) fun _ _ h' => h')
    refine wpAny_bind (wpAny_mono h₁' (fun _ s₂ h₂ => wpAny_bind (wpAny_mono h₂ (fun ok s₃ h₃ => ?_) fun _ _ h' => h')) fun _ _ h' => h')
    obtain ⟨rfl, h₃⟩ := h₃
    exact wpAny_pure ⟨rfl, h₃⟩
theorem zc_none {s : Shared} {Z : Zc} {cl : List (Str × Addr)} {Q : Value → Shared → Prop} {xs ys : List Value}
    (hclos : closureFor Z.scope env = pure cl) (hcell : ∀ y ∈ Z.scope.names, y.2 ≠ .cell) (hkind : Z.scope.kind = .function) (hA : A.handled = none)
    (hnames : ∀ y ∈ Z.scope.names, y.2 = .local → Z.scope.names.lookup y.1 = some .local) (hxa : Z.scope.names.lookup Z.a = some .local) (hxb : Z.scope.names.lookup Z.b = some .local) (hab : Z.a ≠ Z.b)
    (h : wpAny (model pw w) A (eval Z.iter env) (fun xv s₁ => ∃ h₂ t₂ z TI TO i1 i2 l1 l2, s₁ = St h₂ c t₂ ∧ xv = .ref z ∧ ZipApart z TI TO i1 i2 l1 l2 ∧ (IsZip h₂ z TI TO .none ∧ IsPair h₂ TI (.ref i1) (.ref i2) ∧ (∃ a b, IsPair h₂ TO a b) ∧ h₂.IsListIter i1 l1 0 ∧ h₂.IsListIter i2 l2 0 ∧ h₂.IsList l1 xs.toArray ∧ h₂.IsList l2 ys.toArray) ∧
      (∀ C h t m E' (i : Nat) x y, xs[i]? = some x → ys[i]? = some y → (∀ b o, b ∉ [z, TO, i1, i2] → h₂.get? b = some o → h.get? b = some o) → h.Ns C m → m Z.a = some x → m Z.b = some y → wpAny (model pw w) A (tsts Z.ifs (compEnvC Z.scope cl C env)) (fun ok s₃ => ok = false ∧ ∃ t', s₃ = St h c t') E' (St h c t)) ∧
      (∀ D h t, h₂.get? D = none → LL h D [] → (∀ b o, b ∉ [z, TO, i1, i2] → h₂.get? b = some o → h.get? b = some o) → Q (.ref D) (St h c t))) E s)
    (hs : ∀ x, foldedSetIterable Z.iter env x = pure x) :
    wpAny (model pw w) A (eval Z.e env) Q E s := by
  rw [eval_ListComp]
  refine wpAny_comprehension_free (use := none) rfl hs hclos hkind hnames (wpAny_mono h (fun xv s₁ h₁ => ?_) fun _ _ e => e)
  obtain ⟨h₂, t₂, z, TI, TO, i1, i2, l1, l2, rfl, rfl, ZA, st0, tst, fin⟩ := h₁
  have W := WalksT.zip2 (prog := pw) (w := w) hA z TI TO i1 i2 l1 l2 ZA xs.toArray ys.toArray
  refine W.self 0 _ _ _ st0 ?_
  refine wpAny_newObj_type (wpAny_newFunctionEnv hcell (by intro y hy; simp at hy) (fun h₁ hns₁ hsb₁ => ?_) hkind)
  dsimp only at hns₁ hsb₁ ⊢
  generalize hH2 : h₂.push { cls := .type "list", dict := none, data := .seq ([] : List Value).toArray } = H2 at hns₁ hsb₁ ⊢
  have hC : H2.objs.size = h₂.objs.size + 1 := by rw [← hH2, Heap.size_push]
  generalize hDe : h₂.objs.size = D at *
  generalize hCe : H2.objs.size = C at *
  have hDC : D ≠ C := by rw [hC]; exact Nat.ne_of_lt (Nat.lt_succ_self _)
  have below : ∀ b o, h₂.get? b = some o → b ≠ C ∧ b ≠ D := fun b o e => by
    have hb : b < D := hDe ▸ Heap.lt_size e
    exact ⟨by rw [hC]; exact Nat.ne_of_lt (Nat.lt_succ_of_lt hb), Nat.ne_of_lt hb⟩
  have old : Keeps h₂ h₁ := fun b o e => hsb₁.extBut b o (below b o e).1 (Heap.get?_push_of_some _ (hH2 ▸ Heap.get?_push_of_some _ e))
  have hacc : LL h₁ D [] := ⟨0, hsb₁.extBut _ _ hDC (Heap.get?_push_of_some _ (hH2 ▸ hDe ▸ Heap.get?_push_size _ rfl))⟩
  have fD : h₂.get? D = none := none_of_ge (Nat.le_of_eq hDe)
  have st1 := W.frame _ _ _ st0 fun b _ o e => old b o e
  have live : ∀ b ∈ [z, TI, TO, i1, i2, l1, l2], ∃ o, h₂.get? b = some o := by
    obtain ⟨q1, q2, ⟨_, _, q3⟩, ⟨o4, q4, _⟩, ⟨o5, q5, _⟩, ⟨o6, q6, _⟩, ⟨o7, q7, _⟩⟩ := st0
    intro b hb
    simp only [List.mem_cons, List.not_mem_nil, or_false] at hb
    rcases hb with e | e | e | e | e | e | e <;> rw [e]
    · exact ⟨_, q1⟩
    · exact ⟨_, q2⟩
    · exact ⟨_, q3⟩
    · exact ⟨_, q4⟩
    · exact ⟨_, q5⟩
    · exact ⟨_, q6⟩
    · exact ⟨_, q7⟩
  have hCf : ∀ b ∈ [z, TI, TO, i1, i2, l1, l2], b ≠ C := fun b hb => let ⟨o, e⟩ := live b hb; (below b o e).1
  have hDf : ∀ b ∈ [z, TI, TO, i1, i2, l1, l2], b ≠ D := fun b hb => let ⟨o, e⟩ := live b hb; (below b o e).2
  have hCw : C ∉ [z, TO, i1, i2] := fun q => hCf C (W.sub _ q) rfl
  have hDw : D ∉ [z, TO, i1, i2] := fun q => hDf D (W.sub _ q) rfl
  have hpC : ((compEnvC Z.scope cl C env).scope.kind == .class || ((compEnvC Z.scope cl C env).scope.kind == .module && (compEnvC Z.scope cl C env).locals != (compEnvC Z.scope cl C env).globals)) = false := by simp [compEnvC, relabel, hkind]
  have loop : ∀ s₃ : Shared, s₃ = St h₁ c (t₂ + ([] : List (Str × Value)).length) →
      codeAny (model pw w) A (.compLoop (.ListComp Z.elt [⟨.Tuple [.Name Z.a Z.pa, .Name Z.b Z.pb] Z.k Z.pt, Z.iter, Z.ifs, 0⟩] Z.scope Z.pos) 0 (.ref z) (.ref D) (compEnvC Z.scope cl C env)) (compPost (model pw w) A E none Q (.ref D) C) s₃ := by
    rintro s₃ rfl
    refine cloop (fun k s' => ∃ i h' t' m', s' = St h' c t' ∧ i ≤ min xs.toArray.size ys.toArray.size ∧ k = min xs.toArray.size ys.toArray.size - i ∧ (IsZip h' z TI TO .none ∧ IsPair h' TI (.ref i1) (.ref i2) ∧ (∃ a b, IsPair h' TO a b) ∧ h'.IsListIter i1 l1 i ∧ h'.IsListIter i2 l2 i ∧ h'.IsList l1 xs.toArray ∧ h'.IsList l2 ys.toArray) ∧ LL h' D [] ∧ h'.Ns C m' ∧ (∀ b o, b ∉ [z, TO, i1, i2] → h₂.get? b = some o → h'.get? b = some o)) ?_ _
      ⟨0, h₁, _, _, rfl, Nat.zero_le _, rfl, st1, hacc, hns₁, fun b o _ e => old b o e⟩
    rintro k s' ⟨i, h', t', m', rfl, hi, rfl, hS, hl, hn, hk⟩
    by_cases hlt : i < min xs.toArray.size ys.toArray.size
    · refine W.item i _ _ _ hlt hS fun T vals h3 t3 ⟨x, y, ex, ey, ev⟩ hT1 hT2 hM hk3 => ?_
      subst ev
      obtain ⟨oT, eT, _⟩ := id hT2
      refine W.go _ _ _ i T _ _ _ hM fun h4 hS4 hk4 => ?_
      have T4 : h4.IsTuple T #[x, y] := by
        obtain ⟨o, e, q⟩ := hT2
        exact ⟨o, hk4 _ _ (W.apart _ _ _ hM) e, q⟩
      obtain ⟨nD, eD⟩ := hl
      have l4 : LL h4 D [] := ⟨nD, hk4 _ _ hDw (hk3 _ _ hDw eD)⟩
      have n4 : h4.Ns C m' := hn.at' fun o e => hk4 _ o hCw (hk3 _ o hCw e)
      have k4 : ∀ b o, b ∉ [z, TO, i1, i2] → h₂.get? b = some o → h4.get? b = some o := fun b o hb e => hk4 b o hb (hk3 b o hb (hk b o hb e))
      refine assign_Tuple_tuple (s := St h4 c t3) hA T4 rfl rfl fun h5 he => ?_
      have k5 : Keeps h4 h5 := fun b o e => he b o (Nat.ne_of_lt (Heap.lt_size e)) e
      refine assignInOrder_cons (wpAny_assign_Name (wpAny_storeName_local (s := St h5 c t3) (lookup_relabel_local hxa) (n4.keeps k5) (fun h6 n6 s6 => ?_) hpC))
      refine assignInOrder_cons (wpAny_assign_Name (wpAny_storeName_local (lookup_relabel_local hxb) n6 (fun h7 n7 s7 => ?_) hpC))
      refine assignInOrder_nil ?_
      have k47 : ∀ b o, b ≠ C → h4.get? b = some o → h7.get? b = some o := fun b o hb e => s7.extBut b o hb (s6.extBut b o hb (k5 b o e))
      have k7 : ∀ b o, b ∉ [z, TO, i1, i2] → h₂.get? b = some o → h7.get? b = some o := fun b o hb e => k47 b o (below b o e).1 (k4 b o hb e)
      obtain ⟨nD4, eD4⟩ := l4
      have ex' : xs[i]? = some x := by simpa using ex
      have ey' : ys[i]? = some y := by simpa using ey
      refine wpAny_mono (tst C h7 _ _ _ i x y ex' ey' k7 n7 ((if_neg hab).trans (if_pos rfl)) (if_pos rfl)) (fun ok s₃ h₃ => ?_) fun _ _ e => e
      obtain ⟨rfl, t', rfl⟩ := h₃
      exact ⟨rfl, _, by omega, i + 1, h7, t', _, rfl, hlt, rfl, W.frame _ _ _ hS4 fun b hb o e => k47 b o (hCf b hb) e, ⟨nD4, k47 _ _ hDC eD4⟩, n7, k7⟩
    · have hin : i = min xs.toArray.size ys.toArray.size := by omega
      subst hin
      refine W.done _ _ _ hS fun h3 t3 hk3 => ?_
      obtain ⟨nD, eD⟩ := hl
      refine ⟨m', hn.at' fun o e => hk3 _ o hCw e, fun h4 hs4 => ?_⟩
      exact fin D h4 t3 fD ⟨nD, hs4.extBut _ _ hDC (hk3 _ _ hDw eD)⟩ fun b o hb e => hs4.extBut b o (below b o e).1 (hk3 b o hb (hk b o hb e))
  exact codeAny_compStart_list (loop _ rfl) (W.self 0 _ _ _ st1 (loop _ rfl))
end
end T18_
section T19_
open PySem PySem.W PyProof.Rows PySem.W.X
variable {N : NB}
noncomputable def orR : PySem.Expr → PySem.Expr
  | .BoolOp _ [_, .Compare e _ _ _] _ => e
  | e => e
noncomputable def ifT : Stmt → PySem.Expr
  | .If t _ _ _ => t
  | _ => .Constant .none 0 ⟨0, 0, 0, 0⟩
noncomputable def lwIf : Stmt := (forBody (lwS 8)).getD 0 (.Pass ⟨0, 0, 0, 0⟩)
noncomputable def lcz : Zc := zcOf (orR (ifT lwIf))
theorem lcz_iter : lcz.iter = .Call (nmE "zip" ⟨134, 51, 134, 54⟩) [nmE "told" ⟨134, 55, 134, 59⟩, nmE "due" ⟨134, 61, 134, 64⟩] [] ⟨134, 51, 134, 65⟩ := by kernel_rfl
theorem lcz_ifs : lcz.ifs = [.Compare (nmE "a" ⟨134, 69, 134, 70⟩) [.IsNot] [nmE "b" ⟨134, 78, 134, 79⟩] ⟨134, 69, 134, 79⟩] := by kernel_rfl
theorem lcz_a : lcz.a = Str.ofString "a" := by kernel_rfl
theorem lcz_b : lcz.b = Str.ofString "b" := by kernel_rfl
theorem lcz_clos {P : Params} {L : Addr} : closureFor lcz.scope (lwEnv P L) = pure [] := by kernel_rfl
theorem lw_if : lwIf = .If (.BoolOp .Or [.Compare (.Call (nmE "len" ⟨134, 11, 134, 14⟩) [nmE "told" ⟨134, 15, 134, 19⟩] [] ⟨134, 11, 134, 20⟩) [.NotEq] [.Call (nmE "len" ⟨134, 24, 134, 27⟩) [nmE "due" ⟨134, 28, 134, 31⟩] [] ⟨134, 24, 134, 32⟩] ⟨134, 11, 134, 32⟩, .Compare lcz.e [.NotEq] [.List [] ⟨134, 84, 134, 86⟩] ⟨134, 36, 134, 86⟩] ⟨134, 11, 134, 86⟩) (ifBody (some lwIf)) [] ⟨134, 8, 135, 24⟩ := by kernel_rfl
theorem lw_s8 : lwS 8 = .For (nmE "told" ⟨133, 8, 133, 12⟩) (.List [nmE "whole" ⟨133, 17, 133, 22⟩, nmE "on" ⟨133, 24, 133, 26⟩, nmE "back" ⟨133, 28, 133, 32⟩] ⟨133, 16, 133, 33⟩) [lwIf] [] ⟨133, 4, 135, 24⟩ := by kernel_rfl
theorem lw_s9 : lwS 9 = .Return (some (.Compare (nmE "faults" ⟨136, 11, 136, 17⟩) [.Eq] [.List [] ⟨136, 21, 136, 23⟩] ⟨136, 11, 136, 23⟩)) ⟨136, 4, 136, 23⟩ := by kernel_rfl
section
variable {w : World} {A : Around} {E : Value → Shared → Prop} {g h : Heap} {c : Shared} {t : Nat} {L : Addr} {m cm : Str → Option Value} {xs : List Addr}
theorem c_zip {l1 l2 : Addr} {xs ys : List Value} {Q : Value → Shared → Prop} (h1 : LL h l1 xs) (h2 : LL h l2 ys)
    (H : ∀ h' z TI TO i1 i2, Keeps h h' → ZipApart z TI TO i1 i2 l1 l2 → (IsZip h' z TI TO .none ∧ IsPair h' TI (.ref i1) (.ref i2) ∧ (∃ a b, IsPair h' TO a b) ∧ h'.IsListIter i1 l1 0 ∧ h'.IsListIter i2 l2 0 ∧ h'.IsList l1 xs.toArray ∧ h'.IsList l2 ys.toArray) → (∀ b ∈ [z, TO, i1, i2], h.get? b = none) → Q (.ref z) (St h' c t)) :
    wpAny (model pw w) A (call (.type "zip") [.ref l1, .ref l2]) Q E (St h c t) := by
  refine call_zip_2 (s := St h c t) h1.is h2.is fun h' hz hTI hTO hi1 hi2 _ hk => H h' _ _ _ _ _ (fun b o e => hk b o e) (zipApart_new h1.lt h2.lt) ⟨hz, hTI, ⟨_, _, hTO⟩, hi1, hi2, h1.is.at fun o e => hk _ o e, h2.is.at fun o e => hk _ o e⟩ fun b hb => none_of_ge ?_
  simp only [List.mem_cons, List.not_mem_nil, or_false] at hb
  rcases hb with e | e | e | e <;> rw [e]
  · exact Nat.le_add_right _ 4
  · exact Nat.le_add_right _ 3
  · exact Nat.le_refl _
  · exact Nat.le_add_right _ 1
theorem told_turn {tl ld : Addr} {Q : Flow → Shared → Prop} (KX : (KB w.params).In g) (hA : Room 2 A) (F : Fc g (lwEnv w.params L) h m cm) (mt : m (Str.ofString "told") = some (.ref tl)) (md : m (Str.ofString "due") = some (.ref ld)) (l1 : LL g tl (xs.map Value.ref)) (l2 : LL g ld (xs.map Value.ref))
    (live : ∀ x ∈ xs, ∃ o, g.get? x = some o ∧ o.cls ≠ .type "tuple") (hn : xs.length < 2 ^ 10) (H : ∀ h' t', Keeps h h' → Q .next (St h' c t')) :
    wpAny (model pw w) A (exec lwIf (lwEnv w.params L)) Q E (St h c t) := by
  have KXh := KX.keeps F.keep
  have l1h := F.keep.list l1
  have l2h := F.keep.list l2
  rw [lw_if]
  generalize hz : lcz = z0
  repeat' (walk_at "ww")
  refine lenr l1h (by omega) fun u1 t1 => ?_
  repeat' (walk_at "ww")
  refine lenr l2h (by omega) fun u2 t2 => ?_
  repeat' (walk_at "ww")
  refine if_f (by simp) ?_
  repeat' (walk_at "ww")
  subst hz
  refine zc_none (c := c) (cl := []) (xs := xs.map Value.ref) (ys := xs.map Value.ref) lcz_clos (no_cell (by kernel_rfl)) (by kernel_rfl) hA.2.2 (nms (by kernel_rfl)) (by kernel_rfl) (by kernel_rfl) (by decide +kernel) ?_ (by intro _; kernel_rfl)
  rw [lcz_iter]
  repeat' (walk_at "ww")
  refine c_zip l1h l2h fun h2 z TI TO i1 i2 k2 ZA st nw => ?_
  have up : ∀ h', (∀ b o, b ∉ [z, TO, i1, i2] → h2.get? b = some o → h'.get? b = some o) → Keeps h h' := fun h' hk b o e => hk b o (fun q => by rw [nw b q] at e; cases e) (k2 _ _ e)
  refine ⟨h2, _, z, TI, TO, i1, i2, tl, ld, rfl, rfl, ZA, st, fun C h4 t4 m4 E' i x y ex ey hk ns ma mb => ?_, fun D h4 t4 nD lD hk => ?_⟩
  · rw [ex] at ey
    cases ey
    rw [List.getElem?_map] at ex
    obtain ⟨a, ea, rfl⟩ := Option.map_eq_some_iff.mp ex
    obtain ⟨o, e, hc⟩ := live a (List.mem_of_getElem? ea)
    have e4 := up h4 hk _ _ (F.keep _ _ e)
    rw [lcz_ifs]
    rw [lcz_a] at ma
    rw [lcz_b] at mb
    refine wpAny_tests_one ?_
    repeat' (walk_at "ww")
    refine isnot_rr e4 e4 hc ?_
    repeat' (walk_at "ww")
    exact ⟨by simp, _, rfl⟩
  · have k4 := up h4 hk
    repeat' (walk_at "ww")
    refine nl (Nat.zero_le _) fun h5 l5 k5 e5 _ _ => ?_
    refine ne_nil (k5.list lD) e5 (hA.le (by decide)) ?_
    repeat' (walk_at "ww")
    refine if_f (by simp) ?_
    refine isTrue_or_nil ?_
    refine if_f (by simp) ?_
    refine wpAny_execs_nil (H h5 _ (k4.trans k5))
end
end T19_
section T20_
open PySem PySem.W PyProof.Rows PySem.W.X
variable {N : NB}
section
variable {w : World} {A : Around} {E : Value → Shared → Prop} {g h : Heap} {c : Shared} {t : Nat} {L rw : Addr} {m cm : Str → Option Value} {ra : List Addr} {R : Nat → List Addr} {val : Addr → Int} {fa ld : Addr} {xs : List Addr} {ps : Array Value}
theorem law_s8 {a1 a2 a3 : Addr} {Q : Flow → Shared → Prop} (hA : Room 2 A) (G : LG N w g rw ra R val fa ld xs ps) (F : Fc g (lwEnv w.params L) h m cm) (w1 : m (Str.ofString "whole") = some (.ref a1)) (w2 : m (Str.ofString "on") = some (.ref a2)) (w3 : m (Str.ofString "back") = some (.ref a3)) (md : m (Str.ofString "due") = some (.ref ld))
    (l1 : LL g a1 (xs.map Value.ref)) (l2 : LL g a2 (xs.map Value.ref)) (l3 : LL g a3 (xs.map Value.ref)) (hx : ∀ x ∈ xs, ∃ k, x ∈ R k) (hn : xs.length < 2 ^ 10)
    (H : ∀ h' t' m', Fc g (lwEnv w.params L) h' m' cm → Q .next (St h' c t')) :
    wpAny (model pw w) A (exec (lwS 8) (lwEnv w.params L)) Q E (St h c t) := by
  rw [lw_s8]
  generalize hif : lwIf = sif
  repeat' (walk_at "ww")
  refine nl (Nat.le_of_ble_eq_true rfl) fun h2 l4 k2 e4 z4 _ => ?_
  refine pi_list e4 fun h3 I k3 nI zI hI => ?_
  have F3 := F.grow (k2.trans k3)
  have gI : g.get? I = none := by
    cases q : g.get? I with
    | none => rfl
    | some o => rw [k2 _ _ (F.keep _ _ q)] at nI; cases nI
  have oI : ∀ b ∈ own (lwEnv w.params L), b ∉ [I] := fun b hb z => (F.grow k2).notOwn lw_nd nI (by rw [List.mem_singleton] at z; rw [← z]; exact hb)
  have gW : ∀ b ∈ [I], g.get? b = none := fun b hb => by rw [List.mem_singleton] at hb; rw [hb]; exact gI
  have h4I : l4 ≠ I := fun z => by obtain ⟨n, e⟩ := e4; rw [z, nI] at e; cases e
  have n4 : g.get? l4 = none := by
    cases q : g.get? l4 with
    | none => rfl
    | some o => have := F.keep _ _ q; rw [none_of_ge z4] at this; cases this
  have o4 : l4 ∉ own (lwEnv w.params L) := (F.grow k2).ll lw_nd e4
  have live : ∀ x ∈ xs, ∃ o, g.get? x = some o ∧ o.cls ≠ .type "tuple" := fun x hx' => by
    obtain ⟨k, hk⟩ := hx x hx'
    obtain ⟨u, l, n, e⟩ := G.rows.i k x hk
    exact ⟨_, e, fun z => by injection z with q; exact absurd q (by decide)⟩
  refine floop (Walks.list hA.2.2 I l4 h4I [Value.ref a1, .ref a2, .ref a3].toArray) (fun i h' => ∃ m', Fc g (lwEnv w.params L) h' m' cm ∧ m' (Str.ofString "due") = some (.ref ld)) (fun i h1 h1' ⟨m1, F1, q⟩ kk => ⟨m1, F1.mv gW oI kk, q⟩) ⟨hI, (k3.list e4).is⟩ ⟨m, F3, md⟩ ?_ ?_ (fun _ => rfl)
  · rintro i h1 t1 v E' hi hv ⟨S1, S2⟩ ⟨m1, F1, md1⟩
    have hv' : ∃ tl, v = .ref tl ∧ LL g tl (xs.map Value.ref) := by
      have hv2 : [Value.ref a1, .ref a2, .ref a3][i]? = some v := by simpa using hv
      match i, hv2 with
      | 0, e => cases e; exact ⟨_, rfl, l1⟩
      | 1, e => cases e; exact ⟨_, rfl, l2⟩
      | 2, e => cases e; exact ⟨_, rfl, l3⟩
    obtain ⟨tl, rfl, ltl⟩ := hv'
    refine wpAny_assign_Name (svc F1 (fun h5 t5 F5 s5 => ?_) (by kernel_rfl) (by kernel_rfl))
    have L5 : (lwEnv w.params L).locals ∈ own (lwEnv w.params L) := .head _
    subst hif
    refine ex_cons ?_
    refine told_turn G.kx hA F5 (if_pos rfl) ((if_neg (by decide +kernel)).trans md1) ltl G.due live hn fun h6 t6 k6 => co_next (wpAny_execs_nil (fend_next ⟨h6, t6, rfl, ⟨?_, ?_⟩, _, F5.grow k6, (if_neg (by decide +kernel)).trans md1⟩))
    · exact S1.at fun o e => k6 _ _ ((s5.2 I fun z => oI _ L5 (z ▸ .head _)).trans e)
    · exact S2.at fun o e => k6 _ _ ((s5.2 l4 fun z => o4 (z ▸ L5)).trans e)
  · rintro h1 t1 ⟨m1, F1, _⟩
    exact H h1 t1 m1 F1
theorem law_s9 {Q : Flow → Shared → Prop} (hA : Room 1 A) (l : LL g fa []) (F : Fc g (lwEnv w.params L) h m cm) (hfa : cm (Str.ofString "faults") = some (.ref fa))
    (H : ∀ h' t', Fc g (lwEnv w.params L) h' m cm → Q (.ret (.bool true)) (St h' c t')) :
    wpAny (model pw w) A (exec (lwS 9) (lwEnv w.params L)) Q E (St h c t) := by
  rw [lw_s9]
  repeat' (walk_at "ww")
  refine nl (Nat.zero_le _) fun h2 l2 k2 e2 _ _ => ?_
  refine eq_nil (k2.list (F.keep.list l)) e2 (hA.le (by decide)) ?_
  exact H h2 _ (F.grow k2)
end
theorem LL.nt {h : Heap} {a : Addr} {vs : List Value} (x : LL h a vs) : ∃ o, h.get? a = some o ∧ ∀ ps, o ≠ tabObj ps := let ⟨_, e⟩ := x; ⟨_, e, LL.notTab (h := h) (a := a)⟩
theorem law_spec {w : World} {A : Around} {h : Heap} {c : Shared} {t : Nat} {R : Result → Shared → Prop} {sc : Addr} {vs : List Value}
    (KX : (KB w.params).In h) (hA : Room 18 A) (hz : 104 ≤ h.objs.size) (h16 : h.get? 16 = some (tabObj #[])) (h100 : h.get? 100 = some (tabObj #[])) (hl : h.IsList sc vs.toArray) (hi : allInt vs) (hn : vs.length ≤ 63)
    (H : ∀ h' t' p1 p2, (∀ b o, h.get? b = some o → b ≠ 16 → b ≠ 100 → h'.get? b = some o) → h'.get? 16 = some (tabObj p1) → h'.get? 100 = some (tabObj p2) → R (.ok (.ret (.bool true))) (St h' c t')) :
    codeAny (model pw w) A (.call (.ref 103) ⟨[.ref sc], []⟩) R (St h c t) := by
  obtain ⟨o103, l103, d103⟩ := lw_obj (P := w.params)
  refine codeAny_call_cells (s := St h c t) (binds := [(Str.ofString "script", .ref sc)]) hA.lim (KX 103 _ l103) d103 (nolimit KX) ⟨102, _, _, 307, by kernel_rfl, KX 102 _ (by rfl), rfl, by kernel_rfl⟩ lw_fd (by kernel_rfl) (by kernel_rfl) ?_ (fun s₁ X => ?_) (by kernel_rfl) (by kernel_rfl) (by kernel_rfl)
  · intro x hx
    rw [List.mem_singleton] at hx
    subst hx
    exact .inl (by kernel_rfl)
  obtain ⟨⟨⟨h1, t1, rfl⟩, ns1, k1, fr1⟩, cell1, ap1, ab1⟩ := X
  have ms : bindL (callEnvC (fdOf (Mine.o103 w.params)) (St h c t).heap.objs.size 103).kindOf [(Str.ofString "script", .ref sc)] (fun _ => none) (Str.ofString "script") = some (.ref sc) := by kernel_rfl
  generalize bindL (callEnvC (fdOf (Mine.o103 w.params)) (St h c t).heap.objs.size 103).kindOf [(Str.ofString "script", .ref sc)] (fun _ => none) = m1 at *
  generalize bindC (callEnvC (fdOf (Mine.o103 w.params)) (St h c t).heap.objs.size 103).kindOf [(Str.ofString "script", .ref sc)] (fun _ => none) = c1 at *
  have hEe : callEnvC (fdOf (Mine.o103 w.params)) (St h c t).heap.objs.size 103 = lwEnv w.params h.objs.size := rfl
  rw [hEe] at *
  obtain ⟨N, hN⟩ : ∃ N : NB, N.1 = h.objs.size := ⟨⟨_, hz⟩, rfl⟩
  generalize hL : h.objs.size = L at *
  have F1 : Fc h (lwEnv w.params L) h1 m1 c1 := ⟨ns1, cell1, ap1, ab1, k1, none_of_ge (Nat.le_of_eq hL), fun n a e => none_of_ge (Nat.le_of_lt (Nat.lt_of_le_of_lt (Nat.le_of_eq hL) (ab1 n a e)))⟩
  have hA' : Room 17 (A.deeper (lwEnv w.params L)) := Room.deeper hA
  generalize A.deeper (lwEnv w.params L) = A' at *
  have hNL : N.1 ≤ L := Nat.le_of_eq hN
  have T0 : CT N h := ⟨#[], h16, trivial, fun cv e => by cases e⟩
  rw [lw_body]
  refine ex_cons (law_s0 KX (hA'.le (by decide)) F1 ms hl hi hn fun g2 h2 t2 rw ra Rr k2 F2 D2 q1 q2 q3 => co_next ?_)
  have hr2 : (fun y => if y = Str.ofString "rows" then some (Value.ref rw) else c1 y) (Str.ofString "rows") = some (.ref rw) := if_pos rfl
  generalize (fun y => if y = Str.ofString "rows" then some (Value.ref rw) else c1 y) = c2 at *
  refine ex_cons (law_s1 F2 fun h3 t3 du F3 l3 n3 => co_next ?_)
  refine ex_cons (law_s2 (KX.keeps k2) (hA'.le (by decide)) D2 q2 F3 hr2 (if_pos rfl) n3 l3 fun h4 t4 X4 => co_next ?_)
  refine ex_cons (law_s3 (KX.keeps k2) (hA'.le (by decide)) D2 q2 q3 hr2 X4 fun g5 h5 t5 m5 ld xs k5 F5 md5 ld5 sx mx => co_next ?_)
  refine ex_cons (law_s4 F5 fun g6 h6 t6 fa k6 F6 lf6 => co_next ?_)
  have k26 := k5.trans k6
  have k06 := k2.trans k26
  have GK := D2.good
  have rn : ∀ k l, ra[k]? = some l → (Rr k).length < 2 ^ 10 := fun k l e => by
    have hk : k < ra.length := by
      rcases Nat.lt_or_ge k ra.length with q | q
      · exact q
      · rw [List.getElem?_eq_none q] at e; cases e
    have := tot_le (R := Rr) hk
    omega
  have G6 : LG N w g6 rw ra Rr (hval g2) fa ld xs #[] := ⟨KX.keeps k06, T0.keeps k06, ⟨k26.list D2.l, by omega, fun k l e => ⟨k26.list (D2.r k l e), rn k l e⟩, D2.e, fun k x hx => by
    obtain ⟨p, e⟩ := get_mem hx
    obtain ⟨v, u1, u2, u3, q⟩ := D2.i k p x e
    exact ⟨u1, _, by rw [hval_eq q]; exact k26.list q⟩⟩, k06 _ _ h100, lf6, k6.list ld5⟩
  have hr6 : (fun y => if y = Str.ofString "faults" then some (Value.ref fa) else c2 y) (Str.ofString "rows") = some (.ref rw) := (if_neg (by decide +kernel)).trans hr2
  have hf6 : (fun y => if y = Str.ofString "faults" then some (Value.ref fa) else c2 y) (Str.ofString "faults") = some (.ref fa) := if_pos rfl
  generalize (fun y => if y = Str.ofString "faults" then some (Value.ref fa) else c2 y) = c6 at *
  generalize hval g2 = val at *
  generalize KY g2 Rr = K at *
  clear X4 F3 F2 F1 F5 D2
  refine ex_cons (law_s5 (hA'.le (by decide)) hNL G6 F6 hr6 hf6 fun g7 h7 t7 a1 out1 o7 G7 F7 l7 mg7 => co_next ?_)
  obtain ⟨s7, m7⟩ := mg_good mg7 GK
  have e7 : out1 = xs := sorted_eq s7 sx fun y => (m7 y).trans (mx y).symm
  subst e7
  refine ex_cons (law_s6 (hA'.le (by decide)) hNL G7 GK q2 trivial rfl F7 hr6 hf6 fun g8 h8 t8 a2 out2 c8 G8 F8 l8 s8 m8 up8 oe8 => co_next ?_)
  have e8 : out2 = out1 := sorted_eq s8 sx fun y => (m8 y).trans (mx y).symm
  subst e8
  have t8 : TriplesOk (#[] ++ #[rawInt (lm false).pos.line, rawInt (lm false).pos.col, Value.ref c8]).toList := by
    rw [Array.toList_append]
    exact TriplesOk_snoc _ _ _ _ trivial
  have nf8 : codeAmong (lm true).pos (#[] ++ #[rawInt (lm false).pos.line, rawInt (lm false).pos.col, Value.ref c8]).toList = none := by kernel_rfl
  refine ex_cons (law_s7 (hA'.le (by decide)) hNL G8 GK q1 q2 t8 nf8 F8 hr6 hf6 fun g9 h9 t9 a3 out3 c9 G9 F9 l9 s9 m9 up9 oe9 => co_next ?_)
  have e9 : out3 = out2 := sorted_eq s9 sx fun y => (m9 y).trans (mx y).symm
  subst e9
  have hlen : out3.length < 2 ^ 10 := Nat.lt_of_le_of_lt (out_len (n := ra.length) sx fun y hy => by
    obtain ⟨k, hk⟩ := (mx y).mp hy
    refine ⟨k, ?_, hk⟩
    rcases Nat.lt_or_ge k ra.length with q | q
    · exact q
    · rw [G9.rows.e k q] at hk; cases hk) (by omega)
  refine ex_cons (law_s8 (hA'.le (by decide)) G9 F9 ((if_neg (by decide +kernel)).trans ((if_neg (by decide +kernel)).trans (if_pos rfl))) ((if_neg (by decide +kernel)).trans (if_pos rfl)) (if_pos rfl) ((if_neg (by decide +kernel)).trans ((if_neg (by decide +kernel)).trans ((if_neg (by decide +kernel)).trans md5))) (up9 _ _ (up8 _ _ l7)) (up9 _ _ l8) l9 (fun x hx => (mx x).mp hx) hlen fun hA t10 m10 F10 => co_next ?_)
  refine ex_cons (law_s9 (hA'.le (by decide)) G9.fa F10 hf6 fun hB t11 F11 => co_ret ?_)
  obtain ⟨p1, e16, _⟩ := G9.ct
  refine H hB t11 p1 _ (fun b o e n16 n100 => ?_) (F11.keep _ _ e16) (F11.keep _ _ G9.tab)
  have lt : ¬ N.1 ≤ b := by rw [hN, ← hL]; exact Nat.not_le_of_lt (Heap.lt_size e)
  exact F11.keep _ _ (oe9 b o (oe8 b o (o7 b o (k06 _ _ e) n16 fun z => absurd z lt) n16 n100 fun z => absurd z lt) n16 n100 fun z => absurd z lt)
end T20_
section T21_
open PySem PySem.W PyProof.Rows PySem.W.X
theorem filt_lk {q : Addr → Bool} {b : Addr} {o : Obj} : ∀ {K : Frag}, (K.filter fun p => q p.1).lookup b = some o → K.lookup b = some o
  | [], e => by cases e
  | p :: K, e => by
    rw [List.filter_cons] at e
    rw [List.lookup_cons]
    cases z : b == p.1 with
    | true =>
      rw [beq_iff_eq] at z
      subst z
      cases hq : q p.1 with
      | true => rw [hq, if_pos rfl, List.lookup_cons, beq_self_eq_true] at e; exact e
      | false =>
        rw [hq, if_neg (by decide)] at e
        have : ∀ K : Frag, (K.filter fun p => q p.1).lookup p.1 = none := by
          intro K
          induction K with
          | nil => rfl
          | cons r K ih =>
            rw [List.filter_cons]
            split
            · rename_i hr
              rw [List.lookup_cons]
              have : (p.1 == r.1) = false := beq_eq_false_iff_ne.mpr fun z => by rw [← z, hq] at hr; cases hr
              rw [this]
              exact ih
            · exact ih
        rw [this K] at e
        cases e
    | false =>
      cases hq : q p.1 with
      | true => rw [hq, if_pos rfl, List.lookup_cons, z] at e; exact filt_lk e
      | false => rw [hq, if_neg (by decide)] at e; exact filt_lk e
theorem kb_of {P : Params} {h : Heap} (KX : (KT P).In h) : (KB P).In h := fun b o e => KX b o (filt_lk (q := fun a => !(Nat.beq a 16) && !(Nat.beq a 100)) e)
theorem ints_all : ∀ {vs : List Value} {ns : List Int}, IntsAre vs ns → allInt vs
  | _, _, .nil => fun v h => by cases h
  | _, _, .cons n t h => fun v hv => by
    rcases List.mem_cons.mp hv with rfl | hv
    · exact ⟨_, _, rfl⟩
    · exact ints_all h v hv
theorem C16 {w : World} {h : Heap} (KX : (KT w.params).In h) : h.get? 16 = some (tabObj #[]) := KX 16 _ (by rfl)
theorem C100 {w : World} {h : Heap} (KX : (KT w.params).In h) : h.get? 100 = some (tabObj #[]) := KX 100 _ (by rfl)
theorem fin_good {w : World} {s₁ : Shared} {ns : List Int} {cs : Str → Option Addr} {mean : ExcName → Option Value} {a : Addr} {vs : List Value} (KX : (KT w.params).In s₁.heap) (hg : s₁.gens = #[]) (hl : s₁.heap.IsList a vs.toArray) (hI : IntsAre vs ns) (hc : ¬ (63 : Int) < (ns.length : Int)) :
    wpAny (model PySem.Challenge.rw_mg0032_01.row.prog w) callerA (call (.ref 103) [.ref a]) (fun v s' => GoodWG PySem.Challenge.rw_mg0032_01.row.claim cs mean [ofPy (PyData.list (List.map PyData.int ns))] s₁ (Except.ok (Flow.ret v)) s')
      (fun e s' => GoodWG PySem.Challenge.rw_mg0032_01.row.claim cs mean [ofPy (PyData.list (List.map PyData.int ns))] s₁ (Except.error e) s') s₁ := by
  have KB := kb_of KX
  have hz : 104 ≤ s₁.heap.objs.size := Heap.lt_size (KX 103 _ (by rfl))
  show wpAny (model pw w) callerA (call (.ref 103) [.ref a]) _ _ (St s₁.heap s₁ s₁.toks)
  refine cl (law_spec KB ⟨by decide, by decide, rfl⟩ hz (C16 KX) (C100 KX) hl (ints_all hI) (by rw [hI.length]; omega) fun h' t' p1 p2 k e16 e100 => rq_ret ⟨.inl ⟨.bool true, .bool true, [], rfl, fun cls => by kernel_rfl, .bool true, by kernel_rfl, unshared_nil⟩, ⟨fun b o e => ?_, fun b o e => ?_⟩, rfl, .of_eq hg⟩)
  · by_cases h16 : b = 16
    · subst h16
      rw [C16 KX] at e
      cases e
      exact .inr (.inl ⟨⟨20, _, _, KX 20 _ (by rfl), rfl, rfl, by kernel_rfl⟩, rfl, #[], p1, rfl, by rw [Array.empty_append]; exact e16⟩)
    · by_cases h100 : b = 100
      · subst h100
        rw [C100 KX] at e
        cases e
        exact .inr (.inl ⟨⟨102, _, _, KX 102 _ (by rfl), rfl, rfl, by kernel_rfl⟩, rfl, #[], p2, rfl, by rw [Array.empty_append]; exact e100⟩)
      · exact .inl (k b o e h16 h100)
  · by_cases h16 : b = 16
    · exact ⟨_, h16 ▸ e16⟩
    · by_cases h100 : b = 100
      · exact ⟨_, h100 ▸ e100⟩
      · exact ⟨o, k b o e h16 h100⟩
theorem fin.tw3695891088793727952 : True := trivial
theorem fin.tw2415902012162501839 : True := trivial
theorem fin.tw7992754907077573322 : True := trivial
theorem fin.tw8841901489119678080 : True := trivial
theorem fin.tw4312942655851389009 : True := trivial
theorem fin.tw15688172546075569117 : True := trivial
theorem fin.tw4951084420072521872 : True := trivial
theorem fin.tw10240050552035709138 : True := trivial
theorem fin.tw16175276709679454751 : True := trivial
theorem fin.tw1294052272659522567 : True := trivial
theorem fin.tw7012301326799680721 : True := trivial
theorem fin.tw6369749647887318377 : True := trivial
theorem fin.tw1627317184940986755 : True := trivial
theorem fin.tw14939796417064485472 : True := trivial
theorem fin.tw16906536467411238026 : True := trivial
theorem fin.tw16510490156224867327 : True := trivial
theorem fin.tw1625080806587739848 : True := trivial
theorem fin.tw17416127249078093707 : True := trivial
theorem fin.tw2458217370123720211 : True := trivial
theorem fin.tw15566928917628492161 : True := trivial
theorem fin.tw6719682386910338176 : True := trivial
theorem fin.tw13352402155397119506 : True := trivial
theorem fin.tw18295790063311454060 : True := trivial
theorem fin.tw368446124479545973 : True := trivial
theorem fin.tw12592865619883635771 : True := trivial
theorem fin.tw13798904582129276485 : True := trivial
theorem fin.tw14409080867774154364 : True := trivial
theorem fin.tw7811913379645629530 : True := trivial
theorem fin.tw3344428084675723527 : True := trivial
theorem fin.tw7995362448368537469 : True := trivial
theorem fin.tw17682806996416514929 : True := trivial
theorem fin.tw17394758860688274758 : True := trivial
theorem fin.tw7380833856163905736 : True := trivial
theorem fin.tw6676913765153014260 : True := trivial
theorem fin.tw13839651994842349663 : True := trivial
theorem fin.tw17735527322985923165 : True := trivial
theorem fin.tw18026829304364107951 : True := trivial
theorem fin.tw3105451386036433885 : True := trivial
theorem fin.tw10891054232620793217 : True := trivial
theorem fin.tw1012587747221504174 : True := trivial
theorem fin.tw606870893229470535 : True := trivial
theorem fin.tw1720621931413255836 : True := trivial
theorem fin.tw4171678462856256454 : True := trivial
theorem fin.tw10580198807604790814 : True := trivial
theorem fin.tw8470981058481822099 : True := trivial
theorem fin.tw15564276425815640635 : True := trivial
theorem fin.tw9218923581257491847 : True := trivial
theorem fin.tw12531442474878864461 : True := trivial
theorem fin.tw12711679700452659978 : True := trivial
theorem fin.tw11774225606250059059 : True := trivial
theorem fin.tw8416529770105884409 : True := trivial
theorem fin.tw6144012678527597917 : True := trivial
theorem fin.tw6766448646349342671 : True := trivial
theorem fin.tw4185835636816635120 : True := trivial
theorem fin.tw612862322836996645 : True := trivial
theorem fin.tw17565631618512938791 : True := trivial
theorem fin.tw4924110625330727750 : True := trivial
theorem fin.tw17570709534508481193 : True := trivial
theorem fin.tw11112386831996348380 : True := trivial
theorem fin.tw8119881530291889089 : True := trivial
theorem fin.tw14830472712155232339 : True := trivial
theorem fin.tw9746901515087519452 : True := trivial
theorem fin.tw5519495353268338179 : True := trivial
theorem fin.tw10077382171661173864 : True := trivial
theorem fin.tw2509907604513014618 : True := trivial
theorem fin.tw2132388599801512341 : True := trivial
theorem fin.tw12306702986682739431 : True := trivial
theorem fin.tw10892240956377086842 : True := trivial
theorem fin.tw11154830654865731599 : True := trivial
theorem fin.tw9330797661263165709 : True := trivial
theorem fin.tw2987528631028650233 : True := trivial
theorem fin.tw10509358973735555864 : True := trivial
theorem fin.tw4768634762848416435 : True := trivial
theorem fin.tw17656766251404061198 : True := trivial
theorem fin.tw16584977486865797543 : True := trivial
theorem fin.tw11724099842770609193 : True := trivial
theorem fin.tw1249118550022496774 : True := trivial
theorem fin.tw12740692763255036000 : True := trivial
theorem fin.tw13053057218663242946 : True := trivial
theorem fin.tw16231923513822398981 : True := trivial
theorem fin.tw16115155874713506467 : True := trivial
theorem fin.tw5283039692111393623 : True := trivial
theorem fin.tw9348056835496231494 : True := trivial
theorem fin.tw12141802397888321627 : True := trivial
theorem fin.tw7613321972660588937 : True := trivial
theorem fin.tw3314143786362844604 : True := trivial
theorem fin.tw8408514402456403777 : True := trivial
theorem fin.tw17628183408451194143 : True := trivial
theorem fin.tw8352470293576582857 : True := trivial
theorem fin.tw3683778510129048087 : True := trivial
theorem fin.tw15524705166548879127 : True := trivial
theorem fin.tw10147658903529517814 : True := trivial
theorem fin.tw13177410634674063896 : True := trivial
theorem fin.tw16540275574145912595 : True := trivial
theorem fin.tw3626153506385105462 : True := trivial
theorem fin.tw10807920368746810246 : True := trivial
theorem fin.tw5385697406680118197 : True := trivial
theorem fin.tw6381419901266130222 : True := trivial
theorem fin.tw17933470926392208243 : True := trivial
theorem fin.tw13589184094017884750 : True := trivial
theorem fin.tw8766707469313211297 : True := trivial
theorem fin.tw16889484823980962733 : True := trivial
theorem fin.tw12629903358213643309 : True := trivial
theorem fin.tw2494867037650129335 : True := trivial
theorem fin.tw7055459427971326715 : True := trivial
theorem fin.tw13888203208302971829 : True := trivial
theorem fin.tw6076196339368145170 : True := trivial
theorem fin.tw10329872625359487480 : True := trivial
theorem fin.tw1016568466817170115 : True := trivial
theorem fin.tw4759752924163587094 : True := trivial
theorem fin.tw15344004072050561172 : True := trivial
theorem fin.tw10098057777631523497 : True := trivial
theorem fin.tw5798873003858362631 : True := trivial
theorem fin.tw8656503046869711584 : True := trivial
theorem fin.tw12212933522069011988 : True := trivial
theorem fin.tw11556547117343562602 : True := trivial
theorem fin.tw3581902676900380099 : True := trivial
theorem fin.tw4109350324152975856 : True := trivial
theorem fin.tw18435518465128075966 : True := trivial
theorem fin.tw13516622038369049944 : True := trivial
theorem fin.tw16939505548667597686 : True := trivial
theorem fin.tw12237877928780879103 : True := trivial
theorem fin.tw13458103081158458829 : True := trivial
theorem fin.tw2566728492491116210 : True := trivial
theorem fin.tw10639728853236682779 : True := trivial
theorem fin.tw12649782002744950493 : True := trivial
theorem fin.tw7878902881812307729 : True := trivial
theorem fin.tw15507798971572009873 : True := trivial
theorem fin.tw2321816554428607280 : True := trivial
theorem fin.tw4684940682943077961 : True := trivial
theorem fin.tw4950403968356008110 : True := trivial
theorem fin.tw5204022970700756615 : True := trivial
theorem fin.tw9357874355931990178 : True := trivial
theorem fin.tw12688638787863650596 : True := trivial
theorem fin.tw7945727769302929742 : True := trivial
theorem fin.tw10339892782233949099 : True := trivial
theorem fin.tw12072043473718565483 : True := trivial
theorem fin.tw14633514788596799843 : True := trivial
theorem fin.tw4879674094562380441 : True := trivial
theorem fin.tw3048660440846570 : True := trivial
theorem fin.tw2048949268960607687 : True := trivial
theorem fin.tw13383306551100868464 : True := trivial
theorem fin.tw13564217631979166447 : True := trivial
theorem fin.tw3535909260468978520 : True := trivial
theorem fin.tw13294311002278339166 : True := trivial
theorem fin.tw852735271709494395 : True := trivial
theorem fin.tw15879917983914924495 : True := trivial
theorem fin.tw13140055419759390897 : True := trivial
theorem fin.tw9287272913980511680 : True := trivial
theorem fin.tw7647200832095031687 : True := trivial
theorem fin.tw16701703501996907093 : True := trivial
theorem fin.tw2053703779442242546 : True := trivial
theorem fin.tw2770072865186864722 : True := trivial
theorem fin.tw12756432100012035313 : True := trivial
theorem fin.tw5293390819737331289 : True := trivial
theorem fin.tw16496857829328116044 : True := trivial
theorem fin.tw15149952090015108872 : True := trivial
theorem fin.tw5598240689295286061 : True := trivial
theorem fin.tw8781841203698089088 : True := trivial
theorem fin.tw7413481943752022434 : True := trivial
theorem fin.tw6956187926921108005 : True := trivial
theorem fin.tw1963134401048803436 : True := trivial
theorem fin.tw1009458076779189996 : True := trivial
theorem fin.tw16407147864228438881 : True := trivial
theorem fin.tw6740906255778984437 : True := trivial
theorem fin.tw11048327352001059058 : True := trivial
theorem fin.tw3772244942691199965 : True := trivial
theorem fin.tw2770324782620179307 : True := trivial
theorem fin.tw9387745189664136937 : True := trivial
theorem fin.tw1457308870149427609 : True := trivial
theorem fin.tw380778119907437045 : True := trivial
theorem fin.tw10379442696754522256 : True := trivial
theorem fin.tw17966389363689072221 : True := trivial
theorem fin.tw11459549890715985073 : True := trivial
theorem fin.tw16484307994363974953 : True := trivial
theorem fin.tw13124432456504900590 : True := trivial
theorem fin.tw7198400940220700272 : True := trivial
theorem fin.tw5678346346211369953 : True := trivial
theorem fin.tw14425691864856114404 : True := trivial
theorem fin.tw12448240930570709186 : True := trivial
theorem fin.tw7812460388359432686 : True := trivial
theorem fin.tw3324877194604535234 : True := trivial
theorem fin.tw3931420124556041304 : True := trivial
theorem fin.tw3810338749695602999 : True := trivial
theorem fin.tw17648791723924199342 : True := trivial
theorem fin.tw3128426774192342189 : True := trivial
theorem fin.tw17094700465226760127 : True := trivial
theorem fin.tw7894123759139792501 : True := trivial
theorem fin.tw15815952407149668801 : True := trivial
theorem fin.tw1004238801687271554 : True := trivial
theorem fin.tw535108967829383461 : True := trivial
theorem fin.tw3559583141211743089 : True := trivial
theorem fin.tw16401934584784274106 : True := trivial
theorem fin.tw6524286228000457673 : True := trivial
theorem fin.tw6516135699139272479 : True := trivial
theorem fin.tw8269367382603917829 : True := trivial
theorem fin.tw7675655780812522254 : True := trivial
theorem fin.tw480829909506669009 : True := trivial
theorem fin.tw8091789769854477551 : True := trivial
theorem fin.tw5183066819669222093 : True := trivial
theorem fin.tw12996517811204074000 : True := trivial
theorem fin.tw10346124754417674468 : True := trivial
theorem fin.tw1976505206021243879 : True := trivial
theorem fin.tw11414674201277728305 : True := trivial
theorem fin.tw11476518839637877709 : True := trivial
theorem fin.tw9931804697670447688 : True := trivial
theorem fin.tw7647264199547315412 : True := trivial
theorem fin.tw11298980531735778240 : True := trivial
theorem fin.tw13776167372428106236 : True := trivial
theorem fin.tw2866121171748074186 : True := trivial
theorem fin.tw1156122010596964816 : True := trivial
theorem fin.tw3873373614280594671 : True := trivial
theorem fin.tw5897612983314593646 : True := trivial
theorem fin.tw13652873483193681167 : True := trivial
theorem fin.tw5404924219246004119 : True := trivial
theorem fin.tw10855227688893854305 : True := trivial
theorem fin.tw10961385985060879579 : True := trivial
theorem fin.tw7345847041597213846 : True := trivial
local macro_rules | `(tactic| k_head) => `(tactic| o_head (kHook KT [0, 1, 2, 3, 4, 5, 6, 7, 8, 9, 10, 11, 12, 13, 14, 15, 16, 17, 18, 19, 20, 21, 22, 23, 24, 25, 26, 27, 28, 29, 30, 31, 32, 33, 34, 35, 36, 37, 38, 39, 40, 41, 42, 43, 44, 45, 46, 47, 48, 49, 50, 51, 52, 53, 54, 55, 56, 57, 58, 59, 60, 61, 62, 63, 64, 65, 66, 67, 68, 69, 70, 71, 72, 73, 74, 75, 76, 77, 78, 79, 80, 81, 82, 83, 84, 85, 86, 87, 88, 89, 90, 91, 92, 93, 94, 95, 96, 97, 98, 99, 100, 101, 102, 103] (fun _ => by kernel_rfl)))
set_option Elab.async true in
theorem fin : PySem.Challenge.rw_mg0032_01.Holds := by
  w_on
  o_law
  k_head
  case hw => w_witness2
  intro w s₀ s₁ mg mb G Y fa o pm cd doc dV kV ho hdd hcd hD hmg hg args vals as hpre hlay hrd hwl hlo
  have KX := kIn_of Y
  clear Y hdd ho hcd hD
  refine Ground.open G ?_
  intro T B D TE TW
  clear B D TE TW G
  wrow_args hpre hlay hrd hwl hlo
  x_fa T KX hmg
  clear T hmg
  rename_i ns _ _ _ _ _ _ _ a vs _ hl _ _ _ hI _ hc _
  exact fin_good KX hg hl hI hc
end T21_
end Mine
theorem PySem.Challenge.cw_mg0032_01_holds : PySem.Challenge.rw_mg0032_01.Holds :=
  Mine.fin
