import PyProof.Rows.All
import PyProof.AttrMissHeap
import PyProof.FactsAll.str_8
import PyProof.IsiH_list
import Wide.All
import OpenK.AllK
import Wide.FinOn
import PySem.Challenge.RW_nb0380_01
open PySem PySem.W PyProof.Rows
set_option Elab.async false
set_option maxRecDepth 100000
set_option maxHeartbeats 8000000
set_option autoImplicit false
set_option linter.unusedVariables false

namespace Mine
abbrev pr : Program := PySem.Challenge.pw_nb0380_01
def bd : List Stmt := behindTheImports pr
def env : Env := { scope := pr.main.scope, locals := mainNs, globals := mainNs, cells := [], code := .ref 13, frame := some 14 }
def cB : Code := .body bd env
noncomputable abbrev GoT := PySem.W.Fast.tw10295753902157049106
noncomputable abbrev RunT := PySem.W.Fast.tw10110043849684766642
noncomputable abbrev tabT := PySem.W.Fast.tw14364793385576792824
noncomputable abbrev denT := PySem.W.Fast.tw11892475500146522536
noncomputable abbrev exsT := PySem.W.Fast.tw12563942051412417395
abbrev ann : Option Value := some (.ref 6)
abbrev q0 : Pos := ⟨0, 0, 0, 0⟩
abbrev B0 : List Frame := [topFrame q0]
theorem go_of {w : World} {n : Nat} {s : SharedT} {t : Thread} {r : Option (SharedT × Thread)} (h : GoT tabT pr w 11 ann 1 n s t = r) : segGoT treeTable pr w 11 ann 1 n s t = r := by
  rw [PySem.W.Fast.te10295753902157049106, PySem.W.Fast.te14364793385576792824]; exact h
theorem run_of {w : World} {n : Nat} {s : SharedT} {t : Thread} {r : Option (Flow × SharedT × Code × Pos)} (h : RunT tabT pr w 11 ann 1 n s t = r) : segRunT treeTable pr w 11 ann 1 n s t = r := by
  rw [PySem.W.Fast.te10110043849684766642, PySem.W.Fast.te14364793385576792824]; exact h
theorem den_of (c : Code) : denote treeTable c = denT tabT c := by
  rw [PySem.W.Fast.te11892475500146522536, PySem.W.Fast.te14364793385576792824]
noncomputable def exT (l : List Stmt) (p : Pos) : Thread := ⟨(exsT l env).wrap doneF deadEnd id id, cB, p, B0⟩
theorem exs_of (l : List Stmt) (p : Pos) : piecesOf l env cB p B0 = exT l p := by
  show (⟨(execs l env).wrap doneF deadEnd id id, cB, p, B0⟩ : Thread) = _
  rw [PySem.W.Fast.te12563942051412417395]
  rfl

def ent (P : Params) (k : String) (t : Nat) (v : Value) : DictEntry := ⟨PyData.keyHash P (Str.ofString k), .str (Str.ofString k) t, v⟩
def sx (s : String) (t : Nat) : Value := .str (Str.ofString s) t
def glo (P : Params) (nm : Value) (es : List DictEntry) (ep : Nat) : Obj :=
  { cls := .type "dict", data := .dict ⟨ent P "__name__" 165 nm :: ent P "__doc__" 166 .none :: ent P "__package__" 167 .none :: ent P "__loader__" 168 (.builtin "__main__.__loader__#opaque") ::
      ent P "__spec__" 169 .none :: ent P "__annotations__" 170 (.ref 6) :: ent P "__builtins__" 171 (.ref 4) :: ent P "__file__" 173 (sx "/claim/cut.py" 172) :: ent P "__cached__" 174 .none :: es⟩ ep }
def tup (vs : List Value) : Obj := { cls := .type "tuple", data := .seq ⟨vs⟩ }
def nof : Obj := { cls := .none, data := .fields #[] }
def stopO (a : Addr) : Obj := { cls := .type "StopIteration", data := .fields #[.ref a, .none, .none, .none, .bool false, .none] }
def sliO : Obj := { cls := .type "slice", data := .fields #[.none, .none, .none] }
def o13 : Obj := { cls := .type "code", data := .fields #[sx "<module>" 182, sx "<module>" 183, sx "/claim/cut.py" 184, .int 1 0, .int 0 0, .int 0 0, .int 0 0,
        .int 0 0, .ref 11, .bool false, .int 181 0, .ref 12, .none, .none, .none, .none, .int 185 0, .int 1 0, sx "/claim/cut.py" 186] }
def o14 : Obj := { cls := .type "frame", slots := #[some (.ref 13), some (.ref 3), some (.ref 3), none, some (sx "__main__" 164), none, some (.ref 0)] }
/-- the tree of a list of objects -/
def mkT : List Obj → Nat → BT → BT
  | [], _, t => t
  | o :: r, n, t => mkT r (n + 1) (t.ins n o)
noncomputable def obA (P : Params) (g o12 : Obj) (r : List Obj) : List Obj := boot_o_0 P :: boot_o_1 P :: boot_o_2 P :: g :: boot_o_4 P :: boot_o_5 P :: boot_o_6 P :: boot_o_7 P :: boot_o_8 P :: boot_o_9 P :: boot_o_10 P ::
  tup [] :: o12 :: o13 :: o14 :: r
def stO (os : OsState) (l : List Obj) (n toks : Nat) : SharedT := { tree := mkT l 0 .nil, n := n, life := {}, gens := #[], drawn := {}, toks := toks, os := os }
def hexD (n : Nat) : Nat := bif Nat.blt n 10 then 48 + n else 55 + n
def hx (i : Nat) : Str := ⟨#[61, hexD (i / 16), hexD (i % 16)]⟩
def hxs : Nat → List Value
  | 0 => []
  | n + 1 => hxs n ++ [.str (hx n) (197 + 4 * n)]
def lst (l : List Value) (ep : Nat) : Obj := { cls := .type "list", data := .seq ⟨l⟩ ep }
def mn : Value := sx "__main__" 164
def qn : Value := sx "cpy313.email.quoprimime" 1229
def es1 (P : Params) (r : List DictEntry) : List DictEntry := ent P "CRLF" 188 (sx "\r\n" 187) :: ent P "NL" 190 (sx "\n" 189) :: r
def es2 (P : Params) (r : List DictEntry) : List DictEntry := es1 P (ent P "_QUOPRI_MAP" 1218 (.ref 17) :: r)
def es3 (P : Params) (r : List DictEntry) : List DictEntry := es2 P (ent P "_QUOPRI_HEADER_MAP" 1219 (.ref 22) :: ent P "_QUOPRI_BODY_MAP" 1220 (.ref 24) ::
  ent P "ascii_lowercase" 1222 (sx "abcdefghijklmnopqrstuvwxyz" 1221) :: ent P "ascii_uppercase" 1224 (sx "ABCDEFGHIJKLMNOPQRSTUVWXYZ" 1223) ::
  ent P "ascii_letters" 1226 (sx "abcdefghijklmnopqrstuvwxyzABCDEFGHIJKLMNOPQRSTUVWXYZ" 1225) :: ent P "digits" 1228 (sx "0123456789" 1227) :: r)
def gb (P : Params) : Obj := glo P mn [] 9
def g1 (P : Params) : Obj := glo P mn (es1 P []) 11
def g2 (P : Params) : Obj := glo P mn (es2 P []) 12
def g3 (P : Params) : Obj := glo P qn (es3 P []) 18
def g4 (P : Params) (v : Value) : Obj := glo P qn (es3 P [ent P "c" 1239 v]) 19

noncomputable def Sb (P : Params) (os : OsState) : SharedT := stO os (obA P (gb P) nof []) 15 187
noncomputable def S1 (P : Params) (os : OsState) : SharedT := stO os (obA P (g1 P) nof []) 15 191
theorem partA (w : World) (os : OsState) : segRun treeTable pr w 11 ann 1 19 (Sb w.params os).abs (piecesOf (bd.take 2) env cB q0 B0) = some (.next, (S1 w.params os).abs, cB, ⟨2, 0, 2, 2⟩) := by
  rw [exs_of]
  exact segRun_of (run_of (by kernel_rfl))

/- the comprehension -/
def compE : PySem.Expr := match bd.drop 2 with | Stmt.Assign _ e _ :: _ => e | _ => default
def compSc : Scope := match compE with | PySem.Expr.ListComp _ _ s _ => s | _ => default
def cenv : Env := { scope := compSc, locals := 18, globals := 3, cells := [], code := .ref 13, frame := some 14 }
def cC : Code := .compLoop compE 0 (.ref 16) (.ref 17) cenv
def ranO : Obj := { cls := .type "range", data := .fields #[.int 0 192, .int 256 191, .int 1 193] }
def ritO (i : Nat) : Obj := { cls := .type "range_iterator", data := .fields #[.int i 0, .int (256 - i : Nat) 0, .int 1 0] }
noncomputable def compS (P : Params) (os : OsState) (d : Obj) (i : Nat) : SharedT := stO os (obA P (g1 P) nof [ranO, ritO i, lst (hxs i) i, d]) 19 (194 + 4 * i)
def cd0 : Obj := { cls := .type "dict", data := .dict #[] }
def cdi (P : Params) (i : Nat) : Obj := { cls := .type "dict", data := .dict #[ent P "c" 195 (.int (i - 1 : Nat) (190 + 4 * i))] 1 }
noncomputable def compSt (P : Params) (os : OsState) (i : Nat) : SharedT := compS P os (cdi P i) i
noncomputable def thC (p : Pos) (k : Result → Sem PySem.Fin) : Thread := ⟨denT tabT cC, cC, p, .ret k none true [.ref 18, .ref 17] cB ⟨3, 36, 3, 46⟩ [] :: B0⟩
theorem compTurn0 (w : World) (os : OsState) (k : Result → Sem PySem.Fin) : segGo treeTable pr w 11 ann 1 37 (compS w.params os cd0 0).abs (thC ⟨3, 36, 3, 46⟩ k) = some ((compSt w.params os 1).abs, thC ⟨3, 15, 3, 26⟩ k) :=
  segGo_of (go_of (by kernel_rfl))
theorem compTurn1 (w : World) (os : OsState) (k : Result → Sem PySem.Fin) : segGo treeTable pr w 11 ann 1 592 (compSt w.params os 1).abs (thC ⟨3, 15, 3, 26⟩ k) = some ((compSt w.params os 17).abs, thC ⟨3, 15, 3, 26⟩ k) :=
  segGo_of (go_of (by kernel_rfl))
theorem compTurn17 (w : World) (os : OsState) (k : Result → Sem PySem.Fin) : segGo treeTable pr w 11 ann 1 592 (compSt w.params os 17).abs (thC ⟨3, 15, 3, 26⟩ k) = some ((compSt w.params os 33).abs, thC ⟨3, 15, 3, 26⟩ k) :=
  segGo_of (go_of (by kernel_rfl))
theorem compTurn33 (w : World) (os : OsState) (k : Result → Sem PySem.Fin) : segGo treeTable pr w 11 ann 1 592 (compSt w.params os 33).abs (thC ⟨3, 15, 3, 26⟩ k) = some ((compSt w.params os 49).abs, thC ⟨3, 15, 3, 26⟩ k) :=
  segGo_of (go_of (by kernel_rfl))
theorem compTurn49 (w : World) (os : OsState) (k : Result → Sem PySem.Fin) : segGo treeTable pr w 11 ann 1 592 (compSt w.params os 49).abs (thC ⟨3, 15, 3, 26⟩ k) = some ((compSt w.params os 65).abs, thC ⟨3, 15, 3, 26⟩ k) :=
  segGo_of (go_of (by kernel_rfl))
theorem compTurn65 (w : World) (os : OsState) (k : Result → Sem PySem.Fin) : segGo treeTable pr w 11 ann 1 592 (compSt w.params os 65).abs (thC ⟨3, 15, 3, 26⟩ k) = some ((compSt w.params os 81).abs, thC ⟨3, 15, 3, 26⟩ k) :=
  segGo_of (go_of (by kernel_rfl))
theorem compTurn81 (w : World) (os : OsState) (k : Result → Sem PySem.Fin) : segGo treeTable pr w 11 ann 1 592 (compSt w.params os 81).abs (thC ⟨3, 15, 3, 26⟩ k) = some ((compSt w.params os 97).abs, thC ⟨3, 15, 3, 26⟩ k) :=
  segGo_of (go_of (by kernel_rfl))
theorem compTurn97 (w : World) (os : OsState) (k : Result → Sem PySem.Fin) : segGo treeTable pr w 11 ann 1 592 (compSt w.params os 97).abs (thC ⟨3, 15, 3, 26⟩ k) = some ((compSt w.params os 113).abs, thC ⟨3, 15, 3, 26⟩ k) :=
  segGo_of (go_of (by kernel_rfl))
theorem compTurn113 (w : World) (os : OsState) (k : Result → Sem PySem.Fin) : segGo treeTable pr w 11 ann 1 592 (compSt w.params os 113).abs (thC ⟨3, 15, 3, 26⟩ k) = some ((compSt w.params os 129).abs, thC ⟨3, 15, 3, 26⟩ k) :=
  segGo_of (go_of (by kernel_rfl))
theorem compTurn129 (w : World) (os : OsState) (k : Result → Sem PySem.Fin) : segGo treeTable pr w 11 ann 1 592 (compSt w.params os 129).abs (thC ⟨3, 15, 3, 26⟩ k) = some ((compSt w.params os 145).abs, thC ⟨3, 15, 3, 26⟩ k) :=
  segGo_of (go_of (by kernel_rfl))
theorem compTurn145 (w : World) (os : OsState) (k : Result → Sem PySem.Fin) : segGo treeTable pr w 11 ann 1 592 (compSt w.params os 145).abs (thC ⟨3, 15, 3, 26⟩ k) = some ((compSt w.params os 161).abs, thC ⟨3, 15, 3, 26⟩ k) :=
  segGo_of (go_of (by kernel_rfl))
theorem compTurn161 (w : World) (os : OsState) (k : Result → Sem PySem.Fin) : segGo treeTable pr w 11 ann 1 592 (compSt w.params os 161).abs (thC ⟨3, 15, 3, 26⟩ k) = some ((compSt w.params os 177).abs, thC ⟨3, 15, 3, 26⟩ k) :=
  segGo_of (go_of (by kernel_rfl))
theorem compTurn177 (w : World) (os : OsState) (k : Result → Sem PySem.Fin) : segGo treeTable pr w 11 ann 1 592 (compSt w.params os 177).abs (thC ⟨3, 15, 3, 26⟩ k) = some ((compSt w.params os 193).abs, thC ⟨3, 15, 3, 26⟩ k) :=
  segGo_of (go_of (by kernel_rfl))
theorem compTurn193 (w : World) (os : OsState) (k : Result → Sem PySem.Fin) : segGo treeTable pr w 11 ann 1 592 (compSt w.params os 193).abs (thC ⟨3, 15, 3, 26⟩ k) = some ((compSt w.params os 209).abs, thC ⟨3, 15, 3, 26⟩ k) :=
  segGo_of (go_of (by kernel_rfl))
theorem compTurn209 (w : World) (os : OsState) (k : Result → Sem PySem.Fin) : segGo treeTable pr w 11 ann 1 592 (compSt w.params os 209).abs (thC ⟨3, 15, 3, 26⟩ k) = some ((compSt w.params os 225).abs, thC ⟨3, 15, 3, 26⟩ k) :=
  segGo_of (go_of (by kernel_rfl))
theorem compTurn225 (w : World) (os : OsState) (k : Result → Sem PySem.Fin) : segGo treeTable pr w 11 ann 1 592 (compSt w.params os 225).abs (thC ⟨3, 15, 3, 26⟩ k) = some ((compSt w.params os 241).abs, thC ⟨3, 15, 3, 26⟩ k) :=
  segGo_of (go_of (by kernel_rfl))
theorem compTurn241 (w : World) (os : OsState) (k : Result → Sem PySem.Fin) : segGo treeTable pr w 11 ann 1 555 (compSt w.params os 241).abs (thC ⟨3, 15, 3, 26⟩ k) = some ((compSt w.params os 256).abs, thC ⟨3, 15, 3, 26⟩ k) :=
  segGo_of (go_of (by kernel_rfl))
theorem compTurns {w : World} {os : OsState} {k : Result → Sem PySem.Fin} {N : Nat} {r : Flow × Shared × Code × Pos} (h : segRun treeTable pr w 11 ann 1 N (compSt w.params os 256).abs (thC ⟨3, 15, 3, 26⟩ k) = some r) :
    segRun treeTable pr w 11 ann 1 (37 + (592 + (592 + (592 + (592 + (592 + (592 + (592 + (592 + (592 + (592 + (592 + (592 + (592 + (592 + (592 + (555 + (N)))))))))))))))))) (compS w.params os cd0 0).abs (thC ⟨3, 36, 3, 46⟩ k) = some r := by
  replace h := seg_go (compTurn241 w os k) h
  replace h := seg_go (compTurn225 w os k) h
  replace h := seg_go (compTurn209 w os k) h
  replace h := seg_go (compTurn193 w os k) h
  replace h := seg_go (compTurn177 w os k) h
  replace h := seg_go (compTurn161 w os k) h
  replace h := seg_go (compTurn145 w os k) h
  replace h := seg_go (compTurn129 w os k) h
  replace h := seg_go (compTurn113 w os k) h
  replace h := seg_go (compTurn97 w os k) h
  replace h := seg_go (compTurn81 w os k) h
  replace h := seg_go (compTurn65 w os k) h
  replace h := seg_go (compTurn49 w os k) h
  replace h := seg_go (compTurn33 w os k) h
  replace h := seg_go (compTurn17 w os k) h
  replace h := seg_go (compTurn1 w os k) h
  exact seg_go (compTurn0 w os k) h
theorem way2 {P : World → Prop} {row row' : String} {b : Bool} (h0 : ∀ w : World, P ((w.withFollow row b).withFollow row' false)) (h1 : ∀ w : World, P ((w.withFollow row b).withFollow row' true)) (w : World) : P (w.withFollow row b) := by
  have h : ∀ c : Bool, P ((w.withFollow row b).withFollow row' c) := fun c => by cases c; exact h0 w; exact h1 w
  have := h ((w.withFollow row b).params.followText row')
  rwa [World.withFollow_self] at this
/-- the continuation of the topmost frame of a run -/
noncomputable def kOf : Option (SharedT × Thread) → Result → Sem PySem.Fin
  | some (_, ⟨_, _, _, .ret k _ _ _ _ _ _ :: _⟩) => k
  | _ => fun _ => .unsupported "none"
noncomputable def entC (n : Nat) (w : World) (os : OsState) : Option (SharedT × Thread) := GoT tabT pr w 11 ann 1 n (S1 w.params os) (exT ((bd.drop 2).take 1) ⟨2, 0, 2, 2⟩)
noncomputable def S2 (P : Params) (os : OsState) : SharedT := stO os (obA P (g2 P) nof [ranO, ritO 256, lst (hxs 256) 256, { cls := .type "dict", data := .dict #[] 2 }, tup [], stopO 19]) 21 1219
theorem comp_of {w : World} {os : OsState} {n m : Nat} (hn : n + (37 + (592 + (592 + (592 + (592 + (592 + (592 + (592 + (592 + (592 + (592 + (592 + (592 + (592 + (592 + (592 + (555 + m))))))))))))))))) = 9552)
    (he : entC n w os = some (compS w.params os cd0 0, thC ⟨3, 36, 3, 46⟩ (kOf (entC n w os))))
    (hx : RunT tabT pr w 11 ann 1 m (compSt w.params os 256) (thC ⟨3, 15, 3, 26⟩ (kOf (entC n w os))) = some (.next, S2 w.params os, cB, ⟨3, 0, 3, 11⟩)) :
    segRun treeTable pr w 11 ann 1 9552 (S1 w.params os).abs (piecesOf ((bd.drop 2).take 1) env cB ⟨2, 0, 2, 2⟩ B0) = some (.next, (S2 w.params os).abs, cB, ⟨3, 0, 3, 11⟩) := by
  rw [exs_of, ← hn]
  have h1 := segGo_of (go_of he)
  have h2 := segRun_of (run_of hx)
  exact seg_go h1 (compTurns h2)
theorem compE_false_false (w : World) (os : OsState) : entC 52 ((w.withFollow "special-get-raises" false).withFollow "comprehension-iter-twice" false) os = some (compS ((w.withFollow "special-get-raises" false).withFollow "comprehension-iter-twice" false).params os cd0 0, thC ⟨3, 36, 3, 46⟩ (kOf (entC 52 ((w.withFollow "special-get-raises" false).withFollow "comprehension-iter-twice" false) os))) := by kernel_rfl
theorem compX_false_false (w : World) (os : OsState) : RunT tabT pr ((w.withFollow "special-get-raises" false).withFollow "comprehension-iter-twice" false) 11 ann 1 28 (compSt ((w.withFollow "special-get-raises" false).withFollow "comprehension-iter-twice" false).params os 256) (thC ⟨3, 15, 3, 26⟩ (kOf (entC 52 ((w.withFollow "special-get-raises" false).withFollow "comprehension-iter-twice" false) os))) = some (.next, S2 ((w.withFollow "special-get-raises" false).withFollow "comprehension-iter-twice" false).params os, cB, ⟨3, 0, 3, 11⟩) := by kernel_rfl
theorem compE_false_true (w : World) (os : OsState) : entC 52 ((w.withFollow "special-get-raises" true).withFollow "comprehension-iter-twice" false) os = some (compS ((w.withFollow "special-get-raises" true).withFollow "comprehension-iter-twice" false).params os cd0 0, thC ⟨3, 36, 3, 46⟩ (kOf (entC 52 ((w.withFollow "special-get-raises" true).withFollow "comprehension-iter-twice" false) os))) := by kernel_rfl
theorem compX_false_true (w : World) (os : OsState) : RunT tabT pr ((w.withFollow "special-get-raises" true).withFollow "comprehension-iter-twice" false) 11 ann 1 28 (compSt ((w.withFollow "special-get-raises" true).withFollow "comprehension-iter-twice" false).params os 256) (thC ⟨3, 15, 3, 26⟩ (kOf (entC 52 ((w.withFollow "special-get-raises" true).withFollow "comprehension-iter-twice" false) os))) = some (.next, S2 ((w.withFollow "special-get-raises" true).withFollow "comprehension-iter-twice" false).params os, cB, ⟨3, 0, 3, 11⟩) := by kernel_rfl
theorem compE_true_false (w : World) (os : OsState) : entC 42 ((w.withFollow "special-get-raises" false).withFollow "comprehension-iter-twice" true) os = some (compS ((w.withFollow "special-get-raises" false).withFollow "comprehension-iter-twice" true).params os cd0 0, thC ⟨3, 36, 3, 46⟩ (kOf (entC 42 ((w.withFollow "special-get-raises" false).withFollow "comprehension-iter-twice" true) os))) := by kernel_rfl
theorem compX_true_false (w : World) (os : OsState) : RunT tabT pr ((w.withFollow "special-get-raises" false).withFollow "comprehension-iter-twice" true) 11 ann 1 38 (compSt ((w.withFollow "special-get-raises" false).withFollow "comprehension-iter-twice" true).params os 256) (thC ⟨3, 15, 3, 26⟩ (kOf (entC 42 ((w.withFollow "special-get-raises" false).withFollow "comprehension-iter-twice" true) os))) = some (.next, S2 ((w.withFollow "special-get-raises" false).withFollow "comprehension-iter-twice" true).params os, cB, ⟨3, 0, 3, 11⟩) := by kernel_rfl
theorem compE_true_true (w : World) (os : OsState) : entC 42 ((w.withFollow "special-get-raises" true).withFollow "comprehension-iter-twice" true) os = some (compS ((w.withFollow "special-get-raises" true).withFollow "comprehension-iter-twice" true).params os cd0 0, thC ⟨3, 36, 3, 46⟩ (kOf (entC 42 ((w.withFollow "special-get-raises" true).withFollow "comprehension-iter-twice" true) os))) := by kernel_rfl
theorem compX_true_true (w : World) (os : OsState) : RunT tabT pr ((w.withFollow "special-get-raises" true).withFollow "comprehension-iter-twice" true) 11 ann 1 38 (compSt ((w.withFollow "special-get-raises" true).withFollow "comprehension-iter-twice" true).params os 256) (thC ⟨3, 15, 3, 26⟩ (kOf (entC 42 ((w.withFollow "special-get-raises" true).withFollow "comprehension-iter-twice" true) os))) = some (.next, S2 ((w.withFollow "special-get-raises" true).withFollow "comprehension-iter-twice" true).params os, cB, ⟨3, 0, 3, 11⟩) := by kernel_rfl
theorem partB (w : World) (os : OsState) : segRun treeTable pr w 11 ann 1 9552 (S1 w.params os).abs (piecesOf ((bd.drop 2).take 1) env cB ⟨2, 0, 2, 2⟩ B0) = some (.next, (S2 w.params os).abs, cB, ⟨3, 0, 3, 11⟩) := by
  refine byRow2 (P := fun w => segRun treeTable pr w 11 ann 1 9552 (S1 w.params os).abs (piecesOf ((bd.drop 2).take 1) env cB ⟨2, 0, 2, 2⟩ B0) = some (.next, (S2 w.params os).abs, cB, ⟨3, 0, 3, 11⟩)) "special-get-raises" ?_ ?_ w
  · intro w
    have h0 : ∀ w, (fun w => segRun treeTable pr w 11 ann 1 9552 (S1 w.params os).abs (piecesOf ((bd.drop 2).take 1) env cB ⟨2, 0, 2, 2⟩ B0) = some (.next, (S2 w.params os).abs, cB, ⟨3, 0, 3, 11⟩)) (World.withFollow (World.withFollow w "special-get-raises" false) "comprehension-iter-twice" false) := fun w => comp_of (by rfl) (compE_false_false w os) (compX_false_false w os)
    have h1 : ∀ w, (fun w => segRun treeTable pr w 11 ann 1 9552 (S1 w.params os).abs (piecesOf ((bd.drop 2).take 1) env cB ⟨2, 0, 2, 2⟩ B0) = some (.next, (S2 w.params os).abs, cB, ⟨3, 0, 3, 11⟩)) (World.withFollow (World.withFollow w "special-get-raises" false) "comprehension-iter-twice" true) := fun w => comp_of (by rfl) (compE_true_false w os) (compX_true_false w os)
    exact way2 (P := fun w => segRun treeTable pr w 11 ann 1 9552 (S1 w.params os).abs (piecesOf ((bd.drop 2).take 1) env cB ⟨2, 0, 2, 2⟩ B0) = some (.next, (S2 w.params os).abs, cB, ⟨3, 0, 3, 11⟩)) h0 h1 w
  · intro w
    have h0 : ∀ w, (fun w => segRun treeTable pr w 11 ann 1 9552 (S1 w.params os).abs (piecesOf ((bd.drop 2).take 1) env cB ⟨2, 0, 2, 2⟩ B0) = some (.next, (S2 w.params os).abs, cB, ⟨3, 0, 3, 11⟩)) (World.withFollow (World.withFollow w "special-get-raises" true) "comprehension-iter-twice" false) := fun w => comp_of (by rfl) (compE_false_true w os) (compX_false_true w os)
    have h1 : ∀ w, (fun w => segRun treeTable pr w 11 ann 1 9552 (S1 w.params os).abs (piecesOf ((bd.drop 2).take 1) env cB ⟨2, 0, 2, 2⟩ B0) = some (.next, (S2 w.params os).abs, cB, ⟨3, 0, 3, 11⟩)) (World.withFollow (World.withFollow w "special-get-raises" true) "comprehension-iter-twice" true) := fun w => comp_of (by rfl) (compE_true_true w os) (compX_true_true w os)
    exact way2 (P := fun w => segRun treeTable pr w 11 ann 1 9552 (S1 w.params os).abs (piecesOf ((bd.drop 2).take 1) env cB ⟨2, 0, 2, 2⟩ B0) = some (.next, (S2 w.params os).abs, cB, ⟨3, 0, 3, 11⟩)) h0 h1 w

noncomputable def obB (P : Params) (g o12 : Obj) (r : List Obj) : List Obj := obA P g o12 (ranO :: ritO 256 :: lst (hxs 256) 256 :: { cls := .type "dict", data := .dict #[] 2 } :: tup [] :: stopO 19 :: r)
noncomputable def S3 (P : Params) (os : OsState) : SharedT := stO os (obB P (g3 P) nof [sliO, lst (hxs 256) 0, sliO, lst (hxs 256) 0]) 25 1231
theorem partC (w : World) (os : OsState) : segRun treeTable pr w 11 ann 1 109 (S2 w.params os).abs (piecesOf ((bd.drop 3).take 7) env cB ⟨3, 0, 3, 11⟩ B0) = some (.next, (S3 w.params os).abs, cB, ⟨10, 0, 10, 8⟩) := by
  rw [exs_of]
  exact segRun_of (run_of (by kernel_rfl))

/- a list with signs put for their own numbers -/
def puts (t : Nat) : List Nat → Nat → List Value → List Value
  | [], _, l => l
  | b :: r, j, l => puts t r (j + 1) (l.set b (.str ⟨#[b]⟩ (t + 3 * j)))
def u8s : List Nat → List UInt8
  | [] => []
  | b :: r => UInt8.ofNat b :: u8s r
def bitO (bs : List Nat) (t : Nat) (i : Nat) : Obj := { cls := .type "bytes_iterator", data := .fields #[.bytes ⟨u8s bs⟩ t, .int i 0] }
def bitE (i : Nat) : Obj := { cls := .type "bytes_iterator", data := .fields #[.none, .int i 0] }
def forC (n : Nat) (it : Addr) : Code := match bd.drop n with | Stmt.For t _ b o _ :: _ => .forLoop t (.ref it) b o env | _ => default
noncomputable def thF (c : Code) (p : Pos) (p' : Pos) (k : Result → Sem PySem.Fin) : Thread := ⟨denT tabT c, c, p, .ret k none false [] cB p' [] :: B0⟩

def hb : List Nat := [45, 33, 42, 43, 47, 97, 98, 99, 100, 101, 102, 103, 104, 105, 106, 107, 108, 109, 110, 111, 112, 113, 114, 115, 116, 117, 118, 119, 120, 121, 122, 65, 66, 67, 68, 69, 70, 71, 72, 73, 74, 75, 76, 77, 78, 79, 80, 81, 82, 83, 84, 85, 86, 87, 88, 89, 90, 48, 49, 50, 51, 52, 53, 54, 55, 56, 57]
def bb : List Nat := [32, 33, 34, 35, 36, 37, 38, 39, 40, 41, 42, 43, 44, 45, 46, 47, 48, 49, 50, 51, 52, 53, 54, 55, 56, 57, 58, 59, 60, 62, 63, 64, 65, 66, 67, 68, 69, 70, 71, 72, 73, 74, 75, 76, 77, 78, 79, 80, 81, 82, 83, 84, 85, 86, 87, 88, 89, 90, 91, 92, 93, 94, 95, 96, 97, 98, 99, 100, 101, 102, 103, 104, 105, 106, 107, 108, 109, 110, 111, 112, 113, 114, 115, 116, 117, 118, 119, 120, 121, 122, 123, 124, 125, 126, 9]
noncomputable def S4 (P : Params) (os : OsState) : SharedT := stO os (obB P (g4 P (.int 57 1436)) nof [sliO, lst (puts 1240 hb 0 (hxs 256)) 0, sliO, lst (hxs 256) 0, bitE 67, tup [], stopO 26]) 28 1439
noncomputable def f1C : Code := forC 10 25
noncomputable def f1S (P : Params) (os : OsState) (g : Obj) (i : Nat) : SharedT := stO os (obB P g nof [sliO, lst (puts 1240 (hb.take i) 0 (hxs 256)) 0, sliO, lst (hxs 256) 0, bitO hb 1237 i]) 26 (1238 + 3 * i)
noncomputable def f1St (P : Params) (os : OsState) (i : Nat) : SharedT := f1S P os (g4 P (.int (hb.getD (i - 1) 0 : Nat) (1235 + 3 * i))) i
theorem f1Turn0 (w : World) (os : OsState) (k : Result → Sem PySem.Fin) : segGo treeTable pr w 11 ann 1 45 (f1S w.params os (g3 w.params) 0).abs (thF f1C ⟨11, 9, 11, 74⟩ ⟨11, 9, 11, 74⟩ k) = some ((f1St w.params os 1).abs, thF f1C ⟨12, 4, 12, 25⟩ ⟨11, 9, 11, 74⟩ k) :=
  segGo_of (go_of (by kernel_rfl))
theorem f1Turn1 (w : World) (os : OsState) (k : Result → Sem PySem.Fin) : segGo treeTable pr w 11 ann 1 540 (f1St w.params os 1).abs (thF f1C ⟨12, 4, 12, 25⟩ ⟨11, 9, 11, 74⟩ k) = some ((f1St w.params os 13).abs, thF f1C ⟨12, 4, 12, 25⟩ ⟨11, 9, 11, 74⟩ k) :=
  segGo_of (go_of (by kernel_rfl))
theorem f1Turn13 (w : World) (os : OsState) (k : Result → Sem PySem.Fin) : segGo treeTable pr w 11 ann 1 540 (f1St w.params os 13).abs (thF f1C ⟨12, 4, 12, 25⟩ ⟨11, 9, 11, 74⟩ k) = some ((f1St w.params os 25).abs, thF f1C ⟨12, 4, 12, 25⟩ ⟨11, 9, 11, 74⟩ k) :=
  segGo_of (go_of (by kernel_rfl))
theorem f1Turn25 (w : World) (os : OsState) (k : Result → Sem PySem.Fin) : segGo treeTable pr w 11 ann 1 540 (f1St w.params os 25).abs (thF f1C ⟨12, 4, 12, 25⟩ ⟨11, 9, 11, 74⟩ k) = some ((f1St w.params os 37).abs, thF f1C ⟨12, 4, 12, 25⟩ ⟨11, 9, 11, 74⟩ k) :=
  segGo_of (go_of (by kernel_rfl))
theorem f1Turn37 (w : World) (os : OsState) (k : Result → Sem PySem.Fin) : segGo treeTable pr w 11 ann 1 540 (f1St w.params os 37).abs (thF f1C ⟨12, 4, 12, 25⟩ ⟨11, 9, 11, 74⟩ k) = some ((f1St w.params os 49).abs, thF f1C ⟨12, 4, 12, 25⟩ ⟨11, 9, 11, 74⟩ k) :=
  segGo_of (go_of (by kernel_rfl))
theorem f1Turn49 (w : World) (os : OsState) (k : Result → Sem PySem.Fin) : segGo treeTable pr w 11 ann 1 540 (f1St w.params os 49).abs (thF f1C ⟨12, 4, 12, 25⟩ ⟨11, 9, 11, 74⟩ k) = some ((f1St w.params os 61).abs, thF f1C ⟨12, 4, 12, 25⟩ ⟨11, 9, 11, 74⟩ k) :=
  segGo_of (go_of (by kernel_rfl))
theorem f1Turn61 (w : World) (os : OsState) (k : Result → Sem PySem.Fin) : segGo treeTable pr w 11 ann 1 270 (f1St w.params os 61).abs (thF f1C ⟨12, 4, 12, 25⟩ ⟨11, 9, 11, 74⟩ k) = some ((f1St w.params os 67).abs, thF f1C ⟨12, 4, 12, 25⟩ ⟨11, 9, 11, 74⟩ k) :=
  segGo_of (go_of (by kernel_rfl))
theorem f1Turns {w : World} {os : OsState} {k : Result → Sem PySem.Fin} {N : Nat} {r : Flow × Shared × Code × Pos} (h : segRun treeTable pr w 11 ann 1 N (f1St w.params os 67).abs (thF f1C ⟨12, 4, 12, 25⟩ ⟨11, 9, 11, 74⟩ k) = some r) :
    segRun treeTable pr w 11 ann 1 (45 + (540 + (540 + (540 + (540 + (540 + (270 + (N)))))))) (f1S w.params os (g3 w.params) 0).abs (thF f1C ⟨11, 9, 11, 74⟩ ⟨11, 9, 11, 74⟩ k) = some r := by
  replace h := seg_go (f1Turn61 w os k) h
  replace h := seg_go (f1Turn49 w os k) h
  replace h := seg_go (f1Turn37 w os k) h
  replace h := seg_go (f1Turn25 w os k) h
  replace h := seg_go (f1Turn13 w os k) h
  replace h := seg_go (f1Turn1 w os k) h
  exact seg_go (f1Turn0 w os k) h
noncomputable def f1Ent (w : World) (os : OsState) : Option (SharedT × Thread) := GoT tabT pr w 11 ann 1 44 (S3 w.params os) (exT ((bd.drop 10).take 1) ⟨10, 0, 10, 8⟩)
theorem f1Ent_def (w : World) (os : OsState) : f1Ent w os = GoT tabT pr w 11 ann 1 44 (S3 w.params os) (exT ((bd.drop 10).take 1) ⟨10, 0, 10, 8⟩) := by
  delta f1Ent
  exact Eq.refl _
theorem f1E_false (w : World) (os : OsState) : f1Ent (w.withFollow "special-get-raises" false) os = some (f1S (w.withFollow "special-get-raises" false).params os (g3 (w.withFollow "special-get-raises" false).params) 0, thF f1C ⟨11, 9, 11, 74⟩ ⟨11, 9, 11, 74⟩ (kOf (f1Ent (w.withFollow "special-get-raises" false) os))) := by kernel_rfl
theorem f1X_false (w : World) (os : OsState) : RunT tabT pr (w.withFollow "special-get-raises" false) 11 ann 1 18 (f1St (w.withFollow "special-get-raises" false).params os 67) (thF f1C ⟨12, 4, 12, 25⟩ ⟨11, 9, 11, 74⟩ (kOf (f1Ent (w.withFollow "special-get-raises" false) os))) = some (.next, S4 (w.withFollow "special-get-raises" false).params os, cB, ⟨11, 9, 11, 74⟩) := by kernel_rfl
theorem f1E_true (w : World) (os : OsState) : f1Ent (w.withFollow "special-get-raises" true) os = some (f1S (w.withFollow "special-get-raises" true).params os (g3 (w.withFollow "special-get-raises" true).params) 0, thF f1C ⟨11, 9, 11, 74⟩ ⟨11, 9, 11, 74⟩ (kOf (f1Ent (w.withFollow "special-get-raises" true) os))) := by kernel_rfl
theorem f1X_true (w : World) (os : OsState) : RunT tabT pr (w.withFollow "special-get-raises" true) 11 ann 1 18 (f1St (w.withFollow "special-get-raises" true).params os 67) (thF f1C ⟨12, 4, 12, 25⟩ ⟨11, 9, 11, 74⟩ (kOf (f1Ent (w.withFollow "special-get-raises" true) os))) = some (.next, S4 (w.withFollow "special-get-raises" true).params os, cB, ⟨11, 9, 11, 74⟩) := by kernel_rfl
theorem f1_of {w : World} {os : OsState}
    (he : f1Ent w os = some (f1S w.params os (g3 w.params) 0, thF f1C ⟨11, 9, 11, 74⟩ ⟨11, 9, 11, 74⟩ (kOf (f1Ent w os))))
    (hx : RunT tabT pr w 11 ann 1 18 (f1St w.params os 67) (thF f1C ⟨12, 4, 12, 25⟩ ⟨11, 9, 11, 74⟩ (kOf (f1Ent w os))) = some (.next, S4 w.params os, cB, ⟨11, 9, 11, 74⟩)) :
    segRun treeTable pr w 11 ann 1 3077 (S3 w.params os).abs (piecesOf ((bd.drop 10).take 1) env cB ⟨10, 0, 10, 8⟩ B0) = some (.next, (S4 w.params os).abs, cB, ⟨11, 9, 11, 74⟩) := by
  have hn : 44 + (45 + (540 + (540 + (540 + (540 + (540 + (270 + (18)))))))) = 3077 := by rfl
  rw [exs_of, ← hn]
  have h1 := segGo_of (go_of ((f1Ent_def w os).symm.trans he))
  have h2 := segRun_of (run_of hx)
  exact seg_go h1 (f1Turns h2)
theorem f1Part (w : World) (os : OsState) : segRun treeTable pr w 11 ann 1 3077 (S3 w.params os).abs (piecesOf ((bd.drop 10).take 1) env cB ⟨10, 0, 10, 8⟩ B0) = some (.next, (S4 w.params os).abs, cB, ⟨11, 9, 11, 74⟩) :=
  byRow2 (P := fun w => segRun treeTable pr w 11 ann 1 3077 (S3 w.params os).abs (piecesOf ((bd.drop 10).take 1) env cB ⟨10, 0, 10, 8⟩ B0) = some (.next, (S4 w.params os).abs, cB, ⟨11, 9, 11, 74⟩)) "special-get-raises"
    (fun w => f1_of (f1E_false w os) (f1X_false w os)) (fun w => f1_of (f1E_true w os) (f1X_true w os)) w
noncomputable def headL : List Value := (puts 1240 hb 0 (hxs 256)).set 32 (.str ⟨#[95]⟩ 1439)
noncomputable def S5 (P : Params) (os : OsState) : SharedT := stO os (obB P (g4 P (.int 57 1436)) nof [sliO, lst headL 0, sliO, lst (hxs 256) 0, bitE 67, tup [], stopO 26]) 28 1442
theorem partE (w : World) (os : OsState) : segRun treeTable pr w 11 ann 1 25 (S4 w.params os).abs (piecesOf ((bd.drop 11).take 1) env cB ⟨11, 9, 11, 74⟩ B0) = some (.next, (S5 w.params os).abs, cB, ⟨13, 0, 13, 28⟩) := by
  rw [exs_of]
  exact segRun_of (run_of (by kernel_rfl))
noncomputable def obC (P : Params) (g o12 : Obj) (r : List Obj) : List Obj := obB P g o12 (sliO :: lst headL 0 :: sliO :: r)
noncomputable def bodyL : List Value := puts 1445 bb 0 (hxs 256)
noncomputable def S6 (P : Params) (os : OsState) : SharedT := stO os (obC P (g4 P (.int 9 1725)) nof [lst bodyL 0, bitE 67, tup [], stopO 26, bitE 95, tup [], stopO 29]) 31 1728
noncomputable def f2C : Code := forC 12 28
noncomputable def f2S (P : Params) (os : OsState) (g : Obj) (i : Nat) : SharedT := stO os (obC P g nof [lst (puts 1445 (bb.take i) 0 (hxs 256)) 0, bitE 67, tup [], stopO 26, bitO bb 1442 i]) 29 (1443 + 3 * i)
noncomputable def f2St (P : Params) (os : OsState) (i : Nat) : SharedT := f2S P os (g4 P (.int (bb.getD (i - 1) 0 : Nat) (1440 + 3 * i))) i
theorem f2Turn0 (w : World) (os : OsState) (k : Result → Sem PySem.Fin) : segGo treeTable pr w 11 ann 1 45 (f2S w.params os (g4 w.params (.int 57 1436)) 0).abs (thF f2C ⟨14, 9, 14, 110⟩ ⟨14, 9, 14, 110⟩ k) = some ((f2St w.params os 1).abs, thF f2C ⟨15, 4, 15, 23⟩ ⟨14, 9, 14, 110⟩ k) :=
  segGo_of (go_of (by kernel_rfl))
theorem f2Turn1 (w : World) (os : OsState) (k : Result → Sem PySem.Fin) : segGo treeTable pr w 11 ann 1 540 (f2St w.params os 1).abs (thF f2C ⟨15, 4, 15, 23⟩ ⟨14, 9, 14, 110⟩ k) = some ((f2St w.params os 13).abs, thF f2C ⟨15, 4, 15, 23⟩ ⟨14, 9, 14, 110⟩ k) :=
  segGo_of (go_of (by kernel_rfl))
theorem f2Turn13 (w : World) (os : OsState) (k : Result → Sem PySem.Fin) : segGo treeTable pr w 11 ann 1 540 (f2St w.params os 13).abs (thF f2C ⟨15, 4, 15, 23⟩ ⟨14, 9, 14, 110⟩ k) = some ((f2St w.params os 25).abs, thF f2C ⟨15, 4, 15, 23⟩ ⟨14, 9, 14, 110⟩ k) :=
  segGo_of (go_of (by kernel_rfl))
theorem f2Turn25 (w : World) (os : OsState) (k : Result → Sem PySem.Fin) : segGo treeTable pr w 11 ann 1 540 (f2St w.params os 25).abs (thF f2C ⟨15, 4, 15, 23⟩ ⟨14, 9, 14, 110⟩ k) = some ((f2St w.params os 37).abs, thF f2C ⟨15, 4, 15, 23⟩ ⟨14, 9, 14, 110⟩ k) :=
  segGo_of (go_of (by kernel_rfl))
theorem f2Turn37 (w : World) (os : OsState) (k : Result → Sem PySem.Fin) : segGo treeTable pr w 11 ann 1 540 (f2St w.params os 37).abs (thF f2C ⟨15, 4, 15, 23⟩ ⟨14, 9, 14, 110⟩ k) = some ((f2St w.params os 49).abs, thF f2C ⟨15, 4, 15, 23⟩ ⟨14, 9, 14, 110⟩ k) :=
  segGo_of (go_of (by kernel_rfl))
theorem f2Turn49 (w : World) (os : OsState) (k : Result → Sem PySem.Fin) : segGo treeTable pr w 11 ann 1 540 (f2St w.params os 49).abs (thF f2C ⟨15, 4, 15, 23⟩ ⟨14, 9, 14, 110⟩ k) = some ((f2St w.params os 61).abs, thF f2C ⟨15, 4, 15, 23⟩ ⟨14, 9, 14, 110⟩ k) :=
  segGo_of (go_of (by kernel_rfl))
theorem f2Turn61 (w : World) (os : OsState) (k : Result → Sem PySem.Fin) : segGo treeTable pr w 11 ann 1 540 (f2St w.params os 61).abs (thF f2C ⟨15, 4, 15, 23⟩ ⟨14, 9, 14, 110⟩ k) = some ((f2St w.params os 73).abs, thF f2C ⟨15, 4, 15, 23⟩ ⟨14, 9, 14, 110⟩ k) :=
  segGo_of (go_of (by kernel_rfl))
theorem f2Turn73 (w : World) (os : OsState) (k : Result → Sem PySem.Fin) : segGo treeTable pr w 11 ann 1 540 (f2St w.params os 73).abs (thF f2C ⟨15, 4, 15, 23⟩ ⟨14, 9, 14, 110⟩ k) = some ((f2St w.params os 85).abs, thF f2C ⟨15, 4, 15, 23⟩ ⟨14, 9, 14, 110⟩ k) :=
  segGo_of (go_of (by kernel_rfl))
theorem f2Turn85 (w : World) (os : OsState) (k : Result → Sem PySem.Fin) : segGo treeTable pr w 11 ann 1 450 (f2St w.params os 85).abs (thF f2C ⟨15, 4, 15, 23⟩ ⟨14, 9, 14, 110⟩ k) = some ((f2St w.params os 95).abs, thF f2C ⟨15, 4, 15, 23⟩ ⟨14, 9, 14, 110⟩ k) :=
  segGo_of (go_of (by kernel_rfl))
theorem f2Turns {w : World} {os : OsState} {k : Result → Sem PySem.Fin} {N : Nat} {r : Flow × Shared × Code × Pos} (h : segRun treeTable pr w 11 ann 1 N (f2St w.params os 95).abs (thF f2C ⟨15, 4, 15, 23⟩ ⟨14, 9, 14, 110⟩ k) = some r) :
    segRun treeTable pr w 11 ann 1 (45 + (540 + (540 + (540 + (540 + (540 + (540 + (540 + (450 + (N)))))))))) (f2S w.params os (g4 w.params (.int 57 1436)) 0).abs (thF f2C ⟨14, 9, 14, 110⟩ ⟨14, 9, 14, 110⟩ k) = some r := by
  replace h := seg_go (f2Turn85 w os k) h
  replace h := seg_go (f2Turn73 w os k) h
  replace h := seg_go (f2Turn61 w os k) h
  replace h := seg_go (f2Turn49 w os k) h
  replace h := seg_go (f2Turn37 w os k) h
  replace h := seg_go (f2Turn25 w os k) h
  replace h := seg_go (f2Turn13 w os k) h
  replace h := seg_go (f2Turn1 w os k) h
  exact seg_go (f2Turn0 w os k) h
noncomputable def f2Ent (w : World) (os : OsState) : Option (SharedT × Thread) := GoT tabT pr w 11 ann 1 10 (S5 w.params os) (exT ((bd.drop 12).take 1) ⟨13, 0, 13, 28⟩)
theorem f2Ent_def (w : World) (os : OsState) : f2Ent w os = GoT tabT pr w 11 ann 1 10 (S5 w.params os) (exT ((bd.drop 12).take 1) ⟨13, 0, 13, 28⟩) := by
  delta f2Ent
  exact Eq.refl _
theorem f2E_false (w : World) (os : OsState) : f2Ent (w.withFollow "special-get-raises" false) os = some (f2S (w.withFollow "special-get-raises" false).params os (g4 (w.withFollow "special-get-raises" false).params (.int 57 1436)) 0, thF f2C ⟨14, 9, 14, 110⟩ ⟨14, 9, 14, 110⟩ (kOf (f2Ent (w.withFollow "special-get-raises" false) os))) := by kernel_rfl
theorem f2X_false (w : World) (os : OsState) : RunT tabT pr (w.withFollow "special-get-raises" false) 11 ann 1 18 (f2St (w.withFollow "special-get-raises" false).params os 95) (thF f2C ⟨15, 4, 15, 23⟩ ⟨14, 9, 14, 110⟩ (kOf (f2Ent (w.withFollow "special-get-raises" false) os))) = some (.next, S6 (w.withFollow "special-get-raises" false).params os, cB, ⟨14, 9, 14, 110⟩) := by kernel_rfl
theorem f2E_true (w : World) (os : OsState) : f2Ent (w.withFollow "special-get-raises" true) os = some (f2S (w.withFollow "special-get-raises" true).params os (g4 (w.withFollow "special-get-raises" true).params (.int 57 1436)) 0, thF f2C ⟨14, 9, 14, 110⟩ ⟨14, 9, 14, 110⟩ (kOf (f2Ent (w.withFollow "special-get-raises" true) os))) := by kernel_rfl
theorem f2X_true (w : World) (os : OsState) : RunT tabT pr (w.withFollow "special-get-raises" true) 11 ann 1 18 (f2St (w.withFollow "special-get-raises" true).params os 95) (thF f2C ⟨15, 4, 15, 23⟩ ⟨14, 9, 14, 110⟩ (kOf (f2Ent (w.withFollow "special-get-raises" true) os))) = some (.next, S6 (w.withFollow "special-get-raises" true).params os, cB, ⟨14, 9, 14, 110⟩) := by kernel_rfl
theorem f2_of {w : World} {os : OsState}
    (he : f2Ent w os = some (f2S w.params os (g4 w.params (.int 57 1436)) 0, thF f2C ⟨14, 9, 14, 110⟩ ⟨14, 9, 14, 110⟩ (kOf (f2Ent w os))))
    (hx : RunT tabT pr w 11 ann 1 18 (f2St w.params os 95) (thF f2C ⟨15, 4, 15, 23⟩ ⟨14, 9, 14, 110⟩ (kOf (f2Ent w os))) = some (.next, S6 w.params os, cB, ⟨14, 9, 14, 110⟩)) :
    segRun treeTable pr w 11 ann 1 4303 (S5 w.params os).abs (piecesOf ((bd.drop 12).take 1) env cB ⟨13, 0, 13, 28⟩ B0) = some (.next, (S6 w.params os).abs, cB, ⟨14, 9, 14, 110⟩) := by
  have hn : 10 + (45 + (540 + (540 + (540 + (540 + (540 + (540 + (540 + (450 + (18)))))))))) = 4303 := by rfl
  rw [exs_of, ← hn]
  have h1 := segGo_of (go_of ((f2Ent_def w os).symm.trans he))
  have h2 := segRun_of (run_of hx)
  exact seg_go h1 (f2Turns h2)
theorem f2Part (w : World) (os : OsState) : segRun treeTable pr w 11 ann 1 4303 (S5 w.params os).abs (piecesOf ((bd.drop 12).take 1) env cB ⟨13, 0, 13, 28⟩ B0) = some (.next, (S6 w.params os).abs, cB, ⟨14, 9, 14, 110⟩) :=
  byRow2 (P := fun w => segRun treeTable pr w 11 ann 1 4303 (S5 w.params os).abs (piecesOf ((bd.drop 12).take 1) env cB ⟨13, 0, 13, 28⟩ B0) = some (.next, (S6 w.params os).abs, cB, ⟨14, 9, 14, 110⟩)) "special-get-raises"
    (fun w => f2_of (f2E_false w os) (f2X_false w os)) (fun w => f2_of (f2E_true w os) (f2X_true w os)) w

def ln : Value := sx "law_nb0380_01" 1763
def fnD (j : Nat) (g : Addr) (dV pm cd : Value) : FuncData := match bd.drop j with
  | Stmt.FunctionDef n a b _ _ _ sc _ _ _ :: _ => { name := n, qualname := n, params := a, body := .stmts b, scope := sc, globals := g, closure := [], defaults := dV, kwdefaults := .none, pyModule := pm, code := cd }
  | _ => default
def tmO (j : Nat) : Obj := { cls := .none, data := .func (fnD j 0 .none .none .none) }
def fnO (j : Nat) (dV pm : Value) (cd : Addr) : Obj := { cls := .type "function", data := .func (fnD j 3 dV pm (.ref cd)) }
def coO (n : String) (t : Nat) (line na : Int) (a : Addr) (x y : Value) (z : Addr) (t' : Nat) : Obj := { cls := .type "code", data := .fields #[sx n t, sx n (t + 1), sx "/claim/cut.py" (t + 2), .int line 0, .int na 0, .int 0 0, .int 0 0, .int 3 0, .ref a, .bool true, .int 181 0, .ref (a + 1), .none, x, y, .ref z, .int t' 0, .int line 0, sx "/claim/cut.py" (t' + 1)] }
noncomputable def encL : List Value := (bodyL.set 13 (.str ⟨#[13]⟩ 1739)).set 10 (.str ⟨#[10]⟩ 1742)
def gF (P : Params) : Obj := glo P ln (es3 P [ent P "quote" 1734 (.ref 37), ent P "_QUOPRI_BODY_ENCODE_MAP" 1735 (.ref 39), ent P "body_encode" 1762 (.ref 50), ent P "_law_sign" 1772 (.ref 57), ent P "_law_piece" 1780 (.ref 64),
  ent P "_law_put" 1794 (.ref 71), ent P "_law_told" 1807 (.ref 78), ent P "law" 1813 (.ref 83)]) 28
def o12F : Obj := { cls := .none, data := .fields #[.int 16 0, .int 0 0, .ref 36, .int 22 0, .int 0 0, .ref 49, .int 61 0, .int 0 0, .ref 56, .int 66 0, .int 0 0, .ref 63, .int 73 0, .int 0 0, .ref 70, .int 85 0, .int 0 0, .ref 77, .int 99 0, .int 0 0, .ref 82] }
noncomputable def tailF : List Obj := [lst bodyL 0, bitE 67, tup [], stopO 26, bitE 95, tup [], stopO 29,
  tup [],
  nof,
  tup [sx "c" 1731],
  tup [],
  tmO 13,
  coO "quote" 1728 16 1 31 (.ref 33) (.ref 34) 35 1732,
  fnO 13 .none qn 36,
  sliO,
  lst encL 0,
  bitE 2,
  tup [],
  stopO 41,
  tup [.int 76 1743, sx "\n" 189],
  tup [],
  nof,
  tup [sx "body" 1747, sx "maxlinelen" 1748, sx "eol" 1749, sx "soft_break" 1750, sx "maxlinelen1" 1751, sx "encoded_body" 1752, sx "append" 1753, sx "line" 1754, sx "start" 1755, sx "laststart" 1756, sx "stop" 1757, sx "room" 1758, sx "q" 1759],
  tup [],
  tmO 17,
  coO "body_encode" 1744 22 3 44 (.ref 46) (.ref 47) 48 1760,
  fnO 17 (.ref 43) qn 49,
  tup [],
  nof,
  tup [sx "x" 1768, sx "kind" 1769],
  tup [],
  tmO 19,
  coO "_law_sign" 1765 61 1 51 (.ref 53) (.ref 54) 55 1770,
  fnO 19 .none ln 56,
  tup [],
  nof,
  tup [sx "sign" 1776, sx "figures" 1777],
  tup [],
  tmO 20,
  coO "_law_piece" 1773 66 1 58 (.ref 60) (.ref 61) 62 1778,
  fnO 20 .none ln 63,
  tup [],
  nof,
  tup [sx "state" 1784, sx "piece" 1785, sx "width" 1786, sx "eol" 1787, sx "closed" 1788, sx "row" 1789, sx "room" 1790, sx "k" 1791],
  tup [],
  tmO 21,
  coO "_law_put" 1781 73 4 65 (.ref 67) (.ref 68) 69 1792,
  fnO 21 .none ln 70,
  tup [],
  nof,
  tup [sx "state" 1798, sx "width" 1799, sx "eol" 1800, sx "closed" 1801, sx "row" 1802, sx "text" 1803, sx "quoted" 1804],
  tup [],
  tmO 22,
  coO "_law_told" 1795 85 3 72 (.ref 74) (.ref 75) 76 1805,
  fnO 22 .none ln 77,
  tup [],
  nof,
  tmO 23,
  coO "law" 1808 99 1 79 .none .none 81 1811,
  fnO 23 .none ln 82]
noncomputable def obF (P : Params) : List Obj := obC P (gF P) o12F tailF
noncomputable def S7 (P : Params) (os : OsState) : SharedT := stO os (obF P) 84 1814
theorem partG_false (w : World) (os : OsState) : RunT tabT pr (w.withFollow "special-get-raises" false) 11 ann 1 391 (S6 (w.withFollow "special-get-raises" false).params os) (exT (bd.drop 13) ⟨14, 9, 14, 110⟩) = some (.next, S7 (w.withFollow "special-get-raises" false).params os, cB, ⟨99, 0, 120, 15⟩) := by kernel_rfl
theorem partG_true (w : World) (os : OsState) : RunT tabT pr (w.withFollow "special-get-raises" true) 11 ann 1 391 (S6 (w.withFollow "special-get-raises" true).params os) (exT (bd.drop 13) ⟨14, 9, 14, 110⟩) = some (.next, S7 (w.withFollow "special-get-raises" true).params os, cB, ⟨99, 0, 120, 15⟩) := by kernel_rfl
theorem partG (w : World) (os : OsState) : segRun treeTable pr w 11 ann 1 391 (S6 w.params os).abs (piecesOf (bd.drop 13) env cB ⟨14, 9, 14, 110⟩ B0) = some (.next, (S7 w.params os).abs, cB, ⟨99, 0, 120, 15⟩) := by
  rw [exs_of]
  exact byRow2 (P := fun w => segRun treeTable pr w 11 ann 1 391 (S6 w.params os).abs (exT (bd.drop 13) ⟨14, 9, 14, 110⟩) = some (.next, (S7 w.params os).abs, cB, ⟨99, 0, 120, 15⟩)) "special-get-raises"
    (fun w => segRun_of (run_of (partG_false w os))) (fun w => segRun_of (run_of (partG_true w os))) w
end Mine

namespace Mine
theorem stub_go (w : World) (os : OsState) : topGo treeTable pr w 11 ann 12 ⟨boot_heap w.params, #[], boot_drawn, boot_toks, os⟩ (topStub pr) = some ((Sb w.params os).abs, ⟨denote treeTable cB, cB, q0, B0⟩) := by
  rw [PySem.W.Fast.te15667345088766844465, PySem.W.Fast.te11892475500146522536, PySem.W.Fast.te14364793385576792824]
  kernel_rfl
theorem block_run (w : World) (os : OsState) : segRun treeTable pr w 11 ann 1 1 (Sb w.params os).abs (blockOf bd env cB q0 B0) = some (.next, (Sb w.params os).abs, cB, q0) := by
  rw [PySem.W.Fast.te14374325043358763698, PySem.W.Fast.te14364793385576792824]
  kernel_rfl
noncomputable def HF (P : Params) : Heap := ⟨⟨obF P⟩, {}⟩
theorem fin_run (w : World) (os : OsState) : topRun treeTable pr w 11 ann 2 (S7 w.params os).abs ⟨doneF .next, cB, ⟨99, 0, 120, 15⟩, B0⟩ = some ⟨HF w.params, #[], {}, 1814, os⟩ := by
  rw [PySem.W.Fast.te14082659384304107361, PySem.W.Fast.te14364793385576792824]
  kernel_rfl
theorem bd_parts : bd = bd.take 2 ++ ((bd.drop 2).take 1 ++ ((bd.drop 3).take 7 ++ ((bd.drop 10).take 1 ++ ((bd.drop 11).take 1 ++ ((bd.drop 12).take 1 ++ (bd.drop 13 ++ [])))))) := by kernel_rfl
theorem top_run (w : World) (os : OsState) : topRun treeTable pr w 11 ann (12 + (1 + (19 + (9552 + (109 + (3077 + (25 + (4303 + (391 + 2))))))))) ⟨boot_heap w.params, #[], boot_drawn, boot_toks, os⟩ (topStub pr) = some ⟨HF w.params, #[], {}, 1814, os⟩ := by
  refine go_top (stub_go w os) ?_
  refine piece_block (block_run w os) ?_
  have h : topRun treeTable pr w 11 ann (19 + (9552 + (109 + (3077 + (25 + (4303 + (391 + 2))))))) (Sb w.params os).abs
      (restOf (bd.take 2 ++ ((bd.drop 2).take 1 ++ ((bd.drop 3).take 7 ++ ((bd.drop 10).take 1 ++ ((bd.drop 11).take 1 ++ ((bd.drop 12).take 1 ++ (bd.drop 13 ++ []))))))) env cB q0 B0) = some ⟨HF w.params, #[], {}, 1814, os⟩ := by
    refine piece_app (partA w os) ?_
    refine piece_app (partB w os) ?_
    refine piece_app (partC w os) ?_
    refine piece_app (f1Part w os) ?_
    refine piece_app (partE w os) ?_
    refine piece_app (f2Part w os) ?_
    refine piece_app (partG w os) ?_
    exact piece_nil (fin_run w os)
  rw [← bd_parts] at h
  exact h
theorem imp_ok (w : World) : importEnds treeTable (opening pr) w 400 (start (opening pr)).1 (start (opening pr)).2 = some ⟨boot_heap w.params, #[], boot_drawn, boot_toks, (start (opening pr)).1.os⟩ := by
  rw [PySem.W.Fast.te10274390034422433532, PySem.W.Fast.te14364793385576792824]
  kernel_rfl
theorem open_ok : ∀ w : World, (fencedOpening treeTable pr w 40000).map (fun s => (s.heap, s.gens, s.drawn, s.toks)) = some (boot_heap w.params, Array.mk [], boot_drawn, boot_toks) :=
  open_cut imp_ok (by kernel_rfl) (fun w => by kernel_rfl)
theorem size_ok (w : World) : ((boot_heap w.params).isNs mainGlobals && (Array.mk [] : Array GenState).size == 0, (boot_heap w.params).objs.size, (boot_heap w.params).nsMap mainGlobals "__annotations__") = (true, 11, ann) := by kernel_rfl
end Mine

namespace Mine
noncomputable def hd.heap_39 : Params → Frag := fun P =>
   (nat_lit 2, { cls := Value.none, data := Data.dict #[] }) ::
   (nat_lit 3, gF P) ::
   (nat_lit 6, { cls := Value.type "dict", data := Data.dict #[] }) ::
   (nat_lit 17, lst (hxs 256) 256) ::
   (nat_lit 22, lst headL 0) ::
   (nat_lit 24, lst bodyL 0) ::
   (nat_lit 31, tup []) ::
   (nat_lit 33, tup [sx "c" 1731]) ::
   (nat_lit 34, tup []) ::
   (nat_lit 36, coO "quote" 1728 16 1 31 (.ref 33) (.ref 34) 35 1732) ::
   (nat_lit 37, fnO 13 .none qn 36) ::
   (nat_lit 39, lst encL 0) ::
   (nat_lit 43, tup [.int 76 1743, sx "\n" 189]) ::
   (nat_lit 44, tup []) ::
   (nat_lit 46, tup [sx "body" 1747, sx "maxlinelen" 1748, sx "eol" 1749, sx "soft_break" 1750, sx "maxlinelen1" 1751, sx "encoded_body" 1752, sx "append" 1753, sx "line" 1754, sx "start" 1755, sx "laststart" 1756, sx "stop" 1757, sx "room" 1758, sx "q" 1759]) ::
   (nat_lit 47, tup []) ::
   (nat_lit 49, coO "body_encode" 1744 22 3 44 (.ref 46) (.ref 47) 48 1760) ::
   (nat_lit 50, fnO 17 (.ref 43) qn 49) ::
   (nat_lit 51, tup []) ::
   (nat_lit 53, tup [sx "x" 1768, sx "kind" 1769]) ::
   (nat_lit 54, tup []) ::
   (nat_lit 56, coO "_law_sign" 1765 61 1 51 (.ref 53) (.ref 54) 55 1770) ::
   (nat_lit 57, fnO 19 .none ln 56) ::
   (nat_lit 58, tup []) ::
   (nat_lit 60, tup [sx "sign" 1776, sx "figures" 1777]) ::
   (nat_lit 61, tup []) ::
   (nat_lit 63, coO "_law_piece" 1773 66 1 58 (.ref 60) (.ref 61) 62 1778) ::
   (nat_lit 64, fnO 20 .none ln 63) ::
   (nat_lit 65, tup []) ::
   (nat_lit 67, tup [sx "state" 1784, sx "piece" 1785, sx "width" 1786, sx "eol" 1787, sx "closed" 1788, sx "row" 1789, sx "room" 1790, sx "k" 1791]) ::
   (nat_lit 68, tup []) ::
   (nat_lit 70, coO "_law_put" 1781 73 4 65 (.ref 67) (.ref 68) 69 1792) ::
   (nat_lit 71, fnO 21 .none ln 70) ::
   (nat_lit 72, tup []) ::
   (nat_lit 74, tup [sx "state" 1798, sx "width" 1799, sx "eol" 1800, sx "closed" 1801, sx "row" 1802, sx "text" 1803, sx "quoted" 1804]) ::
   (nat_lit 75, tup []) ::
   (nat_lit 77, coO "_law_told" 1795 85 3 72 (.ref 74) (.ref 75) 76 1805) ::
   (nat_lit 78, fnO 22 .none ln 77) ::
   (nat_lit 79, tup []) ::
   (nat_lit 82, coO "law" 1808 99 1 79 .none .none 81 1811) ::
   (nat_lit 83, fnO 23 .none ln 82) :: []
def hd.view_39 : Program := view pr [0, 1, 2, 3, 4, 5, 6, 7, 8, 13, 14, 19, 20, 21, 22, 23]
abbrev asK : List Addr := [nat_lit 2, nat_lit 3, nat_lit 6, nat_lit 17, nat_lit 22, nat_lit 24, nat_lit 31, nat_lit 33, nat_lit 34, nat_lit 36, nat_lit 37, nat_lit 39, nat_lit 43, nat_lit 44, nat_lit 46, nat_lit 47, nat_lit 49, nat_lit 50, nat_lit 51, nat_lit 53, nat_lit 54, nat_lit 56, nat_lit 57, nat_lit 58, nat_lit 60, nat_lit 61, nat_lit 63, nat_lit 64, nat_lit 65, nat_lit 67, nat_lit 68, nat_lit 70, nat_lit 71, nat_lit 72, nat_lit 74, nat_lit 75, nat_lit 77, nat_lit 78, nat_lit 79, nat_lit 82, nat_lit 83]
theorem asK_eq : ∀ P, asK = (hd.heap_39 P).map (·.1) := fun P => by kernel_rfl
abbrev looseK : List Str := [Str.ofString "_QUOPRI_MAP", Str.ofString "_QUOPRI_HEADER_MAP", Str.ofString "_QUOPRI_BODY_MAP", Str.ofString "ascii_letters", Str.ofString "_QUOPRI_BODY_ENCODE_MAP", Str.ofString "body_encode"]
abbrev lvK : List (Str × WData) := [(Str.ofString "ascii_letters", .str (Str.ofString "abcdefghijklmnopqrstuvwxyzABCDEFGHIJKLMNOPQRSTUVWXYZ"))]
abbrev rK : RowW := PySem.Challenge.rw_nb0380_01.row.toRowW
abbrev XtK : Shared → Bool := fun s => xlAt hd.view_39 lvK s && recOk rK.records s
theorem look1 (w : World) (os : OsState) : (staticsOk (importedModules pr.main.body) (boot_heap w.params) (HF w.params) && namesBound pr (HF w.params) && gensDone ⟨HF w.params, #[], {}, 1814, os⟩ && laidKept (boot_heap w.params) (HF w.params)) = true := by kernel_rfl
theorem look2 (w : World) (os : OsState) : openSeen hd.view_39 looseK (importedModules pr.main.body) XtK true ⟨HF w.params, #[], {}, 1814, os⟩ = openGood hd.view_39 looseK := by
  rw [PySem.W.Fast.te4187177175401517315]
  kernel_rfl
theorem look3 (w : World) (os : OsState) : (kHook hd.heap_39 asK asK_eq).obs ⟨HF w.params, #[], {}, 1814, os⟩ = (kHook hd.heap_39 asK asK_eq).val w := by kernel_rfl
theorem left_ok : LeftO pr hd.view_39 looseK XtK (kHook hd.heap_39 asK asK_eq).obs (kHook hd.heap_39 asK asK_eq).val 40000 :=
  LeftO.of_pieces open_ok size_ok top_run (by kernel_rfl) (fun w => funext fun os => looks_pair (look1 w os) (looks_pair (look2 w os) (look3 w os)))
end Mine

namespace Mine

structure Stop (P : Prop) : Prop where
  out : P

section
variable {prog : Program} {w : World} {A : Around} {E : Value → Shared → Prop} {s : Shared} {h₀ : Heap} {L l a b : Addr} {m : Str → Option Value} {news : List (Addr × Obj)} {value slice : PySem.Expr} {vs ws : List Value} {xs ys : List Str} {Q : Value → Shared → Prop}

theorem add_strs (F : Fr h₀ L s.heap m) (N : News h₀ L s.heap news) (ha : s.heap.IsList a vs.toArray) (hb : s.heap.IsList b ws.toArray) (hx : StrsAre vs xs) (hy : StrsAre ws ys)
    (hz : xs.length + ys.length ≤ sizeLine)
    (h : ∀ D us h', Fr h₀ L h' m → News h₀ L h' ((D, PySem.W.listOf (List.toArray us) 0) :: news) → (∀ p ∈ news, p.1 < D) → StrsAre us (xs ++ ys) → Q (.ref D) { s with heap := h' }) :
    wpAny (model prog w) A (binaryOp .Add (.ref a) (.ref b)) Q E s :=
  kmk_add_lit F N ha hb rfl (fun D h' F' N' l1 => h D _ h' F' N' l1 (hx.append' hy)) (by
    show vs.length + ws.length ≤ sizeLine
    rw [hx.length, hy.length]; exact hz)

theorem upto_strs {y : Int} (hi' : StrsAre vs xs) (h : 0 ≤ y) : StrsAre (slicePick vs.toArray none (some y) none).toList (xs.take y.toNat) := by
  have e : sliceBounds none (some y) none vs.toArray.size = (((0 : Nat) : Int), ((min y.toNat vs.toArray.size : Nat) : Int), 1) := by
    simp only [sliceBounds, Option.getD_none, show (1 : Int) > 0 by decide, if_true, if_neg (show ¬ (y < 0) by omega)]
    congr 1
    congr 1
    omega
  rw [kmk_pick_nat _ e]
  show StrsAre ((vs.drop 0).take (min y.toNat vs.toArray.size - 0)) _
  rw [List.drop_zero, Nat.sub_zero, List.size_toArray, kmk_take_min]
  exact hi'.take' _

theorem from_strs {x : Int} (hi' : StrsAre vs xs) (h : 0 ≤ x) : StrsAre (slicePick vs.toArray (some x) none none).toList (xs.drop x.toNat) := by
  have e : sliceBounds (some x) none none vs.toArray.size = (((min x.toNat vs.toArray.size : Nat) : Int), ((vs.toArray.size : Nat) : Int), 1) := by
    simp only [sliceBounds, Option.getD_none, show (1 : Int) > 0 by decide, if_true, if_neg (show ¬ (x < 0) by omega)]
    congr 1
    omega
  rw [kmk_pick_nat _ e]
  show StrsAre ((vs.drop (min x.toNat vs.toArray.size)).take (vs.toArray.size - min x.toNat vs.toArray.size)) _
  rw [List.size_toArray, kmk_drop_min, List.take_of_length_le (by rw [List.length_drop]; omega)]
  exact hi'.drop' _

theorem slice_upto {y : Int} {ty : Tok} (F : Fr h₀ L s.heap m) (N : News h₀ L s.heap news) (hl : s.heap.IsList l vs.toArray) (hi' : StrsAre vs xs) (hy : 0 ≤ y) (hz : xs.length ≤ sizeLine)
    (h : ∀ D us h', Fr h₀ L h' m → News h₀ L h' ((D, PySem.W.listOf (List.toArray us) 0) :: news) → (∀ p ∈ news, p.1 < D) → StrsAre us (xs.take y.toNat) → Q (.ref D) { s with heap := h' })
    (hs : subscripted slice false (.ref l) (.ref s.heap.objs.size) = operate [.ref s.heap.objs.size, .ref l] (getItem (.ref l) (.ref s.heap.objs.size))) (ht : ∀ r, letTemporaryGo value (.ref l) r = pure ()) :
    wpAny (model prog w) A (subscriptTail value slice (.ref l) (.ref s.heap.objs.size)) Q E { s with heap := s.heap.push { cls := .type "slice", data := .fields #[.none, .int y ty, .none] } } :=
  kmk_slice_lit F N hl (IsPart.none) (IsPart.int _ _) rfl (fun D h' F' N' l1 => h D _ h' F' N' l1 (upto_strs hi' hy)) hs ht (by rw [List.size_toArray, hi'.length]; exact hz)

theorem slice_from {x : Int} {tx : Tok} (F : Fr h₀ L s.heap m) (N : News h₀ L s.heap news) (hl : s.heap.IsList l vs.toArray) (hi' : StrsAre vs xs) (hx : 0 ≤ x) (hz : xs.length ≤ sizeLine)
    (h : ∀ D us h', Fr h₀ L h' m → News h₀ L h' ((D, PySem.W.listOf (List.toArray us) 0) :: news) → (∀ p ∈ news, p.1 < D) → StrsAre us (xs.drop x.toNat) → Q (.ref D) { s with heap := h' })
    (hs : subscripted slice false (.ref l) (.ref s.heap.objs.size) = operate [.ref s.heap.objs.size, .ref l] (getItem (.ref l) (.ref s.heap.objs.size))) (ht : ∀ r, letTemporaryGo value (.ref l) r = pure ()) :
    wpAny (model prog w) A (subscriptTail value slice (.ref l) (.ref s.heap.objs.size)) Q E { s with heap := s.heap.push { cls := .type "slice", data := .fields #[.int x tx, .none, .none] } } :=
  kmk_slice_lit F N hl (IsPart.int _ _) (IsPart.none) rfl (fun D h' F' N' l1 => h D _ h' F' N' l1 (from_strs hi' hx)) hs ht (by rw [List.size_toArray, hi'.length]; exact hz)
end
end Mine

namespace Mine
open PySem.Builtin PySem.Builtin.Str

section
variable {prog : Program} {w : World} {A : Around} {E : Value → Shared → Prop} {s : Shared}

theorem forIn_inv {σ : Type} {Q : σ → Shared → Prop} (G : Nat → σ → Sem (ForInStep σ)) (I : List Nat → σ → Prop) (E : Value → Shared → Prop) : ∀ (l pre : List Nat) (st : σ) (k : Nat), I pre st →
    (∀ c pre' st' k', c ∈ l → I pre' st' → (∃ r, pre' ++ c :: r = pre ++ l) → wpAny (model prog w) A (G c st') (fun r s' => ∃ st'' k'', r = .yield st'' ∧ s' = { s with toks := k'' } ∧ I (pre' ++ [c]) st'') E { s with toks := k' }) →
    (∀ st' k', I (pre ++ l) st' → Q st' { s with toks := k' }) →
    wpAny (model prog w) A (forIn l st G) Q E { s with toks := k }
  | [], pre, st, k, hI, _, hQ => by
    rw [List.forIn_nil]
    exact wpAny_pure (hQ st k (by simpa using hI))
  | c :: l, pre, st, k, hI, hstep, hQ => by
    rw [List.forIn_cons]
    refine wpAny_bind (wpAny_mono (hstep c pre st k (List.mem_cons_self ..) hI ⟨l, rfl⟩) ?_ fun _ _ h => h)
    rintro r s' ⟨st'', k'', rfl, rfl, hI'⟩
    refine forIn_inv G I E l (pre ++ [c]) st'' k'' hI' ?_ ?_
    · intro c' pre' st' k' hc hI2 ⟨r, hr⟩
      exact hstep c' pre' st' k' (List.mem_cons_of_mem _ hc) hI2 ⟨r, by simpa using hr⟩
    · intro st' k' h
      exact hQ st' k' (by simpa using h)

theorem lookup_str {l : Addr} {tab : List Value} {c : Nat} {x : Str} {u : Tok} {Q : Mapped → Shared → Prop} (hl : s.heap.IsList l tab.toArray) (hc : c < 2 ^ 62) (ht : tab[c]? = some (.str x u))
    (h : Q (.text x) { s with toks := s.toks + 1 }) : wpAny (model prog w) A (tableLookup (.ref l) c) Q E s := by
  unfold tableLookup
  refine wpAny_bind (wpAny_attempt (wpAny_bind (wpAny_mkInt ?_)))
  refine wpAny_getItem_list (items := tab.toArray) hl (by omega) (by omega) (by simpa using ht) ?_
  dsimp only
  have e : asInt? (Value.str x u) = pure none := rfl
  rw [e]
  refine wpAny_bind (wpAny_pure ?_)
  dsimp only
  have e2 : asStr? (Value.str x u) = pure (some x) := rfl
  rw [e2]
  refine wpAny_bind (wpAny_pure ?_)
  exact wpAny_pure h

theorem one_sign {x : Str} (h : x.cps.size = 1) : ∃ d, x = ⟨#[d]⟩ := by
  obtain ⟨⟨l⟩⟩ := x
  match l, h with
  | [d], _ => exact ⟨d, rfl⟩

theorem tr_meets (l : Addr) (tab : List Value) (x : Str) (t : Tok) (f : Nat → Str)
    (hx : ∀ c ∈ x.cps.toList, c < 2 ^ 62 ∧ ∃ u, tab[c]? = some (.str (f c) u)) (hlen : (x.cps.toList.flatMap fun c => (f c).cps.toList).length ≤ sizeLine) (hne : (x.length == 0) = false) :
    Meets (Builtin.«str.translate» ⟨[.str x t, .ref l], []⟩) (fun _ R s => s.heap.IsList l tab.toArray ∧ ∀ tk t', R (.ok (.ret (.str ⟨(x.cps.toList.flatMap fun c => (f c).cps.toList).toArray⟩ t'))) {s with toks := tk}) := by
  intro prog w A R s ⟨hl, hR⟩
  unfold Builtin.«str.translate»
  refine wpAny_bind ?_
  have e1 : strOneArg "translate" { pos := [Value.str x t, Value.ref l] } = pure (.str x t, x, .ref l) := rfl
  rw [e1]
  refine wpAny_pure ?_
  dsimp only
  rw [hne]
  simp only [Bool.false_eq_true, if_false]
  refine wpAny_bind ?_
  rw [← Array.forIn_toList]
  refine forIn_inv (s := s) _ (fun pre st => (st.1.reverse.flatMap fun p => p.cps.toList) = pre.flatMap (fun c => (f c).cps.toList) ∧ st.2.1 = (pre.flatMap (fun c => (f c).cps.toList)).length ∧ (∀ c a, List.lookup c st.2.2.2.1 = some a → ∃ d, a = some d ∧ f c = ⟨#[d]⟩) ∧ st.2.2.2.2 = false) _ x.cps.toList [] _ s.toks ?_ ?_ ?_
  · exact ⟨rfl, rfl, (fun c a h => by cases h), rfl⟩
  · rintro c pre ⟨pieces, total, fast, known, after⟩ k hc ⟨h1, h2, h3, h4⟩ ⟨r, hr⟩
    dsimp only at h1 h2 h3 h4 ⊢
    subst h4
    have hr' : pre ++ c :: r = x.cps.toList := by simpa using hr
    have hl' : (pre.flatMap (fun c => (f c).cps.toList)).length ≤ sizeLine := by
      rw [← hr'] at hlen
      simp only [List.flatMap_append, List.length_append] at hlen
      omega
    have hlong : tooLong total = false := by
      unfold tooLong
      rw [h2]
      exact decide_eq_false (by omega)
    obtain ⟨hc1, u, hu⟩ := hx c hc
    have slow : ∀ (fast : Bool) (known : List (Nat × Option Nat)) (k : Nat), (∀ c a, List.lookup c known = some a → ∃ d, a = some d ∧ f c = ⟨#[d]⟩) →
        wpAny (model prog w) A.in1 (do
          let __do_lift ← tableLookup (.ref l) c
          match __do_lift with
            | Mapped.keep => pure (ForInStep.yield ({ cps := #[c] } :: pieces, total + 1, fast, known, false))
            | Mapped.drop => pure (ForInStep.yield (pieces, total, fast, known, true))
            | Mapped.char d => pure (ForInStep.yield ({ cps := #[d] } :: pieces, total + 1, fast, known, false))
            | Mapped.text t => pure (ForInStep.yield (t :: pieces, total + t.length, fast, known, false)))
          (fun r s' => ∃ (st'' : List Str × Nat × Bool × List (Nat × Option Nat) × Bool) (k'' : Nat), r = .yield st'' ∧ s' = { s with toks := k'' } ∧ (st''.1.reverse.flatMap fun p => p.cps.toList) = (pre ++ [c]).flatMap (fun c => (f c).cps.toList) ∧ st''.2.1 = ((pre ++ [c]).flatMap (fun c => (f c).cps.toList)).length ∧ (∀ c a, List.lookup c st''.2.2.2.1 = some a → ∃ d, a = some d ∧ f c = ⟨#[d]⟩) ∧ st''.2.2.2.2 = false)
          (fun e s' => R (.error e) s') { s with toks := k } := by
      intro fast known k hk
      refine wpAny_bind (lookup_str (s := { s with toks := k }) hl hc1 hu ?_)
      refine wpAny_pure ⟨_, _, rfl, rfl, ?_, ?_, hk, rfl⟩
      · simp [h1]
      · simp [h2, PySem.Str.length]
    have single : ∀ (d : Nat) (fast : Bool) (known : List (Nat × Option Nat)) (k : Nat), f c = ⟨#[d]⟩ → (∀ c a, List.lookup c known = some a → ∃ d, a = some d ∧ f c = ⟨#[d]⟩) →
        ∃ (st'' : List Str × Nat × Bool × List (Nat × Option Nat) × Bool) (k'' : Nat), (ForInStep.yield (({ cps := #[d] } : Str) :: pieces, total + 1, fast, known, false) : ForInStep (List Str × Nat × Bool × List (Nat × Option Nat) × Bool)) = .yield st'' ∧ ({ s with toks := k } : Shared) = { s with toks := k'' } ∧ (st''.1.reverse.flatMap fun p => p.cps.toList) = (pre ++ [c]).flatMap (fun c => (f c).cps.toList) ∧ st''.2.1 = ((pre ++ [c]).flatMap (fun c => (f c).cps.toList)).length ∧ (∀ c a, List.lookup c st''.2.2.2.1 = some a → ∃ d, a = some d ∧ f c = ⟨#[d]⟩) ∧ st''.2.2.2.2 = false := by
      intro d fast known k hd hk
      refine ⟨_, _, rfl, rfl, ?_, ?_, hk, rfl⟩
      · simp [h1, hd]
      · simp [h2, hd]
    rw [hlong]
    simp only [Bool.false_eq_true, if_false]
    cases fast with
    | false =>
      simp only [Bool.false_eq_true, if_false]
      exact slow false known k h3
    | true =>
      simp only [if_true]
      cases hk : List.lookup c known with
      | some a =>
        obtain ⟨d, rfl, hd⟩ := h3 c a hk
        dsimp only
        refine wpAny_bind (wpAny_pure ?_)
        exact wpAny_pure (single d true known k hd h3)
      | none =>
        dsimp only
        refine wpAny_bind (lookup_str (s := { s with toks := k }) hl hc1 hu ?_)
        dsimp only
        by_cases hone : ((f c).length == 1 && (f c).cps.all fun x => decide (x < 128)) = true
        · rw [if_pos hone]
          obtain ⟨ha, _⟩ := Bool.and_eq_true_iff.mp hone
          have hsz : (f c).cps.size = 1 := by simpa [PySem.Str.length] using ha
          obtain ⟨d, hd⟩ : ∃ d, f c = ⟨#[d]⟩ := by
            exact one_sign hsz
          have hk9 : ∀ c' a, List.lookup c' ((c, some d) :: known) = some a → ∃ d, a = some d ∧ f c' = ⟨#[d]⟩ := by
            intro c' a ha
            rw [List.lookup_cons] at ha
            by_cases hcc : c' = c
            · subst hcc
              simp at ha
              exact ⟨d, ha.symm, hd⟩
            · have : (c' == c) = false := by simpa using hcc
              rw [this] at ha
              exact h3 c' a ha
          have e0 : (f c).cps[0]? = some d := by rw [hd]; rfl
          rw [e0]
          dsimp only
          refine wpAny_bind (wpAny_pure ?_)
          exact wpAny_pure (single d true _ _ hd hk9)
        · rw [if_neg hone]
          dsimp only
          refine wpAny_bind (wpAny_pure ?_)
          dsimp only
          refine wpAny_bind (wpAny_rule ?_)
          exact slow false known _ h3
  · rintro ⟨pieces, total, fast, known, after⟩ k ⟨h1, h2, h3, h4⟩
    dsimp only at h1 h2 h3 h4 ⊢
    have hlong : tooLong total = false := by
      unfold tooLong
      rw [h2]
      exact decide_eq_false (by simpa using hlen)
    rw [hlong]
    simp only [Bool.false_eq_true, if_false]
    have e9 : pieces.reverse.foldl (fun acc p => acc ++ p.cps) #[] = (x.cps.toList.flatMap fun c => (f c).cps.toList).toArray := by
      have h9 : ∀ (l : List Str) (acc : Array Nat), l.foldl (fun acc p => acc ++ p.cps) acc = acc ++ (l.flatMap fun p => p.cps.toList).toArray := by
        intro l
        induction l with
        | nil => intro acc; simp
        | cons p l ih => intro acc; rw [List.foldl_cons, ih, List.flatMap_cons]; apply Array.toList_inj.mp; simp
      rw [h9, h1]
      simp
    rw [e9]
    unfold retStr
    refine wpAny_bind (wpAny_mkStr ?_ (by simpa [PySem.Str.length] using hlen))
    exact wpAny_pure (hR _ _)

theorem gm_translate {M : Model} {x : Str} {t : Tok} {pl : Sem Bool} {Q : Value × List Value → Shared → Prop} (h : Q (.builtin "str.translate", [.str x t]) s) : wpAny M A (getMethod (.str x t) "translate" pl) Q E s := by
  with_reducible exact GM.of (.str x t) (typeIs_str _ _ _) F.slot_str_translate F.type_str_translate GM.noRef h

theorem call_translate {l : Addr} {tab : List Value} {x : Str} {t : Tok} (f : Nat → Str) {Q : Value → Shared → Prop} (hl : s.heap.IsList l tab.toArray)
    (hx : ∀ c ∈ x.cps.toList, c < 2 ^ 62 ∧ ∃ u, tab[c]? = some (.str (f c) u)) (hlen : (x.cps.toList.flatMap fun c => (f c).cps.toList).length ≤ sizeLine) (hne : (x.length == 0) = false)
    (h : ∀ t' tk, Q (.str ⟨(x.cps.toList.flatMap fun c => (f c).cps.toList).toArray⟩ t') { s with toks := tk }) :
    wpAny (model prog w) A (call (.builtin "str.translate") [.str x t, .ref l]) Q E s :=
  call_meets F.slot_str_translate (typeIs_str _ _ _) F.entry_str_translate (F.args_str_translate_2 _ _) (tr_meets l tab x t f hx hlen hne) ⟨hl, fun tk t' => h t' tk⟩
end
end Mine

namespace Mine
open Sem (wp)

theorem slot_md_get : Slot "method_descriptor" "__get__" "method_descriptor.__get__" :=
  .of (owner := "method_descriptor") (n := "__get__") (by rw [typeLookup_type, builtinLookup_eq_fast]; kernel_rfl) (by decide +kernel) (by decide +kernel) (by decide +kernel)
    (by first | exact .inl (by decide +kernel) | exact .inr (by decide +kernel)) (by rw [isSubtype_type]; kernel_rfl)
theorem entry_md_get : entryFor table "method_descriptor.__get__" = some Builtin.«method_descriptor.__get__» := entryFor_of_tree (by kernel_rfl)
theorem args_md_get (a b c : Value) : argsOk "method_descriptor.__get__" ⟨[a, b, c], []⟩ := by unfold argsOk; kernel_rfl
theorem md_set_none : typeLookup (.type "method_descriptor") "__set__" = pure none := by rw [typeLookup_type, builtinLookup_eq_fast]; kernel_rfl
theorem md_del_none : typeLookup (.type "method_descriptor") "__delete__" = pure none := by rw [typeLookup_type, builtinLookup_eq_fast]; kernel_rfl
theorem owner_list_append : (".".intercalate ("list.append".cutAt '.').dropLast) = "list" := by
  have e0 : "list.append".cutAt '.' = ["list", "append"] := by first | rfl | decide +kernel
  rw [e0]; decide +kernel
theorem sub_list_append : isSubtype (.type "list") (.type (".".intercalate ("list.append".cutAt '.').dropLast)) = pure true := by
  rw [owner_list_append, isSubtype_type]; kernel_rfl
theorem told_append : Manifest.toldItsClass.contains "list.append" = false := by decide +kernel

section
variable {prog : Program} {w : World} {A : Around} {E : Value → Shared → Prop} {h : Heap} {g : Array GenState} {d : Drawn} {t : Nat} {os : OsState} {a : Addr} {o : Obj}

theorem md_get {R : Result → Shared → Prop} (hx : h.get? a = some o) (hc : o.cls = .type "list")
    (hq : R (.ok (.ret (.ref h.objs.size))) ⟨h.push { cls := .type "builtin_function_or_method", data := .fields #[.builtin "list.append", .ref a] }, g, d, t, os⟩) :
    codeAny (model prog w) A (.call (.builtin "method_descriptor.__get__") ⟨[.builtin "list.append", .ref a, .type "list"], []⟩) R ⟨h, g, d, t, os⟩ := by
  have hT : (⟨h, g, d, t, os⟩ : Shared).TypeIs (.ref a) "list" := ⟨_, hx, hc⟩
  have hT5 : (⟨h, g, d, t, os⟩ : Shared).TypeIs (.builtin "list.append") "method_descriptor" := F.type_list_append
  have f8 := sub_list_append
  refine codeAny_call_builtin slot_md_get.plain entry_md_get (slot_md_get.check _ _ _ _ _ _ _ _ hT5 (args_md_get _ _ _) ?_)
  unfold Builtin.«method_descriptor.__get__»
  repeat (any_goals (first | assumption | wp_step))

theorem ga_entry {tk : Tok} {Q : Fin → Shared → Prop} {xs : Array Value} {k : Nat} {sl : Array (Option Value)} (hx : h.get? a = some { cls := .type "list", dict := none, data := .seq xs k, slots := sl })
    (hq : Q (.done (.ret (.ref h.objs.size))) ⟨h.push { cls := .type "builtin_function_or_method", data := .fields #[.builtin "list.append", .ref a] }, g, d, t, os⟩) :
    wpAny (model prog w) A (Builtin.«object.__getattribute__» ⟨[.ref a, .str "append" tk], []⟩) Q E ⟨h, g, d, t, os⟩ := by
  have hT : (⟨h, g, d, t, os⟩ : Shared).TypeIs (.ref a) "list" := ⟨_, hx, rfl⟩
  have hT5 : (⟨h, g, d, t, os⟩ : Shared).TypeIs (.builtin "list.append") "method_descriptor" := F.type_list_append
  have f4 := F.slot_list_append.lookup
  have f5 := F.type_list_append
  have f6 := slot_md_get.lookup
  have f7 := md_set_none
  have f8 := md_del_none
  unfold Builtin.«object.__getattribute__»
  repeat (any_goals (first | assumption | wp_step))
  refine md_get hx rfl ?_
  exact wpAny_pure hq

theorem ga_call {tk : Tok} {R : Result → Shared → Prop} {xs : Array Value} {k : Nat} {sl : Array (Option Value)} (hx : h.get? a = some { cls := .type "list", dict := none, data := .seq xs k, slots := sl })
    (hq : R (.ok (.ret (.ref h.objs.size))) ⟨h.push { cls := .type "builtin_function_or_method", data := .fields #[.builtin "list.append", .ref a] }, g, d, t, os⟩) :
    codeAny (model prog w) A (.call (.builtin "list.__getattribute__") ⟨[.ref a, .str "append" tk], []⟩) R ⟨h, g, d, t, os⟩ :=
  codeAny_call_builtin F.slot_list_getattribute.plain F.entry_list_ga (F.slot_list_getattribute.check _ _ _ _ _ _ _ _ (show (⟨h, g, d, t, os⟩ : Shared).TypeIs (.ref a) "list" from ⟨_, hx, rfl⟩) (F.args_list_getattribute_2 _ _) (ga_entry hx hq))

theorem getAttr_append {Q : Value → Shared → Prop} {xs : Array Value} {k : Nat} {sl : Array (Option Value)} (hx : h.get? a = some { cls := .type "list", dict := none, data := .seq xs k, slots := sl })
    (hq : Q (.ref h.objs.size) ⟨h.push { cls := .type "builtin_function_or_method", data := .fields #[.builtin "list.append", .ref a] }, g, d, t + 1, os⟩) :
    wpAny (model prog w) A (getAttr (.ref a) "append" true) Q E ⟨h, g, d, t, os⟩ := by
  have hT : ∀ tk', (⟨h, g, d, tk', os⟩ : Shared).TypeIs (.ref a) "list" := fun _ => ⟨_, hx, rfl⟩
  have f3 := F.slot_list_getattribute.lookup
  have f4 := F.slot_list_getattribute.bind (.ref a)
  unfold getAttr getAttrBy
  repeat (any_goals (first | assumption | exact hT _ | (with_reducible apply ga_call hx) | wp_step))
  refine ga_call hx ?_
  dsimp only
  repeat (any_goals (first | assumption | wp_step))

theorem sub_list_module : isSubtype (.type "list") (.type "module") = pure false := by rw [isSubtype_type]; kernel_rfl
theorem sub_list_type : isSubtype (.type "list") (.type "type") = pure false := by rw [isSubtype_type]; kernel_rfl
theorem va_append : Manifest.varargsMethods.contains "list.append" = false := by decide +kernel

theorem call_bound {b : Addr} {v : Value} {R : Result → Shared → Prop} (hb : h.get? b = some { cls := .type "builtin_function_or_method", data := .fields #[.builtin "list.append", .ref a] })
    {xs : Array Value} {k : Nat} {sl : Array (Option Value)} (hx : h.get? a = some { cls := .type "list", dict := none, data := .seq xs k, slots := sl })
    (hc : codeAny (model prog w) A (.builtin "list.append" ⟨[.ref a, v], []⟩) R ⟨h, g, d, t, os⟩) :
    codeAny (model prog w) A (.call (.ref b) ⟨[v], []⟩) R ⟨h, g, d, t, os⟩ := by
  refine codeAny_of_tree ?_
  show wpAny _ (A.under _) (callAny (.ref b) ⟨[v], []⟩) _ _ _
  have hT : (⟨h, g, d, t, os⟩ : Shared).TypeIs (.ref a) "list" := ⟨_, hx, rfl⟩
  have f1 := sub_list_module
  have f2 := sub_list_type
  unfold callAny
  repeat (any_goals (first | assumption | wp_step))
  exact ⟨Code.quiet_builtin _ (by decide +kernel), hc⟩
end

/-- the bound method of a list -/
abbrev boundObj (D : Addr) : Obj := { cls := .type "builtin_function_or_method", data := .fields #[.builtin "list.append", .ref D] }

section
variable {prog : Program} {w : World} {A : Around} {E : Value → Shared → Prop} {s : Shared} {h₀ : Heap} {L D b : Addr} {m : Str → Option Value} {news news' : List (Addr × Obj)} {Q : Value → Shared → Prop}

theorem bound_K {its : Array Value} {n : Nat} (F : Fr h₀ L s.heap m) (N : News h₀ L s.heap news) (hD : (D, PySem.W.listOf its n) ∈ news)
    (h : ∀ b h', Fr h₀ L h' m → News h₀ L h' ((b, boundObj D) :: news) → (∀ p ∈ news, p.1 < b) → Q (.ref b) { s with heap := h', toks := s.toks + 1 }) :
    wpAny (model prog w) A (getAttr (.ref D) "append" true) Q E s := by
  obtain ⟨hp, g, d, t, os⟩ := s
  exact getAttr_append (N _ hD).1 (h _ _ (F.push _) (N.push F _) fun p hp' => Heap.lt_size (N p hp').1)

theorem bcall_K {its : Array Value} {n : Nat} {x : Value} (Fm : Fr h₀ L s.heap m) (N : News h₀ L s.heap news) (hb : (b, boundObj D) ∈ news) (U : Upd D (PySem.W.listOf its n) (PySem.W.listOf (its.push x) (n + 1)) news news')
    (hsz : its.size ≤ sizeLine) (h : ∀ h', Fr h₀ L h' m → News h₀ L h' news' → Q .none { s with heap := h' }) :
    wpAny (model prog w) A (call (.ref b) [x]) Q E s := by
  obtain ⟨pre, post, rfl, rfl, ha, hb'⟩ := U.split
  have z := N (D, PySem.W.listOf its n) (List.mem_append.mpr (.inr (.head _)))
  have zb := N _ hb
  obtain ⟨hp, g, d, t, os⟩ := s
  refine wpAny_call (call_bound zb.1 z.1 ?_)
  refine codeAny_builtin PySem.F.entry_list_append ?_
  show wpAny _ _ (updateSeq D (·.push x) >>= fun _ => ret .none) _ _ _
  refine wpAny_bind ?_
  refine wpAny_updateSeq z.1 rfl (wpAny_pure (h _ (Fm.change (Heap.SameBut.update ..) z.2.1 z.2.2) (news_set N ha hb' (Heap.SameBut.update ..) ?_)))
  rw [Heap.get?_update_self _ z.1 (by rw [mapSeq_push]; rfl), mapSeq_push]
end
end Mine

namespace Mine

/-- what a turn leaves: the state c', its ledger, its names -/
def TEnd {σ : Type} (h₀ : Heap) (L : Addr) (s : Shared) (Led : σ → List (Addr × Obj)) (ps : σ → List (Str × Value)) (stored : List Str) (x : Str) (m₀ : Str → Option Value) (P : σ → Prop) (own : List (Addr × Obj)) (s₂ : Shared) : Prop :=
  ∃ (c' : σ) (h' : Heap) (tk : Nat) (m' : Str → Option Value), s₂ = { s with heap := h', toks := tk } ∧ Fr h₀ L h' m' ∧ News h₀ L h' (Led c' ++ own) ∧ OwnOff own ((Led c').map (·.1)) ∧ (∀ p ∈ ps c', m' p.1 = some p.2) ∧ (∀ z, z ≠ x → (∀ p ∈ ps c', z ≠ p.1) → stored.contains z = false → m' z = m₀ z) ∧ P c'
def TPost {σ : Type} (h₀ : Heap) (L : Addr) (s : Shared) (Led : σ → List (Addr × Obj)) (ps : σ → List (Str × Value)) (stored : List Str) (x : Str) (m₀ : Str → Option Value) (P : σ → Prop) (own : List (Addr × Obj)) (Q : Flow → Shared → Prop) (f : Flow) (s₂ : Shared) : Prop :=
  match f with
  | .ret v => Q (.ret v) s₂
  | .brk => Q .next s₂
  | _ => TEnd h₀ L s Led ps stored x m₀ P own s₂

section
variable {prog : Program} {w : World} {A : Around} {E : Value → Shared → Prop} {s : Shared} {env : Env} {h₀ : Heap} {x : Str} {body : List Stmt} {Q : Flow → Shared → Prop}

theorem tend_G {σ : Type} {Led : σ → List (Addr × Obj)} {ps : σ → List (Str × Value)} {stored : List Str} {m₀ : Str → Option Value} {P : σ → Prop} {own : List (Addr × Obj)} {s₁ : Shared} {J : (Str → Option Value) → List (Addr × Obj) → Prop} {f : Flow} {s₂ : Shared} {L : Addr}
    (hJ : ∀ c m, (∀ p ∈ ps c, m p.1 = some p.2) → (∀ z, z ≠ x → (∀ p ∈ ps c, z ≠ p.1) → stored.contains z = false → m z = m₀ z) → P c → J m (Led c))
    (p : TPost h₀ L s₁ Led ps stored x m₀ P own Q f s₂) : InvPostG h₀ L J own s₁ Q f s₂ := by
  have up : TEnd h₀ L s₁ Led ps stored x m₀ P own s₂ → InvEndG h₀ L J own s₁ s₂ := by
    rintro ⟨c', h', tk, m', e, F', N', ho, hk, hz, hp⟩
    exact ⟨h', tk, m', Led c' ++ own, Led c', e, F', N', fun p hp => List.mem_append.mpr (.inl hp), fun p hp => List.mem_append.mpr (.inr hp), ho, hJ c' m' hk hz hp⟩
  cases f with
  | ret v => exact p
  | brk => exact p
  | next => exact up p
  | cont => exact up p

theorem str_loop {σ : Type} {l : Addr} {vs : List Value} {xs : List Str} {nn : Nat} {m₀ : Str → Option Value} (Led : σ → List (Addr × Obj)) (ps : σ → List (Str × Value)) (stored : List Str) (P : List Str → σ → Prop) (c₀ : σ)
    (hh : A.handled = none) (hl : ∀ c : σ, (l, PySem.W.listOf vs.toArray nn) ∈ Led c) (hx : StrsAre vs xs) (F : Fr h₀ env.locals s.heap m₀) (N : News h₀ env.locals s.heap (Led c₀)) (hk : ∀ p ∈ ps c₀, m₀ p.1 = some p.2) (hp : P [] c₀)
    (turn : ∀ (c : σ) pre post y t (u : Str → Option Value) h tk own, xs = pre ++ y :: post → OwnOff own ((Led c).map (·.1)) → P pre c →
      Fr h₀ env.locals h (fun z => if z = x then some (.str y t) else kstB (fun z => if stored.contains z then u z else m₀ z) (ps c) z) → News h₀ env.locals h (Led c ++ own) →
      wpAny (model prog w) A (execs body env) (TPost h₀ env.locals { s with heap := h, toks := tk } Led ps stored x m₀ (P (pre ++ [y])) own Q) E { s with heap := h, toks := tk })
    (done : ∀ (c : σ) (u : Str → Option Value) h tk, P xs c → Fr h₀ env.locals h (fun y => if y = x then u y else kstB (fun z => if stored.contains z then u z else m₀ z) (ps c) y) → News h₀ env.locals h (Led c) → Q .next { s with heap := h, toks := tk }) :
    wpAny (model prog w) A (pyIter (.ref l)) (fun it s₂ => LoopAtV prog w A h₀ env x body Q E it s₂) E s := by
  have hlen : vs.length = xs.length := hx.length
  refine kdl_iter (fun i m nx => ∃ c, nx = Led c ∧ (∀ p ∈ ps c, m p.1 = some p.2) ∧ (∀ z, z ≠ x → (∀ p ∈ ps c, z ≠ p.1) → stored.contains z = false → m z = m₀ z) ∧ P (xs.take i) c) hh (hl c₀) F N ⟨c₀, rfl, hk, fun _ _ _ _ => rfl, by simpa using hp⟩ ?_ ?_
  · rintro i v m₁ nx h tk own hv hoff _ ⟨c, rfl, h1, h2, hp'⟩ F₁ N₁
    have hi : i < xs.length := by rw [← hlen]; exact (List.getElem?_eq_some_iff.mp hv).1
    obtain ⟨t, hv'⟩ := hx.get i xs[i] (List.getElem?_eq_getElem hi)
    have ev : v = .str xs[i] t := by rw [hv] at hv'; exact Option.some.inj hv'
    subst ev
    have hs : xs.take (i + 1) = xs.take i ++ [xs[i]] := by rw [List.take_add_one, List.getElem?_eq_getElem hi] <;> rfl
    have e : xs = xs.take i ++ xs[i] :: xs.drop (i + 1) := by
      have h9 := List.take_append_drop (i + 1) xs
      rw [hs, List.append_assoc] at h9
      exact h9.symm
    refine wpAny_mono (turn c _ _ _ t m₁ h tk own e hoff hp' (kst_fr h1 h2 F₁) N₁) (fun f s₂ p => ?_) fun _ _ x => x
    exact tend_G (fun c' m' a b d => ⟨hl c', c', rfl, a, b, by rw [hs]; exact d⟩) p
  · rintro m₁ nx h tk ⟨c, rfl, h1, h2, hp'⟩ F₁ N₁
    rw [hlen, List.take_length] at hp'
    exact done c m₁ h tk hp' (kst_frOut h1 h2 F₁) N₁

theorem range_loop {σ : Type} {r : Addr} {b₀ : Int} {t₀ u₀ v₀ : Tok} {n : Nat} {m₀ : Str → Option Value} (Led : σ → List (Addr × Obj)) (ps : σ → List (Str × Value)) (stored : List Str) (P : Nat → σ → Prop) (c₀ : σ)
    (hh : A.handled = none) (hr : IsRange s.heap r 0 b₀ 1 t₀ u₀ v₀) (hsmall : Builtin.Range.small 0 b₀ 1 = true) (hsz : Builtin.Range.rangeSize 0 b₀ 1 = (n : Int)) (F : Fr h₀ env.locals s.heap m₀) (N : News h₀ env.locals s.heap (Led c₀)) (hk : ∀ p ∈ ps c₀, m₀ p.1 = some p.2) (hp : P 0 c₀)
    (turn : ∀ (c : σ) (i : Nat) t (u : Str → Option Value) h tk own, i < n → OwnOff own ((Led c).map (·.1)) → P i c →
      Fr h₀ env.locals h (fun z => if z = x then some (.int i t) else kstB (fun z => if stored.contains z then u z else m₀ z) (ps c) z) → News h₀ env.locals h (Led c ++ own) →
      wpAny (model prog w) A (execs body env) (TPost h₀ env.locals { s with heap := h, toks := tk } Led ps stored x m₀ (P (i + 1)) own Q) E { s with heap := h, toks := tk })
    (done : ∀ (c : σ) (u : Str → Option Value) h tk, P n c → Fr h₀ env.locals h (fun y => if y = x then u y else kstB (fun z => if stored.contains z then u z else m₀ z) (ps c) y) → News h₀ env.locals h (Led c) → Q .next { s with heap := h, toks := tk }) :
    wpAny (model prog w) A (pyIter (.ref r)) (fun it s₂ => LoopAtV prog w A h₀ env x body Q E it s₂) E s := by
  refine wpAny_pyIter_range hr hsmall ?_
  have W : Walks prog w A s.heap.objs.size [s.heap.objs.size] [s.heap.objs.size] n (fun i v => i < n ∧ ∃ t, v = .int (0 + i * 1) t)
      (fun i h => IsRangeIter h s.heap.objs.size (0 + (i : Nat) * 1) ((n : Int) - (i : Nat)) 1) := (Walks.range hh _ 0 1 n).bound
  refine kdr_loop (news := Led c₀) (fun i m nx => ∃ c, nx = Led c ∧ (∀ p ∈ ps c, m p.1 = some p.2) ∧ (∀ z, z ≠ x → (∀ p ∈ ps c, z ≠ p.1) → stored.contains z = false → m z = m₀ z) ∧ P i c) W (fun _ h => h) (fun _ h => h) ?_ ?_ ?_ ?_ (by show IsRangeIter _ _ _ _ _; rw [hsz]; simpa using Heap.get?_push_size _ rfl) (F.push _) (fun p hp => ⟨Heap.get?_push_of_some _ (N p hp).1, (N p hp).2⟩) ⟨c₀, rfl, hk, fun _ _ _ _ => rfl, hp⟩ ?_ ?_
  · intro i h hi b hb
    rw [List.mem_singleton.mp hb]
    exact ⟨_, hi⟩
  · intro hm
    exact absurd F.ns.lt ((List.mem_singleton.mp hm) ▸ Nat.lt_irrefl _)
  · intro b hb
    rw [List.mem_singleton.mp hb]
    exact next_is_new F
  · intro p hp hI
    exact absurd (Heap.lt_size (N p hp).1) ((List.mem_singleton.mp hI) ▸ Nat.lt_irrefl _)
  · rintro i v m₁ nx h tk own hi ⟨_, t, rfl⟩ hoff ⟨c, rfl, h1, h2, hp'⟩ F₁ N₁
    have e1 : 0 + (i : Int) * 1 = (i : Int) := by omega
    rw [e1] at F₁
    refine wpAny_mono (turn c i t m₁ h tk own hi hoff hp' (kst_fr h1 h2 F₁) N₁) (fun f s₂ p => ?_) fun _ _ x => x
    exact tend_G (fun c' m' a b d => ⟨c', rfl, a, b, d⟩) p
  · rintro m₁ nx h tk ⟨c, rfl, h1, h2, hp'⟩ F₁ N₁
    exact done c m₁ h tk hp' (kst_frOut h1 h2 F₁) N₁
end
end Mine

namespace Mine
open PySem PySem.W PyProof.Rows PySem.Calls

/-- the bound method stands in the heap -/
def BoundAt (b D : Addr) (h : Heap) : Prop := h.get? b = some (boundObj D)
section
variable {M : Model} {A : Around} {E : Value → Shared → Prop} {s : Shared} {h₀ : Heap} {L D b : Addr} {m : Str → Option Value} {news news' : List (Addr × Obj)} {Q : Value → Shared → Prop}
theorem callWith_b0 {pos : Pos} {first : List Value} {args : List (Bool × Sem Value)} {Q : Value → Shared → Prop} (hplain : args.any (·.1) = false)
    (h : wpAny M A (evalArgs (.ref b) true args []) (fun a s₁ => BoundAt b D s₁.heap ∧ wpAny M A (call (.ref b) (first ++ a.pos) a.kw) Q E s₁) E s) : wpAny M A (callWith pos (.ref b) first args []) Q E s := by
  unfold callWith
  refine wpAny_bind (wpAny_holding (wpAny_mono h (fun a s₁ hh => ?_) fun _ _ x => x))
  obtain ⟨hb, hc⟩ := hh
  refine wpAny_bind (wpAny_standAt ?_)
  simp only [hplain, List.any_nil, Bool.or_false]
  refine wpAny_bind (m := keeperOf (.ref b)) ?_
  unfold keeperOf
  refine wpAny_bind (wpAny_load hb ?_)
  simp only [boundObj, show (Value.type "builtin_function_or_method" != Value.type "method") = true by decide, show (Value.type "builtin_function_or_method" == Value.type "builtin_function_or_method" || Value.type "builtin_function_or_method" == Value.type "method-wrapper") = true by decide, if_true]
  refine wpAny_pure ?_
  exact wpAny_bind (wpAny_mono hc (fun r s₂ hr => wpAny_bind (wpAny_holding (wpAny_point (wpAny_pure hr)))) fun _ _ x => x)
theorem callWith_b {pos : Pos} {first : List Value} {env : Env} {e : PySem.Expr} {rest : List PySem.Expr} {Q : Value → Shared → Prop}
    {R : List (Addr × Obj)} (hm : (b, boundObj D) ∈ R) (h : wpAny M A (spliced (backTo pos (starEach (e :: rest) env))) (fun vs s₁ => BoundAt b D s₁.heap ∧ wpAny M A (call (.ref b) (first ++ vs)) Q E s₁) E s)
    (he : starEach (e :: rest) env = (false, eval e env) :: starEach rest env := by rfl) (hplain : (backTo pos (starEach rest env)).any (·.1) = false := by rfl) :
    wpAny M A (callWith pos (.ref b) first (backTo pos (starEach (e :: rest) env)) []) Q E s := by
  rw [he] at h ⊢
  refine callWith_b0 (D := D) (by show (false || (backTo pos (starEach rest env)).any (·.1)) = false; rw [hplain]; rfl) ?_
  exact evalArgs_plain h
end
end Mine

namespace Mine
def hexd (d : Nat) : Nat := if d < 10 then 48 + d else 55 + d
def quoteCh (c : Nat) : Str := ⟨#[61, hexd (c / 16), hexd (c % 16)]⟩
def lawSign (x : Int) : Str := if Int.fmod x 12 = 11 then ⟨#[(Int.fmod (Int.fdiv x 12) 256).toNat]⟩ else Txt.item (Str.ofString "a =\né.\t\x0d éb") (Int.fmod x 12)

def lawPiece (c : Nat) : Str := if c = 9 ∨ (32 ≤ c ∧ c ≤ 126 ∧ c ≠ 61) then ⟨#[c]⟩ else ⟨#[61, hexd (c / 16), hexd (c % 16)]⟩
def encCh (c : Nat) : Str := if c = 13 ∨ c = 10 then ⟨#[c]⟩ else lawPiece c
def encTx (text : Str) : Str := ⟨(text.cps.toList.flatMap fun c => (encCh c).cps.toList).toArray⟩

def cutAt (width : Int) (line : Str) (start : Int) : Str × Int :=
  if Txt.item line (start + (width - 1) - 2) = Str.ofString "=" then (Txt.slice line (some start) (some (start + (width - 1) - 1)), start + (width - 1) - 2)
  else if Txt.item line (start + (width - 1) - 1) = Str.ofString "=" then (Txt.slice line (some start) (some (start + (width - 1))), start + (width - 1) - 1)
  else (Txt.slice line (some start) (some (start + (width - 1))) ++ Str.ofString "=", start + (width - 1))
theorem cutAt_lt (width : Int) (line : Str) (start : Int) (h : 4 ≤ width) : start < (cutAt width line start).2 := by
  unfold cutAt
  repeat' split
  all_goals dsimp only
  all_goals omega
def lineLoop (width : Int) (line : Str) (start : Int) : List Str × Int :=
  if h : 4 ≤ width ∧ start ≤ (line.length : Int) - 1 - width then
    ((cutAt width line start).1 :: (lineLoop width line (cutAt width line start).2).1, (lineLoop width line (cutAt width line start).2).2)
  else ([], start)
termination_by ((line.length : Int) - start).toNat
decreasing_by
  all_goals
    have := cutAt_lt width line start h.1
    omega
abbrev endsWs (line : Str) : Prop := line.length ≠ 0 ∧ (Builtin.Str.occurrences (Str.ofString " \t") (Txt.item line (-1)) 0 (Str.ofString " \t").length 1).isEmpty = false
def lastPart (width : Int) (eol line : Str) (start : Int) : Str :=
  if endsWs line then
    if 3 ≤ start - ((line.length : Int) - 1 - width) then Txt.slice line (some start) (some (-1)) ++ quoteCh ((Txt.charAt line (-1)).getD 0)
    else if start - ((line.length : Int) - 1 - width) = 2 then Txt.slice line (some start) (some (-1)) ++ (Txt.item line (-1) ++ (Str.ofString "=" ++ eol))
    else Txt.slice line (some start) (some (-1)) ++ (Str.ofString "=" ++ eol ++ quoteCh ((Txt.charAt line (-1)).getD 0))
  else Txt.slice line (some start) none
def lineParts (width : Int) (eol line : Str) : List Str := (lineLoop width line 0).1 ++ [lastPart width eol line (lineLoop width line 0).2]

theorem lineLoop_step {width : Int} {line X : Str} {start s1 : Int} (hw : 4 ≤ width) (h : start ≤ (line.length : Int) - 1 - width) (hcut : cutAt width line start = (X, s1)) :
    lineLoop width line start = (X :: (lineLoop width line s1).1, (lineLoop width line s1).2) := by
  rw [lineLoop, dif_pos ⟨hw, h⟩, hcut]
theorem lineLoop_end {width : Int} {line : Str} {start : Int} (h : ¬ start ≤ (line.length : Int) - 1 - width) : lineLoop width line start = ([], start) := by
  rw [lineLoop, dif_neg (fun hh => h hh.2)]

abbrev endsNl (body : Str) : Prop := (Builtin.Str.occurrences (Str.ofString "\x0d\n") (Txt.item body (-1)) 0 (Str.ofString "\x0d\n").length 1).isEmpty = false
def encB (text : Str) (width : Int) (eol : Str) : Str :=
  if text.length = 0 then text
  else if endsNl (encTx text) then Txt.join eol ((Txt.lines (encTx text)).flatMap (lineParts width eol) ++ [Str.ofString ""])
  else Txt.join eol ((Txt.lines (encTx text)).flatMap (lineParts width eol))

def total (row : List Str) : Int := ((row.map (·.length)).sum : Nat)
def fit : Int → List Str → Nat
  | _, [] => 0
  | room, p :: ps => if (p.length : Int) ≤ room then fit (room - p.length) ps + 1 else 0
def putLoop (width : Int) (eol : Str) (closed : Str) (row : List Str) : Str × List Str :=
  if h : width < total row ∧ 0 < fit (width - 1) row ∧ row ≠ [] then
    putLoop width eol (closed ++ Txt.join (Str.ofString "") (row.take (fit (width - 1) row)) ++ Str.ofString "=" ++ eol) (row.drop (fit (width - 1) row))
  else (closed, row)
termination_by row.length
decreasing_by
  have := List.length_pos_iff.mpr h.2.2
  rw [List.length_drop]
  omega


def toldWs (closed text : Str) (width : Int) (eol q : Str) : Str :=
  if (text.length : Int) + 2 ≤ width then closed ++ Txt.slice text none (some (-1)) ++ q
  else if (text.length : Int) < width then closed ++ text ++ Str.ofString "=" ++ eol
  else closed ++ Txt.slice text none (some (-1)) ++ Str.ofString "=" ++ eol ++ q
def lawTold (closed : Str) (row : List Str) (width : Int) (eol : Str) : Str :=
  if Txt.slice (Txt.join (Str.ofString "") row) (some (-1)) none = Str.ofString " " then toldWs closed (Txt.join (Str.ofString "") row) width eol (Str.ofString "=20")
  else if Txt.slice (Txt.join (Str.ofString "") row) (some (-1)) none = Str.ofString "\t" then toldWs closed (Txt.join (Str.ofString "") row) width eol (Str.ofString "=09")
  else closed ++ Txt.join (Str.ofString "") row

/-- the writer: what stands for good, the open row, the sign before -/
def wStep (width : Int) (eol : Str) (st : Str × List Str × Str) (c : Nat) : Str × List Str × Str :=
  if (⟨#[c]⟩ : Str) = Str.ofString "\x0d" ∨ ((⟨#[c]⟩ : Str) = Str.ofString "\n" ∧ st.2.2 ≠ Str.ofString "\x0d") then (lawTold st.1 st.2.1 width eol ++ eol, [], ⟨#[c]⟩)
  else if (⟨#[c]⟩ : Str) ≠ Str.ofString "\n" then ((putLoop width eol st.1 (st.2.1 ++ [lawPiece c])).1, (putLoop width eol st.1 (st.2.1 ++ [lawPiece c])).2, ⟨#[c]⟩)
  else (st.1, st.2.1, ⟨#[c]⟩)
def wRun (width : Int) (eol : Str) (l : List Nat) : Str × List Str × Str := l.foldl (wStep width eol) (Str.ofString "", [], Str.ofString "")
end Mine

namespace Mine
noncomputable abbrev LL : List Str := looseW Mine.hd.view_39 [Str.ofString "_QUOPRI_MAP", Str.ofString "_QUOPRI_HEADER_MAP", Str.ofString "_QUOPRI_BODY_MAP",
      Str.ofString "ascii_letters", Str.ofString "_QUOPRI_BODY_ENCODE_MAP", Str.ofString "body_encode"]

theorem fill : ∀ w : World, (Mine.hd.heap_39 w.params) = Mine.hd.heap_39 w.params ∧ PySem.Challenge.rw_nb0380_01 = PySem.Challenge.rw_nb0380_01 := by
  k_fill
  exact fun _ => ⟨rfl, rfl⟩

noncomputable def listAt (K : Frag) (a : Addr) : List Value := match K.lookup a with | some o => (match o.data with | .seq a _ => a.toList | _ => []) | none => []
noncomputable def quoTab (w : World) : List Value := listAt (Mine.hd.heap_39 w.params) 17
theorem quoTab_all (w : World) : ((List.range 256).all fun c => match (quoTab w)[c]? with | some (.str x _) => x == quoteCh c | _ => false) = true := by kernel_rfl
theorem quoTab_at (w : World) (c : Nat) (hc : c < 256) : ∃ u, (quoTab w)[c]? = some (.str (quoteCh c) u) := by
  have := List.all_eq_true.mp (quoTab_all w) c (List.mem_range.mpr hc)
  split at this
  · rename_i x u e
    exact ⟨u, by rw [e, eq_of_beq this]⟩
  · cases this
theorem quoTab_is {w : World} {h₀ : Heap} {L : Addr} {h : Heap} {m : Str → Option Value} (X : (Mine.hd.heap_39 w.params).In h₀) (F : Fr h₀ L h m) : h.IsList 17 (quoTab w).toArray := by
  have e : List.lookup 17 (Mine.hd.heap_39 w.params) = some (PySem.W.listOf (quoTab w).toArray 256) := by kernel_rfl
  exact ⟨_, F.keep _ _ (X _ _ e), rfl, _, rfl⟩

local macro_rules | `(tactic| walk_at "subscriptTail") => `(tactic| (k_here; (with_reducible show wpAny _ _ (subscriptTail _ _ (Value.ref 17) (Value.int _ _)) _ _ _); (refine item_listL (quoTab_is (by k_asm) (by k_asm)) (by omega) (by omega) (by assumption) ?_)))

theorem quote_spec (prog : Program) (w : World) (mean : ExcName → Option Value) (mg mb : Str → Option Value) (news : List (Addr × Obj)) (c : Nat) (hc : c < 256) (tx : Tok) :
    CbClaim prog w (Mine.hd.heap_39 w.params) Mine.hd.view_39 LL mean mg mb 37 news [] True [.str ⟨#[c]⟩ tx] (fun t => .str (quoteCh c) t) := by
  dsimp only [CbClaim, CbLists, CbRet]; intro dp un gd cn cs a ccd cl outer A₀ base h₀ L m s Q E hB hF hK hN hT hcs _ hdp hun hret
  obtain ⟨u, hu⟩ := quoTab_at w c hc
  have hu' : (quoTab w)[((c : Nat) : Int).toNat]? = some (.str (quoteCh c) u) := by simpa using hu
  refine wpAny_call ?_
  k_dflt cell_enter
  k_steps
  all_goals (try refine cb_retS (Q := Q) hret ?_ (by k_asm) (by k_asm))
  all_goals (try rfl)
end Mine

namespace Mine
theorem fill2 : ∀ w : World, (Mine.hd.heap_39 w.params) = Mine.hd.heap_39 w.params ∧ PySem.Challenge.rw_nb0380_01 = PySem.Challenge.rw_nb0380_01 := by
  k_fill
  exact fun _ => ⟨rfl, rfl⟩

theorem sign_spec (prog : Program) (w : World) (mean : ExcName → Option Value) (mg mb : Str → Option Value) (news : List (Addr × Obj)) (x : Int) (tx : Tok) :
    CbClaim prog w (Mine.hd.heap_39 w.params) Mine.hd.view_39 LL mean mg mb 57 news [] True [.int x tx] (fun t => .str (lawSign x) t) := by
  dsimp only [CbClaim, CbLists, CbRet]; intro dp un gd cn cs a ccd cl outer A₀ base h₀ L m s Q E hB hF hK hN hT hcs _ hdp hun hret
  refine wpAny_call ?_
  k_dflt cell_enter
  k_steps
  all_goals (refine cb_retS (Q := Q) hret ?_ (by k_asm) (by k_asm))
  all_goals unfold lawSign
  · rw [if_pos (by assumption)]
  · rw [if_neg (by assumption)]

theorem sign_call {prog : Program} {w : World} {mean : ExcName → Option Value} {mg mb : Str → Option Value} {news : List (Addr × Obj)} {x : Int} {tx : Tok} {dp un : Nat} {gd : Option (List Code)} {cn : Str} {cs : Scope} {a : Addr} {ccd : Value} {cl : List (Str × Addr)} {outer : List Env} {A₀ : Around} {base h₀ : Heap} {L : Addr} {m : Str → Option Value} {s : Shared} {Q E : Value → Shared → Prop}
    (hB : Below A₀ base outer h₀) (hF : Fr h₀ L s.heap m) (hK : (Mine.hd.heap_39 w.params).In h₀) (hN : News h₀ L s.heap news) (hT : Top Mine.hd.view_39 LL mean mg mb h₀) (hcs : cs.kind = .function) (hdp : dp + 1 < recursionLimit) (hun : un + 8 < cLine)
    (h : ∀ (t : Tok) (h' : Heap) (tk' : Nat), Fr h₀ L h' m → News h₀ L h' news → Q (.str (lawSign x) t) { s with heap := h', toks := tk' }) :
    wpAny (model prog w) (ktrTop dp un gd cn cs L a ccd cl outer) (call (.ref 57) [.int x tx]) Q E s :=
  sign_spec prog w mean mg mb news x tx dp un gd cn cs a ccd cl outer A₀ base h₀ L m s Q E hB hF hK hN hT hcs trivial hdp hun h
end Mine

namespace Mine
abbrev ls (x : Str) : List Nat := x.cps.toList
abbrev mkS (l : List Nat) : Str := ⟨l.toArray⟩
theorem str_ext {a b : Str} (h : ls a = ls b) : a = b := by
  obtain ⟨a⟩ := a
  obtain ⟨b⟩ := b
  exact congrArg Str.mk (Array.toList_inj.mp h)
theorem ls_mk (l : List Nat) : ls (mkS l) = l := rfl
theorem ls_append (a b : Str) : ls (a ++ b) = ls a ++ ls b := by
  show (a.cps ++ b.cps).toList = _
  rw [Array.toList_append]
theorem ls_len (a : Str) : a.length = (ls a).length := by
  show a.cps.size = a.cps.toList.length
  simp
theorem len_append (a b : Str) : (a ++ b).length = a.length + b.length := by
  rw [ls_len, ls_len, ls_len, ls_append, List.length_append]
theorem app_assoc (a b c : Str) : a ++ b ++ c = a ++ (b ++ c) := str_ext (by simp only [ls_append, List.append_assoc])
theorem ofs_nil : Str.ofString "" = Str.empty := by decide +kernel
theorem nil_app (a : Str) : Str.empty ++ a = a := str_ext (by rw [ls_append]; rfl)
theorem app_nil (a : Str) : a ++ Str.empty = a := str_ext (by rw [ls_append]; exact List.append_nil _)
theorem ls_empty : ls Str.empty = [] := rfl
theorem join_nil (sep : Str) : Txt.join sep [] = Str.empty := by
  show Builtin.Str.glued sep [] = _
  rw [StrLaws.glued_eq_join]; rfl
theorem join_one (sep x : Str) : Txt.join sep [x] = x := by
  show Builtin.Str.glued sep [x] = _
  rw [StrLaws.glued_eq_join]; rfl
theorem join_cons (sep x y : Str) (r : List Str) : Txt.join sep (x :: y :: r) = x ++ sep ++ Txt.join sep (y :: r) := by
  show Builtin.Str.glued sep _ = _ ++ Builtin.Str.glued sep _
  rw [StrLaws.glued_eq_join, StrLaws.glued_eq_join]; rfl
theorem join_cons' (sep x : Str) {r : List Str} (h : r ≠ []) : Txt.join sep (x :: r) = x ++ sep ++ Txt.join sep r := by
  cases r with
  | nil => exact absurd rfl h
  | cons y r => exact join_cons sep x y r
theorem ls_join0 : ∀ xs : List Str, ls (Txt.join (Str.ofString "") xs) = xs.flatMap ls
  | [] => by rw [join_nil]; rfl
  | [x] => by rw [join_one]; simp
  | x :: y :: r => by
    rw [join_cons, ls_append, ls_append, ls_join0 (y :: r), ofs_nil]
    simp [ls_empty]
theorem join_app (sep : Str) : ∀ (xs : List Str) {ys : List Str}, xs ≠ [] → ys ≠ [] → Txt.join sep (xs ++ ys) = Txt.join sep xs ++ sep ++ Txt.join sep ys
  | [], _, h, _ => absurd rfl h
  | [x], ys, _, h => by rw [join_one]; exact join_cons' sep x h
  | x :: y :: r, ys, _, h => by
    rw [join_cons, List.cons_append, List.cons_append, join_cons, ← List.cons_append, join_app sep (y :: r) (by simp) h]
    simp only [app_assoc]
/-- the chunks and the end behind them -/
theorem join_snoc (sep x : Str) : ∀ xs : List Str, Txt.join sep (xs ++ [x]) = Txt.join (Str.ofString "") (xs.map (· ++ sep)) ++ x
  | [] => by rw [List.map_nil, join_nil, List.nil_append, join_one, nil_app]
  | y :: r => by
    rw [List.cons_append, join_cons' sep y (by simp), join_snoc sep x r]
    apply str_ext
    simp only [ls_append, ls_join0, List.map_cons, List.flatMap_cons, List.append_assoc]
theorem len_join0 (xs : List Str) : (Txt.join (Str.ofString "") xs).length = (xs.map (·.length)).sum := by
  rw [ls_len, ls_join0]
  induction xs with
  | nil => rfl
  | cons x r ih => rw [List.flatMap_cons, List.length_append, ih, List.map_cons, List.sum_cons, ls_len]

/-- a sign as it is, or an escape -/
def IsPc (p : Str) : Prop := (∃ c, ls p = [c] ∧ c ≠ 61) ∨ ∃ a b, ls p = [61, a, b] ∧ a ≠ 61 ∧ b ≠ 61
theorem IsPc.len {p : Str} (h : IsPc p) : p.length = 1 ∨ p.length = 3 := by
  rcases h with ⟨c, h, _⟩ | ⟨a, b, h, _⟩ <;> rw [ls_len, h] <;> simp
theorem hexd_ne (d : Nat) (h : d < 16) : hexd d ≠ 61 := by unfold hexd; split <;> omega
theorem ls_lawPiece (c : Nat) : ls (lawPiece c) = if c = 9 ∨ (32 ≤ c ∧ c ≤ 126 ∧ c ≠ 61) then [c] else [61, hexd (c / 16), hexd (c % 16)] := by
  unfold lawPiece
  split <;> rfl
theorem isPc_piece (c : Nat) (h : c < 256) : IsPc (lawPiece c) := by
  unfold IsPc
  rw [ls_lawPiece]
  split
  · exact .inl ⟨c, rfl, by omega⟩
  · exact .inr ⟨_, _, rfl, hexd_ne _ (by omega), hexd_ne _ (by omega)⟩
theorem total_nil : total [] = 0 := rfl
theorem total_cons (p : Str) (r : List Str) : total (p :: r) = p.length + total r := by unfold total; simp
theorem total_app (a b : List Str) : total (a ++ b) = total a + total b := by unfold total; simp
theorem total_nonneg (r : List Str) : 0 ≤ total r := by unfold total; omega
theorem total_flat (r : List Str) : total r = ((r.flatMap ls).length : Int) := by
  have := len_join0 r
  rw [ls_len, ls_join0] at this
  unfold total
  omega
theorem pc_pos {r : List Str} (h : ∀ p ∈ r, IsPc p) : (r.length : Int) ≤ total r := by
  induction r with
  | nil => simp [total]
  | cons p r ih =>
    have h1 := (h p (.head _)).len
    have h2 := ih fun q hq => h q (.tail _ hq)
    rw [total_cons, List.length_cons]
    omega
/- fit -/
theorem fit_le (room : Int) (r : List Str) : fit room r ≤ r.length := by
  induction r generalizing room with
  | nil => simp [fit]
  | cons p r ih =>
    unfold fit
    split
    · have := ih (room - p.length); simp only [List.length_cons]; omega
    · simp
theorem fit_total {room : Int} (h0 : 0 ≤ room) (r : List Str) : total (r.take (fit room r)) ≤ room := by
  induction r generalizing room with
  | nil => simpa [fit, total] using h0
  | cons p r ih =>
    unfold fit
    split
    · rw [List.take_succ_cons, total_cons]
      have := ih (room := room - p.length) (by omega)
      omega
    · simpa [total] using h0
theorem fit_next {room : Int} (h0 : 0 ≤ room) (r : List Str) (h : room < total r) : ∃ p t, r.drop (fit room r) = p :: t ∧ room < total (r.take (fit room r)) + p.length := by
  induction r generalizing room with
  | nil =>
    rw [total_nil] at h
    omega
  | cons p r ih =>
    unfold fit
    split
    · rename_i hp
      rw [total_cons] at h
      obtain ⟨q, t, h1, h2⟩ := ih (room := room - p.length) (by omega) (by omega)
      refine ⟨q, t, by rw [List.drop_succ_cons]; exact h1, ?_⟩
      rw [List.take_succ_cons, total_cons]
      omega
    · exact ⟨p, r, by simp, by simp [total]; omega⟩

theorem tail_ne : ∀ (qs : List Str), (∀ p ∈ qs.reverse, IsPc p) → (∀ x, (qs.reverse.flatMap ls).getLast? = some x → x ≠ 61) ∧ (∀ x, (qs.reverse.flatMap ls).dropLast.getLast? = some x → x ≠ 61)
  | [], _ => by simp
  | p :: r, h => by
    have ih := tail_ne r fun q hq => h q (by rw [List.reverse_cons]; exact List.mem_append.mpr (.inl hq))
    rw [List.reverse_cons, List.flatMap_append]
    have e : List.flatMap ls [p] = ls p := by simp
    rw [e]
    rcases h p (by simp) with ⟨c, hp, hc⟩ | ⟨a, b, hp, ha, hb⟩
    · rw [hp]
      refine ⟨fun x hx => ?_, fun x hx => ?_⟩
      · rw [List.getLast?_concat] at hx; cases hx; exact hc
      · rw [List.dropLast_concat] at hx; exact ih.1 x hx
    · rw [hp]
      have e1 : r.reverse.flatMap ls ++ [61, a, b] = (r.reverse.flatMap ls ++ [61]) ++ [a] ++ [b] := by simp
      rw [e1]
      refine ⟨fun x hx => ?_, fun x hx => ?_⟩
      · rw [List.getLast?_concat] at hx; cases hx; exact hb
      · rw [List.dropLast_concat, List.getLast?_concat] at hx; cases hx; exact ha
theorem last_ne {qs : List Str} (h : ∀ p ∈ qs, IsPc p) {j : Nat} (hj : j < (qs.flatMap ls).length) (hj2 : (qs.flatMap ls).length ≤ j + 2) : (qs.flatMap ls)[j]? ≠ some 61 := by
  have t := tail_ne qs.reverse (by rw [List.reverse_reverse]; exact h)
  rw [List.reverse_reverse] at t
  intro e
  by_cases hl : j + 1 = (qs.flatMap ls).length
  · refine t.1 61 ?_ rfl
    rw [List.getLast?_eq_getElem?, ← hl]
    simpa using e
  · refine t.2 61 ?_ rfl
    rw [List.getLast?_eq_getElem?, List.length_dropLast, List.getElem?_dropLast]
    rw [if_pos (by omega), show (qs.flatMap ls).length - 1 - 1 = j by omega]
    exact e
theorem item_at {x : Str} {j : Nat} {c : Nat} (h : (ls x)[j]? = some c) {i : Int} (hi : i = j) : Txt.item x i = ⟨#[c]⟩ := by
  subst hi
  unfold Txt.item Txt.charAt
  rw [StrLaws.at_nonneg (n := c) (by omega) (by simpa using h)]
  rfl
theorem slice_at {x : Str} {i j : Int} {a b : Nat} (hi : i = a) (hj : j = b) (hab : a ≤ b) (hb : b ≤ (ls x).length) : Txt.slice x (some i) (some j) = mkS (((ls x).drop a).take (b - a)) := by
  subst hi hj
  exact StrLaws.sliceText_nat x hab (by rw [ls_len]; exact hb)
theorem one_eq (c : Nat) : ((⟨#[c]⟩ : Str) = Str.ofString "=") ↔ c = 61 := by
  have e : Str.ofString "=" = ⟨#[61]⟩ := by decide +kernel
  rw [e]
  simp
theorem cut_eq {width : Int} {line : Str} {pre : List Nat} {ps : List Str} (hw : 4 ≤ width) (hpc : ∀ p ∈ ps, IsPc p) (hl : ls line = pre ++ ps.flatMap ls) (ht : width < total ps) :
    cutAt width line pre.length = (Txt.join (Str.ofString "") (ps.take (fit (width - 1) ps)) ++ Str.ofString "=", pre.length + total (ps.take (fit (width - 1) ps))) := by
  have h1 := fit_total (room := width - 1) (by omega) ps
  obtain ⟨p, t, h2, h3⟩ := fit_next (room := width - 1) (by omega) ps (by omega)
  have hps : ps = ps.take (fit (width - 1) ps) ++ p :: t := by rw [← h2, List.take_append_drop]
  have hA : ∀ q ∈ ps.take (fit (width - 1) ps), IsPc q := fun q hq => hpc q (List.mem_of_mem_take hq)
  have hp : IsPc p := hpc p (by rw [hps]; simp)
  generalize hT : ps.take (fit (width - 1) ps) = T at *
  have hlast := fun j => last_ne hA (j := j)
  rw [total_flat] at h1 h3 ⊢
  have hj : ls (Txt.join (Str.ofString "") T) = T.flatMap ls := ls_join0 T
  generalize hAA : T.flatMap ls = A at *
  have hl' : ls line = pre ++ (A ++ (ls p ++ t.flatMap ls)) := by
    rw [hl, hps, List.flatMap_append, List.flatMap_cons, hAA]
  have hlen : (ls line).length = pre.length + (A.length + ((ls p).length + (t.flatMap ls).length)) := by rw [hl']; simp only [List.length_append]
  have hpl : p.length = (ls p).length := ls_len p
  have inA : ∀ j, j < A.length → (ls line)[pre.length + j]? = A[j]? := fun j hj => by
    rw [hl', List.getElem?_append_right (by omega), show pre.length + j - pre.length = j by omega, List.getElem?_append_left hj]
  have inP : (ls line)[pre.length + A.length]? = (ls p)[0]? := by
    rw [hl', List.getElem?_append_right (by omega), show pre.length + A.length - pre.length = A.length by omega, List.getElem?_append_right (by omega), Nat.sub_self]
    rcases hp with ⟨c, hp, _⟩ | ⟨a, b, hp, _⟩ <;> rw [hp] <;> rfl
  have notA : ∀ j, j < A.length → A.length ≤ j + 2 → ∀ i : Int, i = (pre.length + j : Nat) → ¬ Txt.item line i = Str.ofString "=" := fun j h1 h2 i hi => by
    obtain ⟨c, hc⟩ : ∃ c, A[j]? = some c := ⟨A[j], by simp [h1]⟩
    rw [item_at (c := c) (by rw [inA j h1, hc]) hi, one_eq]
    intro e
    subst e
    exact hlast j h1 h2 hc
  have cutA : ∀ n, A.length ≤ n → n ≤ A.length + 1 → (n = A.length + 1 → (ls p)[0]? = some 61) → ((ls line).drop pre.length).take n = A ++ (if n = A.length then [] else [61]) := fun n h1 h2 h3 => by
    rw [hl', List.drop_left]
    by_cases hn : n = A.length
    · rw [if_pos hn, hn, List.take_left, List.append_nil]
    · have hn' : n = A.length + 1 := by omega
      rw [if_neg hn, hn', List.take_append, List.take_of_length_le (by omega), show A.length + 1 - A.length = 1 by omega]
      have := h3 hn'
      cases hq : ls p with
      | nil => rw [hq] at this; cases this
      | cons x r => rw [hq] at this; cases this; rfl
  have eq1 : ls (Str.ofString "=") = [61] := by decide +kernel
  unfold cutAt
  rcases hp.len with hp1 | hp3
  · have hm : (A.length : Int) = width - 1 := by omega
    rw [if_neg (notA (A.length - 2) (by omega) (by omega) _ (by omega)), if_neg (notA (A.length - 1) (by omega) (by omega) _ (by omega))]
    rw [slice_at (a := pre.length) (b := pre.length + A.length) (by rfl) (by omega) (by omega) (by omega), show pre.length + A.length - pre.length = A.length by omega, cutA A.length (by omega) (by omega) (by omega), if_pos rfl, List.append_nil]
    refine Prod.ext (congrArg (· ++ Str.ofString "=") (str_ext ?_)) (by simp only; omega)
    rw [hj]
  · have h61 : (ls p)[0]? = some 61 := by
      rcases hp with ⟨c, hp, _⟩ | ⟨a, b, hp, _⟩
      · rw [hpl, hp] at hp3; cases hp3
      · rw [hp]; rfl
    by_cases c1 : (A.length : Int) = width - 1 - 2
    · rw [if_pos (by rw [item_at (j := pre.length + A.length) (c := 61) (by rw [inP, h61]) (by omega), one_eq])]
      rw [slice_at (a := pre.length) (b := pre.length + (A.length + 1)) (by rfl) (by omega) (by omega) (by omega), show pre.length + (A.length + 1) - pre.length = A.length + 1 by omega, cutA (A.length + 1) (by omega) (by omega) (fun _ => h61), if_neg (by omega)]
      refine Prod.ext (str_ext ?_) (by simp only; omega)
      rw [ls_append, hj, eq1]
    · by_cases c2 : (A.length : Int) = width - 1 - 1
      · rw [if_neg (notA (A.length - 1) (by omega) (by omega) _ (by omega))]
        rw [if_pos (by rw [item_at (j := pre.length + A.length) (c := 61) (by rw [inP, h61]) (by omega), one_eq])]
        rw [slice_at (a := pre.length) (b := pre.length + (A.length + 1)) (by rfl) (by omega) (by omega) (by omega), show pre.length + (A.length + 1) - pre.length = A.length + 1 by omega, cutA (A.length + 1) (by omega) (by omega) (fun _ => h61), if_neg (by omega)]
        refine Prod.ext (str_ext ?_) (by simp only; omega)
        rw [ls_append, hj, eq1]
      · have hm : (A.length : Int) = width - 1 := by omega
        rw [if_neg (notA (A.length - 2) (by omega) (by omega) _ (by omega)), if_neg (notA (A.length - 1) (by omega) (by omega) _ (by omega))]
        rw [slice_at (a := pre.length) (b := pre.length + A.length) (by rfl) (by omega) (by omega) (by omega), show pre.length + A.length - pre.length = A.length by omega, cutA A.length (by omega) (by omega) (by omega), if_pos rfl, List.append_nil]
        refine Prod.ext (congrArg (· ++ Str.ofString "=") (str_ext ?_)) (by simp only; omega)
        rw [hj]
end Mine

namespace Mine
theorem fit_pos {room : Int} (h : 3 ≤ room) {ps : List Str} (hpc : ∀ p ∈ ps, IsPc p) (hne : ps ≠ []) : 0 < fit room ps := by
  cases ps with
  | nil => exact absurd rfl hne
  | cons p r =>
    have := (hpc p (.head _)).len
    unfold fit
    rw [if_pos (by omega)]
    omega
theorem putLoop_cut {width : Int} {eol closed : Str} {ps : List Str} (h : width < total ps ∧ 0 < fit (width - 1) ps ∧ ps ≠ []) :
    putLoop width eol closed ps = putLoop width eol (closed ++ Txt.join (Str.ofString "") (ps.take (fit (width - 1) ps)) ++ Str.ofString "=" ++ eol) (ps.drop (fit (width - 1) ps)) := by
  rw [putLoop, dif_pos h]
theorem putLoop_end {width : Int} {eol closed : Str} {ps : List Str} (h : total ps ≤ width) : putLoop width eol closed ps = (closed, ps) := by
  rw [putLoop, dif_neg (fun hh => by omega)]

/-- the loop over a line and the writer's loop cut alike -/
theorem loops {width : Int} {eol line : Str} (hw : 4 ≤ width) : ∀ (n : Nat) (ps : List Str) (pre : List Nat), ps.length ≤ n → (∀ p ∈ ps, IsPc p) → ls line = pre ++ ps.flatMap ls →
    ∃ (cs rest : List Str) (pre' : List Nat), lineLoop width line pre.length = (cs, (pre'.length : Int)) ∧ ls line = pre' ++ rest.flatMap ls ∧ total rest ≤ width ∧ (ps ≠ [] → rest ≠ []) ∧ (∀ p ∈ rest, p ∈ ps) ∧
      cs.length ≤ ps.length ∧ (cs.map (·.length)).sum + total rest ≤ total ps + cs.length ∧
      ∀ closed, putLoop width eol closed ps = (closed ++ Txt.join (Str.ofString "") (cs.map (· ++ eol)), rest)
  | 0, ps, pre, hn, hpc, hl => by
    have : ps = [] := List.length_eq_zero_iff.mp (by omega)
    subst this
    refine ⟨[], [], pre, ?_, hl, by rw [total_nil]; omega, fun h => absurd rfl h, fun _ h => h, Nat.le_refl _, by simp [total], fun closed => ?_⟩
    · refine lineLoop_end ?_
      rw [ls_len, hl]
      simp
      omega
    · rw [putLoop_end (by rw [total_nil]; omega), List.map_nil, join_nil, app_nil]
  | n + 1, ps, pre, hn, hpc, hl => by
    by_cases ht : width < total ps
    · have hne : ps ≠ [] := by
        rintro rfl
        rw [total_nil] at ht
        omega
      have hf := fit_pos (room := width - 1) (by omega) hpc hne
      have hfl := fit_le (width - 1) ps
      have hlen : (line.length : Int) = pre.length + total ps := by rw [ls_len, hl, total_flat]; simp
      have hcut := cut_eq hw hpc hl ht
      have e1 : ps.flatMap ls = (ps.take (fit (width - 1) ps)).flatMap ls ++ (ps.drop (fit (width - 1) ps)).flatMap ls := by
        rw [← List.flatMap_append, List.take_append_drop]
      have hpos : ((pre.length : Int) + total (ps.take (fit (width - 1) ps))) = ((pre ++ (ps.take (fit (width - 1) ps)).flatMap ls).length : Int) := by
        rw [total_flat, List.length_append]; omega
      obtain ⟨cs, rest, pre', i1, i2, i3, i4, i5, i5a, i5b, i6⟩ := loops (eol := eol) hw n (ps.drop (fit (width - 1) ps)) (pre ++ (ps.take (fit (width - 1) ps)).flatMap ls)
        (by rw [List.length_drop]; have := List.length_pos_iff.mpr hne; omega) (fun p hp => hpc p (List.mem_of_mem_drop hp)) (by rw [hl, e1, List.append_assoc])
      have h1 := fit_total (room := width - 1) (by omega) ps
      have h2 : total ps = total (ps.take (fit (width - 1) ps)) + total (ps.drop (fit (width - 1) ps)) := by rw [← total_app, List.take_append_drop]
      refine ⟨(Txt.join (Str.ofString "") (ps.take (fit (width - 1) ps)) ++ Str.ofString "=") :: cs, rest, pre', ?_, i2, i3, fun _ => i4 ?_, fun p hp => List.mem_of_mem_drop (i5 p hp), ?_, ?_, fun closed => ?_⟩
      · rw [lineLoop_step hw (by omega) hcut, hpos, i1]
      · intro he
        rw [he, total_nil] at h2
        omega
      · rw [List.length_drop] at i5a
        rw [List.length_cons]
        omega
      · rw [List.map_cons, List.sum_cons, List.length_cons, len_append, len_join0]
        have : (Str.ofString "=").length = 1 := by decide +kernel
        have e : total (ps.take (fit (width - 1) ps)) = (((ps.take (fit (width - 1) ps)).map (·.length)).sum : Nat) := rfl
        omega
      · rw [putLoop_cut ⟨ht, hf, hne⟩, i6]
        refine Prod.ext (str_ext ?_) rfl
        simp only [ls_append, ls_join0, List.map_cons, List.flatMap_cons, List.append_assoc]
    · refine ⟨[], ps, pre, ?_, hl, by omega, fun h => h, fun _ h => h, Nat.zero_le _, by simp, fun closed => ?_⟩
      · refine lineLoop_end ?_
        have hlen : (line.length : Int) = pre.length + total ps := by rw [ls_len, hl, total_flat]; simp
        omega
      · rw [putLoop_end (by omega), List.map_nil, join_nil, app_nil]

/- slices at the end -/
theorem slice_idx {x : Str} {l u l' u' : Option Int} (h : Builtin.Str.strSliceIndices l u 1 x.length = Builtin.Str.strSliceIndices l' u' 1 x.length) : Txt.slice x l u = Txt.slice x l' u' := by
  unfold Txt.slice
  rw [h]
theorem idx_neg1 (lo : Option Int) {n : Nat} (h : 1 ≤ n) : Builtin.Str.strSliceIndices lo (some (-1)) 1 n = Builtin.Str.strSliceIndices lo (some ((n - 1 : Nat) : Int)) 1 n := by
  have e1 : ((-1 : Int) < 0) := by decide
  have e2 : ¬ (((n - 1 : Nat) : Int) < 0) := by omega
  have e3 : (-1 + (n : Int)) = ((n - 1 : Nat) : Int) := by omega
  simp only [Builtin.Str.strSliceIndices, e1, e2, if_true, if_false, e3]
theorem idx_neg1' (hi : Option Int) {n : Nat} (h : 1 ≤ n) : Builtin.Str.strSliceIndices (some (-1)) hi 1 n = Builtin.Str.strSliceIndices (some ((n - 1 : Nat) : Int)) hi 1 n := by
  have e1 : ((-1 : Int) < 0) := by decide
  have e2 : ¬ (((n - 1 : Nat) : Int) < 0) := by omega
  have e3 : (-1 + (n : Int)) = ((n - 1 : Nat) : Int) := by omega
  simp only [Builtin.Str.strSliceIndices, e1, e2, if_true, if_false, e3]
theorem slice_last {x : Str} {u : List Nat} {c : Nat} (h : ls x = u ++ [c]) : Txt.slice x (some (-1)) none = mkS [c] := by
  have hn : x.length = u.length + 1 := by rw [ls_len, h]; simp
  rw [slice_idx ((idx_neg1' none (by omega)).trans (StrLaws.sliceIdx_none_hi _ _))]
  rw [slice_at (a := u.length) (b := u.length + 1) (by omega) (by omega) (by omega) (by rw [h]; simp), h, List.drop_left]
  congr 1
  simp
theorem slice_last0 {x : Str} (h : ls x = []) : Txt.slice x (some (-1)) none = Str.empty := by
  have hn : x.length = 0 := by rw [ls_len, h]; rfl
  have e : Txt.slice x (some (-1)) none = Txt.slice x (some 0) (some 0) := by
    refine slice_idx ?_
    rw [hn]
    decide
  rw [e, slice_at (a := 0) (b := 0) (by rfl) (by rfl) (by omega) (by omega), h]
  rfl
theorem slice_but {x : Str} {u : List Nat} {c : Nat} (h : ls x = u ++ [c]) : Txt.slice x none (some (-1)) = mkS u := by
  have hn : x.length = u.length + 1 := by rw [ls_len, h]; simp
  rw [slice_idx ((idx_neg1 none (by omega)).trans (StrLaws.sliceIdx_none_lo _ _))]
  rw [slice_at (a := 0) (b := u.length) (by rfl) (by omega) (by omega) (by rw [h]; simp), h]
  simp
theorem slice_but_from {x : Str} {pre u : List Nat} {c : Nat} (h : ls x = pre ++ (u ++ [c])) : Txt.slice x (some (pre.length : Int)) (some (-1)) = mkS u := by
  have hn : x.length = pre.length + (u.length + 1) := by rw [ls_len, h]; simp
  rw [slice_idx (idx_neg1 _ (by omega))]
  rw [slice_at (a := pre.length) (b := pre.length + u.length) (by rfl) (by omega) (by omega) (by rw [h]; simp), h, List.drop_left]
  simp
theorem sliceTo {x : Str} {pre u : List Nat} (h : ls x = pre ++ u) : Txt.slice x (some (pre.length : Int)) none = mkS u := by
  have hn : x.length = pre.length + u.length := by rw [ls_len, h]; simp
  rw [slice_idx (StrLaws.sliceIdx_none_hi _ _)]
  rw [slice_at (a := pre.length) (b := pre.length + u.length) (by rfl) (by omega) (by omega) (by rw [h]; simp), h, List.drop_left]
  simp
theorem char_last {x : Str} {u : List Nat} {c : Nat} (h : ls x = u ++ [c]) : Txt.charAt x (-1) = some c := by
  have hn : x.length = u.length + 1 := by rw [ls_len, h]; simp
  unfold Txt.charAt
  rw [StrLaws.seqIndex_neg (by decide) (by omega)]
  show x.cps[(-1 + (x.length : Int)).toNat]? = some c
  rw [show (-1 + (x.length : Int)).toNat = u.length by omega, ← Array.getElem?_toList]
  show (ls x)[u.length]? = some c
  rw [h]
  simp
theorem item_last {x : Str} {u : List Nat} {c : Nat} (h : ls x = u ++ [c]) : Txt.item x (-1) = ⟨#[c]⟩ := by
  unfold Txt.item
  rw [char_last h]
  rfl
theorem in_two (x : Str) (c : Nat) : (Builtin.Str.occurrences x ⟨#[c]⟩ 0 x.length 1).isEmpty = false ↔ c ∈ ls x := by
  have := StrLaws.found_one x c
  constructor
  · intro h
    rw [h] at this
    simpa using this.symm
  · intro h
    have h' : decide (c ∈ x.cps.toList) = true := decide_eq_true h
    rw [h'] at this
    simpa using this
theorem endsWs_iff {line : Str} {u : List Nat} {c : Nat} (h : ls line = u ++ [c]) : endsWs line ↔ c = 32 ∨ c = 9 := by
  unfold endsWs
  rw [item_last h, in_two]
  have e : ls (Str.ofString " \t") = [32, 9] := by decide +kernel
  have hn : line.length ≠ 0 := by rw [ls_len, h]; simp
  rw [e]
  simp [hn]
theorem endsWs_nil {line : Str} (h : ls line = []) : ¬ endsWs line := fun hh => hh.1 (by rw [ls_len, h]; rfl)
theorem endsNl_iff {line : Str} {u : List Nat} {c : Nat} (h : ls line = u ++ [c]) : endsNl line ↔ c = 13 ∨ c = 10 := by
  unfold endsNl
  rw [item_last h, in_two]
  have e : ls (Str.ofString "\x0d\n") = [13, 10] := by decide +kernel
  rw [e]
  simp
theorem mk_eq_sp (c : Nat) : mkS [c] = Str.ofString " " ↔ c = 32 := by
  have e : Str.ofString " " = mkS [32] := by decide +kernel
  rw [e]; simp
theorem mk_eq_tab (c : Nat) : mkS [c] = Str.ofString "\t" ↔ c = 9 := by
  have e : Str.ofString "\t" = mkS [9] := by decide +kernel
  rw [e]; simp
theorem told_nil (closed : Str) (width : Int) (eol : Str) : lawTold closed [] width eol = closed := by
  unfold lawTold
  rw [join_nil, slice_last0 rfl, if_neg (by decide +kernel), if_neg (by decide +kernel), app_nil]
/-- the row's last pieces as the writer tells them -/
theorem told_end {closed : Str} {row : List Str} {width : Int} {eol : Str} {u : List Nat} {c : Nat} (h : row.flatMap ls = u ++ [c]) :
    lawTold closed row width eol = closed ++ (if c = 32 ∨ c = 9 then (if total row + 2 ≤ width then mkS u ++ quoteCh c else if total row < width then mkS (u ++ [c]) ++ (Str.ofString "=" ++ eol) else mkS u ++ (Str.ofString "=" ++ eol ++ quoteCh c)) else mkS (u ++ [c])) := by
  have hj : ls (Txt.join (Str.ofString "") row) = u ++ [c] := by rw [ls_join0, h]
  have hjl : ((Txt.join (Str.ofString "") row).length : Int) = total row := by rw [len_join0]; rfl
  have hje : Txt.join (Str.ofString "") row = mkS (u ++ [c]) := str_ext hj
  have q20 : Str.ofString "=20" = quoteCh 32 := by decide +kernel
  have q09 : Str.ofString "=09" = quoteCh 9 := by decide +kernel
  unfold lawTold toldWs
  rw [slice_last hj, slice_but hj, hjl, q20, q09, hje]
  by_cases h32 : c = 32
  · subst h32
    rw [if_pos ((mk_eq_sp 32).mpr rfl), if_pos (Or.inl rfl)]
    repeat' split
    all_goals simp only [app_assoc]
  · rw [if_neg (fun e => h32 ((mk_eq_sp c).mp e))]
    by_cases h9 : c = 9
    · subst h9
      rw [if_pos ((mk_eq_tab 9).mpr rfl), if_pos (Or.inr rfl)]
      repeat' split
      all_goals simp only [app_assoc]
    · rw [if_neg (fun e => h9 ((mk_eq_tab c).mp e)), if_neg (by omega)]
theorem last_told {width : Int} {eol line : Str} {pre : List Nat} {row : List Str} (hl : ls line = pre ++ row.flatMap ls) (hne : line.length ≠ 0 → row.flatMap ls ≠ []) (hpc : ∀ p ∈ row, IsPc p) :
    lastPart width eol line pre.length = lawTold Str.empty row width eol := by
  by_cases h0 : row.flatMap ls = []
  · have hr : row = [] := by
      cases row with
      | nil => rfl
      | cons p r =>
        rw [List.flatMap_cons] at h0
        have := (hpc p (.head _)).len
        rw [ls_len, (List.append_eq_nil_iff.mp h0).1] at this
        simp at this
    have hz : line.length = 0 := Decidable.byContradiction fun h => hne h h0
    have hln : ls line = [] := List.length_eq_zero_iff.mp (by rw [← ls_len, hz])
    unfold lastPart
    rw [if_neg (endsWs_nil hln), hr, told_nil, sliceTo hl, h0]
    rfl
  · obtain ⟨u, c, h⟩ : ∃ u c, row.flatMap ls = u ++ [c] := ⟨_, _, (List.dropLast_concat_getLast h0).symm⟩
    rw [told_end h, nil_app]
    have hl2 : ls line = (pre ++ u) ++ [c] := by rw [hl, h, List.append_assoc]
    have hl3 : ls line = pre ++ (u ++ [c]) := by rw [hl, h]
    have hlen : (line.length : Int) = pre.length + total row := by rw [ls_len, hl, total_flat]; simp
    unfold lastPart
    by_cases hc : c = 32 ∨ c = 9
    · rw [if_pos ((endsWs_iff hl2).mpr hc), if_pos hc, slice_but_from hl3, char_last hl2, item_last hl2]
      show (if _ then mkS u ++ quoteCh c else _) = _
      by_cases c1 : total row + 2 ≤ width
      · rw [if_pos (by omega), if_pos c1]
      · rw [if_neg (by omega), if_neg c1]
        by_cases c2 : total row < width
        · rw [if_pos (by omega), if_pos c2]
          apply str_ext
          simp only [ls_append]
          show u ++ ([c] ++ (ls (Str.ofString "=") ++ ls eol)) = (u ++ [c]) ++ (ls (Str.ofString "=") ++ ls eol)
          rw [List.append_assoc]
        · rw [if_neg (by omega), if_neg c2]
          rfl
    · rw [if_neg (fun hh => hc ((endsWs_iff hl2).mp hh)), if_neg hc, sliceTo hl3]
/-- what the writer makes of the signs of one line -/
noncomputable def lineW (width : Int) (eol : Str) (l : List Nat) : Str := lawTold (putLoop width eol Str.empty (l.map lawPiece)).1 (putLoop width eol Str.empty (l.map lawPiece)).2 width eol
theorem told_pre (closed : Str) (row : List Str) (width : Int) (eol : Str) : lawTold closed row width eol = closed ++ lawTold Str.empty row width eol := by
  by_cases h0 : row.flatMap ls = []
  · unfold lawTold
    have hj : ls (Txt.join (Str.ofString "") row) = [] := by rw [ls_join0, h0]
    rw [slice_last0 hj, if_neg (by decide +kernel), if_neg (by decide +kernel), if_neg (by decide +kernel), if_neg (by decide +kernel), nil_app]
  · obtain ⟨u, c, h⟩ : ∃ u c, row.flatMap ls = u ++ [c] := ⟨_, _, (List.dropLast_concat_getLast h0).symm⟩
    rw [told_end h, told_end h, nil_app]
theorem put_pre {width : Int} (eol : Str) (hw : 4 ≤ width) {ps : List Str} (hpc : ∀ p ∈ ps, IsPc p) (closed : Str) : putLoop width eol closed ps = (closed ++ (putLoop width eol Str.empty ps).1, (putLoop width eol Str.empty ps).2) := by
  obtain ⟨cs, rest, pre', i1, i2, i3, i4, i5, i5a, i5b, i6⟩ := loops (eol := eol) (line := mkS (ps.flatMap ls)) hw ps.length ps [] (Nat.le_refl _) hpc rfl
  rw [i6, i6, nil_app]
theorem line_eq {width : Int} {eol line : Str} (hw : 4 ≤ width) {l : List Nat} (hl : ls line = (l.map lawPiece).flatMap ls) (h256 : ∀ c ∈ l, c < 256) : Txt.join eol (lineParts width eol line) = lineW width eol l := by
  have hpc : ∀ p ∈ l.map lawPiece, IsPc p := fun p hp => by
    obtain ⟨c, hc, rfl⟩ := List.mem_map.mp hp
    exact isPc_piece c (h256 c hc)
  obtain ⟨cs, rest, pre', i1, i2, i3, i4, i5, i5a, i5b, i6⟩ := loops (eol := eol) hw (l.map lawPiece).length (l.map lawPiece) [] (Nat.le_refl _) hpc hl
  have i1' : lineLoop width line 0 = (cs, (pre'.length : Int)) := i1
  unfold lineParts lineW
  rw [i1', join_snoc, i6, nil_app]
  show _ = lawTold _ rest width eol
  rw [told_pre, last_told i2 (fun hn he => ?_) (fun p hp => hpc p (i5 p hp))]
  have hne : l.map lawPiece ≠ [] := by
    intro h
    rw [h] at hl
    exact hn (by rw [ls_len, hl]; rfl)
  have hr := i4 hne
  cases rest with
  | nil => exact hr rfl
  | cons p r =>
    rw [List.flatMap_cons] at he
    have := (hpc p (i5 p (.head _))).len
    rw [ls_len, (List.append_eq_nil_iff.mp he).1] at this
    simp at this
end Mine

namespace Mine
def isB (c : Nat) : Bool := c == 13 || c == 10
def crlf (c : Nat) (r : List Nat) : Bool := c == 13 && r.head? == some 10
def nxt (c : Nat) (r : List Nat) (cur : Nat) : Nat := if crlf c r = true then cur + 2 else cur + 1
def spn (n : Nat) : Nat → Nat → List Nat → List (Nat × Nat × Nat)
  | start, _, [] => if start < n then [(start, n, n)] else []
  | start, cur, c :: r => if (decide (start ≤ cur) && isB c) = true then (start, cur, nxt c r cur) :: spn n (nxt c r cur) (cur + 1) r else spn n start (cur + 1) r
theorem getD_ls (s : Str) (i : Nat) : s.cps.getD i 0 = (ls s).getD i 0 := by
  rw [List.getD_eq_getElem?_getD, Array.getElem?_toList, Array.getD_eq_getD_getElem?]
theorem spn_run (s : Str) (hb : ∀ c ∈ ls s, Unicode.isLineBreak c = isB c) : ∀ (m cur : Nat) (st : StrLaws.LsSt), cur + m = s.length →
    StrLaws.lsEnd s (Id.run (forIn (m := Id) (List.range' cur m) st (StrLaws.lsBody s))) = st.1.toList ++ spn s.length st.2 cur ((ls s).drop cur)
  | 0, cur, (lines, start), h => by
    rw [List.drop_eq_nil_of_le (by rw [← ls_len]; omega)]
    show StrLaws.lsEnd s (lines, start) = lines.toList ++ (if start < s.length then [(start, s.length, s.length)] else [])
    unfold StrLaws.lsEnd
    dsimp only
    split
    · rw [Array.toList_push]
    · rw [List.append_nil]
  | m + 1, cur, (lines, start), h => by
    have hlt : cur < (ls s).length := by rw [← ls_len]; omega
    have hd : (ls s).drop cur = (ls s)[cur] :: (ls s).drop (cur + 1) := List.drop_eq_getElem_cons hlt
    have hg : s.cps.getD cur 0 = (ls s)[cur] := by
      rw [getD_ls, List.getD_eq_getElem?_getD, List.getElem?_eq_getElem hlt]; rfl
    have hx : StrLaws.lsNext s cur = nxt (ls s)[cur] ((ls s).drop (cur + 1)) cur := by
      unfold StrLaws.lsNext nxt crlf
      rw [hg, List.head?_drop, Array.getElem?_toList]
    rw [List.range'_succ, List.forIn_cons]
    have hbr := hb _ (List.getElem_mem hlt)
    rw [hd]
    unfold spn
    unfold StrLaws.lsBody
    rw [hg, hbr, hx]
    by_cases hc : (decide (start ≤ cur) && isB (ls s)[cur]) = true
    · simp only [hc, if_true]
      have ih := spn_run s hb m (cur + 1) (lines.push (start, cur, nxt (ls s)[cur] ((ls s).drop (cur + 1)) cur), nxt (ls s)[cur] ((ls s).drop (cur + 1)) cur) (by omega)
      rw [Array.toList_push, List.append_assoc] at ih
      exact ih
    · simp only [hc]
      exact spn_run s hb m (cur + 1) (lines, start) (by omega)
theorem lines_spn {s : Str} (hb : ∀ c ∈ ls s, Unicode.isLineBreak c = isB c) : Txt.lines s = (spn s.length 0 0 (ls s)).map fun p => mkS (((ls s).drop p.1).take (p.2.1 - p.1)) := by
  have e0 : Builtin.Str.lineSpans s = spn s.length 0 0 (ls s) := by
    rw [StrLaws.ls_eq, spn_run s hb s.length 0 (#[], 0) (by omega)]
    rfl
  have e1 : linesOf s = (spn s.length 0 0 (ls s)).map fun p => mkS (((ls s).drop p.1).take (p.2.1 - p.1)) := by
    unfold linesOf lineCuts
    rw [e0, List.map_map]
    apply List.map_congr_left
    intro ⟨i, j, k⟩ _
    apply str_ext
    exact StrLaws.strSub_toList s i j
  unfold Txt.lines
  split
  · rename_i h
    rw [← e1]
    have h' : lineCuts s = [(0, s.length)] := by simpa using h
    unfold linesOf
    rw [h']
    simp [StrLaws.sub_whole]
  · exact e1
/-- the lines behind what is pending; the flag: the sign that follows is the LF of a CRLF -/
def spl : List Nat → Bool → List Nat → List (List Nat)
  | pend, _, [] => if pend = [] then [] else [pend]
  | _, true, _ :: r => spl [] false r
  | pend, false, c :: r => if isB c = true then pend :: spl [] (crlf c r) r else spl (pend ++ [c]) false r
theorem spn_spl {l : List Nat} : ∀ (r : List Nat) (cur start : Nat) (pend : List Nat) (skip : Bool), l.drop cur = r → cur ≤ l.length →
    (skip = false → start ≤ cur ∧ pend = (l.drop start).take (cur - start)) → (skip = true → start = cur + 1 ∧ pend = [] ∧ r ≠ []) →
    ((spn l.length start cur r).map fun p => (l.drop p.1).take (p.2.1 - p.1)) = spl pend skip r
  | [], cur, start, pend, skip, hr, hcl, h0, h1 => by
    have hcur : cur = l.length := by
      have := congrArg List.length hr
      rw [List.length_drop] at this
      simp at this
      omega
    cases skip with
    | true => exact absurd rfl (h1 rfl).2.2
    | false =>
      obtain ⟨a, b⟩ := h0 rfl
      unfold spn spl
      rw [hcur, List.take_of_length_le (by rw [List.length_drop]; omega)] at b
      by_cases hs : start < l.length
      · rw [if_pos hs, if_neg (by rw [b]; intro he; have := congrArg List.length he; rw [List.length_drop] at this; simp at this; omega)]
        simp only [List.map_cons, List.map_nil]
        rw [b, List.take_of_length_le (by rw [List.length_drop]; omega)]
      · rw [if_neg hs, if_pos (by rw [b]; exact List.drop_eq_nil_of_le (by omega))]
        rfl
  | c :: r, cur, start, pend, skip, hr, hcl, h0, h1 => by
    have hlt : cur < l.length := by
      have := congrArg List.length hr
      rw [List.length_drop] at this
      simp at this
      omega
    have hr' : l.drop (cur + 1) = r := by
      have := congrArg List.tail hr
      rw [List.tail_drop] at this
      exact this
    have hc : l[cur]? = some c := by rw [← List.head?_drop, hr]; rfl
    cases skip with
    | true =>
      obtain ⟨a, b, _⟩ := h1 rfl
      unfold spn spl
      rw [if_neg (by simp; omega)]
      refine spn_spl r (cur + 1) start [] false hr' (by omega) (fun _ => ⟨by omega, ?_⟩) (fun h => by cases h)
      rw [a, Nat.sub_self, List.take_zero]
    | false =>
      obtain ⟨a, b⟩ := h0 rfl
      unfold spn spl
      by_cases hb : isB c = true
      · rw [if_pos (by simp [a, hb]), if_pos hb, List.map_cons, ← b]
        congr 1
        refine spn_spl r (cur + 1) _ [] (crlf c r) hr' (by omega) (fun hk => ?_) (fun hk => ?_)
        · have e : nxt c r cur = cur + 1 := by unfold nxt; rw [hk]; rfl
          rw [e]
          exact ⟨Nat.le_refl _, by simp⟩
        · have e : nxt c r cur = cur + 2 := by unfold nxt; rw [hk]; rfl
          rw [e]
          refine ⟨rfl, rfl, ?_⟩
          rintro rfl
          simp [crlf] at hk
      · rw [if_neg (by simp [hb]), if_neg hb]
        refine spn_spl r (cur + 1) start (pend ++ [c]) false hr' (by omega) (fun _ => ⟨by omega, ?_⟩) (fun h => by cases h)
        rw [b, show cur + 1 - start = (cur - start) + 1 by omega, List.take_add_one, List.getElem?_drop, show start + (cur - start) = cur by omega, hc]
        rfl
theorem lines_spl {s : Str} (hb : ∀ c ∈ ls s, Unicode.isLineBreak c = isB c) : Txt.lines s = (spl [] false (ls s)).map mkS := by
  rw [lines_spn hb, ← spn_spl (l := ls s) (ls s) 0 0 [] false rfl (Nat.zero_le _) (fun _ => ⟨Nat.le_refl _, by simp⟩) (fun h => by cases h), List.map_map, ls_len]
  rfl
end Mine

namespace Mine
def encL1 (l : List Nat) : List Nat := l.flatMap fun c => ls (encCh c)
def encP (l : List Nat) : List Nat := (l.map lawPiece).flatMap ls
theorem ls_encTx (x : Str) : ls (encTx x) = encL1 (ls x) := rfl
theorem encP_nil : encP [] = [] := rfl
theorem encP_snoc (l : List Nat) (c : Nat) : encP (l ++ [c]) = encP l ++ ls (lawPiece c) := by unfold encP; simp
theorem piece_ne (c : Nat) : ls (lawPiece c) ≠ [] := by rw [ls_lawPiece]; split <;> simp
theorem encP_eq_nil {l : List Nat} : encP l = [] ↔ l = [] := by
  cases l with
  | nil => simp [encP]
  | cons c r =>
    refine ⟨fun h => ?_, fun h => by cases h⟩
    unfold encP at h
    rw [List.map_cons, List.flatMap_cons] at h
    exact absurd (List.append_eq_nil_iff.mp h).1 (piece_ne c)
theorem isB_iff (c : Nat) : isB c = true ↔ c = 13 ∨ c = 10 := by unfold isB; simp
theorem hexd_lo (d : Nat) : 48 ≤ hexd d := by unfold hexd; split <;> omega
theorem hexd_hi (d : Nat) (h : d < 16) : hexd d ≤ 70 := by unfold hexd; split <;> omega
theorem piece_nb {c : Nat} (h : isB c = false) : ∀ d ∈ ls (lawPiece c), isB d = false := by
  rw [ls_lawPiece]
  intro d hd
  split at hd
  · simp at hd; subst hd; exact h
  · simp only [List.mem_cons, List.not_mem_nil, or_false] at hd
    rcases hd with rfl | rfl | rfl
    · rfl
    · have := hexd_lo (c / 16); unfold isB; simp; omega
    · have := hexd_lo (c % 16); unfold isB; simp; omega
theorem encCh_b {c : Nat} (h : isB c = true) : ls (encCh c) = [c] := by
  unfold encCh
  rw [if_pos ((isB_iff c).mp h)]
theorem encCh_nb {c : Nat} (h : isB c = false) : ls (encCh c) = ls (lawPiece c) := by
  unfold encCh
  rw [if_neg (fun hh => by rw [(isB_iff c).mpr hh] at h; cases h)]
theorem encL1_cons (c : Nat) (r : List Nat) : encL1 (c :: r) = ls (encCh c) ++ encL1 r := by unfold encL1; simp
theorem head_enc (r : List Nat) : ((encL1 r).head? == some 10) = (r.head? == some 10) := by
  cases r with
  | nil => rfl
  | cons c r =>
    rw [encL1_cons]
    cases hb : isB c with
    | true => rw [encCh_b hb]; rfl
    | false =>
      rw [encCh_nb hb]
      have h1 : ((c :: r).head? == some 10) = false := by
        have : c ≠ 10 := fun e => by subst e; cases hb
        simp [this]
      rw [h1]
      cases hp : ls (lawPiece c) with
      | nil => exact absurd hp (piece_ne c)
      | cons d t =>
        have : isB d = false := piece_nb hb d (by rw [hp]; exact .head _)
        have : d ≠ 10 := fun e => by subst e; cases this
        simp [this]
theorem crlf_enc (c : Nat) (r : List Nat) : crlf c (encL1 r) = crlf c r := by unfold crlf; rw [head_enc]
theorem spl_run : ∀ (u pend t : List Nat), (∀ d ∈ u, isB d = false) → spl pend false (u ++ t) = spl (pend ++ u) false t
  | [], pend, t, _ => by simp
  | d :: u, pend, t, h => by
    rw [List.cons_append]
    conv => lhs; unfold spl
    rw [if_neg (by rw [h d (.head _)]; simp), spl_run u (pend ++ [d]) t fun x hx => h x (.tail _ hx)]
    simp
theorem spl_enc : ∀ (r pend : List Nat) (skip : Bool), (skip = true → r.head? = some 10) → spl (encP pend) skip (encL1 r) = (spl pend skip r).map encP
  | [], pend, skip, _ => by
    show spl (encP pend) skip [] = _
    unfold spl
    by_cases h : pend = []
    · rw [if_pos h, if_pos (encP_eq_nil.mpr h)]; rfl
    · rw [if_neg h, if_neg (fun e => h (encP_eq_nil.mp e))]; rfl
  | c :: r, pend, true, hk => by
    have hc : c = 10 := by simpa using hk rfl
    subst hc
    rw [encL1_cons, encCh_b (by rfl)]
    show spl [] false (encL1 r) = _
    conv => rhs; unfold spl
    exact spl_enc r [] false (fun h => by cases h)
  | c :: r, pend, false, _ => by
    rw [encL1_cons]
    cases hb : isB c with
    | true =>
      rw [encCh_b hb]
      show spl (encP pend) false (c :: encL1 r) = _
      unfold spl
      rw [if_pos hb, if_pos hb, List.map_cons, crlf_enc]
      congr 1
      exact spl_enc r [] (crlf c r) (fun h => by unfold crlf at h; simp at h; exact h.2)
    | false =>
      rw [encCh_nb hb, spl_run _ _ _ (piece_nb hb), ← encP_snoc, spl_enc r (pend ++ [c]) false (fun h => by cases h)]
      conv => rhs; unfold spl
      rw [if_neg (by rw [hb]; simp)]
/- the same with the open end always told -/
def spa : List Nat → Bool → List Nat → List (List Nat)
  | pend, _, [] => [pend]
  | _, true, _ :: r => spa [] false r
  | pend, false, c :: r => if isB c = true then pend :: spa [] (crlf c r) r else spa (pend ++ [c]) false r
def openAt : List Nat → Bool → List Nat → List Nat
  | pend, _, [] => pend
  | _, true, _ :: r => openAt [] false r
  | pend, false, c :: r => if isB c = true then openAt [] (crlf c r) r else openAt (pend ++ [c]) false r
theorem spa_spl : ∀ (r pend : List Nat) (skip : Bool), spa pend skip r = spl pend skip r ++ (if openAt pend skip r = [] then [[]] else [])
  | [], pend, skip => by
    unfold spa spl openAt
    by_cases h : pend = []
    · rw [if_pos h, if_pos h, h]; rfl
    · rw [if_neg h, if_neg h]; rfl
  | c :: r, pend, true => by
    unfold spa spl openAt
    exact spa_spl r [] false
  | c :: r, pend, false => by
    unfold spa spl openAt
    split
    · rw [spa_spl r [] (crlf c r)]; rfl
    · exact spa_spl r (pend ++ [c]) false
theorem open_last : ∀ (r pend : List Nat) (skip : Bool) (c : Nat), (skip = true → (r ++ [c]).head? = some 10) → (openAt pend skip (r ++ [c]) = [] ↔ isB c = true)
  | [], pend, true, c, h => by
    have : c = 10 := by simpa using h rfl
    subst this
    simp [openAt, isB]
  | [], pend, false, c, _ => by
    show openAt pend false [c] = [] ↔ _
    unfold openAt
    split
    · rename_i hb; simp [openAt, hb]
    · rename_i hb; simp [openAt, hb]
  | d :: r, pend, true, c, h => by
    show openAt pend true (d :: (r ++ [c])) = [] ↔ _
    unfold openAt
    exact open_last r [] false c (fun h => by cases h)
  | d :: r, pend, false, c, _ => by
    show openAt pend false (d :: (r ++ [c])) = [] ↔ _
    unfold openAt
    split
    · exact open_last r [] _ c (fun h => by unfold crlf at h; simp only [Bool.and_eq_true, beq_iff_eq] at h; exact h.2)
    · exact open_last r (pend ++ [d]) false c (fun h => by cases h)
/-- what is told of what is pending and of what follows -/
noncomputable def tell (width : Int) (eol : Str) : List Nat → Bool → List Nat → Str
  | pend, _, [] => lineW width eol pend
  | _, true, _ :: r => tell width eol [] false r
  | pend, false, c :: r => if isB c = true then lineW width eol pend ++ eol ++ tell width eol [] (crlf c r) r else tell width eol (pend ++ [c]) false r
theorem spa_ne (r pend : List Nat) (skip : Bool) : spa pend skip r ≠ [] := by
  rw [spa_spl]
  induction r generalizing pend skip with
  | nil => unfold spl openAt; by_cases h : pend = [] <;> simp [h]
  | cons c r ih =>
    cases skip with
    | true => unfold spl openAt; exact ih [] false
    | false =>
      unfold spl openAt
      split
      · simp
      · exact ih _ _
theorem parts_ne (width : Int) (eol line : Str) : lineParts width eol line ≠ [] := by unfold lineParts; simp
theorem join_spa {width : Int} {eol : Str} (hw : 4 ≤ width) : ∀ (r pend : List Nat) (skip : Bool), (∀ c ∈ pend, c < 256) → (∀ c ∈ r, c < 256) →
    Txt.join eol ((spa pend skip r).flatMap fun l => lineParts width eol (mkS (encP l))) = tell width eol pend skip r
  | [], pend, skip, hp, _ => by
    show Txt.join eol (List.flatMap _ [pend]) = lineW width eol pend
    rw [List.flatMap_singleton]
    exact line_eq hw rfl hp
  | c :: r, pend, true, _, hr => by
    unfold spa tell
    exact join_spa hw r [] false (by simp) fun x hx => hr x (.tail _ hx)
  | c :: r, pend, false, hp, hr => by
    unfold spa tell
    split
    · have hne : ((spa [] (crlf c r) r).flatMap fun l => lineParts width eol (mkS (encP l))) ≠ [] := by
        have := spa_ne r [] (crlf c r)
        cases hs : spa [] (crlf c r) r with
        | nil => exact absurd hs this
        | cons a b => rw [List.flatMap_cons]; simp [parts_ne]
      rw [List.flatMap_cons, join_app eol _ (parts_ne _ _ _) hne, join_spa hw r [] (crlf c r) (by simp) fun x hx => hr x (.tail _ hx), line_eq hw rfl hp]
    · refine join_spa hw r (pend ++ [c]) false (fun x hx => ?_) fun x hx => hr x (.tail _ hx)
      rcases List.mem_append.mp hx with h | h
      · exact hp x h
      · simp at h; subst h; exact hr _ (.head _)
theorem brk_small : ((List.range 127).all fun c => (!(c == 9 || c == 13 || c == 10 || Nat.ble 32 c)) || (Unicode.isLineBreak c == isB c)) = true := by decide +kernel
theorem brk_enc {l : List Nat} (h : ∀ c ∈ l, c < 256) : ∀ d ∈ encL1 l, Unicode.isLineBreak d = isB d := by
  intro d hd
  obtain ⟨c, hc, hd⟩ := List.mem_flatMap.mp hd
  have key : d < 127 ∧ (d = 9 ∨ d = 13 ∨ d = 10 ∨ 32 ≤ d) := by
    cases hb : isB c with
    | true =>
      rw [encCh_b hb] at hd
      simp at hd
      have := (isB_iff c).mp hb
      omega
    | false =>
      rw [encCh_nb hb, ls_lawPiece] at hd
      have h256 := h c hc
      split at hd
      · simp at hd; omega
      · simp only [List.mem_cons, List.not_mem_nil, or_false] at hd
        rcases hd with rfl | rfl | rfl
        · omega
        · have := hexd_lo (c / 16); have := hexd_hi (c / 16) (by omega); omega
        · have := hexd_lo (c % 16); have := hexd_hi (c % 16) (by omega); omega
  have := List.all_eq_true.mp brk_small d (List.mem_range.mpr key.1)
  rw [Bool.or_eq_true] at this
  rcases this with this | this
  · exfalso
    have hk := key.2
    simp only [Bool.not_eq_true', Bool.or_eq_false_iff, beq_eq_false_iff_ne, ne_eq] at this
    have h32 : ¬ 32 ≤ d := fun hh => by rw [Nat.ble_eq_true_of_le hh] at this; cases this.2
    omega
  · exact eq_of_beq this
theorem enc_last {l : List Nat} {c : Nat} : ∃ u d, encL1 (l ++ [c]) = u ++ [d] ∧ isB d = isB c := by
  have e : encL1 (l ++ [c]) = encL1 l ++ ls (encCh c) := by unfold encL1; simp
  rw [e]
  cases hb : isB c with
  | true => rw [encCh_b hb]; exact ⟨_, c, rfl, hb⟩
  | false =>
    rw [encCh_nb hb]
    have hne := piece_ne c
    refine ⟨encL1 l ++ (ls (lawPiece c)).dropLast, (ls (lawPiece c)).getLast hne, by rw [List.append_assoc, List.dropLast_concat_getLast], ?_⟩
    exact piece_nb hb _ (List.getLast_mem hne)
theorem parts_empty (width : Int) (eol : Str) (hw : 4 ≤ width) : lineParts width eol Str.empty = [Str.ofString ""] := by
  have h0 : lineLoop width Str.empty 0 = ([], 0) := lineLoop_end (by show ¬ (0 : Int) ≤ ((0 : Nat) : Int) - 1 - width; omega)
  unfold lineParts
  rw [h0]
  have h1 : lastPart width eol Str.empty 0 = Str.ofString "" := by
    unfold lastPart
    rw [if_neg (endsWs_nil rfl)]
    have := sliceTo (x := Str.empty) (pre := []) (u := []) rfl
    rw [show (0 : Int) = (([] : List Nat).length : Int) from rfl, this, ofs_nil]
    rfl
  show [] ++ [lastPart width eol Str.empty 0] = _
  rw [h1]
  rfl
/-- body_encode, line by line -/
theorem encB_tell {text : Str} {width : Int} {eol : Str} (hw : 4 ≤ width) (h256 : ∀ c ∈ ls text, c < 256) : encB text width eol = tell width eol [] false (ls text) := by
  unfold encB
  by_cases h0 : text.length = 0
  · have hz : ls text = [] := List.length_eq_zero_iff.mp (by rw [← ls_len, h0])
    rw [if_pos h0, hz]
    show text = lineW width eol []
    unfold lineW
    rw [List.map_nil, putLoop_end (by rw [total_nil]; omega), told_nil]
    exact str_ext hz
  · rw [if_neg h0]
    have hne : ls text ≠ [] := fun e => h0 (by rw [ls_len, e]; rfl)
    obtain ⟨l, c, hlc⟩ : ∃ l c, ls text = l ++ [c] := ⟨_, _, (List.dropLast_concat_getLast hne).symm⟩
    obtain ⟨u, d, hud, hdc⟩ := enc_last (l := l) (c := c)
    have hE : ls (encTx text) = u ++ [d] := by rw [ls_encTx, hlc, hud]
    have hL : Txt.lines (encTx text) = (spl [] false (ls text)).map fun x => mkS (encP x) := by
      rw [lines_spl (by rw [ls_encTx]; exact brk_enc h256), ls_encTx]
      have := spl_enc (ls text) [] false (fun h => by cases h)
      rw [encP_nil] at this
      rw [this, List.map_map]
      rfl
    have hO := open_last l [] false c (fun h => by cases h)
    rw [← hlc] at hO
    have hJ := join_spa (eol := eol) hw (ls text) [] false (by simp) h256
    rw [spa_spl, List.flatMap_append] at hJ
    rw [hL, List.flatMap_map]
    have hN := endsNl_iff hE
    by_cases hb : isB c = true
    · rw [if_pos (hN.mpr ((isB_iff d).mp (hdc.trans hb)))]
      rw [if_pos (hO.mpr hb), List.flatMap_singleton] at hJ
      have e : lineParts width eol (mkS (encP [])) = [Str.ofString ""] := parts_empty width eol hw
      rw [e] at hJ
      exact hJ
    · rw [if_neg (fun h => hb (hdc.symm.trans ((isB_iff d).mpr (hN.mp h))))]
      rw [if_neg (fun h => hb (hO.mp h)), List.flatMap_nil, List.append_nil] at hJ
      exact hJ
end Mine

namespace Mine
theorem fit_snoc {room : Int} {ps : List Str} (p : Str) (h : fit room ps < ps.length) : fit room (ps ++ [p]) = fit room ps := by
  induction ps generalizing room with
  | nil => simp at h
  | cons q r ih =>
    rw [List.cons_append]
    unfold fit
    unfold fit at h
    split
    · rename_i hq
      rw [if_pos hq, List.length_cons] at h
      rw [ih (room := room - q.length) (by omega)]
    · rfl
theorem fit_lt {room : Int} (h0 : 0 ≤ room) {ps : List Str} (h : room < total ps) : fit room ps < ps.length := by
  obtain ⟨p, t, h1, _⟩ := fit_next h0 ps h
  have := congrArg List.length h1
  rw [List.length_drop, List.length_cons] at this
  omega
/-- one more piece: the loop over all pieces, or over what is left -/
theorem put_snoc {width : Int} {eol : Str} (hw : 4 ≤ width) (p : Str) : ∀ (n : Nat) (ps : List Str) (closed : Str), ps.length ≤ n → (∀ q ∈ ps, IsPc q) →
    putLoop width eol (putLoop width eol closed ps).1 ((putLoop width eol closed ps).2 ++ [p]) = putLoop width eol closed (ps ++ [p])
  | 0, ps, closed, hn, _ => by
    have : ps = [] := List.length_eq_zero_iff.mp (by omega)
    subst this
    rw [putLoop_end (closed := closed) (ps := []) (by rw [total_nil]; omega)]
  | n + 1, ps, closed, hn, hpc => by
    by_cases ht : width < total ps
    · have hne : ps ≠ [] := by
        rintro rfl
        rw [total_nil] at ht
        omega
      have hf := fit_pos (room := width - 1) (by omega) hpc hne
      have hlt := fit_lt (room := width - 1) (by omega) (ps := ps) (by omega)
      have hfs := fit_snoc (room := width - 1) p hlt
      have ht' : width < total (ps ++ [p]) := by rw [total_app, total_cons, total_nil]; omega
      rw [putLoop_cut ⟨ht, hf, hne⟩, putLoop_cut (ps := ps ++ [p]) ⟨ht', by rw [hfs]; exact hf, by simp⟩, hfs, List.take_append_of_le_length (by omega), List.drop_append_of_le_length (by omega)]
      exact put_snoc hw p n _ _ (by rw [List.length_drop]; omega) fun q hq => hpc q (List.mem_of_mem_drop hq)
    · rw [putLoop_end (ps := ps) (by omega)]
theorem pcs {l : List Nat} (h : ∀ c ∈ l, c < 256) : ∀ p ∈ l.map lawPiece, IsPc p := fun p hp => by
  obtain ⟨c, hc, rfl⟩ := List.mem_map.mp hp
  exact isPc_piece c (h c hc)
abbrev CR : Str := Str.ofString "\x0d"
theorem cr_eq : CR = mkS [13] := by decide +kernel
theorem one_cr (c : Nat) : ((⟨#[c]⟩ : Str) = Str.ofString "\x0d") ↔ c = 13 := by
  have e : Str.ofString "\x0d" = ⟨#[13]⟩ := by decide +kernel
  rw [e]; simp
theorem one_lf (c : Nat) : ((⟨#[c]⟩ : Str) = Str.ofString "\n") ↔ c = 10 := by
  have e : Str.ofString "\n" = ⟨#[10]⟩ := by decide +kernel
  rw [e]; simp
theorem step_end {width : Int} {eol : Str} {st : Str × List Str × Str} {c : Nat} (h : c = 13 ∨ (c = 10 ∧ st.2.2 ≠ CR)) : wStep width eol st c = (lawTold st.1 st.2.1 width eol ++ eol, [], ⟨#[c]⟩) := by
  unfold wStep
  rw [if_pos (h.imp (one_cr c).mpr fun hh => ⟨(one_lf c).mpr hh.1, hh.2⟩)]
theorem step_skip {width : Int} {eol : Str} {st : Str × List Str × Str} (h : st.2.2 = CR) : wStep width eol st 10 = (st.1, st.2.1, ⟨#[10]⟩) := by
  unfold wStep
  rw [if_neg (fun hh => hh.elim (fun e => by have := (one_cr 10).mp e; omega) fun e => e.2 h), if_neg (fun hh => hh ((one_lf 10).mpr rfl))]
theorem step_put {width : Int} {eol : Str} {st : Str × List Str × Str} {c : Nat} (h : isB c = false) : wStep width eol st c = ((putLoop width eol st.1 (st.2.1 ++ [lawPiece c])).1, (putLoop width eol st.1 (st.2.1 ++ [lawPiece c])).2, ⟨#[c]⟩) := by
  have h' : ¬ (c = 13 ∨ c = 10) := fun hh => by rw [(isB_iff c).mpr hh] at h; cases h
  unfold wStep
  rw [if_neg (fun hh => hh.elim (fun e => h' (.inl ((one_cr c).mp e))) fun e => h' (.inr ((one_lf c).mp e.1))), if_pos (fun e => h' (.inr ((one_lf c).mp e)))]
noncomputable def stP (width : Int) (eol closed : Str) (pend : List Nat) (before : Str) : Str × List Str × Str := ((putLoop width eol closed (pend.map lawPiece)).1, (putLoop width eol closed (pend.map lawPiece)).2, before)
theorem told_stP {width : Int} {eol closed : Str} (hw : 4 ≤ width) {pend : List Nat} (hp : ∀ c ∈ pend, c < 256) (before : Str) : lawTold (stP width eol closed pend before).1 (stP width eol closed pend before).2.1 width eol = closed ++ lineW width eol pend := by
  unfold stP lineW
  dsimp only
  rw [put_pre eol hw (pcs hp) closed, told_pre, told_pre (putLoop width eol Str.empty (pend.map lawPiece)).1, app_assoc]
theorem step_stP {width : Int} {eol closed : Str} (hw : 4 ≤ width) {pend : List Nat} (hp : ∀ c ∈ pend, c < 256) (before : Str) {c : Nat} (h : isB c = false) : wStep width eol (stP width eol closed pend before) c = stP width eol closed (pend ++ [c]) ⟨#[c]⟩ := by
  rw [step_put h]
  unfold stP
  dsimp only
  rw [put_snoc hw (lawPiece c) _ _ closed (Nat.le_refl _) (pcs hp), List.map_append]
  rfl
/-- the writer, from any state on -/
theorem run_tell {width : Int} {eol : Str} (hw : 4 ≤ width) : ∀ (r pend : List Nat) (skip : Bool) (closed before : Str), (∀ c ∈ pend, c < 256) → (∀ c ∈ r, c < 256) →
    (skip = true → pend = [] ∧ before = CR ∧ r.head? = some 10) → (skip = false → ¬ (before = CR ∧ r.head? = some 10)) →
    lawTold (r.foldl (wStep width eol) (stP width eol closed pend before)).1 (r.foldl (wStep width eol) (stP width eol closed pend before)).2.1 width eol = closed ++ tell width eol pend skip r
  | [], pend, skip, closed, before, hp, _, _, _ => told_stP hw hp before
  | c :: r, pend, true, closed, before, hp, hr, h1, _ => by
    obtain ⟨rfl, hb, hc⟩ := h1 rfl
    have hc : c = 10 := by simpa using hc
    subst hc
    rw [List.foldl_cons, step_skip (st := stP width eol closed [] before) hb]
    show lawTold (List.foldl _ (stP width eol closed [] ⟨#[10]⟩) r).1 _ _ _ = _
    unfold tell
    exact run_tell hw r [] false closed _ (by simp) (fun x hx => hr x (.tail _ hx)) (fun h => by cases h) (fun _ h => by have := (one_cr 10).mp h.1; omega)
  | c :: r, pend, false, closed, before, hp, hr, _, h2 => by
    rw [List.foldl_cons]
    unfold tell
    by_cases hb : isB c = true
    · rw [if_pos hb]
      have hor : c = 13 ∨ (c = 10 ∧ (stP width eol closed pend before).2.2 ≠ CR) := by
        rcases (isB_iff c).mp hb with h | h
        · exact .inl h
        · exact .inr ⟨h, fun e => h2 rfl ⟨e, by rw [h]; rfl⟩⟩
      rw [step_end hor, told_stP hw hp before]
      have e : ((closed ++ lineW width eol pend ++ eol, [], ⟨#[c]⟩) : Str × List Str × Str) = stP width eol (closed ++ lineW width eol pend ++ eol) [] ⟨#[c]⟩ := by
        unfold stP
        rw [List.map_nil, putLoop_end (by rw [total_nil]; omega)]
      rw [e, run_tell hw r [] (crlf c r) _ _ (by simp) (fun x hx => hr x (.tail _ hx)) (fun h => ?_) (fun h hh => ?_)]
      · simp only [app_assoc]
      · unfold crlf at h
        simp only [Bool.and_eq_true, beq_iff_eq] at h
        exact ⟨rfl, (one_cr c).mpr h.1, h.2⟩
      · have h13 := (one_cr c).mp hh.1
        unfold crlf at h
        rw [h13, hh.2] at h
        simp at h
    · rw [if_neg hb]
      have hb' : isB c = false := by simpa using hb
      rw [step_stP hw hp before hb']
      refine run_tell hw r (pend ++ [c]) false closed _ (fun x hx => ?_) (fun x hx => hr x (.tail _ hx)) (fun h => by cases h) (fun _ hh => ?_)
      · rcases List.mem_append.mp hx with h | h
        · exact hp x h
        · simp at h; subst h; exact hr _ (.head _)
      · have := (one_cr c).mp hh.1
        subst this
        cases hb'
theorem wRun_stP (width : Int) (eol : Str) (hw : 4 ≤ width) (l : List Nat) : wRun width eol l = l.foldl (wStep width eol) (stP width eol Str.empty [] (Str.ofString "")) := by
  unfold wRun stP
  rw [List.map_nil, putLoop_end (by rw [total_nil]; omega), ofs_nil]
theorem empty_ne_cr : Str.ofString "" ≠ CR := by decide +kernel
/-- (A): what body_encode gives of a text is what the writer tells of it -/
theorem law_A {width : Int} {eol text : Str} (hw : 4 ≤ width) (h256 : ∀ c ∈ ls text, c < 256) : encB text width eol = lawTold (wRun width eol (ls text)).1 (wRun width eol (ls text)).2.1 width eol := by
  rw [encB_tell hw h256, wRun_stP width eol hw, run_tell hw (ls text) [] false _ _ (by simp) h256 (fun h => by cases h) (fun _ h => empty_ne_cr h.1), nil_app]

/- what is open: the pieces of the last signs, none a line end, no more than a row holds -/
theorem put_drop {width : Int} {eol : Str} : ∀ (n : Nat) (ps : List Str) (closed : Str), ps.length ≤ n → ∃ k, k ≤ ps.length ∧ (putLoop width eol closed ps).2 = ps.drop k
  | 0, ps, closed, hn => by
    have : ps = [] := List.length_eq_zero_iff.mp (by omega)
    subst this
    rw [putLoop, dif_neg (fun h => h.2.2 rfl)]
    exact ⟨0, by simp, by simp⟩
  | n + 1, ps, closed, hn => by
    by_cases h : width < total ps ∧ 0 < fit (width - 1) ps ∧ ps ≠ []
    · rw [putLoop_cut h]
      have hl := fit_le (width - 1) ps
      obtain ⟨k, hk, e⟩ := put_drop (width := width) (eol := eol) n (ps.drop (fit (width - 1) ps)) (closed ++ Txt.join (Str.ofString "") (ps.take (fit (width - 1) ps)) ++ Str.ofString "=" ++ eol) (by rw [List.length_drop]; have := List.length_pos_iff.mpr h.2.2; omega)
      refine ⟨fit (width - 1) ps + k, by rw [List.length_drop] at hk; omega, by rw [e, List.drop_drop]⟩
    · rw [putLoop, dif_neg h]
      exact ⟨0, by simp, by simp⟩
theorem put_total {width : Int} (eol : Str) (hw : 4 ≤ width) {ps : List Str} (hpc : ∀ p ∈ ps, IsPc p) (closed : Str) : total (putLoop width eol closed ps).2 ≤ width := by
  obtain ⟨cs, rest, pre', i1, i2, i3, i4, i5, i5a, i5b, i6⟩ := loops (eol := eol) (line := mkS (ps.flatMap ls)) hw ps.length ps [] (Nat.le_refl _) hpc rfl
  rw [i6]
  exact i3
structure Inv (width : Int) (p : List Nat) (st : Str × List Str × Str) : Prop where
  ex : ∃ hd tl, p = hd ++ tl ∧ st.2.1 = tl.map lawPiece ∧ (∀ c ∈ tl, isB c = false)
  tot : total st.2.1 ≤ width
  bef : ∀ hd c, p = hd ++ [c] → st.2.2 = ⟨#[c]⟩
theorem inv_step {width : Int} {eol : Str} (hw : 4 ≤ width) {p : List Nat} {st : Str × List Str × Str} (h : Inv width p st) (h256 : ∀ c ∈ p, c < 256) {c : Nat} (hc : c < 256) : Inv width (p ++ [c]) (wStep width eol st c) := by
  have hbef : ∀ (x : Str × List Str × Str), x.2.2 = ⟨#[c]⟩ → ∀ hd c', p ++ [c] = hd ++ [c'] → x.2.2 = ⟨#[c']⟩ := fun x hx hd c' e => by
    have := (List.append_inj_right' e rfl)
    cases this
    exact hx
  by_cases h1 : c = 13 ∨ (c = 10 ∧ st.2.2 ≠ CR)
  · rw [step_end h1]
    exact ⟨⟨p ++ [c], [], by simp, rfl, by simp⟩, by show total [] ≤ width; rw [total_nil]; omega, hbef _ rfl⟩
  · by_cases hb : isB c = true
    · have hc10 : c = 10 ∧ st.2.2 = CR := by
        rcases (isB_iff c).mp hb with e | e
        · exact absurd (.inl e) h1
        · exact ⟨e, Decidable.byContradiction fun hh => h1 (.inr ⟨e, hh⟩)⟩
      obtain ⟨rfl, hcr⟩ := hc10
      rw [step_skip hcr]
      obtain ⟨hd, tl, e1, e2, e3⟩ := h.ex
      have htl : tl = [] := by
        rcases List.eq_nil_or_concat tl with e | ⟨t, d, e⟩
        · exact e
        · rw [List.concat_eq_append] at e
          subst e
          have := h.bef (hd ++ t) d (by rw [e1, List.append_assoc])
          rw [hcr] at this
          have hd13 := (one_cr d).mp this.symm
          have := e3 d (by simp)
          rw [hd13] at this
          cases this
      subst htl
      exact ⟨⟨p ++ [10], [], by simp, e2, by simp⟩, h.tot, hbef _ rfl⟩
    · have hb' : isB c = false := by simpa using hb
      rw [step_put hb']
      obtain ⟨hd, tl, e1, e2, e3⟩ := h.ex
      obtain ⟨k, hk, ek⟩ := put_drop (width := width) (eol := eol) _ (st.2.1 ++ [lawPiece c]) st.1 (Nat.le_refl _)
      have em : st.2.1 ++ [lawPiece c] = (tl ++ [c]).map lawPiece := by rw [e2, List.map_append]; rfl
      have h3 : ∀ x ∈ tl ++ [c], isB x = false := fun x hx => by
        rcases List.mem_append.mp hx with hh | hh
        · exact e3 x hh
        · simp at hh; subst hh; exact hb'
      refine ⟨⟨hd ++ (tl ++ [c]).take k, (tl ++ [c]).drop k, ?_, ?_, fun x hx => h3 x (List.mem_of_mem_drop hx)⟩, ?_, hbef _ rfl⟩
      · rw [List.append_assoc, List.take_append_drop, e1, List.append_assoc]
      · show (putLoop width eol st.1 (st.2.1 ++ [lawPiece c])).2 = _
        rw [ek, em, List.map_drop]
      · refine put_total eol hw ?_ _
        rw [em]
        refine pcs fun x hx => ?_
        rcases List.mem_append.mp hx with hh | hh
        · exact h256 x (by rw [e1]; exact List.mem_append.mpr (.inr hh))
        · simp at hh; subst hh; exact hc
theorem inv_run {width : Int} {eol : Str} (hw : 4 ≤ width) : ∀ (r p : List Nat) (st : Str × List Str × Str), Inv width p st → (∀ c ∈ p, c < 256) → (∀ c ∈ r, c < 256) → Inv width (p ++ r) (r.foldl (wStep width eol) st)
  | [], p, st, h, _, _ => by simpa using h
  | c :: r, p, st, h, hp, hr => by
    rw [List.foldl_cons]
    have := inv_run (eol := eol) hw r (p ++ [c]) _ (inv_step (eol := eol) hw h hp (hr c (.head _))) (fun x hx => by
      rcases List.mem_append.mp hx with hh | hh
      · exact hp x hh
      · simp at hh; subst hh; exact hr _ (.head _)) (fun x hx => hr x (.tail _ hx))
    rw [List.append_assoc] at this
    exact this
theorem inv_wRun {width : Int} {eol : Str} (hw : 4 ≤ width) {l : List Nat} (h : ∀ c ∈ l, c < 256) : Inv width l (wRun width eol l) := by
  have := inv_run (eol := eol) hw l [] (Str.ofString "", [], Str.ofString "") ⟨⟨[], [], rfl, rfl, by simp⟩, by show total [] ≤ width; rw [total_nil]; omega, fun hd c e => by simp at e⟩ (by simp) h
  rw [List.nil_append] at this
  exact this
theorem run_nb {width : Int} {eol closed : Str} (hw : 4 ≤ width) : ∀ (tl pend : List Nat) (before : Str), (∀ c ∈ pend, c < 256) → (∀ c ∈ tl, c < 256) → (∀ c ∈ tl, isB c = false) →
    ∃ b, tl.foldl (wStep width eol) (stP width eol closed pend before) = stP width eol closed (pend ++ tl) b ∧ (tl = [] → b = before) ∧ (tl ≠ [] → b ≠ CR)
  | [], pend, before, _, _, _ => ⟨before, by simp, fun _ => rfl, fun h => absurd rfl h⟩
  | c :: tl, pend, before, hp, ht, hb => by
    have hpc : ∀ x ∈ pend ++ [c], x < 256 := fun x hx => by
      rcases List.mem_append.mp hx with hh | hh
      · exact hp x hh
      · simp at hh; subst hh; exact ht _ (.head _)
    rw [List.foldl_cons, step_stP hw hp before (hb c (.head _))]
    obtain ⟨b, e, h0, h1⟩ := run_nb hw tl (pend ++ [c]) ⟨#[c]⟩ hpc (fun x hx => ht x (.tail _ hx)) (fun x hx => hb x (.tail _ hx))
    refine ⟨b, (e.trans (by rw [List.append_assoc]; rfl)), fun h => absurd h (List.cons_ne_nil _ _), fun _ => ?_⟩
    by_cases htl : tl = []
    · rw [h0 htl]
      intro e
      have := (one_cr c).mp e
      have hbc := hb c (.head _)
      rw [this] at hbc
      cases hbc
    · exact h1 htl
/-- (B): what is behind may be forgotten -/
theorem law_B {width : Int} {eol text rest : Str} (hw : 4 ≤ width) (h256 : ∀ c ∈ ls text, c < 256) {p s : List Nat} (hps : ls text = p ++ s)
    (hcr : ¬ (p.getLast? = some 13 ∧ s.head? = some 10)) (hrest : ls rest = (p.drop (p.length - (wRun width eol p).2.1.length)) ++ s) : (wRun width eol p).1 ++ encB rest width eol = encB text width eol := by
  have hp : ∀ c ∈ p, c < 256 := fun c h => h256 c (by rw [hps]; exact List.mem_append.mpr (.inl h))
  have hs : ∀ c ∈ s, c < 256 := fun c h => h256 c (by rw [hps]; exact List.mem_append.mpr (.inr h))
  have I := inv_wRun (eol := eol) hw hp
  obtain ⟨hd, tl, e1, e2, e3⟩ := I.ex
  have htl : p.drop (p.length - (wRun width eol p).2.1.length) = tl := by
    rw [e2, List.length_map]
    conv => lhs; rw [e1]
    rw [List.length_append, Nat.add_sub_cancel, List.drop_left]
  rw [htl] at hrest
  have htp : ∀ c ∈ tl, c < 256 := fun c h => hp c (by rw [e1]; exact List.mem_append.mpr (.inr h))
  have hr : ∀ c ∈ ls rest, c < 256 := fun c h => by
    rw [hrest] at h
    rcases List.mem_append.mp h with h | h
    · exact htp c h
    · exact hs c h
  have htot : total (tl.map lawPiece) ≤ width := by rw [← e2]; exact I.tot
  have eS : wRun width eol p = stP width eol (wRun width eol p).1 tl (wRun width eol p).2.2 := by
    conv => rhs; unfold stP
    rw [putLoop_end htot, ← e2]
  have hA : encB text width eol = (wRun width eol p).1 ++ tell width eol tl false s := by
    rw [law_A hw h256, hps]
    have : wRun width eol (p ++ s) = s.foldl (wStep width eol) (wRun width eol p) := by unfold wRun; rw [List.foldl_append]
    rw [this]
    conv => lhs; rw [eS]
    refine run_tell hw s tl false _ _ htp hs (fun h => by cases h) (fun _ hh => ?_)
    rcases List.eq_nil_or_concat p with e | ⟨t, d, e⟩
    · have : (wRun width eol p).2.2 = Str.ofString "" := by rw [e]; rfl
      rw [this] at hh
      exact empty_ne_cr hh.1
    · rw [List.concat_eq_append] at e
      have := I.bef t d e
      rw [this] at hh
      refine hcr ⟨?_, hh.2⟩
      rw [e, List.getLast?_concat, (one_cr d).mp hh.1]
  have hB : encB rest width eol = tell width eol tl false s := by
    rw [law_A hw hr, hrest]
    have : wRun width eol (tl ++ s) = s.foldl (wStep width eol) (wRun width eol tl) := by unfold wRun; rw [List.foldl_append]
    rw [this, wRun_stP width eol hw tl]
    obtain ⟨b, e, h0, h1⟩ := run_nb (eol := eol) (closed := Str.empty) hw tl [] (Str.ofString "") (by simp) htp e3
    rw [e, List.nil_append, run_tell hw s tl false _ _ htp hs (fun h => by cases h) (fun _ hh => ?_), nil_app]
    by_cases ht : tl = []
    · rw [h0 ht] at hh; exact empty_ne_cr hh.1
    · exact h1 ht hh.1
  rw [hA, hB]
end Mine

namespace Mine
/- sizes -/
theorem lawPiece_len (c : Nat) : (lawPiece c).length ≤ 3 := by
  rw [ls_len, ls_lawPiece]
  split <;> simp
theorem row_le {width : Int} {l : List Nat} {st : Str × List Str × Str} (h : Inv width l st) : st.2.1.length ≤ l.length ∧ (∀ p ∈ st.2.1, p.length ≤ 3) := by
  obtain ⟨hd, tl, e1, e2, _⟩ := h.ex
  rw [e2, e1]
  refine ⟨by simp, fun p hp => ?_⟩
  obtain ⟨c, _, rfl⟩ := List.mem_map.mp hp
  exact lawPiece_len c
theorem sum_le {r : List Str} {k : Nat} (h : ∀ p ∈ r, p.length ≤ k) : (r.map (·.length)).sum ≤ r.length * k := by
  induction r with
  | nil => simp
  | cons p r ih =>
    have h1 := h p (.head _)
    have h2 := ih fun q hq => h q (.tail _ hq)
    rw [List.map_cons, List.sum_cons, List.length_cons, Nat.succ_mul]
    omega
/-- what stands for good and what is open, weighed -/
def weigh (closed : Str) (row : List Str) : Nat := closed.length + (row.map (·.length)).sum + 3 * row.length
theorem put_weigh {width : Int} {eol : Str} (hel : eol.length ≤ 2) : ∀ (n : Nat) (ps : List Str) (closed : Str), ps.length ≤ n → weigh (putLoop width eol closed ps).1 (putLoop width eol closed ps).2 ≤ weigh closed ps
  | 0, ps, closed, hn => by
    have : ps = [] := List.length_eq_zero_iff.mp (by omega)
    subst this
    rw [putLoop, dif_neg (fun h => h.2.2 rfl)]
    exact Nat.le_refl _
  | n + 1, ps, closed, hn => by
    by_cases h : width < total ps ∧ 0 < fit (width - 1) ps ∧ ps ≠ []
    · rw [putLoop_cut h]
      have hl := fit_le (width - 1) ps
      refine Nat.le_trans (put_weigh hel n _ _ (by rw [List.length_drop]; have := List.length_pos_iff.mpr h.2.2; omega)) ?_
      unfold weigh
      have e1 : (Str.ofString "=").length = 1 := by decide +kernel
      have e2 : ((ps.map (·.length)).sum : Nat) = ((ps.take (fit (width - 1) ps)).map (·.length)).sum + ((ps.drop (fit (width - 1) ps)).map (·.length)).sum := by
        rw [← List.sum_append, ← List.map_append, List.take_append_drop]
      rw [len_append, len_append, len_append, len_join0, e1, e2, List.length_drop]
      omega
    · rw [putLoop, dif_neg h]
      exact Nat.le_refl _
theorem told_len (closed : Str) (row : List Str) (width : Int) (eol : Str) (hel : eol.length ≤ 2) : (lawTold closed row width eol).length ≤ closed.length + (row.map (·.length)).sum + 6 := by
  by_cases h0 : row.flatMap ls = []
  · have hj : ls (Txt.join (Str.ofString "") row) = [] := by rw [ls_join0, h0]
    unfold lawTold
    rw [slice_last0 hj, if_neg (by decide +kernel), if_neg (by decide +kernel), len_append, len_join0]
    omega
  · obtain ⟨u, c, h⟩ : ∃ u c, row.flatMap ls = u ++ [c] := ⟨_, _, (List.dropLast_concat_getLast h0).symm⟩
    have hl : (row.map (·.length)).sum = u.length + 1 := by
      have := len_join0 row
      rw [ls_len, ls_join0, h] at this
      simpa using this.symm
    have e1 : (Str.ofString "=").length = 1 := by decide +kernel
    have e2 : (mkS u).length = u.length := by rw [ls_len]
    have e3 : (mkS (u ++ [c])).length = u.length + 1 := by rw [ls_len]; simp
    have e4 : (quoteCh c).length = 3 := rfl
    rw [told_end h, len_append]
    repeat' split
    all_goals simp only [len_append, e1, e2, e3, e4]
    all_goals omega
theorem step_weigh {width : Int} {eol : Str} (hel : eol.length ≤ 2) (st : Str × List Str × Str) (c : Nat) : weigh (wStep width eol st c).1 (wStep width eol st c).2.1 ≤ weigh st.1 st.2.1 + 8 := by
  unfold wStep
  split
  · have := told_len st.1 st.2.1 width eol hel
    unfold weigh
    dsimp only
    rw [len_append]
    simp
    omega
  · split
    · refine Nat.le_trans (put_weigh hel _ _ _ (Nat.le_refl _)) ?_
      have := lawPiece_len c
      unfold weigh
      simp
      omega
    · dsimp only; omega
theorem run_weigh {width : Int} {eol : Str} (hel : eol.length ≤ 2) : ∀ (r : List Nat) (st : Str × List Str × Str), weigh (r.foldl (wStep width eol) st).1 (r.foldl (wStep width eol) st).2.1 ≤ weigh st.1 st.2.1 + 8 * r.length
  | [], st => by simp
  | c :: r, st => by
    rw [List.foldl_cons, List.length_cons]
    have h1 := run_weigh (width := width) hel r (wStep width eol st c)
    have h2 := step_weigh (width := width) hel st c
    omega
/-- the sizes of the writer's state behind at most 17 signs -/
theorem wRun_sizes {width : Int} {eol : Str} (hw : 4 ≤ width) (hel : eol.length ≤ 2) {l : List Nat} (hl : l.length ≤ 17) (h256 : ∀ c ∈ l, c < 256) {closed : Str} {row : List Str} {before : Str} (h : (closed, row, before) = wRun width eol l) :
    (row.map (·.length)).sum + row.length * 64 ≤ 10000 ∧ closed.length ≤ 10000 ∧ (∀ p ∈ row, p.length ≤ 3) ∧ (lawTold closed row width eol).length ≤ 20000 := by
  have I := inv_wRun (eol := eol) hw h256
  have W := run_weigh (width := width) hel l (Str.ofString "", [], Str.ofString "")
  have e : l.foldl (wStep width eol) (Str.ofString "", [], Str.ofString "") = wRun width eol l := rfl
  rw [e] at W
  rw [← h] at W I
  obtain ⟨h1, h2⟩ := row_le I
  dsimp only at h1 h2 W
  have h3 := sum_le h2
  have e0 : (Str.ofString "").length = 0 := by decide +kernel
  unfold weigh at W
  simp only [List.map_nil, List.sum_nil, List.length_nil, e0] at W
  have h4 := told_len closed row width eol hel
  refine ⟨by omega, by omega, h2, by omega⟩
/- sizes of what body_encode collects -/
theorem lineLoop_len {width : Int} {line : Str} : ∀ (n : Nat) (start : Int), ((line.length : Int) - start).toNat ≤ n → ((lineLoop width line start).1.length : Int) ≤ n ∧ ∀ p ∈ (lineLoop width line start).1, p.length ≤ line.length + 1
  | 0, start, h => by
    by_cases hc : 4 ≤ width ∧ start ≤ (line.length : Int) - 1 - width
    · exfalso; omega
    · rw [lineLoop, dif_neg hc]; simp
  | n + 1, start, h => by
    by_cases hc : 4 ≤ width ∧ start ≤ (line.length : Int) - 1 - width
    · rw [lineLoop, dif_pos hc]
      have hlt := cutAt_lt width line start hc.1
      obtain ⟨i1, i2⟩ := lineLoop_len (width := width) (line := line) n (cutAt width line start).2 (by omega)
      refine ⟨by rw [List.length_cons]; omega, fun p hp => ?_⟩
      rcases List.mem_cons.mp hp with rfl | hp
      · have e1 : (Str.ofString "=").length = 1 := by decide +kernel
        unfold cutAt
        repeat' split
        all_goals dsimp only
        all_goals (try rw [len_append, e1])
        all_goals first | exact Nat.le_succ_of_le (Txt.slice_le _ _ _) | exact Nat.succ_le_succ (Txt.slice_le _ _ _)
      · exact i2 p hp
    · rw [lineLoop, dif_neg hc]; simp; omega
theorem lastPart_len {width : Int} {eol line : Str} (hel : eol.length ≤ 2) (start : Int) : (lastPart width eol line start).length ≤ line.length + 6 := by
  have e1 : (Str.ofString "=").length = 1 := by decide +kernel
  have e2 : ∀ c, (quoteCh c).length = 3 := fun c => rfl
  have e3 : (Txt.item line (-1)).length = 1 := rfl
  have s1 := Txt.slice_le line (some start) (some (-1))
  have s2 := Txt.slice_le line (some start) none
  unfold lastPart
  repeat' split
  all_goals (try simp only [len_append, e1, e2, e3])
  all_goals omega
theorem lineParts_len {width : Int} {eol line : Str} (hel : eol.length ≤ 2) : (lineParts width eol line).length ≤ line.length + 1 ∧ ∀ p ∈ lineParts width eol line, p.length ≤ line.length + 6 := by
  obtain ⟨i1, i2⟩ := lineLoop_len (width := width) (line := line) line.length 0 (by omega)
  unfold lineParts
  refine ⟨by rw [List.length_append, List.length_singleton]; omega, fun p hp => ?_⟩
  rcases List.mem_append.mp hp with hp | hp
  · have := i2 p hp; omega
  · rw [List.mem_singleton.mp hp]
    exact lastPart_len hel _
theorem flat_len {width : Int} {eol : Str} (hel : eol.length ≤ 2) {k : Nat} : ∀ (xs : List Str), (∀ x ∈ xs, x.length ≤ k) → (xs.flatMap (lineParts width eol)).length ≤ xs.length * (k + 1) ∧ ∀ p ∈ xs.flatMap (lineParts width eol), p.length ≤ k + 6
  | [], _ => by simp
  | x :: xs, h => by
    obtain ⟨i1, i2⟩ := flat_len (width := width) hel xs fun y hy => h y (.tail _ hy)
    obtain ⟨j1, j2⟩ := lineParts_len (width := width) (line := x) hel
    have hx := h x (.head _)
    rw [List.flatMap_cons]
    refine ⟨by rw [List.length_append, List.length_cons, Nat.succ_mul]; omega, fun p hp => ?_⟩
    rcases List.mem_append.mp hp with hp | hp
    · have := j2 p hp; omega
    · exact i2 p hp
theorem lines_count (x : Str) : (Txt.lines x).length ≤ x.length + 1 := by
  have := StrLaws.lines_weight x
  omega
theorem enc_pos {text : Str} (h : text.length ≠ 0) : 1 ≤ (encTx text).length := by
  rw [ls_len, ls_encTx]
  rw [ls_len] at h
  cases hl : ls text with
  | nil => rw [hl] at h; exact absurd rfl h
  | cons c r =>
    rw [encL1_cons, List.length_append]
    cases hb : isB c with
    | true => rw [encCh_b hb]; simp
    | false =>
      rw [encCh_nb hb]
      have := List.length_pos_iff.mpr (piece_ne c)
      omega
theorem enc_lt {text : Str} (h : ∀ c ∈ ls text, c < 256) : ∀ d ∈ ls (encTx text), d < 256 := by
  intro d hd
  rw [ls_encTx] at hd
  obtain ⟨c, hc, hd⟩ := List.mem_flatMap.mp hd
  have h256 := h c hc
  cases hb : isB c with
  | true => rw [encCh_b hb] at hd; simp at hd; omega
  | false =>
    rw [encCh_nb hb, ls_lawPiece] at hd
    split at hd
    · simp at hd; omega
    · simp only [List.mem_cons, List.not_mem_nil, or_false] at hd
      rcases hd with rfl | rfl | rfl
      · omega
      · have := hexd_hi (c / 16) (by omega); omega
      · have := hexd_hi (c % 16) (by omega); omega
theorem line_sub {x line : Str} (h : line ∈ Txt.lines x) : ∀ d ∈ ls line, d ∈ ls x := by
  intro d hd
  unfold Txt.lines at h
  split at h
  · rw [List.mem_singleton.mp h] at hd; exact hd
  · unfold linesOf at h
    obtain ⟨p, _, rfl⟩ := List.mem_map.mp h
    have e : ls (Builtin.Str.strSub x p.1 p.2) = ((ls x).drop p.1).take (p.2 - p.1) := StrLaws.strSub_toList x p.1 p.2
    rw [e] at hd
    exact List.mem_of_mem_drop (List.mem_of_mem_take hd)
theorem charAt_lt {x : Str} {k : Nat} (hk : 0 < k) (h : ∀ d ∈ ls x, d < k) (i : Int) : (Txt.charAt x i).getD 0 < k := by
  unfold Txt.charAt
  cases hi : seqIndex? i x.length with
  | none => exact hk
  | some j =>
    show (x.cps[j]?).getD 0 < k
    rw [← Array.getElem?_toList]
    cases hj : x.cps.toList[j]? with
    | none => exact hk
    | some d => exact h d (List.mem_of_getElem? hj)
end Mine

namespace Mine
theorem sign_lt (x : Int) : ∀ c ∈ ls (lawSign x), c < 256 := by
  unfold lawSign
  intro c hc
  split at hc
  · have e : ls (⟨#[(Int.fmod (Int.fdiv x 12) 256).toNat]⟩ : Str) = [(Int.fmod (Int.fdiv x 12) 256).toNat] := rfl
    rw [e, List.mem_singleton] at hc
    have h1 := Int.fmod_lt_of_pos (Int.fdiv x 12) (b := 256) (by decide)
    have h2 := Int.fmod_nonneg_of_pos (Int.fdiv x 12) (b := 256) (by decide)
    omega
  · have e : ls (Txt.item (Str.ofString "a =\né.\t\x0d éb") (Int.fmod x 12)) = [(Txt.charAt (Str.ofString "a =\né.\t\x0d éb") (Int.fmod x 12)).getD 0] := rfl
    rw [e, List.mem_singleton] at hc
    rw [hc]
    refine charAt_lt (by decide) ?_ _
    have e2 : ls (Str.ofString "a =\né.\t\x0d éb") = [97, 32, 61, 10, 233, 46, 9, 13, 32, 233, 98] := by decide +kernel
    rw [e2]
    decide
theorem join_signs_lt (xs : List Int) : ∀ c ∈ ls (Txt.join (Str.ofString "") (xs.map lawSign)), c < 256 := by
  intro c hc
  rw [ls_join0, List.flatMap_map] at hc
  obtain ⟨x, _, h⟩ := List.mem_flatMap.mp hc
  exact sign_lt x c h
theorem char_nat {x : Str} {i : Nat} (h : i < x.length) : (ls x)[i]? = some ((Txt.charAt x (i : Int)).getD 0) := by
  unfold Txt.charAt
  rw [StrLaws.seqIndex_nonneg (by omega) (by omega)]
  show (ls x)[i]? = some ((x.cps[((i : Nat) : Int).toNat]?).getD 0)
  rw [Int.toNat_natCast, ← Array.getElem?_toList]
  have hl : i < (ls x).length := by rw [← ls_len]; exact h
  show (ls x)[i]? = some (((ls x)[i]?).getD 0)
  rw [List.getElem?_eq_getElem hl]
  rfl
theorem take_next {x : Str} {i : Nat} (h : i < x.length) : (ls x).take (i + 1) = (ls x).take i ++ [(Txt.charAt x (i : Int)).getD 0] := by
  rw [List.take_add_one, char_nat h]
  rfl
theorem wRun_next {width : Int} {eol x : Str} {i : Nat} (h : i < x.length) : wRun width eol ((ls x).take (i + 1)) = wStep width eol (wRun width eol ((ls x).take i)) ((Txt.charAt x (i : Int)).getD 0) := by
  rw [take_next h]
  unfold wRun
  rw [List.foldl_append]
  rfl
section
variable {width : Int} {eol text closed before : Str} {row : List Str} {i : Nat}
theorem eq_cr (hi : i < text.length) (hP : (closed, row, before) = wRun width eol (text.cps.toList.take i)) (h : (Txt.item text (i : Int) == Str.ofString "\x0d") = true) :
    (lawTold closed row width eol ++ eol, ([] : List Str), Txt.item text (i : Int)) = wRun width eol (text.cps.toList.take (i + 1)) := by
  rw [wRun_next hi, ← hP, step_end (.inl ((one_cr _).mp (eq_of_beq h)))]
  rfl
theorem eq_lf (hi : i < text.length) (hP : (closed, row, before) = wRun width eol (text.cps.toList.take i)) (h : (Txt.item text (i : Int) == Str.ofString "\n") = true) (hb : (before != Str.ofString "\x0d") = true) :
    (lawTold closed row width eol ++ eol, ([] : List Str), Txt.item text (i : Int)) = wRun width eol (text.cps.toList.take (i + 1)) := by
  rw [wRun_next hi, ← hP, step_end (.inr ⟨(one_lf _).mp (eq_of_beq h), bne_iff_ne.mp hb⟩)]
  rfl
theorem eq_put (hi : i < text.length) (hP : (closed, row, before) = wRun width eol (text.cps.toList.take i)) (h : (Txt.item text (i : Int) == Str.ofString "\x0d") = false) (h' : (Txt.item text (i : Int) != Str.ofString "\n") = true)
    {closedN : Str} {rowN : List Str} (hput : putLoop width eol closed (row ++ [lawPiece ((Txt.charAt text (i : Int)).getD 0)]) = (closedN, rowN)) :
    (closedN, rowN, Txt.item text (i : Int)) = wRun width eol (text.cps.toList.take (i + 1)) := by
  have hb : isB ((Txt.charAt text (i : Int)).getD 0) = false := by
    cases hb : isB ((Txt.charAt text (i : Int)).getD 0) with
    | false => rfl
    | true =>
      rcases (isB_iff _).mp hb with e | e
      · rw [beq_eq_false_iff_ne] at h; exact absurd ((one_cr _).mpr e) h
      · exact absurd ((one_lf _).mpr e) (bne_iff_ne.mp h')
  rw [wRun_next hi, ← hP, step_put hb, hput]
  rfl
theorem eq_skip (hi : i < text.length) (hP : (closed, row, before) = wRun width eol (text.cps.toList.take i)) (h' : (Txt.item text (i : Int) != Str.ofString "\n") = false) (hb : (before != Str.ofString "\x0d") = false) :
    (closed, row, Txt.item text (i : Int)) = wRun width eol (text.cps.toList.take (i + 1)) := by
  have e : (Txt.charAt text (i : Int)).getD 0 = 10 := (one_lf _).mp (by simpa using h' : Txt.item text (i : Int) = Str.ofString "\n")
  have eb : before = Str.ofString "\x0d" := by simpa using hb
  rw [wRun_next hi, ← hP, e, step_skip (st := (closed, row, before)) eb]
  show (closed, row, (⟨#[(Txt.charAt text (i : Int)).getD 0]⟩ : Str)) = _
  rw [e]
theorem slice_prefix (hi : i < text.length) : Txt.slice text none (some ((i : Int) + 1)) = mkS ((ls text).take (i + 1)) := by
  rw [slice_idx (StrLaws.sliceIdx_none_lo _ _), slice_at (a := 0) (b := i + 1) (by rfl) (by omega) (by omega) (by rw [← ls_len]; omega)]
  rfl
theorem take_lt (h256 : ∀ c ∈ text.cps.toList, c < 256) (n : Nat) : ∀ c ∈ (ls text).take n, c < 256 := fun c hc => h256 c (List.mem_of_mem_take hc)
theorem law_A' (hw : 4 ≤ width) (h256 : ∀ c ∈ text.cps.toList, c < 256) (hi : i < text.length) (hP : (closed, row, before) = wRun width eol (text.cps.toList.take (i + 1))) :
    encB (Txt.slice text none (some ((i : Int) + 1))) width eol = lawTold closed row width eol := by
  rw [slice_prefix hi, law_A hw (take_lt h256 _), ls_mk, ← hP]
theorem law_B' (hw : 4 ≤ width) (h256 : ∀ c ∈ text.cps.toList, c < 256) (hi : i < text.length) (hP : (closed, row, before) = wRun width eol (text.cps.toList.take (i + 1)))
    (hcr : Txt.item text (i : Int) ≠ Str.ofString "\x0d" ∨ Txt.slice text (some ((i : Int) + 1)) (some ((i : Int) + 2)) ≠ Str.ofString "\n") :
    row.length ≤ i + 1 ∧ closed ++ encB (Txt.slice text (some ((i : Int) + 1 - (row.length : Int))) none) width eol = encB text width eol := by
  have I := inv_wRun (eol := eol) hw (take_lt h256 (i + 1))
  have hlen : ((ls text).take (i + 1)).length = i + 1 := by rw [List.length_take, ← ls_len]; omega
  have hr := (row_le I).1
  rw [← hP, hlen] at hr
  have hr' : row.length ≤ i + 1 := hr
  refine ⟨hr', ?_⟩
  have hpre : ls text = (ls text).take (i + 1 - row.length) ++ (ls text).drop (i + 1 - row.length) := (List.take_append_drop _ _).symm
  have hpl : ((ls text).take (i + 1 - row.length)).length = i + 1 - row.length := by rw [List.length_take, ← ls_len]; omega
  have hs : Txt.slice text (some ((i : Int) + 1 - (row.length : Int))) none = mkS ((ls text).drop (i + 1 - row.length)) := by
    have := sliceTo hpre
    rw [hpl] at this
    rw [← this]
    congr 2
    omega
  rw [hs]
  have key := law_B (width := width) (eol := eol) (text := text) (rest := mkS ((ls text).drop (i + 1 - row.length))) hw h256 (p := (ls text).take (i + 1)) (s := (ls text).drop (i + 1)) (List.take_append_drop _ _).symm ?_ ?_
  · rw [← hP] at key
    exact key
  · rintro ⟨h1, h2⟩
    rw [take_next hi, List.getLast?_concat] at h1
    have h13 : (Txt.charAt text (i : Int)).getD 0 = 13 := Option.some.inj h1
    rcases hcr with hcr | hcr
    · exact hcr ((one_cr _).mpr h13)
    · rw [List.head?_drop] at h2
      have hlt : i + 1 < (ls text).length := by
        obtain ⟨hh, _⟩ := List.getElem?_eq_some_iff.mp h2
        exact hh
      refine hcr ?_
      rw [slice_at (a := i + 1) (b := i + 2) (by omega) (by omega) (by omega) (by omega)]
      have e : ((ls text).drop (i + 1)).take (i + 2 - (i + 1)) = [10] := by
        rw [show i + 2 - (i + 1) = 1 by omega, List.drop_eq_getElem_cons hlt]
        rw [List.getElem?_eq_getElem hlt] at h2
        rw [Option.some.inj h2]
        rfl
      rw [e]
      decide +kernel
  · rw [← hP, hlen]
    show (ls text).drop (i + 1 - row.length) = _
    conv => lhs; rw [← List.take_append_drop (i + 1) (ls text)]
    rw [List.drop_append_of_le_length (by rw [hlen]; omega)]
theorem bef_eq (hw : 4 ≤ width) (h256 : ∀ c ∈ text.cps.toList, c < 256) (hi : i < text.length) (hP : (closed, row, before) = wRun width eol (text.cps.toList.take (i + 1))) : before = Txt.item text (i : Int) := by
  have I := inv_wRun (eol := eol) hw (take_lt h256 (i + 1))
  rw [← hP] at I
  exact I.bef _ _ (take_next hi)
theorem encB_le (hw : 4 ≤ width) (hel : eol.length ≤ 2) (ht : text.length ≤ 17) (h256 : ∀ c ∈ text.cps.toList, c < 256) : (encB text width eol).length ≤ 20000 := by
  rw [law_A hw h256]
  exact (wRun_sizes hw hel (by rw [← ls_len]; exact ht) h256 (closed := (wRun width eol (ls text)).1) (row := (wRun width eol (ls text)).2.1) (before := (wRun width eol (ls text)).2.2) rfl).2.2.2
theorem slice_sub {x : Str} {l u : Option Int} : ∀ d ∈ ls (Txt.slice x l u), d ∈ ls x := by
  intro d hd
  unfold Txt.slice at hd
  split at hd
  · exact hd
  · have hd' : d ∈ (Builtin.Str.strSliceIndices l u 1 x.length).filterMap (x.cps[·]?) := hd
    obtain ⟨j, _, hj⟩ := List.mem_filterMap.mp hd'
    rw [← Array.getElem?_toList] at hj
    exact List.mem_of_getElem? hj
end
end Mine

namespace Mine
theorem fill3 : ∀ w : World, (Mine.hd.heap_39 w.params) = Mine.hd.heap_39 w.params ∧ PySem.Challenge.rw_nb0380_01 = PySem.Challenge.rw_nb0380_01 := by
  k_fill
  exact fun _ => ⟨rfl, rfl⟩
theorem esc_all : ((List.range 256).all fun c => decide (Str.ofString "=" ++ Txt.item (Str.ofString "0123456789ABCDEF") (Int.fdiv (c : Int) 16) ++ Txt.item (Str.ofString "0123456789ABCDEF") (Int.fmod (c : Int) 16) = quoteCh c)) = true := by decide +kernel
theorem esc_eq {c : Nat} (hc : c < 256) : Str.ofString "=" ++ Txt.item (Str.ofString "0123456789ABCDEF") (Int.fdiv (c : Int) 16) ++ Txt.item (Str.ofString "0123456789ABCDEF") (Int.fmod (c : Int) 16) = quoteCh c :=
  of_decide_eq_true (List.all_eq_true.mp esc_all c (List.mem_range.mpr hc))
theorem one_tab (c : Nat) : ((⟨#[c]⟩ : Str) = Str.ofString "\t") ↔ c = 9 := by
  have e : Str.ofString "\t" = ⟨#[9]⟩ := by decide +kernel
  rw [e]; simp
theorem lt_sp (c : Nat) : (({ cps := #[c] } : Str).cps.toList < (Str.ofString " ").cps.toList) ↔ c < 32 := by
  have e : (Str.ofString " ").cps.toList = [32] := by decide +kernel
  rw [e]
  show [c] < [32] ↔ _
  simp [List.cons_lt_cons_iff]
theorem lt_til (c : Nat) : ((Str.ofString "~").cps.toList < ({ cps := #[c] } : Str).cps.toList) ↔ 126 < c := by
  have e : (Str.ofString "~").cps.toList = [126] := by decide +kernel
  rw [e]
  show [126] < [c] ↔ _
  simp [List.cons_lt_cons_iff]
theorem piece_tab {c : Nat} (h : (({ cps := #[c] } : Str) == Str.ofString "\t") = true) : (⟨#[c]⟩ : Str) = lawPiece c := by
  have := (one_tab c).mp (eq_of_beq h)
  unfold lawPiece
  rw [if_pos (.inl this)]
theorem piece_raw {c : Nat} (h1 : ¬ ({ cps := #[c] } : Str).cps.toList < (Str.ofString " ").cps.toList) (h2 : ¬ (Str.ofString "~").cps.toList < ({ cps := #[c] } : Str).cps.toList) (h3 : (({ cps := #[c] } : Str) != Str.ofString "=") = true) : (⟨#[c]⟩ : Str) = lawPiece c := by
  rw [lt_sp] at h1
  rw [lt_til] at h2
  have h4 : c ≠ 61 := fun e => by rw [bne_iff_ne] at h3; exact h3 ((one_eq c).mpr e)
  unfold lawPiece
  rw [if_pos (.inr ⟨by omega, by omega, h4⟩)]
theorem piece_esc {c : Nat} (hc : c < 256) (h9 : (({ cps := #[c] } : Str) == Str.ofString "\t") = false)
    (h : ({ cps := #[c] } : Str).cps.toList < (Str.ofString " ").cps.toList ∨ (Str.ofString "~").cps.toList < ({ cps := #[c] } : Str).cps.toList ∨ (({ cps := #[c] } : Str) != Str.ofString "=") = false) :
    Str.ofString "=" ++ Txt.item (Str.ofString "0123456789ABCDEF") (Int.fdiv (c : Int) 16) ++ Txt.item (Str.ofString "0123456789ABCDEF") (Int.fmod (c : Int) 16) = lawPiece c := by
  rw [esc_eq hc]
  rw [lt_sp, lt_til] at h
  have h4 : c ≠ 9 := fun e => by rw [beq_eq_false_iff_ne] at h9; exact h9 ((one_tab c).mpr e)
  have h5 : (({ cps := #[c] } : Str) != Str.ofString "=") = false → c = 61 := fun e => (one_eq c).mp (by simpa using e)
  unfold lawPiece quoteCh
  rw [if_neg ?_]
  rintro (e | ⟨e1, e2, e3⟩)
  · exact h4 e
  · rcases h with h | h | h
    · omega
    · omega
    · exact e3 (h5 h)
theorem piece_spec (prog : Program) (w : World) (mean : ExcName → Option Value) (mg mb : Str → Option Value) (news : List (Addr × Obj)) (c : Nat) (hc : c < 256) (tx : Tok) :
    CbClaim prog w (Mine.hd.heap_39 w.params) Mine.hd.view_39 LL mean mg mb 64 news [] True [.str ⟨#[c]⟩ tx] (fun t => .str (lawPiece c) t) := by
  dsimp only [CbClaim, CbLists, CbRet]; intro dp un gd cn cs a ccd cl outer A₀ base h₀ L m s Q E hB hF hK hN hT hcs _ hdp hun hret
  refine wpAny_call ?_
  k_dflt cell_enter
  k_steps
  all_goals (refine cb_retS (Q := Q) hret ?_ (by k_asm) (by k_asm))
  · exact piece_tab (by assumption)
  · exact piece_esc hc (by assumption) (.inl (by assumption))
  · exact piece_esc hc (by assumption) (.inr (.inl (by assumption)))
  · exact piece_raw (by assumption) (by assumption) (by assumption)
  · exact piece_esc hc (by assumption) (.inr (.inr (by assumption)))
theorem piece_call {prog : Program} {w : World} {mean : ExcName → Option Value} {mg mb : Str → Option Value} {news : List (Addr × Obj)} {dp un : Nat} {gd : Option (List Code)} {cn : Str} {cs : Scope} {a : Addr} {ccd : Value} {cl : List (Str × Addr)} {outer : List Env} {A₀ : Around} {base h₀ : Heap} {L : Addr} {m : Str → Option Value} {s : Shared} {Q E : Value → Shared → Prop} {c : Nat} {tx : Tok} (hc : c < 256)
    (hB : Below A₀ base outer h₀) (hF : Fr h₀ L s.heap m) (hK : (Mine.hd.heap_39 w.params).In h₀) (hN : News h₀ L s.heap news) (hT : Top Mine.hd.view_39 LL mean mg mb h₀) (hcs : cs.kind = .function) (hdp : dp + 3 < recursionLimit) (hun : un + 30 < cLine)
    (hret : ∀ (t : Tok) (h' : Heap) (tk' : Nat), Fr h₀ L h' m → News h₀ L h' news → Q (.str (lawPiece c) t) { s with heap := h', toks := tk' }) :
    wpAny (model prog w) (ktrTop dp un gd cn cs L a ccd cl outer) (call (.ref 64) [.str ⟨#[c]⟩ tx]) Q E s :=
  piece_spec prog w mean mg mb news c hc tx dp un gd cn cs a ccd cl outer A₀ base h₀ L m s Q E hB hF hK hN hT hcs trivial (by omega) (by omega) hret
end Mine

namespace Mine
theorem fill4 : ∀ w : World, (Mine.hd.heap_39 w.params) = Mine.hd.heap_39 w.params ∧ PySem.Challenge.rw_nb0380_01 = PySem.Challenge.rw_nb0380_01 := by
  k_fill
  exact fun _ => ⟨rfl, rfl⟩
theorem ne_of_beq_false {a b : Str} (h : (a == b) = false) : ¬ a = b := fun e => by rw [beq_eq_false_iff_ne] at h; exact h e
local macro_rules | `(tactic| walk_at "call builtin:str.join") => `(tactic| (k_here; (refine join_listC (by is_list) (by first | assumption | exact ‹StrsAre _ _›) (by decide) (by assumption) ?_); intro _ _))
theorem len_eqs : (Str.ofString "=").length = 1 := by decide +kernel
theorem len_eq20 : (Str.ofString "=20").length = 3 := by decide +kernel
theorem len_eq09 : (Str.ofString "=09").length = 3 := by decide +kernel
local macro_rules | `(tactic| walk_at "subscriptTail Name Slice str ref") => `(tactic| (k_here; (first | refine slice_strN_nn_len (s := ⟨_, _, _, _, _⟩) (hsz := ?hsz) (by k_asm) (by k_asm) ?_ | refine slice_strN_ns_len (s := ⟨_, _, _, _, _⟩) (hsz := ?hsz) (by k_asm) (by k_asm) ?_ | refine slice_strN_sn_len (s := ⟨_, _, _, _, _⟩) (hsz := ?hsz) (by k_asm) (by k_asm) ?_ | refine slice_strN_ss_len (s := ⟨_, _, _, _, _⟩) (hsz := ?hsz) (by k_asm) (by k_asm) ?_); (case hsz => (rw [sizeLine_eq]; omega)); intro h' t' k' F' N' hl'))
local macro_rules | `(tactic| walk_at "binaryOp Add str str") => `(tactic| (k_here; (refine PyProof.Rows.add_str (hsz := ?hsz) ?_); (case hsz => (simp only [PySem.Str.length_append, sizeLine_eq, len_eqs, len_eq20, len_eq09]; omega)); intro _ _))
theorem told_spec (prog : Program) (w : World) (mean : ExcName → Option Value) (mg mb : Str → Option Value) (news : List (Addr × Obj)) 
   (st rw : Addr) (closed : Str) (tc : Tok) (vs : List Value) (row : List Str) (hrow : StrsAre vs row) (hsz : (row.map (·.length)).sum + row.length * 64 ≤ 16777216) (hjl : (Txt.join (Str.ofString "") row).length ≤ 10000) (n1 n2 : Nat) (width : Int) (t1 t2 : Tok) (eol : Str) (hw : 4 ≤ width ∧ width ≤ 8) (hcl : closed.length ≤ 100000) (hel : eol.length ≤ 2) :
    CbClaim prog w (Mine.hd.heap_39 w.params) Mine.hd.view_39 LL mean mg mb 78 
      ((st, PySem.W.listOf #[.str closed tc, .ref rw] n1) :: (rw, PySem.W.listOf vs.toArray n2) :: news) [] True [.ref st, .int width t1, .str eol t2] (fun t => .str (lawTold closed row width eol) t) := by
  dsimp only [CbClaim, CbLists, CbRet]; intro dp un gd cn cs a ccd cl outer A₀ base h₀ L m s Q E hB hF hK hN hT hcs _ hdp hun hret
  refine wpAny_call ?_
  k_dflt cell_enter
  k_steps
  all_goals (refine cb_retS (Q := Q) hret ?_ (by k_asm) (by k_asm))
  · rw [lawTold, if_pos (eq_of_beq (by assumption)), toldWs, if_pos (by assumption)]
  · rw [lawTold, if_pos (eq_of_beq (by assumption)), toldWs, if_neg (by assumption), if_pos (by assumption)]
  · rw [lawTold, if_pos (eq_of_beq (by assumption)), toldWs, if_neg (by assumption), if_neg (by assumption)]
  · rw [lawTold, if_neg (ne_of_beq_false (by assumption)), if_pos (eq_of_beq (by assumption)), toldWs, if_pos (by assumption)]
  · rw [lawTold, if_neg (ne_of_beq_false (by assumption)), if_pos (eq_of_beq (by assumption)), toldWs, if_neg (by assumption), if_pos (by assumption)]
  · rw [lawTold, if_neg (ne_of_beq_false (by assumption)), if_pos (eq_of_beq (by assumption)), toldWs, if_neg (by assumption), if_neg (by assumption)]
  · rw [lawTold, if_neg (ne_of_beq_false (by assumption)), if_neg (ne_of_beq_false (by assumption))]
theorem told_call {prog : Program} {w : World} {mean : ExcName → Option Value} {mg mb : Str → Option Value} {news : List (Addr × Obj)} {dp un : Nat} {gd : Option (List Code)} {cn : Str} {cs : Scope} {a : Addr} {ccd : Value} {cl : List (Str × Addr)} {outer : List Env} {A₀ : Around} {base h₀ : Heap} {L : Addr} {m : Str → Option Value} {s : Shared} {Q E : Value → Shared → Prop}
    {st rw : Addr} {closed eol : Str} {tc t1 t2 : Tok} {vs : List Value} {row : List Str} {n1 n2 : Nat} {width : Int} (hrow : StrsAre vs row) (hsz : (row.map (·.length)).sum + row.length * 64 ≤ 10000) (hw : 4 ≤ width ∧ width ≤ 8) (hcl : closed.length ≤ 10000) (hel : eol.length ≤ 2)
    (hst : (st, PySem.W.listOf #[.str closed tc, .ref rw] n1) ∈ news) (hrw : (rw, PySem.W.listOf vs.toArray n2) ∈ news)
    (hB : Below A₀ base outer h₀) (hF : Fr h₀ L s.heap m) (hK : (Mine.hd.heap_39 w.params).In h₀) (hN : News h₀ L s.heap news) (hT : Top Mine.hd.view_39 LL mean mg mb h₀) (hcs : cs.kind = .function) (hdp : dp + 3 < recursionLimit) (hun : un + 30 < cLine)
    (hret : ∀ (t : Tok) (h' : Heap) (tk' : Nat), Fr h₀ L h' m → News h₀ L h' news → Q (.str (lawTold closed row width eol) t) { s with heap := h', toks := tk' }) :
    wpAny (model prog w) (ktrTop dp un gd cn cs L a ccd cl outer) (call (.ref 78) [.ref st, .int width t1, .str eol t2]) Q E s := by
  have hjl : (Txt.join (Str.ofString "") row).length ≤ 10000 := by rw [len_join0]; omega
  refine told_spec prog w mean mg mb news st rw closed tc vs row hrow (by omega) hjl n1 n2 width t1 t2 eol hw (by omega) hel dp un gd cn cs a ccd cl outer A₀ base h₀ L m s Q E hB hF hK ?_ hT hcs trivial (by omega) (by omega) (fun t h' tk' F N => hret t h' tk' F (kst_newsOf N fun p hp => .tail _ (.tail _ hp)))
  refine kst_newsOf hN fun p hp => ?_
  rcases List.mem_cons.mp hp with rfl | hp
  · exact hst
  · rcases List.mem_cons.mp hp with rfl | hp
    · exact hrw
    · exact hp
end Mine

namespace Mine
theorem fill5 : ∀ w : World, (Mine.hd.heap_39 w.params) = Mine.hd.heap_39 w.params ∧ PySem.Challenge.rw_nb0380_01 = PySem.Challenge.rw_nb0380_01 := by
  k_fill
  exact fun _ => ⟨rfl, rfl⟩
noncomputable def encTab (w : World) : List Value := listAt (Mine.hd.heap_39 w.params) 39
theorem encTab_all (w : World) : ((List.range 256).all fun c => match (encTab w)[c]? with | some (.str x _) => x == encCh c | _ => false) = true := by kernel_rfl
theorem encTab_at (w : World) (c : Nat) (hc : c < 256) : ∃ u, (encTab w)[c]? = some (.str (encCh c) u) := by
  have := List.all_eq_true.mp (encTab_all w) c (List.mem_range.mpr hc)
  split at this
  · rename_i x u e
    exact ⟨u, by rw [e, eq_of_beq this]⟩
  · cases this
theorem encTab_obj (w : World) : ∃ n, List.lookup 39 (Mine.hd.heap_39 w.params) = some (PySem.W.listOf (encTab w).toArray n) := ⟨0, by kernel_rfl⟩
theorem encTab_is {w : World} {h₀ : Heap} {L : Addr} {h : Heap} {m : Str → Option Value} (X : (Mine.hd.heap_39 w.params).In h₀) (F : Fr h₀ L h m) : h.IsList 39 (encTab w).toArray := by
  obtain ⟨n, e⟩ := encTab_obj w
  exact ⟨_, F.keep _ _ (X _ _ e), rfl, n, rfl⟩

structure LineSt where
  vs : List Value
  n : Nat
structure CutSt where
  start : Int
  ts : Tok
  vs : List Value
  n : Nat
  parts : List Str

theorem encCh_len (c : Nat) : (encCh c).cps.toList.length ≤ 3 := by
  unfold encCh lawPiece
  repeat' split
  all_goals simp
theorem encTx_len : ∀ (l : List Nat), (l.flatMap fun c => (encCh c).cps.toList).length ≤ 3 * l.length
  | [] => by simp
  | c :: l => by
    have h1 := encTx_len l
    have h2 := encCh_len c
    simp only [List.flatMap_cons, List.length_append, List.length_cons]
    omega

theorem quoteCh_len (c : Nat) : (quoteCh c).length = 3 := rfl
theorem len_emp : (Str.ofString "").length = 0 := by decide +kernel
theorem len_eq1 : (Str.ofString "=").length = 1 := by decide +kernel
local macro_rules | `(tactic| walk_at "getMethod str") => `(tactic| (k_here; with_reducible refine gm_translate ?_))
local macro_rules | `(tactic| walk_at "call builtin:str.translate") => `(tactic| (k_here; (refine call_translate encCh (encTab_is (by k_asm) (by k_asm)) (by assumption) (by assumption) (by simp_all) ?_); intro _ _; refine Stop.out ?_))
local macro_rules | `(tactic| walk_at "exec While Compare cons nil") => `(tactic| (k_here; (with_reducible show wpAny _ _ (exec (Stmt.While _ _ _ _) _) _ _ _); (refine Stop.out ?_)))
local macro_rules | `(tactic| walk_at "exec While") => `(tactic| (k_here; (with_reducible show wpAny _ _ (exec (Stmt.While _ _ _ _) _) _ _ _); (refine Stop.out ?_)))
local macro_rules | `(tactic| walk_at "binaryOp Add str str") => `(tactic| (k_here; (refine PyProof.Rows.add_str (hsz := ?hsz) ?_); (case hsz => (simp only [PySem.Str.length_append, sizeLine_eq, len_eq1, quoteCh_len]; omega)); intro _ _))
local macro_rules | `(tactic| walk_at "call builtin:str.splitlines") => `(tactic| (k_here; (refine splitlinesN (hsz := ?hsz) (hsz2 := ?hsz2) (by k_asm) (by k_asm) ?_); (case hsz => (rw [sizeLine_eq]; omega)); (case hsz2 => (rw [sizeLine_eq]; omega)); intro _ _ _ _ _ _))
local macro_rules | `(tactic| walk_at "pyIter ref") => `(tactic| (k_here; refine Stop.out ?_))

local macro_rules | `(tactic| walk_at "getAttr ref") => `(tactic| (k_here; (with_reducible show wpAny _ _ (getAttr (Value.ref _) (PySem.Str.ofString "append") true) _ _ _); (refine bound_K (by k_asm) (by k_asm) (by k_mem) ?_); intro b' h' F' N' l1; (try k_lt l1)))
local macro_rules | `(tactic| walk_at "call ref") => `(tactic| (k_here; (with_reducible show wpAny _ _ (call (Value.ref _) [_]) _ _ _); k_dflt (refine' bcall_K ?F ?N ?b ?U ?z ?_; (case F => k_asm); (case N => k_asm); (case b => first | k_mem | exact List.mem_cons_of_mem _ (by assumption)); (case U => first | exact Upd.head (by assumption) | k_upd); (case z => (rw [sizeLine_eq]; (try simp only [List.size_toArray]); omega))); intro h' F' N'))
local macro_rules | `(tactic| walk_at "subscriptTail Name Slice str ref") => `(tactic| (k_here; (first | refine slice_strN_nn_len (s := ⟨_, _, _, _, _⟩) (hsz := ?hsz) (by k_asm) (by k_asm) ?_ | refine slice_strN_ns_len (s := ⟨_, _, _, _, _⟩) (hsz := ?hsz) (by k_asm) (by k_asm) ?_ | refine slice_strN_sn_len (s := ⟨_, _, _, _, _⟩) (hsz := ?hsz) (by k_asm) (by k_asm) ?_ | refine slice_strN_ss_len (s := ⟨_, _, _, _, _⟩) (hsz := ?hsz) (by k_asm) (by k_asm) ?_); (case hsz => (rw [sizeLine_eq]; omega)); intro h' t' k' F' N' hl'))
local macro_rules | `(tactic| walk_at "callWith ref") => `(tactic| (k_here; (with_reducible show wpAny _ _ (callWith _ (Value.ref _) _ (backTo _ (starEach (_ :: _) _)) []) _ _ _); (refine callWith_b (by assumption) ?_)))
local macro_rules | `(tactic| walk_at "And") => `(tactic| ((with_reducible show BoundAt _ _ _ ∧ _); k_dflt (refine ⟨News.get (by k_asm) (List.mem_cons_of_mem _ (by assumption)), ?_⟩); (try dsimp only [List.nil_append, List.cons_append])))
theorem quote_call {prog : Program} {w : World} {mean : ExcName → Option Value} {mg mb : Str → Option Value} {news : List (Addr × Obj)} {line : Str} {i : Int} {tx : Tok} {dp un : Nat} {gd : Option (List Code)} {cn : Str} {cs : Scope} {a : Addr} {ccd : Value} {cl : List (Str × Addr)} {outer : List Env} {A₀ : Around} {base h₀ : Heap} {L : Addr} {m : Str → Option Value} {s : Shared} {Q E : Value → Shared → Prop}
    (hc : (Txt.charAt line i).getD 0 < 256) (hB : Below A₀ base outer h₀) (hF : Fr h₀ L s.heap m) (hK : (Mine.hd.heap_39 w.params).In h₀) (hN : News h₀ L s.heap news) (hT : Top Mine.hd.view_39 LL mean mg mb h₀) (hcs : cs.kind = .function) (hdp : dp + 1 < recursionLimit) (hun : un + 8 < cLine)
    (h : ∀ (t : Tok) (h' : Heap) (tk' : Nat), Fr h₀ L h' m → News h₀ L h' news → Q (.str (quoteCh ((Txt.charAt line i).getD 0)) t) { s with heap := h', toks := tk' }) :
    wpAny (model prog w) (ktrTop dp un gd cn cs L a ccd cl outer) (call (.ref 37) [.str (Txt.item line i) tx]) Q E s :=
  quote_spec prog w mean mg mb news ((Txt.charAt line i).getD 0) hc tx dp un gd cn cs a ccd cl outer A₀ base h₀ L m s Q E hB hF hK hN hT hcs trivial hdp hun h

local macro_rules | `(tactic| walk_at "call ref") => `(tactic| (k_here; (with_reducible show wpAny _ _ (call (Value.ref 37) [_]) _ _ _); refine Stop.out ?_))
local macro_rules | `(tactic| walk_at "call builtin:str.join") => `(tactic| (k_here; (refine join_listC (by kmk_list) (by first | assumption | (rw [List.push_toArray]; exact StrsAre.append' (by assumption) (StrsAre.cons _ _ StrsAre.nil))) (by omega) (by (try simp only [List.map_append, List.sum_append, List.length_append, List.map_cons, List.map_nil, List.sum_cons, List.sum_nil, List.length_cons, List.length_nil, len_emp]); omega) ?_); intro _ _))
theorem enc_spec (prog : Program) (w : World) (mean : ExcName → Option Value) (mg mb : Str → Option Value) (news : List (Addr × Obj)) 
   (text : Str) (t0 t1 t2 : Tok) (width : Int) (eol : Str) (ht : text.length ≤ 17) (hc : ∀ c ∈ text.cps.toList, c < 256) (hw : 4 ≤ width ∧ width ≤ 8) (hel : eol.length ≤ 2)
   (dp un : Nat) (gd : Option (List Code)) (cn : Str) (cs : Scope) (a : Addr) (ccd : Value) (cl : List (Str × Addr)) (outer : List Env) (A₀ : Around) (base h₀ : Heap) (L : Addr) (m : Str → Option Value) (s : Shared) (Q E : Value → Shared → Prop)
   (hB : Below A₀ base outer h₀) (hF : Fr h₀ L s.heap m) (hK : (Mine.hd.heap_39 w.params).In h₀) (hN : News h₀ L s.heap news)
   (hT : Top Mine.hd.view_39 LL mean mg mb h₀) (hcs : cs.kind = .function) (hdp : dp + 3 < recursionLimit) (hun : un + 30 < cLine)
   (hret : ∀ (t : Tok) (h' : Heap) (tk' : Nat), Fr h₀ L h' m → News h₀ L h' news → Q (.str (encB text width eol) t) { s with heap := h', toks := tk' }) :
   wpAny (model prog w) (ktrTop dp un gd cn cs L a ccd cl outer) (call (.ref 50) [.str text t0, .int width t1, .str eol t2]) Q E s := by
  have htab : ∀ c ∈ text.cps.toList, c < 2 ^ 62 ∧ ∃ u, (encTab w)[c]? = some (.str (encCh c) u) := fun c h => ⟨by have := hc c h; omega, encTab_at w c (hc c h)⟩
  have hlen0 := encTx_len text.cps.toList
  have hlen1 : text.cps.toList.length = text.length := by simp [PySem.Str.length]
  have hlen2 : (text.cps.toList.flatMap fun c => (encCh c).cps.toList).length ≤ sizeLine := by rw [sizeLine_eq]; omega
  refine wpAny_call ?_
  k_dflt (refine' code_def ?k1 ?k2 ?k3 ?k4 ?k5 ?kA ?kF ?kK ?k6 ?k7 ?k8 ?k9 ?kB ?_ ?c2 ?c3 ?c4 ?c5; (case kA => exact rfl); (case kF => exact rfl); (case kK => assumption); (case k1 => k_asm); (case k2 => k_asm); (case k3 => k_asm); (case k4 => k_asm); (case k5 => k_asm); (case k6 => k_is); (case k7 => k_is); (case k8 => ktr_room); (case k9 => exact binds_K (by k_in) rfl (by k_is) rfl rfl rfl); (case c5 => decide); (case kB => exact locs rfl); (case c2 => exact rfl); (case c3 => exact rfl); (case c4 => exact rfl); k_whole; intro g' L' h' FG' F' N' B' X' T'; (try dsimp only); (try k_lift B'); (try k_fold))
  k_steps
  · refine ⟨?_⟩
    have hbl : (encTx text).length ≤ 51 := by simp only [encTx, PySem.Str.length, List.size_toArray]; omega
    have hbe : ({ cps := (List.flatMap (fun c => (encCh c).cps.toList) text.cps.toList).toArray } : Str) = encTx text := rfl
    rw [hbe]
    have hcuts := PyProof.Rows.lineCuts_le (encTx text)
    k_steps
    rename_i eb hA1 l1a hA2 b hA3 l1b hA4 lF Nx lst hA5 kk hlst F N
    refine ⟨?_⟩
    have hll : eb < hA4.objs.size := Heap.lt_size (Nx _ (.tail _ (.head _))).1
    refine str_loop (σ := LineSt) (vs := strValues lst) (nn := 0) (xs := Txt.lines (encTx text)) (fun c => (eb, PySem.W.listOf c.vs.toArray c.n) :: (hA4.objs.size, PySem.W.listOf (strValues lst).toArray 0) :: (b, boundObj eb) :: news)
      (fun _ => []) [Str.ofString "line", Str.ofString "start", Str.ofString "laststart", Str.ofString "stop", Str.ofString "room", Str.ofString "q"]
      (fun pre c => StrsAre c.vs (pre.flatMap (lineParts width eol)))
      ⟨[], 0⟩ ?lh ?ll ?lx F ?ln ?lk ?lp ?lt ?ld
    case lh => with_unfolding_all rfl
    case ll => exact fun c => .tail _ (.head _)
    case lx => rw [← hlst]; exact strsAre_of_values lst
    case ln => exact kst_newsOf N (by kcj_all)
    case lk => exact fun _ h => nomatch h
    case lp => exact StrsAre.nil
    case lt =>
      rintro ⟨vs, n⟩ pre post line tl u h tk9 own hxs hoff hP F9 N9
      dsimp only at hP F9 N9 hoff ⊢
      obtain ⟨R, hR⟩ : ∃ R, R = (hA4.objs.size, PySem.W.listOf (strValues lst).toArray 0) :: (b, boundObj eb) :: news ++ own := ⟨_, rfl⟩
      have hbR : (b, boundObj eb) ∈ R := by rw [hR]; exact .tail _ (.head _)
      have hneR : ∀ p ∈ R, p.1 ≠ eb := by
        intro p hp
        rw [hR] at hp
        rcases List.mem_append.mp hp with hp | hp
        · rcases List.mem_cons.mp hp with rfl | hp
          · exact Nat.ne_of_gt hll
          · rcases List.mem_cons.mp hp with rfl | hp
            · exact Nat.ne_of_gt l1b.1
            · exact Nat.ne_of_lt (l1a p hp)
        · exact fun e => hoff p hp eb (.head _) e
      have hmem9 : line ∈ Txt.lines (encTx text) := by rw [hxs]; exact List.mem_append.mpr (.inr (.head _))
      have hll9 : line.length ≤ 51 := Nat.le_trans (line_short hmem9) hbl
      have hq9 : (Txt.charAt line (-1)).getD 0 < 256 := charAt_lt (by decide) (fun d hd => enc_lt hc d (line_sub hmem9 d hd)) _
      rw [List.cons_append, ← hR] at N9
      have hbase : (pre.flatMap (lineParts width eol)).length ≤ 5000 := by
        have h1 := (flat_len (width := width) hel (k := 51) pre fun x hx => Nat.le_trans (line_short (by rw [hxs]; exact List.mem_append.mpr (.inl hx))) hbl).1
        have h2 := lines_count (encTx text)
        rw [hxs, List.length_append, List.length_cons] at h2
        have h3 : pre.length * (51 + 1) ≤ 51 * (51 + 1) := Nat.mul_le_mul_right _ (by omega)
        omega
      k_steps
      rename_i F8 N8
      refine ⟨?_⟩
      refine' ksw_while (σ := CutSt) (fun c => (eb, PySem.W.listOf c.vs.toArray c.n) :: R) (fun c => [(Str.ofString "start", .int c.start c.ts)]) (fun c => StrsAre c.vs (pre.flatMap (lineParts width eol) ++ c.parts)) [Str.ofString "stop"]
        (fun c => 0 ≤ c.start ∧ c.start ≤ line.length ∧ (c.parts ++ (lineLoop width line c.start).1, (lineLoop width line c.start).2) = lineLoop width line 0 ∧ (c.parts.length : Int) ≤ c.start) (fun c => ((line.length : Int) - c.start).toNat)
        ⟨0, ?ta, vs, n, []⟩ F8 N8 ?xf ?xk ?xp ?xt
      case xf => simpa using hP
      case xk => kst_all
      case xp => exact ⟨by simp, by simp, by simp, by simp⟩
      case xt =>
        rintro ⟨start, ts, vs', n', parts⟩ u7 h7 tk7 hS7 hp7 F7 N7
        dsimp only at hS7 hp7 F7 N7 ⊢
        obtain ⟨p1, p2, p3, p4⟩ := hp7
        have hvl : vs'.length = (pre.flatMap (lineParts width eol)).length + parts.length := by rw [hS7.length, List.length_append]
        k_steps
        all_goals (try (refine Stop.mk ?_))
        · rename_i F6 N6
          have hcut : cutAt width line start = (Txt.slice line (some start) (some (start + (width - 1) - 1)), start + (width - 1) - 2) := by
            unfold cutAt
            rw [if_pos (eq_of_beq (by assumption))]
          have e5 := lineLoop_step hw.1 (by assumption) hcut
          rw [e5] at p3
          rw [List.push_toArray] at N6
          refine ksw_end ⟨start + (width - 1) - 2, _, _, n' + 1, parts ++ [Txt.slice line (some start) (some (start + (width - 1) - 1))]⟩ F6 N6 (fun p hp => hp) ?_ (by kst_all) ?_ ?_ ?_
          · dsimp only
            rw [← List.append_assoc]
            exact hS7.append' (StrsAre.cons _ _ StrsAre.nil)
          · intro z hz hc
            have z1 := hz _ (.head _)
            dsimp only at z1
            simp only [List.contains_cons, List.contains_nil, Bool.or_false, beq_eq_false_iff_ne, ne_eq] at hc
            simp [kstB, z1, hc]
          · dsimp only
            refine ⟨by omega, by omega, ?_, by simp only [List.length_append, List.length_cons, List.length_nil]; omega⟩
            simpa using p3
          · dsimp only
            omega
        · rename_i F6 N6
          have hcut : cutAt width line start = (Txt.slice line (some start) (some (start + (width - 1))), start + (width - 1) - 1) := by
            unfold cutAt
            rw [if_neg (ne_of_beq_false (by assumption)), if_pos (eq_of_beq (by assumption))]
          have e5 := lineLoop_step hw.1 (by assumption) hcut
          rw [e5] at p3
          rw [List.push_toArray] at N6
          refine ksw_end ⟨start + (width - 1) - 1, _, _, n' + 1, parts ++ [Txt.slice line (some start) (some (start + (width - 1)))]⟩ F6 N6 (fun p hp => hp) ?_ (by kst_all) ?_ ?_ ?_
          · dsimp only
            rw [← List.append_assoc]
            exact hS7.append' (StrsAre.cons _ _ StrsAre.nil)
          · intro z hz hc
            have z1 := hz _ (.head _)
            dsimp only at z1
            simp only [List.contains_cons, List.contains_nil, Bool.or_false, beq_eq_false_iff_ne, ne_eq] at hc
            simp [kstB, z1, hc]
          · dsimp only
            refine ⟨by omega, by omega, ?_, by simp only [List.length_append, List.length_cons, List.length_nil]; omega⟩
            simpa using p3
          · dsimp only
            omega
        · rename_i F6 N6
          have hcut : cutAt width line start = (Txt.slice line (some start) (some (start + (width - 1))) ++ Str.ofString "=", start + (width - 1)) := by
            unfold cutAt
            rw [if_neg (ne_of_beq_false (by assumption)), if_neg (ne_of_beq_false (by assumption))]
          have e5 := lineLoop_step hw.1 (by assumption) hcut
          rw [e5] at p3
          rw [List.push_toArray] at N6
          refine ksw_end ⟨start + (width - 1), _, _, n' + 1, parts ++ [Txt.slice line (some start) (some (start + (width - 1))) ++ Str.ofString "="]⟩ F6 N6 (fun p hp => hp) ?_ (by kst_all) ?_ ?_ ?_
          · dsimp only
            rw [← List.append_assoc]
            exact hS7.append' (StrsAre.cons _ _ StrsAre.nil)
          · intro z hz hc
            have z1 := hz _ (.head _)
            dsimp only at z1
            simp only [List.contains_cons, List.contains_nil, Bool.or_false, beq_eq_false_iff_ne, ne_eq] at hc
            simp [kstB, z1, hc]
          · dsimp only
            refine ⟨by omega, by omega, ?_, by simp only [List.length_append, List.length_cons, List.length_nil]; omega⟩
            simpa using p3
          · dsimp only
            omega
        · rename_i F6 N6
          have hL0 : lineLoop width line 0 = (parts, start) := by
            rw [← p3, lineLoop_end (by omega)]
            simp
          have hX : lastPart width eol line start = Txt.slice line (some start) none := by
            unfold lastPart
            rw [if_neg (fun hh => absurd (hh.2.symm.trans (by assumption)) Bool.false_ne_true)]
          rw [List.push_toArray, hR] at N6
          refine ⟨⟨_, n' + 1⟩, _, _, _, rfl, F6, N6, hoff, (fun _ h => nomatch h), ?_, ?_⟩
          · intro z h1 _ h3
            simp only [List.contains_cons, List.contains_nil, Bool.or_false, Bool.or_eq_false_iff, beq_eq_false_iff_ne, ne_eq] at h3
            simp [kstB, h1, h3]
          · dsimp only
            rw [List.flatMap_append, List.flatMap_cons, List.flatMap_nil, List.append_nil, lineParts, hL0]
            dsimp only
            rw [hX, ← List.append_assoc]
            exact hS7.append' (StrsAre.cons _ _ StrsAre.nil)
        · refine' quote_call ?q0 ?q1 ?q2 ?q3 ?q4 ?q5 ?q6 ?q7 ?q8 ?_
          (case q0 => assumption)
          (case q1 => k_asm)
          (case q2 => k_asm)
          (case q3 => k_asm)
          (case q4 => k_asm)
          (case q5 => k_asm)
          (case q6 => exact rfl)
          (case q7 => ktr_room)
          (case q8 => ktr_units)
          intro t' h' tk' F' N'
          k_steps
          rename News _ _ _ ((_, PySem.W.listOf (Array.push _ _) _) :: _) => N6
          rename Fr _ _ _ _ => F6
          have hL0 : lineLoop width line 0 = (parts, start) := by
            rw [← p3, lineLoop_end (by omega)]
            simp
          have hX : lastPart width eol line start = Txt.slice line (some start) (some (-1)) ++ quoteCh ((Txt.charAt line (-1)).getD 0) := by
            unfold lastPart
            have hws : endsWs line := ⟨by omega, by assumption⟩
            rw [if_pos hws, if_pos (by omega)]
          rw [List.push_toArray, hR] at N6
          refine ⟨⟨_, n' + 1⟩, _, _, _, rfl, F6, N6, hoff, (fun _ h => nomatch h), ?_, ?_⟩
          · intro z h1 _ h3
            simp only [List.contains_cons, List.contains_nil, Bool.or_false, Bool.or_eq_false_iff, beq_eq_false_iff_ne, ne_eq] at h3
            simp [kstB, h1, h3]
          · dsimp only
            rw [List.flatMap_append, List.flatMap_cons, List.flatMap_nil, List.append_nil, lineParts, hL0]
            dsimp only
            rw [hX, ← List.append_assoc]
            exact hS7.append' (StrsAre.cons _ _ StrsAre.nil)
        · rename_i F6 N6
          have hL0 : lineLoop width line 0 = (parts, start) := by
            rw [← p3, lineLoop_end (by omega)]
            simp
          have hX : lastPart width eol line start = Txt.slice line (some start) (some (-1)) ++ (Txt.item line (-1) ++ (Str.ofString "=" ++ eol)) := by
            unfold lastPart
            have hws : endsWs line := ⟨by omega, by assumption⟩
            rw [if_pos hws, if_neg (by omega), if_pos (by omega)]
          rw [List.push_toArray, hR] at N6
          refine ⟨⟨_, n' + 1⟩, _, _, _, rfl, F6, N6, hoff, (fun _ h => nomatch h), ?_, ?_⟩
          · intro z h1 _ h3
            simp only [List.contains_cons, List.contains_nil, Bool.or_false, Bool.or_eq_false_iff, beq_eq_false_iff_ne, ne_eq] at h3
            simp [kstB, h1, h3]
          · dsimp only
            rw [List.flatMap_append, List.flatMap_cons, List.flatMap_nil, List.append_nil, lineParts, hL0]
            dsimp only
            rw [hX, ← List.append_assoc]
            exact hS7.append' (StrsAre.cons _ _ StrsAre.nil)
        · refine' quote_call ?q0 ?q1 ?q2 ?q3 ?q4 ?q5 ?q6 ?q7 ?q8 ?_
          (case q0 => assumption)
          (case q1 => k_asm)
          (case q2 => k_asm)
          (case q3 => k_asm)
          (case q4 => k_asm)
          (case q5 => k_asm)
          (case q6 => exact rfl)
          (case q7 => ktr_room)
          (case q8 => ktr_units)
          intro t' h' tk' F' N'
          k_steps
          rename News _ _ _ ((_, PySem.W.listOf (Array.push _ _) _) :: _) => N6
          rename Fr _ _ _ _ => F6
          have hL0 : lineLoop width line 0 = (parts, start) := by
            rw [← p3, lineLoop_end (by omega)]
            simp
          have hX : lastPart width eol line start = Txt.slice line (some start) (some (-1)) ++ (Str.ofString "=" ++ eol ++ quoteCh ((Txt.charAt line (-1)).getD 0)) := by
            unfold lastPart
            have hws : endsWs line := ⟨by omega, by assumption⟩
            rw [if_pos hws, if_neg (by omega), if_neg (by omega)]
          rw [List.push_toArray, hR] at N6
          refine ⟨⟨_, n' + 1⟩, _, _, _, rfl, F6, N6, hoff, (fun _ h => nomatch h), ?_, ?_⟩
          · intro z h1 _ h3
            simp only [List.contains_cons, List.contains_nil, Bool.or_false, Bool.or_eq_false_iff, beq_eq_false_iff_ne, ne_eq] at h3
            simp [kstB, h1, h3]
          · dsimp only
            rw [List.flatMap_append, List.flatMap_cons, List.flatMap_nil, List.append_nil, lineParts, hL0]
            dsimp only
            rw [hX, ← List.append_assoc]
            exact hS7.append' (StrsAre.cons _ _ StrsAre.nil)
        · rename_i F6 N6
          have hL0 : lineLoop width line 0 = (parts, start) := by
            rw [← p3, lineLoop_end (by omega)]
            simp
          have hX : lastPart width eol line start = Txt.slice line (some start) none := by
            unfold lastPart
            rw [if_neg (by intro hh; have := hh.1; omega)]
          rw [List.push_toArray, hR] at N6
          refine ⟨⟨_, n' + 1⟩, _, _, _, rfl, F6, N6, hoff, (fun _ h => nomatch h), ?_, ?_⟩
          · intro z h1 _ h3
            simp only [List.contains_cons, List.contains_nil, Bool.or_false, Bool.or_eq_false_iff, beq_eq_false_iff_ne, ne_eq] at h3
            simp [kstB, h1, h3]
          · dsimp only
            rw [List.flatMap_append, List.flatMap_cons, List.flatMap_nil, List.append_nil, lineParts, hL0]
            dsimp only
            rw [hX, ← List.append_assoc]
            exact hS7.append' (StrsAre.cons _ _ StrsAre.nil)
    case ld =>
      rintro ⟨vs, n⟩ u h tk9 hP F9 N9
      dsimp only at hP F9 N9 ⊢
      have hpos9 : 1 ≤ (encTx text).length := enc_pos (by omega)
      have hfl9 := flat_len (width := width) hel (k := 51) (Txt.lines (encTx text)) fun x hx => Nat.le_trans (line_short hx) hbl
      have hpl9 : ((Txt.lines (encTx text)).flatMap (lineParts width eol)).length ≤ 5000 := by
        have h2 := lines_count (encTx text)
        have h3 : (Txt.lines (encTx text)).length * (51 + 1) ≤ 52 * (51 + 1) := Nat.mul_le_mul_right _ (by omega)
        have h1 := hfl9.1
        omega
      have hvl9 : vs.length = ((Txt.lines (encTx text)).flatMap (lineParts width eol)).length := hP.length
      have hsz9 : (((Txt.lines (encTx text)).flatMap (lineParts width eol)).map (·.length)).sum ≤ 1000000 := by
        have h1 := sum_le hfl9.2
        have h3 : ((Txt.lines (encTx text)).flatMap (lineParts width eol)).length * (51 + 6) ≤ 5000 * (51 + 6) := Nat.mul_le_mul_right _ hpl9
        omega
      obtain ⟨R, hR⟩ : ∃ R, R = (hA4.objs.size, PySem.W.listOf (strValues lst).toArray 0) :: (b, boundObj eb) :: news := ⟨_, rfl⟩
      have hbR : (b, boundObj eb) ∈ R := by rw [hR]; exact .tail _ (.head _)
      have hneR : ∀ p ∈ R, p.1 ≠ eb := by
        intro p hp
        rw [hR] at hp
        rcases List.mem_cons.mp hp with rfl | hp
        · exact Nat.ne_of_gt hll
        · rcases List.mem_cons.mp hp with rfl | hp
          · exact Nat.ne_of_gt l1b.1
          · exact Nat.ne_of_lt (l1a p hp)
      rw [← hR] at N9
      k_steps
      · refine cb_retS (Q := Q) hret ?_ (by k_asm) (cb_drop (by k_asm) (by rw [hR]; intro p hp; exact .tail _ (.tail _ (.tail _ hp))))
        unfold encB
        rw [if_neg (by omega), if_neg (fun hh => absurd (hh.symm.trans (by assumption)) Bool.false_ne_true)]
      · refine cb_retS (Q := Q) hret ?_ (by k_asm) (cb_drop (by k_asm) (by rw [hR]; intro p hp; exact .tail _ (.tail _ (.tail _ hp))))
        unfold encB
        rw [if_neg (by omega), if_pos (by assumption)]
  · refine cb_retS (Q := Q) hret ?_ (by k_asm) (by k_asm)
    unfold encB
    rw [if_pos (by omega)]
theorem enc_call {prog : Program} {w : World} {mean : ExcName → Option Value} {mg mb : Str → Option Value} {news : List (Addr × Obj)} {dp un : Nat} {gd : Option (List Code)} {cn : Str} {cs : Scope} {a : Addr} {ccd : Value} {cl : List (Str × Addr)} {outer : List Env} {A₀ : Around} {base h₀ : Heap} {L : Addr} {m : Str → Option Value} {s : Shared} {Q E : Value → Shared → Prop}
    {text eol : Str} {t0 t1 t2 : Tok} {width : Int} (ht : text.length ≤ 17) (hc : ∀ c ∈ text.cps.toList, c < 256) (hw : 4 ≤ width ∧ width ≤ 8) (hel : eol.length ≤ 2)
    (hB : Below A₀ base outer h₀) (hF : Fr h₀ L s.heap m) (hK : (Mine.hd.heap_39 w.params).In h₀) (hN : News h₀ L s.heap news) (hT : Top Mine.hd.view_39 LL mean mg mb h₀) (hcs : cs.kind = .function) (hdp : dp + 3 < recursionLimit) (hun : un + 30 < cLine)
    (hret : ∀ (t : Tok) (h' : Heap) (tk' : Nat), Fr h₀ L h' m → News h₀ L h' news → Q (.str (encB text width eol) t) { s with heap := h', toks := tk' }) :
    wpAny (model prog w) (ktrTop dp un gd cn cs L a ccd cl outer) (call (.ref 50) [.str text t0, .int width t1, .str eol t2]) Q E s :=
  enc_spec prog w mean mg mb news text t0 t1 t2 width eol ht hc hw hel dp un gd cn cs a ccd cl outer A₀ base h₀ L m s Q E hB hF hK hN hT hcs hdp hun hret
end Mine

namespace Mine
theorem fill6 : ∀ w : World, (Mine.hd.heap_39 w.params) = Mine.hd.heap_39 w.params ∧ PySem.Challenge.rw_nb0380_01 = PySem.Challenge.rw_nb0380_01 := by
  k_fill
  exact fun _ => ⟨rfl, rfl⟩

structure PutSt where
  closed : Str
  tc : Tok
  rw : Addr
  vs : List Value
  row : List Str

theorem len_eq6 : (Str.ofString "=").length = 1 := by decide +kernel
theorem len_join (row : List Str) : (Txt.join (Str.ofString "") row).length = (row.map (·.length)).sum := len_join0 row

theorem len_getD_le : ∀ (row : List Str) (i : Nat), (row.getD i Str.empty).length ≤ (row.map (·.length)).sum
  | [], i => by simp [Str.empty, PySem.Str.length]
  | p :: ps, 0 => by simp
  | p :: ps, i + 1 => by
    have := len_getD_le ps i
    simp only [List.getD_cons_succ, List.map_cons, List.sum_cons]
    omega

theorem sum_take_le : ∀ (row : List Str) (i : Nat), ((row.take i).map (·.length)).sum ≤ (row.map (·.length)).sum
  | [], i => by simp
  | p :: ps, 0 => by simp
  | p :: ps, i + 1 => by
    have := sum_take_le ps i
    simp only [List.take_succ_cons, List.map_cons, List.sum_cons]
    omega

structure FitSt where
  k : Int
  room : Int
  tk : Tok
  tr : Tok

local macro_rules | `(tactic| walk_at "exec While Compare cons nil") => `(tactic| (k_here; (with_reducible show wpAny _ _ (exec (Stmt.While _ _ _ _) _) _ _ _); (refine Stop.out ?_)))
local macro_rules | `(tactic| walk_at "exec While") => `(tactic| (k_here; (with_reducible show wpAny _ _ (exec (Stmt.While _ _ _ _) _) _ _ _); (refine Stop.out ?_)))
local macro_rules | `(tactic| walk_at "binaryOp Add ref ref") => `(tactic| (k_here; k_dflt (refine' add_strs ?F ?N ?a ?b ?x ?y ?z ?_; (case F => k_asm); (case N => k_asm); (case a => kmk_list); (case b => kmk_list); (case x => assumption); (case y => first | assumption | exact StrsAre.cons _ _ StrsAre.nil); (case z => (simp only [sizeLine_eq, List.length_cons, List.length_nil]; omega))); intro D' us' h' F' N' l1 hS'; (try k_lt l1)))
local macro_rules | `(tactic| walk_at "call builtin:str.join") => `(tactic| (k_here; (refine join_listC (by kmk_list) (by first | assumption | exact ‹StrsAre _ _›) (by decide) (by omega) ?_); intro _ _))
local macro_rules | `(tactic| walk_at "subscriptTail Name Name ref int") => `(tactic| (k_here; (refine item_strsA (by kmk_list) (by assumption) (by omega) (by omega) (by omega) ?_); intro _))
local macro_rules | `(tactic| walk_at "binaryOp Add str str") => `(tactic| (k_here; (refine PyProof.Rows.add_str (hsz := ?hsz) ?_); (case hsz => (simp only [PySem.Str.length_append, sizeLine_eq, len_eq6, len_join]; omega)); intro _ _))
local macro_rules | `(tactic| walk_at "subscriptTail Name Slice ref ref") => `(tactic| (k_here; k_dflt (first | (refine' slice_upto ?F ?N ?l ?i ?y ?z ?_ ?s ?t; (case F => k_asm); (case N => k_asm); (case l => kmk_list); (case i => assumption); (case y => omega); (case z => (rw [sizeLine_eq]; omega)); (case s => with_unfolding_all rfl); (case t => kmk_pure)) | (refine' slice_from ?F ?N ?l ?i ?y ?z ?_ ?s ?t; (case F => k_asm); (case N => k_asm); (case l => kmk_list); (case i => assumption); (case y => omega); (case z => (rw [sizeLine_eq]; omega)); (case s => with_unfolding_all rfl); (case t => kmk_pure))); intro D' us' h' F' N' l1 hS'; (try k_lt l1)))
theorem put_spec (prog : Program) (w : World) (mean : ExcName → Option Value) (mg mb : Str → Option Value) (news : List (Addr × Obj)) 
   (st rw : Addr) (closed piece : Str) (tc tp : Tok) (vs : List Value) (row : List Str) (hrow : StrsAre vs row) (n1 n2 : Nat) (width : Int) (t1 t2 : Tok) (eol : Str) (hw : 4 ≤ width ∧ width ≤ 8)
   (hcl : closed.length ≤ 100000) (hpl : piece.length ≤ 3) (hpc0 : ∀ p ∈ row ++ [piece], p.length ≤ 3) (hel : eol.length ≤ 2) (hsz : (row.map (·.length)).sum + row.length * 64 ≤ 100000) 
   (dp un : Nat) (gd : Option (List Code)) (cn : Str) (cs : Scope) (a : Addr) (ccd : Value) (cl : List (Str × Addr)) (outer : List Env) (A₀ : Around) (base h₀ : Heap) (L : Addr) (m : Str → Option Value) (s : Shared) (Q E : Value → Shared → Prop)
   (hB : Below A₀ base outer h₀) (hF : Fr h₀ L s.heap m) (hK : (Mine.hd.heap_39 w.params).In h₀)
   (hN : News h₀ L s.heap ((st, PySem.W.listOf #[.str closed tc, .ref rw] n1) :: (rw, PySem.W.listOf vs.toArray n2) :: news))
   (hT : Top Mine.hd.view_39 LL mean mg mb h₀) (hcs : cs.kind = .function) (hdp : dp + 1 < recursionLimit) (hun : un + 8 < cLine)
   (hret : ∀ (st' rw' : Addr) (closed' : Str) (tc' : Tok) (vs' : List Value) (row' : List Str) (h' : Heap) (tk' : Nat), putLoop width eol closed (row ++ [piece]) = (closed', row') → StrsAre vs' row' → AllLt st' news → AllLt rw' news →
      Fr h₀ L h' m → News h₀ L h' ((st', PySem.W.listOf #[.str closed' tc', .ref rw'] 0) :: (rw', PySem.W.listOf vs'.toArray 0) :: news) → Q (.ref st') { s with heap := h', toks := tk' }) :
   wpAny (model prog w) (ktrTop dp un gd cn cs L a ccd cl outer) (call (.ref 71) [.ref st, .str piece tp, .int width t1, .str eol t2]) Q E s := by
  refine wpAny_call ?_
  k_dflt cell_enter
  k_steps
  rename_i l' h2 l1a D us h1 hS l1 h' F N
  have hsum : ((row ++ [piece]).map (·.length)).sum = (row.map (·.length)).sum + piece.length := by simp
  have hlen : (row ++ [piece]).length = row.length + 1 := by simp
  refine ⟨?_⟩
  refine ksw_while (σ := PutSt) (fun c => (c.rw, PySem.W.listOf c.vs.toArray 0) :: (st, PySem.W.listOf #[.str closed tc, .ref rw] n1) :: (rw, PySem.W.listOf vs.toArray n2) :: news)
    (fun c => [(Str.ofString "closed", .str c.closed c.tc), (Str.ofString "row", .ref c.rw)]) (fun c => StrsAre c.vs c.row) [Str.ofString "room", Str.ofString "k"]
    (fun c => putLoop width eol c.closed c.row = putLoop width eol closed (row ++ [piece]) ∧ c.closed.length + (c.row.map (·.length)).sum + 3 * c.row.length ≤ 300000 ∧ AllLt c.rw news ∧ ∀ p ∈ c.row, p.length ≤ 3) (fun c => c.row.length)
    ⟨closed, tc, D, us, row ++ [piece]⟩ F ?wn hS ?wk ?wp ?wt
  case wp => exact ⟨rfl, by dsimp only; omega, l1.2.2.2, hpc0⟩
  case wk => kst_all
  case wn => exact kst_newsOf N (by kcj_all)
  case wt =>
   rintro ⟨closed', tc', rw', vs', row'⟩ u h tk hf hp F N
   dsimp only at hf hp F N ⊢
   obtain ⟨hp1, hp2, hp3, hpc⟩ := hp
   have hj := len_join row'
   k_steps
   · rename_i hA hB9 F1 N1
     have hgt : width < ((row'.map (·.length)).sum : Nat) := by omega
     refine ⟨?_⟩
     refine' ksw_while (σ := FitSt) (fun _ => (rw', PySem.W.listOf vs'.toArray 0) :: (st, PySem.W.listOf #[.str closed tc, .ref rw] n1) :: (rw, PySem.W.listOf vs.toArray n2) :: news)
       (fun c => [(Str.ofString "room", .int c.room c.tr), (Str.ofString "k", .int c.k c.tk)]) (fun _ => True) []
       (fun c => fit (width - 1) row' = c.k.toNat + fit c.room (row'.drop c.k.toNat) ∧ 0 ≤ c.room ∧ c.room = width - 1 - (((row'.take c.k.toNat).map (·.length)).sum : Nat) ∧ 0 ≤ c.k ∧ c.k ≤ row'.length) (fun c => row'.length - c.k.toNat)
       ⟨0, width - 1, ?ta, ?tb⟩ F1 N1 trivial ?wk2 ?wp2 ?wt2
     case wk2 => kst_all
     case wp2 => exact ⟨by simp, by dsimp only; omega, by simp, by simp, by simp⟩
     case wt2 =>
       rintro ⟨k, room, tk9, tr9⟩ u9 h9 t9 _ hp9 F9 N9
       dsimp only at hp9 F9 N9 ⊢
       obtain ⟨q1, q2, q3, q0, q4⟩ := hp9
       have hklt : k.toNat < row'.length := by
         rcases Nat.lt_or_ge k.toNat row'.length with hh | hh
         · exact hh
         · rw [List.take_of_length_le hh] at q3
           omega
       have hit := len_getD_le row' k.toNat
       have hts := sum_take_le row' k.toNat
       have htl : (row'.take k.toNat).length ≤ row'.length := by rw [List.length_take]; exact Nat.min_le_right _ _
       k_steps
       · rename_i F8 N8
         exact ksw_end ⟨k + 1, room - ((row'.getD k.toNat Str.empty).length : Int), _, _⟩ F8 N8 (by kcj_all) trivial (by kst_all) (by
           intro z hz _
           have z1 := hz _ (.head _)
           have z2 := hz _ (.tail _ (.head _))
           dsimp only at z1 z2
           simp only [kstB, if_neg z1, if_neg z2, List.contains_nil, Bool.false_eq_true, if_false]) (by
           dsimp only
           have e1 : (k + 1).toNat = k.toNat + 1 := by omega
           have e2 : row'.drop k.toNat = row'.getD k.toNat Str.empty :: row'.drop (k.toNat + 1) := by
             rw [List.drop_eq_getElem_cons hklt]; simp [List.getD, hklt]
           have e3 : row'.take (k.toNat + 1) = row'.take k.toNat ++ [row'.getD k.toNat Str.empty] := by
             rw [List.take_succ_eq_append_getElem hklt]; simp [List.getD, hklt]
           refine ⟨?_, by omega, ?_, by omega, by omega⟩
           · rw [e1, q1, e2, fit, if_pos (by omega)]
             omega
           · rw [e1, e3]
             simp only [List.map_append, List.map_cons, List.map_nil, List.sum_append, List.sum_cons, List.sum_nil]
             omega) (by dsimp only; omega)
       · rename_i h7 tok7 h6 D7 us7 h5 hS7 l17 h4 F8 N8
         have hfit : fit (width - 1) row' = k.toNat := by
           rw [q1, List.drop_eq_getElem_cons hklt]
           have e9 : row'[k.toNat] = row'.getD k.toNat Str.empty := by simp [List.getD, hklt]
           rw [e9, fit, if_neg (by omega)]
           rfl
         have hpos : 0 < k.toNat := by
           rcases Nat.eq_zero_or_pos k.toNat with h0 | h0
           · exfalso
             have q3' := q3
             rw [h0] at q3' 
             simp at q3'
             have := hpc (row'.getD k.toNat Str.empty) (by simp [List.getD, hklt])
             omega
           · exact h0
         have hsd : ((row'.drop k.toNat).map (·.length)).sum + ((row'.take k.toNat).map (·.length)).sum = (row'.map (·.length)).sum := by
           conv => rhs; rw [← List.take_append_drop k.toNat row']
           simp only [List.map_append, List.sum_append]
           omega
         have hld : (row'.drop k.toNat).length = row'.length - k.toNat := List.length_drop
         refine ksw_end ⟨closed' ++ Txt.join (Str.ofString "") (row'.take k.toNat) ++ Str.ofString "=" ++ eol, _, D7, us7, row'.drop k.toNat⟩ F8 N8 (by kcj_all) hS7 (by kst_all) ?_ ?_ ?_
         · intro z hz hc
           have z1 := hz _ (.head _)
           have z2 := hz _ (.tail _ (.head _))
           dsimp only at z1 z2
           simp only [List.contains_cons, List.contains_nil, Bool.or_false, Bool.or_eq_false_iff, beq_eq_false_iff_ne, ne_eq] at hc
           simp [kstB, z1, z2, hc.1, hc.2]
         · dsimp only
           refine ⟨?_, ?_, l17.2.2.2.2, fun p hp => hpc p (List.mem_of_mem_drop hp)⟩
           · rw [← hp1]
             conv => rhs; rw [putLoop]
             rw [dif_pos ⟨by unfold total; omega, by rw [hfit]; exact hpos, by intro e; rw [e] at hklt; simp at hklt⟩, hfit]
           · simp only [PySem.Str.length_append, len_eq6, len_join]
             omega
         · dsimp only
           omega
   · rename_i l9 h9 F9 N9 l19 kF kN Tc kX
     have hle : ¬ width < total row' := by unfold total; omega
     have hend : putLoop width eol closed (row ++ [piece]) = (closed', row') := by
       rw [← hp1, putLoop, dif_neg (by intro hh; exact hle hh.1)]
     exact hret l9 rw' closed' tc' vs' row' _ _ hend hf l19.2.2.2 hp3 kF (kst_newsOf kN (by kcj_all))
theorem put_call {prog : Program} {w : World} {mean : ExcName → Option Value} {mg mb : Str → Option Value} {news : List (Addr × Obj)} {dp un : Nat} {gd : Option (List Code)} {cn : Str} {cs : Scope} {a : Addr} {ccd : Value} {cl : List (Str × Addr)} {outer : List Env} {A₀ : Around} {base h₀ : Heap} {L : Addr} {m : Str → Option Value} {s : Shared} {Q E : Value → Shared → Prop}
    {st rw : Addr} {closed piece eol : Str} {tc tp t1 t2 : Tok} {vs : List Value} {row : List Str} {n1 n2 : Nat} {width : Int} (hrow : StrsAre vs row) (hsz : (row.map (·.length)).sum + row.length * 64 ≤ 10000) (hw : 4 ≤ width ∧ width ≤ 8) (hcl : closed.length ≤ 10000) (hel : eol.length ≤ 2)
    (hpc : ∀ p ∈ row ++ [piece], p.length ≤ 3) (hst : (st, PySem.W.listOf #[.str closed tc, .ref rw] n1) ∈ news) (hrw : (rw, PySem.W.listOf vs.toArray n2) ∈ news)
    (hB : Below A₀ base outer h₀) (hF : Fr h₀ L s.heap m) (hK : (Mine.hd.heap_39 w.params).In h₀) (hN : News h₀ L s.heap news) (hT : Top Mine.hd.view_39 LL mean mg mb h₀) (hcs : cs.kind = .function) (hdp : dp + 3 < recursionLimit) (hun : un + 30 < cLine)
    (hret : ∀ (st' rw' : Addr) (closed' : Str) (tc' : Tok) (vs' : List Value) (row' : List Str) (h' : Heap) (tk' : Nat), putLoop width eol closed (row ++ [piece]) = (closed', row') → StrsAre vs' row' → AllLt st' news → AllLt rw' news →
      Fr h₀ L h' m → News h₀ L h' ((st', PySem.W.listOf #[.str closed' tc', .ref rw'] 0) :: (rw', PySem.W.listOf vs'.toArray 0) :: news) → Q (.ref st') { s with heap := h', toks := tk' }) :
    wpAny (model prog w) (ktrTop dp un gd cn cs L a ccd cl outer) (call (.ref 71) [.ref st, .str piece tp, .int width t1, .str eol t2]) Q E s := by
  refine put_spec prog w mean mg mb news st rw closed piece tc tp vs row hrow n1 n2 width t1 t2 eol hw (by omega) (hpc piece (by simp)) hpc hel (by omega) dp un gd cn cs a ccd cl outer A₀ base h₀ L m s Q E hB hF hK ?_ hT hcs (by omega) (by omega) hret
  refine kst_newsOf hN fun p hp => ?_
  rcases List.mem_cons.mp hp with rfl | hp
  · exact hst
  · rcases List.mem_cons.mp hp with rfl | hp
    · exact hrw
    · exact hp
end Mine

namespace Mine
local macro_rules | `(tactic| walk_at "call ref") => `(tactic| (k_here; (first | (with_reducible show wpAny _ _ (call (Value.ref 50) _) _ _ _) | (with_reducible show wpAny _ _ (call (Value.ref 64) _) _ _ _) | (with_reducible show wpAny _ _ (call (Value.ref 71) _) _ _ _) | (with_reducible show wpAny _ _ (call (Value.ref 78) _) _ _ _)); refine Stop.out ?_))
local macro_rules | `(tactic| walk_at "pyIter ref") => `(tactic| (k_here; refine Stop.out ?_))

local macro_rules | `(tactic| walk_at "call ref") => `(tactic| (k_here; (with_reducible show wpAny _ _ (call (Value.ref 57) _) _ _ _); (refine' sign_call ?q1 ?q2 ?q3 ?q4 ?q5 ?q6 ?q7 ?q8 ?_); (case q1 => k_asm); (case q2 => k_asm); (case q3 => k_asm); (case q4 => k_asm); (case q5 => k_asm); (case q6 => exact rfl); (case q7 => ktr_room); (case q8 => ktr_units); intro t' h' tk' F' N'; (try dsimp only)))
local macro_rules | `(tactic| walk_at "eval ListComp") => `(tactic| (k_here; k_dflt (refine LCg.ListComp_U (F₀ := by k_asm) (by with_unfolding_all rfl) (by decide) (by rfl) (by decide) (by rfl) ?_)))
local macro_rules | `(tactic| walk_at "CompSrc") => `(tactic| (refine Stop.out ?_))
/-- what is known behind the first if of a turn -/
def Cut {σ : Type} (h₀ : Heap) (L : Addr) (s : Shared) (m : Str → Option Value) (Led : σ → List (Addr × Obj)) (nm : Str) (val : σ → Value) (P : σ → Prop) (f : Flow) (s' : Shared) : Prop :=
  f = .next ∧ ∃ (c : σ) (h' : Heap) (tk' : Nat), s' = { s with heap := h', toks := tk' } ∧ Fr h₀ L h' (fun y => if y = nm then some (val c) else m y) ∧ News h₀ L h' (Led c) ∧ P c
theorem cut_if {σ : Type} {M : Model} {A : Around} {E : Value → Shared → Prop} {s : Shared} {h₀ : Heap} {L : Addr} {m : Str → Option Value} {st : Stmt} {env : Env} {Q : Flow → Shared → Prop} (Led : σ → List (Addr × Obj)) (nm : Str) (val : σ → Value) (P : σ → Prop)
    (_F : Fr h₀ L s.heap m) (hif : wpAny M A (exec st env) (Cut h₀ L s m Led nm val P) E s)
    (hrest : ∀ c h' tk', Fr h₀ L h' (fun y => if y = nm then some (val c) else m y) → News h₀ L h' (Led c) → P c → Q .next { s with heap := h', toks := tk' }) : wpAny M A (exec st env) Q E s := by
  refine wpAny_mono hif (fun f s' h => ?_) fun _ _ h => h
  obtain ⟨rfl, c, h', tk', rfl, F', N', hP⟩ := h
  exact hrest c h' tk' F' N' hP
local macro_rules | `(tactic| walk_at "binaryOp Add str str") => `(tactic| (k_here; (refine PyProof.Rows.add_str (hsz := ?hsz) ?_); (case hsz => (rw [sizeLine_eq]; omega)); intro _ _))
theorem fr_same {h₀ h : Heap} {L : Addr} {m : Str → Option Value} {nm : Str} {v : Value} (F : Fr h₀ L h m) (hv : m nm = some v) : Fr h₀ L h (fun y => if y = nm then some v else m y) := by
  have e : (fun y => if y = nm then some v else m y) = m := by
    funext y
    by_cases hy : y = nm
    · rw [if_pos hy, hy, hv]
    · rw [if_neg hy]
  rw [e]
  exact F
local macro_rules | `(tactic| walk_at "exec If") => `(tactic| (k_here; (with_reducible show wpAny _ _ (exec (Stmt.If (Expr.BoolOp BoolOp.Or _ _) _ _ _) _) _ _ _); (refine Stop.out ?_)))
structure LawSt where
  closed : Str
  tc : Tok
  st : Addr
  rw : Addr
  vs : List Value
  row : List Str
  before : Str
  tb : Tok
theorem menu3 {prog : Program} {w : World} {A : Around} {E : Value → Shared → Prop} {s : Shared} {l : Addr} {value slice : PySem.Expr} {a b c : Str} {ta tb tc u : Tok} {k : Int} {Q : Value → Shared → Prop}
    (hl : s.heap.IsList l #[.str a ta, .str b tb, .str c tc]) (h0 : 0 ≤ k) (h1 : k < 3)
    (h : ∀ e t, (k = 0 ∧ e = a ∨ k = 1 ∧ e = b ∨ k = 2 ∧ e = c) → Q (.str e t) s)
    (hs : subscripted slice false (.ref l) (.int k u) = operate [.ref l, .int k u] (getItem (.ref l) (.int k u)) := by with_unfolding_all rfl) :
    wpAny (model prog w) A (subscriptTail value slice (.ref l) (.int k u)) Q E s := by
  have hk : k = 0 ∨ k = 1 ∨ k = 2 := by omega
  rcases hk with rfl | rfl | rfl
  · exact tail_any hl.typeIs PySem.F.slot_list_getitem.lookup (wpAny_getItem_list hl (by decide) (by decide) rfl (h a ta (.inl ⟨rfl, rfl⟩))) hs
  · exact tail_any hl.typeIs PySem.F.slot_list_getitem.lookup (wpAny_getItem_list hl (by decide) (by decide) rfl (h b tb (.inr (.inl ⟨rfl, rfl⟩)))) hs
  · exact tail_any hl.typeIs PySem.F.slot_list_getitem.lookup (wpAny_getItem_list hl (by decide) (by decide) rfl (h c tc (.inr (.inr ⟨rfl, rfl⟩)))) hs
theorem no_lf {x : Str} (h : (x == Str.ofString "\n") = false) (h' : (x != Str.ofString "\n") = false) : False := by
  rw [beq_eq_false_iff_ne] at h
  exact h (by simpa using h')
theorem fmod3 (x : Int) : 0 ≤ Int.fmod x 3 ∧ Int.fmod x 3 < 3 := ⟨Int.fmod_nonneg_of_pos x (by decide), Int.fmod_lt_of_pos x (by decide)⟩
theorem fmod5 (x : Int) : 0 ≤ Int.fmod x 5 ∧ Int.fmod x 5 < 5 := ⟨Int.fmod_nonneg_of_pos x (by decide), Int.fmod_lt_of_pos x (by decide)⟩
local macro_rules | `(tactic| walk_at "subscriptTail") => `(tactic| (k_here; (with_reducible show wpAny _ _ (subscriptTail _ _ (Value.ref _) (Value.int (Int.fmod _ _) _)) _ _ _); refine Stop.out ?_))
theorem lawSign_len (x : Int) : (lawSign x).length = 1 := by
  unfold lawSign
  split <;> rfl
theorem signs_sum (l : List Int) : ((l.map lawSign).map (·.length)).sum = l.length := by
  induction l with
  | nil => rfl
  | cons a l ih => simp only [List.map_cons, List.sum_cons, ih, lawSign_len, List.length_cons]; omega
local macro_rules | `(tactic| walk_at "call builtin:str.join") => `(tactic| (k_here; (refine join_listC (by kmk_list) (by assumption) (by decide) (by assumption) ?_); intro _ _; refine Stop.out ?_))
theorem law_holds : PySem.Challenge.rw_nb0380_01.Holds := by
  w_on
  o_law
  refine holds_open (q := hd.view_39) (loose := looseK) (Xt := fun s => xlAt hd.view_39 lvK s && recOk rK.records s) (XP := XL hd.view_39 lvK) (Yf := Hook.obs (kHook hd.heap_39 asK asK_eq)) (Ya := Hook.val (kHook hd.heap_39 asK asK_eq)) (YP := Hook.says (kHook hd.heap_39 asK asK_eq)) (N := 40000) left_ok (Hook.of (kHook hd.heap_39 asK asK_eq)) (Hook.keeps (kHook hd.heap_39 asK asK_eq))
    (fun s e => xl_of s (Bool.and_eq_true_iff.mp e).1) XL.keeps (by rfl) (by rfl) (by rfl) (fun s e => recFacts_of (Bool.and_eq_true_iff.mp e).2) (by rfl) (by first | assumption | decide +kernel) (by decide +kernel) ⟨rfl, rfl, rfl, rfl, rfl, by decide +kernel⟩ ?hw ?hc
  case hw => w_witness2
  rename_i said
  clear said
  w_strict (
    k_go0
    all_goals try k_fold
    rename List Int => ns
    k_steps
    refine ⟨?_⟩
    refine LCg.CompSrc.ledger (by rfl) (by k_asm) (by k_asm) (by k_mem) ?sz ?_
    case sz =>
      have hln := IntsAre.length ‹IntsAre _ (List.take 1 (List.take 10 ns) ++ [0, 4, 1, 9, 1, 3, 8] ++ List.drop 1 (List.take 10 ns))›
      rw [List.size_toArray, hln, sizeLine_eq]
      simp only [List.length_append, List.length_take, List.length_drop, List.length_cons, List.length_nil]
      omega
    intro g'
    refine kct_list lawSign (by assumption) (fun k' t' I' oI' C' oC' D' m' ys' h' tk' E' hk' hC' hx' F' N' off' ne' hM' => ?_) ?_
    · k_steps
      all_goals (show LCg.CompEnd _ _ _ _ _ _ _ _ _ _ _ _ _ _)
      · refine LCg.CompEnd.intro (by k_asm) (by k_asm) _ (fun p hp => hp) off' ?s1 (kct_el ?e1 rfl rfl)
        case s1 => exact .inr ⟨_, .head _, rfl, _, rfl⟩
        case e1 => rw [lawSign, if_pos (by assumption)]
      · refine LCg.CompEnd.intro (by k_asm) (by k_asm) _ (fun p hp => hp) off' ?s1 (kct_el ?e1 rfl rfl)
        case s1 => exact .inr ⟨_, .head _, rfl, _, rfl⟩
        case e1 => rw [lawSign, if_neg (by assumption)]
    · unfold KPfDone
      intro ys hys hlen
      have hstr := StrsAre.ofCarried (ys := ys) (by rw [List.map_map]; exact hys)
      have hsz : ((List.map lawSign (List.take 1 (List.take 10 ns) ++ [0, 4, 1, 9, 1, 3, 8] ++ List.drop 1 (List.take 10 ns))).map (·.length)).sum + (List.map lawSign (List.take 1 (List.take 10 ns) ++ [0, 4, 1, 9, 1, 3, 8] ++ List.drop 1 (List.take 10 ns))).length * 64 ≤ 16777216 := by
        rw [signs_sum, List.length_map]
        simp only [List.length_append, List.length_take, List.length_drop, List.length_cons, List.length_nil]
        omega
      k_steps
      refine ⟨?_⟩
      obtain ⟨text, htext⟩ : ∃ text, text = Txt.join (Str.ofString "") (List.map lawSign (List.take 1 (List.take 10 ns) ++ [0, 4, 1, 9, 1, 3, 8] ++ List.drop 1 (List.take 10 ns))) := ⟨_, rfl⟩
      rw [← htext]
      have htl : text.length ≤ 17 := by
        rw [htext, len_join0, signs_sum]
        simp only [List.length_append, List.length_take, List.length_drop, List.length_cons, List.length_nil]
        omega
      have hch : ∀ c ∈ text.cps.toList, c < 256 := by rw [htext]; exact join_signs_lt _
      k_steps
      refine ⟨?_⟩
      refine menu3 (by kmk_list) (fmod3 _).1 (fmod3 _).2 ?_
      intro eol teol heol
      have hel : eol.length ≤ 2 := by
        have e1 : (Str.ofString "\n").length ≤ 2 := by decide +kernel
        have e2 : (Str.ofString "\x0d\n").length ≤ 2 := by decide +kernel
        have e3 : (Str.ofString "<>").length ≤ 2 := by decide +kernel
        rcases heol with ⟨_, rfl⟩ | ⟨_, rfl⟩ | ⟨_, rfl⟩
        · exact e1
        · exact e2
        · exact e3
      have hw : 4 ≤ 4 + Int.fmod (List.take 10 ns).sum 5 ∧ 4 + Int.fmod (List.take 10 ns).sum 5 ≤ 8 := by have := fmod5 (List.take 10 ns).sum; omega
      k_steps
      refine ⟨?_⟩
      refine' enc_call htl hch hw hel ?q1 ?q2 ?q3 ?q4 ?q5 ?q6 ?q7 ?q8 ?_
      (case q1 => k_asm)
      (case q2 => k_asm)
      (case q3 => k_asm)
      (case q4 => k_asm)
      (case q5 => k_asm)
      (case q6 => exact rfl)
      (case q7 => ktr_room)
      (case q8 => ktr_units)
      intro t' h' tk' F' N'
      (try dsimp only)
      k_steps
      rename_i rw0 hx4 lx1 st0 hx3 lx2 hx2 hx1 F0 N0 hx0 tk0 tA tB tC hr F1 N1 hkeep
      refine ⟨?_⟩
      refine' range_loop (σ := LawSt) (n := text.length) (fun c => [(c.st, PySem.W.listOf #[.str c.closed c.tc, .ref c.rw] 0), (c.rw, PySem.W.listOf c.vs.toArray 0)])
        (fun c => [(Str.ofString "state", .ref c.st), (Str.ofString "before", .str c.before c.tb)]) [Str.ofString "sign", Str.ofString "rest", Str.ofString "k"]
        (fun i c => (c.closed, c.row, c.before) = wRun (4 + Int.fmod (List.take 10 ns).sum 5) eol (text.cps.toList.take i) ∧ StrsAre c.vs c.row)
        ⟨Str.ofString "", _, st0, rw0, [], [], Str.ofString "", _⟩ ?lh hr ?ls ?lz F1 ?ln ?lk ?lp ?lt ?ld
      case lh => with_unfolding_all rfl
      case ls => exact small_one (by omega) (by omega) (by omega) (by omega)
      case lz => exact rangeSize_nat _ _
      case ln => exact kst_newsOf N1 (by kcj_all)
      case lk => kst_all
      case lp => exact ⟨rfl, StrsAre.nil⟩
      case lt =>
        rintro ⟨closed, tc, st, rw, vs, row, before, tb⟩ i tI u h tk9 own hi hoff ⟨hP1, hP2⟩ F9 N9
        dsimp only at hP1 hP2 F9 N9 hoff ⊢
        k_steps
        refine ⟨?_⟩
        refine' cut_if (σ := LawSt) (fun c => [(c.st, PySem.W.listOf #[.str c.closed c.tc, .ref c.rw] 0), (c.rw, PySem.W.listOf c.vs.toArray 0)] ++ own) (Str.ofString "state") (fun c => .ref c.st)
          (fun c => (c.closed, c.row, c.before) = wRun (4 + Int.fmod (List.take 10 ns).sum 5) eol (text.cps.toList.take (i + 1)) ∧ StrsAre c.vs c.row ∧ OwnOff own ([(c.st, PySem.W.listOf #[.str c.closed c.tc, .ref c.rw] 0), (c.rw, PySem.W.listOf c.vs.toArray 0)].map (·.1))) ?cF ?cI ?cR
        case cF => k_asm
        case cI =>
          obtain ⟨hsz1, hcl1, hpc0, htl1⟩ := wRun_sizes hw.1 hel (by rw [List.length_take]; exact Nat.le_trans (Nat.min_le_right _ _) (by rw [← ls_len]; exact htl)) (take_lt hch i) hP1
          have hci : (Txt.charAt text i).getD 0 < 256 := charAt_lt (by decide) hch _
          have hpc1 : ∀ c : Nat, ∀ p ∈ row ++ [lawPiece c], p.length ≤ 3 := fun c p hp => by
            rcases List.mem_append.mp hp with h | h
            · exact hpc0 p h
            · rw [List.mem_singleton.mp h]; exact lawPiece_len c
          refine wpAny_If ?_
          k_steps
          · refine ⟨?_⟩
            refine' told_call hP2 hsz1 hw hcl1 hel ?q0 ?q9 ?q1 ?q2 ?q3 ?q4 ?q5 ?q6 ?q7 ?q8 ?_
            (case q4 => k_asm)
            (case q0 => exact .head _)
            (case q9 => exact .tail _ (.head _))
            (case q1 => k_asm)
            (case q2 => k_asm)
            (case q3 => k_asm)
            (case q5 => k_asm)
            (case q6 => exact rfl)
            (case q7 => ktr_room)
            (case q8 => ktr_units)
            intro t7 h7 tk7 F7 N7
            (try dsimp only)
            k_steps
            rename_i tq kq rwN hz2 lz1 stN hz1 lz2 hz0 F6 N6
            refine ⟨rfl, ⟨lawTold closed row (4 + Int.fmod (List.take 10 ns).sum 5) eol ++ eol, tq, stN, rwN, [], [], Txt.item text i, tb⟩, _, _, rfl, F6, ?_, ?_, StrsAre.nil, ?_⟩
            · refine kst_newsOf N6 (fun p hp => ?_)
              rcases List.mem_cons.mp hp with rfl | hp
              · exact .head _
              · rcases List.mem_cons.mp hp with rfl | hp
                · exact .tail _ (.head _)
                · exact .tail _ (.tail _ (List.mem_append.mpr (.inr hp)))
            · exact eq_cr hi hP1 (by assumption)
            · intro p hp b hb
              have q1 := lz1 p (List.mem_append.mpr (.inr hp))
              rcases List.mem_cons.mp hb with rfl | hb
              · exact Nat.ne_of_lt (Nat.lt_trans q1 lz2.1)
              · rcases List.mem_cons.mp hb with rfl | hb
                · exact Nat.ne_of_lt q1
                · cases hb
          · refine ⟨?_⟩
            refine' told_call hP2 hsz1 hw hcl1 hel ?q0 ?q9 ?q1 ?q2 ?q3 ?q4 ?q5 ?q6 ?q7 ?q8 ?_
            (case q4 => k_asm)
            (case q0 => exact .head _)
            (case q9 => exact .tail _ (.head _))
            (case q1 => k_asm)
            (case q2 => k_asm)
            (case q3 => k_asm)
            (case q5 => k_asm)
            (case q6 => exact rfl)
            (case q7 => ktr_room)
            (case q8 => ktr_units)
            intro t7 h7 tk7 F7 N7
            (try dsimp only)
            k_steps
            rename_i tq kq rwN hz2 lz1 stN hz1 lz2 hz0 F6 N6
            refine ⟨rfl, ⟨lawTold closed row (4 + Int.fmod (List.take 10 ns).sum 5) eol ++ eol, tq, stN, rwN, [], [], Txt.item text i, tb⟩, _, _, rfl, F6, ?_, ?_, StrsAre.nil, ?_⟩
            · refine kst_newsOf N6 (fun p hp => ?_)
              rcases List.mem_cons.mp hp with rfl | hp
              · exact .head _
              · rcases List.mem_cons.mp hp with rfl | hp
                · exact .tail _ (.head _)
                · exact .tail _ (.tail _ (List.mem_append.mpr (.inr hp)))
            · exact eq_lf hi hP1 (by assumption) (by assumption)
            · intro p hp b hb
              have q1 := lz1 p (List.mem_append.mpr (.inr hp))
              rcases List.mem_cons.mp hb with rfl | hb
              · exact Nat.ne_of_lt (Nat.lt_trans q1 lz2.1)
              · rcases List.mem_cons.mp hb with rfl | hb
                · exact Nat.ne_of_lt q1
                · cases hb
          · refine ⟨?_⟩
            refine' piece_call (c := (Txt.charAt text i).getD 0) hci ?q1 ?q2 ?q3 ?q4 ?q5 ?q6 ?q7 ?q8 ?_
            (case q1 => k_asm)
            (case q2 => k_asm)
            (case q3 => k_asm)
            (case q4 => k_asm)
            (case q5 => k_asm)
            (case q6 => exact rfl)
            (case q7 => ktr_room)
            (case q8 => ktr_units)
            intro t7 h7 tk7 F7 N7
            (try dsimp only)
            k_steps
            refine ⟨?_⟩
            refine' put_call hP2 hsz1 hw hcl1 hel (hpc1 _) ?q0 ?q9 ?q1 ?q2 ?q3 ?q4 ?q5 ?q6 ?q7 ?q8 ?_
            (case q4 => k_asm)
            (case q0 => exact .head _)
            (case q9 => exact .tail _ (.head _))
            (case q1 => k_asm)
            (case q2 => k_asm)
            (case q3 => k_asm)
            (case q5 => k_asm)
            (case q6 => exact rfl)
            (case q7 => ktr_room)
            (case q8 => ktr_units)
            intro stN rwN closedN tcN vsN rowN h5 tk5 hput hS5 hlt1 hlt2 F5 N5
            (try dsimp only)
            k_steps
            rename_i hz0 F6 N6
            refine ⟨rfl, ⟨closedN, tcN, stN, rwN, vsN, rowN, Txt.item text i, tb⟩, _, _, rfl, F6, ?_, ?_, hS5, ?_⟩
            · refine kst_newsOf N6 (fun p hp => ?_)
              rcases List.mem_cons.mp hp with rfl | hp
              · exact .head _
              · rcases List.mem_cons.mp hp with rfl | hp
                · exact .tail _ (.head _)
                · exact .tail _ (.tail _ (List.mem_append.mpr (.inr hp)))
            · exact eq_put hi hP1 (by assumption) (by assumption) hput
            · intro p hp b hb
              rcases List.mem_cons.mp hb with rfl | hb
              · exact Nat.ne_of_lt (kst_ltOf hlt1 p (List.mem_append.mpr (.inr hp)))
              · rcases List.mem_cons.mp hb with rfl | hb
                · exact Nat.ne_of_lt (kst_ltOf hlt2 p (List.mem_append.mpr (.inr hp)))
                · cases hb
          · refine ⟨rfl, ⟨closed, tc, st, rw, vs, row, Txt.item text i, tb⟩, _, _, rfl, ?_, (by k_asm), ?_, hP2, hoff⟩
            · exact fr_same (by k_asm) rfl
            · exact eq_skip hi hP1 (by assumption) (by assumption)
          · refine ⟨?_⟩
            refine' piece_call (c := (Txt.charAt text i).getD 0) hci ?q1 ?q2 ?q3 ?q4 ?q5 ?q6 ?q7 ?q8 ?_
            (case q1 => k_asm)
            (case q2 => k_asm)
            (case q3 => k_asm)
            (case q4 => k_asm)
            (case q5 => k_asm)
            (case q6 => exact rfl)
            (case q7 => ktr_room)
            (case q8 => ktr_units)
            intro t7 h7 tk7 F7 N7
            (try dsimp only)
            k_steps
            refine ⟨?_⟩
            refine' put_call hP2 hsz1 hw hcl1 hel (hpc1 _) ?q0 ?q9 ?q1 ?q2 ?q3 ?q4 ?q5 ?q6 ?q7 ?q8 ?_
            (case q4 => k_asm)
            (case q0 => exact .head _)
            (case q9 => exact .tail _ (.head _))
            (case q1 => k_asm)
            (case q2 => k_asm)
            (case q3 => k_asm)
            (case q5 => k_asm)
            (case q6 => exact rfl)
            (case q7 => ktr_room)
            (case q8 => ktr_units)
            intro stN rwN closedN tcN vsN rowN h5 tk5 hput hS5 hlt1 hlt2 F5 N5
            (try dsimp only)
            k_steps
            rename_i hz0 F6 N6
            refine ⟨rfl, ⟨closedN, tcN, stN, rwN, vsN, rowN, Txt.item text i, tb⟩, _, _, rfl, F6, ?_, ?_, hS5, ?_⟩
            · refine kst_newsOf N6 (fun p hp => ?_)
              rcases List.mem_cons.mp hp with rfl | hp
              · exact .head _
              · rcases List.mem_cons.mp hp with rfl | hp
                · exact .tail _ (.head _)
                · exact .tail _ (.tail _ (List.mem_append.mpr (.inr hp)))
            · exact eq_put hi hP1 (by assumption) (by assumption) hput
            · intro p hp b hb
              rcases List.mem_cons.mp hb with rfl | hb
              · exact Nat.ne_of_lt (kst_ltOf hlt1 p (List.mem_append.mpr (.inr hp)))
              · rcases List.mem_cons.mp hb with rfl | hb
                · exact Nat.ne_of_lt (kst_ltOf hlt2 p (List.mem_append.mpr (.inr hp)))
                · cases hb
          · refine ⟨rfl, ⟨closed, tc, st, rw, vs, row, Txt.item text i, tb⟩, _, _, rfl, ?_, (by k_asm), ?_, hP2, hoff⟩
            · exact fr_same (by k_asm) rfl
            · exact (no_lf (x := Txt.item text i) (by assumption) (by assumption)).elim
        case cR =>
          rintro ⟨closed', tc', st', rw', vs', row', before', tb'⟩ h8 tk8 F8 N8 ⟨hp1, hp2, hp3⟩
          dsimp only at hp1 hp2 hp3 F8 N8 ⊢
          have hsl1 : (Txt.slice text none (some ((i : Int) + 1))).length ≤ 17 := Nat.le_trans (Txt.slice_le _ _ _) htl
          have hsc1 : ∀ c ∈ (Txt.slice text none (some ((i : Int) + 1))).cps.toList, c < 256 := by rw [slice_prefix hi]; exact take_lt hch _
          obtain ⟨hsz1, hcl1, hpc0, htl1⟩ := wRun_sizes hw.1 hel (by rw [List.length_take]; exact Nat.le_trans (Nat.min_le_right _ _) (by rw [← ls_len]; exact htl)) (take_lt hch (i + 1)) hp1
          have hA : encB (Txt.slice text none (some ((i : Int) + 1))) (4 + Int.fmod (List.take 10 ns).sum 5) eol = lawTold closed' row' (4 + Int.fmod (List.take 10 ns).sum 5) eol := law_A' hw.1 hch hi hp1
          k_steps
          refine ⟨?_⟩
          refine' enc_call hsl1 hsc1 hw hel ?q1 ?q2 ?q3 ?q4 ?q5 ?q6 ?q7 ?q8 ?_
          (case q4 => k_asm)
          (case q1 => k_asm)
          (case q2 => k_asm)
          (case q3 => k_asm)
          (case q5 => k_asm)
          (case q6 => exact rfl)
          (case q7 => ktr_room)
          (case q8 => ktr_units)
          intro t7 h7 tk7 F7 N7
          (try dsimp only)
          k_steps
          refine ⟨?_⟩
          refine' told_call hp2 hsz1 hw hcl1 hel ?q0 ?q9 ?q1 ?q2 ?q3 ?q4 ?q5 ?q6 ?q7 ?q8 ?_
          (case q4 => k_asm)
          (case q0 => exact .head _)
          (case q9 => exact .tail _ (.head _))
          (case q1 => k_asm)
          (case q2 => k_asm)
          (case q3 => k_asm)
          (case q5 => k_asm)
          (case q6 => exact rfl)
          (case q7 => ktr_room)
          (case q8 => ktr_units)
          intro t6 h6 tk6 F6 N6
          (try dsimp only)
          k_steps
          · exfalso
            rename (_ != _) = true => hne
            rw [hA] at hne
            simp at hne
          · refine ⟨?_⟩
            have hrl : ∀ l u, (Txt.slice text l u).length ≤ 17 := fun l u => Nat.le_trans (Txt.slice_le _ _ _) htl
            have hrc : ∀ l u, ∀ c ∈ (Txt.slice text l u).cps.toList, c < 256 := fun l u c hc => hch c (slice_sub c hc)
            have hre : ∀ l u, (encB (Txt.slice text l u) (4 + Int.fmod (List.take 10 ns).sum 5) eol).length ≤ 20000 := fun l u => encB_le hw.1 hel (hrl l u) (hrc l u)
            refine wpAny_If ?_
            k_steps
            · refine ⟨?_⟩
              have hBB := (law_B' hw.1 hch hi hp1 (.inl (bne_iff_ne.mp (by assumption)))).2
              refine' enc_call (hrl _ _) (hrc _ _) hw hel ?q1 ?q2 ?q3 ?q4 ?q5 ?q6 ?q7 ?q8 ?_
              (case q4 => k_asm)
              (case q1 => k_asm)
              (case q2 => k_asm)
              (case q3 => k_asm)
              (case q5 => k_asm)
              (case q6 => exact rfl)
              (case q7 => ktr_room)
              (case q8 => ktr_units)
              intro t5 h5 tk5 F5 N5
              (try dsimp only)
              have hre5 := hre (some ((i : Int) + 1 - (row'.length : Int))) none
              k_steps
              · exact absurd hBB (bne_iff_ne.mp (by assumption))
              · rename_i F4 N4
                refine ⟨⟨closed', tc', st', rw', vs', row', Txt.item text i, tk9⟩, _, _, _, rfl, F4, N4, hp3, (by kst_all), ?_, ?_⟩
                · intro z h1 h2 h3
                  have h2a := h2 _ (.head _)
                  have h2b := h2 _ (.tail _ (.head _))
                  dsimp only at h2a h2b
                  simp only [List.contains_cons, List.contains_nil, Bool.or_false, Bool.or_eq_false_iff, beq_eq_false_iff_ne, ne_eq] at h3
                  simp [kstB, h1, h2a, h2b, h3]
                · exact ⟨by rw [← bef_eq hw.1 hch hi hp1]; exact hp1, by assumption⟩
            · refine ⟨?_⟩
              have hBB := (law_B' hw.1 hch hi hp1 (.inr (bne_iff_ne.mp (by assumption)))).2
              refine' enc_call (hrl _ _) (hrc _ _) hw hel ?q1 ?q2 ?q3 ?q4 ?q5 ?q6 ?q7 ?q8 ?_
              (case q4 => k_asm)
              (case q1 => k_asm)
              (case q2 => k_asm)
              (case q3 => k_asm)
              (case q5 => k_asm)
              (case q6 => exact rfl)
              (case q7 => ktr_room)
              (case q8 => ktr_units)
              intro t5 h5 tk5 F5 N5
              (try dsimp only)
              have hre5 := hre (some ((i : Int) + 1 - (row'.length : Int))) none
              k_steps
              · exact absurd hBB (bne_iff_ne.mp (by assumption))
              · rename_i F4 N4
                refine ⟨⟨closed', tc', st', rw', vs', row', Txt.item text i, tk9⟩, _, _, _, rfl, F4, N4, hp3, (by kst_all), ?_, ?_⟩
                · intro z h1 h2 h3
                  have h2a := h2 _ (.head _)
                  have h2b := h2 _ (.tail _ (.head _))
                  dsimp only at h2a h2b
                  simp only [List.contains_cons, List.contains_nil, Bool.or_false, Bool.or_eq_false_iff, beq_eq_false_iff_ne, ne_eq] at h3
                  simp [kstB, h1, h2a, h2b, h3]
                · exact ⟨by rw [← bef_eq hw.1 hch hi hp1]; exact hp1, by assumption⟩
            · rename_i F5 N5
              refine ⟨⟨closed', tc', st', rw', vs', row', Txt.item text i, tk9⟩, _, _, _, rfl, F5, N5, hp3, (by kst_all), ?_, ?_⟩
              · intro z h1 h2 h3
                have h2a := h2 _ (.head _)
                have h2b := h2 _ (.tail _ (.head _))
                dsimp only at h2a h2b
                simp only [List.contains_cons, List.contains_nil, Bool.or_false, Bool.or_eq_false_iff, beq_eq_false_iff_ne, ne_eq] at h3
                simp [kstB, h1, h2a, h2b, h3]
              · exact ⟨by rw [← bef_eq hw.1 hch hi hp1]; exact hp1, by assumption⟩
      case ld =>
        rintro ⟨closed, tc, st, rw, vs, row, before, tb⟩ u h tk9 ⟨hP1, hP2⟩ F9 N9
        dsimp only at hP1 hP2 F9 N9 ⊢
        k_steps)
end Mine

theorem PySem.Challenge.cw_nb0380_01_holds : PySem.Challenge.rw_nb0380_01.Holds :=
  Mine.law_holds
