import PyProof.Rows.All
import Wide.All
import OpenK.AllK
import Wide.FinOn
import Lean
import PySem.Challenge.RW_yv0003_01
open PySem PySem.W PySem.Calls PyProof.Rows
set_option Elab.async false
set_option maxRecDepth 100000
set_option maxHeartbeats 4000000
set_option linter.unusedVariables false
set_option linter.unusedSimpArgs false
set_option pp.deepTerms false
set_option compiler.extract_closed false
namespace Yv
section
set_option maxHeartbeats 0
noncomputable abbrev pw : Program := PySem.Challenge.pw_yv0003_01
noncomputable def nthS : List Stmt → Nat → Stmt
  | [], _ => .Pass ⟨0, 0, 0, 0⟩
  | s :: _, 0 => s
  | _ :: r, n + 1 => nthS r n
noncomputable def T (n : Nat) : Stmt := nthS pw.main.body n
noncomputable def bodyOf : Stmt → List Stmt
  | .ClassDef _ _ _ b _ _ _ _ _ _ _ => b
  | _ => []
noncomputable def M (n j : Nat) : Stmt := nthS (bodyOf (T n)) j
noncomputable def noScope : Scope := { kind := .module, names := [], isGenerator := false, isCoroutine := false }
noncomputable def noArgs : Arguments := { posonlyargs := [], args := [], vararg := none, kwonlyargs := [], kw_defaults := [], kwarg := none, defaults := [] }
noncomputable def noExpr : PySem.Expr := .Constant .none 0 ⟨0, 0, 0, 0⟩
noncomputable def cS : Stmt → Scope
  | .ClassDef _ _ _ _ _ _ sc _ _ _ _ => sc
  | _ => noScope
noncomputable def fP : Stmt → Arguments
  | .FunctionDef _ a _ _ _ _ _ _ _ _ => a
  | _ => noArgs
noncomputable def fB : Stmt → FuncBody
  | .FunctionDef _ _ b _ _ _ _ _ _ _ => .stmts b
  | _ => .stmts []
noncomputable def fS : Stmt → Scope
  | .FunctionDef _ _ _ _ _ _ sc _ _ _ => sc
  | _ => noScope
noncomputable def lamOf : Stmt → PySem.Expr
  | .Assign _ (.Call _ (l :: _) _ _) _ => l
  | _ => noExpr
noncomputable def lA (s : Stmt) : Arguments := match lamOf s with
  | .Lambda a _ _ _ => a
  | _ => noArgs
noncomputable def lB (s : Stmt) : FuncBody := match lamOf s with
  | .Lambda _ b _ _ => .expr b
  | _ => .stmts []
noncomputable def lS (s : Stmt) : Scope := match lamOf s with
  | .Lambda _ _ sc _ => sc
  | _ => noScope
noncomputable def tb : Nat → List Int → List Value
  | _, [] => []
  | t, n :: r => .int n t :: tb (t + 1) r
noncomputable abbrev S (s : String) (t : Nat) : Value := .str (Str.ofString s) t
noncomputable abbrev E (P : Params) (k : String) (t : Nat) (v : Value) : DictEntry := ⟨PyData.keyHash P (Str.ofString k), S k t, v⟩
noncomputable abbrev nl : BT := .nil
noncomputable abbrev lf (o : Obj) : BT := .node o .nil .nil
noncomputable abbrev nd (o : Obj) (l r : BT) : BT := .node o l r
section
variable {α : Type} {tb : String → Option Builtin} {p : Program} {w : World} {n₀ : Nat} {ann : Option Value} {B : List Frame} {K' : α → Sem Fin} {H' : Value → Sem Fin} {gd : Bool → Bool} {lv : List Value → List Value} {res : α → Flow} {b₀ : Nat}
theorem off_end (hb : b₀ < B.length) {t : Thread} (h : B.length ≤ t.stack.length) : endAt b₀ t = none := by
  have e : (t.stack.length == b₀) = false := beq_eq_false_iff_ne.mpr (by omega)
  unfold endAt
  rw [e]
/-- what a run above the frames B does, it does with any work left behind B: until B alone stands -/
theorem seg_mid (hB : splitAtGen B = none) (hb : b₀ < B.length) : ∀ (n : Nat) (s : Shared) (t t' : Thread) (f : Flow) (s' : Shared) (c' : Code) (p' : Pos), Rel2 (fun a => .pure (.done (res a))) K' deadEnd H' gd lv B t t' →
    segRun tb p w n₀ ann B.length n s t = some (f, s', c', p') → ∃ a, res a = f ∧ ∀ N r, segRun tb p w n₀ ann b₀ N s' ⟨K' a, c', p', B⟩ = some r → ∃ j, j ≤ n ∧ segRun tb p w n₀ ann b₀ (j + N) s t' = some r
  | 0, _, _, _, _, _, _, _, _, h => by simp [segRun] at h
  | n + 1, s, ⟨cur, code, pos, st⟩, ⟨cur', code', pos', st'⟩, f, s', c', p', R, h => by
    obtain ⟨e1, e2, R⟩ := R
    dsimp only at e1 e2 R
    subst e1 e2
    unfold segRun at h
    cases he : endAt B.length ⟨cur, code, pos, st⟩ with
    | some g =>
      rw [he] at h
      obtain ⟨rfl, rfl, rfl, rfl⟩ : g = f ∧ s = s' ∧ code = c' ∧ pos = p' := by simpa using h
      rcases R with ⟨rfl, rfl, x, rfl, rfl⟩ | ⟨rfl, F⟩
      · cases x with
        | pure a =>
          simp only [endAt, Sem.wrap, beq_self_eq_true, Option.some.injEq] at he
          exact ⟨a, he, fun N r hN => ⟨0, Nat.zero_le _, by rw [Nat.zero_add]; exact hN⟩⟩
        | _ => simp [endAt, Sem.wrap] at he
      · have l := F.longer.1
        have : ((st.length == B.length) = false) := beq_eq_false_iff_ne.mpr (Nat.ne_of_gt l)
        simp only [endAt, this] at he
        cases he
    | none =>
      rw [he] at h
      cases hk : stepOk n₀ ann ⟨cur, code, pos, st⟩ with
      | false => rw [hk] at h; cases h
      | true =>
        rw [hk] at h
        cases hs : step (denote tb) p w s ⟨cur, code, pos, st⟩ with
        | halt o s₂ => rw [hs] at h; cases h
        | go s₂ t₂ =>
          rw [hs] at h
          have key : B.length ≤ st'.length ∧ stepOk n₀ ann ⟨cur', code, pos, st'⟩ = true ∧ ∃ t₂', step (denote tb) p w s ⟨cur', code, pos, st'⟩ = .go s₂ t₂' ∧ Rel2 (fun a => .pure (.done (res a))) K' deadEnd H' gd lv B t₂ t₂' := by
            rcases R with ⟨rfl, rfl, x, rfl, rfl⟩ | ⟨rfl, F⟩
            · have hp : ∀ a, x ≠ .pure a := by
                rintro a rfl
                simp [endAt, Sem.wrap] at he
              have hr : ∀ e, x ≠ .raise e := by
                rintro e rfl
                refine Classical.byContradiction fun hng => ?_
                obtain ⟨heap, gens, drawn, toks, os⟩ := s
                refine hng ?_
                clear hng
                simp only [Sem.wrap, step] at hs
                cases hs
              exact ⟨Nat.le_refl _, (okOuter (K' := K') (H' := H') hp hr hk).1, step_outer hB hp hs⟩
            · exact ⟨Nat.le_of_lt F.longer.2, (okInner hB F hk).1, step_inner hB F hs⟩
          refine Classical.byContradiction fun hng => ?_
          obtain ⟨k0, k1, t₂', k3, R'⟩ := key
          refine hng ?_
          clear hng
          obtain ⟨a, ha, hN⟩ := seg_mid hB hb n s₂ t₂ t₂' f s' c' p' R' h
          refine ⟨a, ha, fun N r q => ?_⟩
          obtain ⟨j, hj, hq⟩ := hN N r q
          refine ⟨j + 1, Nat.succ_le_succ hj, ?_⟩
          rw [show j + 1 + N = j + N + 1 by omega]
          unfold segRun
          rw [off_end hb k0, k1, k3]
          exact hq
theorem segRun_mono (k : Nat) : ∀ (n : Nat) (s : Shared) (t : Thread) (r : Flow × Shared × Code × Pos), segRun tb p w n₀ ann b₀ n s t = some r → segRun tb p w n₀ ann b₀ (n + k) s t = some r
  | 0, _, _, _, h => by simp [segRun] at h
  | n + 1, s, t, r, h => by
    rw [show n + 1 + k = n + k + 1 by omega]
    unfold segRun at h ⊢
    cases he : endAt b₀ t with
    | some f => rw [he] at h; exact h
    | none =>
      rw [he] at h
      cases hk : stepOk n₀ ann t with
      | false => rw [hk] at h; cases h
      | true =>
        rw [hk] at h
        cases hs : step (denote tb) p w s t with
        | halt o s' => rw [hs] at h; cases h
        | go s' t' => rw [hs] at h; exact segRun_mono k n s' t' r h
end
section
variable {tb : String → Option Builtin} {p : Program} {w : World} {n₀ : Nat} {ann : Option Value} {env : Env} {B : List Frame} {b₀ : Nat}
theorem mid_app {n N : Nat} {s s' : Shared} {l rest : List Stmt} {c : Code} {pos p' : Pos} {r : Flow × Shared × Code × Pos} (hB : splitAtGen B = none) (hb : b₀ < B.length)
    (h : segRun tb p w n₀ ann B.length n s (piecesOf l env c pos B) = some (.next, s', c, p'))
    (k : segRun tb p w n₀ ann b₀ N s' (restOf rest env c p' B) = some r) : segRun tb p w n₀ ann b₀ (n + N) s (restOf (l ++ rest) env c pos B) = some r := by
  obtain ⟨a, ha, hN⟩ := seg_mid (res := id) (K' := fun f => match f with | .next => (execs rest env).wrap doneF (leaveH env) id id | f => doneF f) (H' := leaveH env) (B := B) hB hb n s (piecesOf l env c pos B)
    ⟨(execs l env).wrap (fun f => match f with | .next => (execs rest env).wrap doneF (leaveH env) id id | f => doneF f) (leaveH env) id id, c, pos, B⟩ _ _ _ _ ⟨rfl, rfl, .inl ⟨rfl, rfl, _, rfl, rfl⟩⟩ h
  obtain rfl : a = .next := ha
  obtain ⟨j, hj, q⟩ := hN N r k
  have := segRun_mono (n - j) _ _ _ _ q
  rw [show j + N + (n - j) = n + N by omega] at this
  unfold restOf
  rw [execs_app_wrap]
  exact this
theorem mid_block {n N : Nat} {s s' : Shared} {b : List Stmt} {c : Code} {pos p' : Pos} {r : Flow × Shared × Code × Pos} (hB : splitAtGen B = none) (hb : b₀ < B.length)
    (h : segRun tb p w n₀ ann B.length n s (blockOf b env c pos B) = some (.next, s', c, p'))
    (k : segRun tb p w n₀ ann b₀ N s' (restOf b env c p' B) = some r) : segRun tb p w n₀ ann b₀ (n + N) s ⟨denote tb (.body b env), c, pos, B⟩ = some r := by
  obtain ⟨a, ha, hN⟩ := seg_mid (res := fun _ : Unit => Flow.next) (K' := fun _ => (execs b env).wrap doneF (leaveH env) id id) (H' := Sem.raise) (B := B) hB hb n s (blockOf b env c pos B)
    ⟨(blockStart b env).wrap (fun _ => (execs b env).wrap doneF (leaveH env) id id) .raise id id, c, pos, B⟩ _ _ _ _ ⟨rfl, rfl, .inl ⟨rfl, rfl, _, rfl, rfl⟩⟩ h
  rw [body_wrap]
  obtain ⟨j, hj, q⟩ := hN N r k
  have := segRun_mono (n - j) _ _ _ _ q
  rw [show j + N + (n - j) = n + N by omega] at this
  exact this
end
noncomputable abbrev fp0 : Pos := ⟨0, 0, 0, 0⟩
noncomputable def L12 : List Stmt := []
noncomputable def L11 : List Stmt := [T 19, T 20, T 21, T 22, T 23, T 24, T 25, T 26] ++ L12
noncomputable def L10 : List Stmt := [T 16, T 17, T 18] ++ L11
noncomputable def L9 : List Stmt := [T 15] ++ L10
noncomputable def L8 : List Stmt := [T 14] ++ L9
noncomputable def L7 : List Stmt := [T 13] ++ L8
noncomputable def L6 : List Stmt := [T 12] ++ L7
noncomputable def L5 : List Stmt := [T 11] ++ L6
noncomputable def L4 : List Stmt := [T 10] ++ L5
noncomputable def L3 : List Stmt := [T 9] ++ L4
noncomputable def L2 : List Stmt := [T 8] ++ L3
noncomputable def L1 : List Stmt := [T 7] ++ L2
noncomputable def L0 : List Stmt := [T 0, T 1, T 2, T 3, T 4, T 5, T 6] ++ L1
noncomputable def env : Env := { scope := pw.main.scope, locals := mainNs, globals := mainNs, cells := [], code := .ref 13, frame := some 14 }
noncomputable def cE : Code := .body L0 env
noncomputable abbrev B0 : List Frame := [topFrame fp0]
noncomputable abbrev ann : Option Value := (some (.ref 6))
noncomputable def X0 : List Int := [.ofNat (nat_lit 99), .ofNat (nat_lit 124), .ofNat (nat_lit 119), .ofNat (nat_lit 123), .ofNat (nat_lit 242), .ofNat (nat_lit 107), .ofNat (nat_lit 111), .ofNat (nat_lit 197), .ofNat (nat_lit 48), .ofNat (nat_lit 1), .ofNat (nat_lit 103), .ofNat (nat_lit 43), .ofNat (nat_lit 254), .ofNat (nat_lit 215), .ofNat (nat_lit 171), .ofNat (nat_lit 118), .ofNat (nat_lit 202), .ofNat (nat_lit 130), .ofNat (nat_lit 201), .ofNat (nat_lit 125), .ofNat (nat_lit 250), .ofNat (nat_lit 89), .ofNat (nat_lit 71), .ofNat (nat_lit 240), .ofNat (nat_lit 173), .ofNat (nat_lit 212), .ofNat (nat_lit 162), .ofNat (nat_lit 175), .ofNat (nat_lit 156), .ofNat (nat_lit 164), .ofNat (nat_lit 114), .ofNat (nat_lit 192), .ofNat (nat_lit 183), .ofNat (nat_lit 253), .ofNat (nat_lit 147), .ofNat (nat_lit 38), .ofNat (nat_lit 54), .ofNat (nat_lit 63), .ofNat (nat_lit 247), .ofNat (nat_lit 204), .ofNat (nat_lit 52), .ofNat (nat_lit 165), .ofNat (nat_lit 229), .ofNat (nat_lit 241), .ofNat (nat_lit 113), .ofNat (nat_lit 216), .ofNat (nat_lit 49), .ofNat (nat_lit 21), .ofNat (nat_lit 4), .ofNat (nat_lit 199), .ofNat (nat_lit 35), .ofNat (nat_lit 195), .ofNat (nat_lit 24), .ofNat (nat_lit 150), .ofNat (nat_lit 5), .ofNat (nat_lit 154), .ofNat (nat_lit 7), .ofNat (nat_lit 18), .ofNat (nat_lit 128), .ofNat (nat_lit 226), .ofNat (nat_lit 235), .ofNat (nat_lit 39), .ofNat (nat_lit 178), .ofNat (nat_lit 117), .ofNat (nat_lit 9), .ofNat (nat_lit 131), .ofNat (nat_lit 44), .ofNat (nat_lit 26), .ofNat (nat_lit 27), .ofNat (nat_lit 110), .ofNat (nat_lit 90), .ofNat (nat_lit 160), .ofNat (nat_lit 82), .ofNat (nat_lit 59), .ofNat (nat_lit 214), .ofNat (nat_lit 179), .ofNat (nat_lit 41), .ofNat (nat_lit 227), .ofNat (nat_lit 47), .ofNat (nat_lit 132), .ofNat (nat_lit 83), .ofNat (nat_lit 209), .ofNat (nat_lit 0), .ofNat (nat_lit 237), .ofNat (nat_lit 32), .ofNat (nat_lit 252), .ofNat (nat_lit 177), .ofNat (nat_lit 91), .ofNat (nat_lit 106), .ofNat (nat_lit 203), .ofNat (nat_lit 190), .ofNat (nat_lit 57), .ofNat (nat_lit 74), .ofNat (nat_lit 76), .ofNat (nat_lit 88), .ofNat (nat_lit 207), .ofNat (nat_lit 208), .ofNat (nat_lit 239), .ofNat (nat_lit 170), .ofNat (nat_lit 251), .ofNat (nat_lit 67), .ofNat (nat_lit 77), .ofNat (nat_lit 51), .ofNat (nat_lit 133), .ofNat (nat_lit 69), .ofNat (nat_lit 249), .ofNat (nat_lit 2), .ofNat (nat_lit 127), .ofNat (nat_lit 80), .ofNat (nat_lit 60), .ofNat (nat_lit 159), .ofNat (nat_lit 168), .ofNat (nat_lit 81), .ofNat (nat_lit 163), .ofNat (nat_lit 64), .ofNat (nat_lit 143), .ofNat (nat_lit 146), .ofNat (nat_lit 157), .ofNat (nat_lit 56), .ofNat (nat_lit 245), .ofNat (nat_lit 188), .ofNat (nat_lit 182), .ofNat (nat_lit 218), .ofNat (nat_lit 33), .ofNat (nat_lit 16), .ofNat (nat_lit 255), .ofNat (nat_lit 243), .ofNat (nat_lit 210)]
noncomputable def X1 : List Int := [.ofNat (nat_lit 205), .ofNat (nat_lit 12), .ofNat (nat_lit 19), .ofNat (nat_lit 236), .ofNat (nat_lit 95), .ofNat (nat_lit 151), .ofNat (nat_lit 68), .ofNat (nat_lit 23), .ofNat (nat_lit 196), .ofNat (nat_lit 167), .ofNat (nat_lit 126), .ofNat (nat_lit 61), .ofNat (nat_lit 100), .ofNat (nat_lit 93), .ofNat (nat_lit 25), .ofNat (nat_lit 115), .ofNat (nat_lit 96), .ofNat (nat_lit 129), .ofNat (nat_lit 79), .ofNat (nat_lit 220), .ofNat (nat_lit 34), .ofNat (nat_lit 42), .ofNat (nat_lit 144), .ofNat (nat_lit 136), .ofNat (nat_lit 70), .ofNat (nat_lit 238), .ofNat (nat_lit 184), .ofNat (nat_lit 20), .ofNat (nat_lit 222), .ofNat (nat_lit 94), .ofNat (nat_lit 11), .ofNat (nat_lit 219), .ofNat (nat_lit 224), .ofNat (nat_lit 50), .ofNat (nat_lit 58), .ofNat (nat_lit 10), .ofNat (nat_lit 73), .ofNat (nat_lit 6), .ofNat (nat_lit 36), .ofNat (nat_lit 92), .ofNat (nat_lit 194), .ofNat (nat_lit 211), .ofNat (nat_lit 172), .ofNat (nat_lit 98), .ofNat (nat_lit 145), .ofNat (nat_lit 149), .ofNat (nat_lit 228), .ofNat (nat_lit 121), .ofNat (nat_lit 231), .ofNat (nat_lit 200), .ofNat (nat_lit 55), .ofNat (nat_lit 109), .ofNat (nat_lit 141), .ofNat (nat_lit 213), .ofNat (nat_lit 78), .ofNat (nat_lit 169), .ofNat (nat_lit 108), .ofNat (nat_lit 86), .ofNat (nat_lit 244), .ofNat (nat_lit 234), .ofNat (nat_lit 101), .ofNat (nat_lit 122), .ofNat (nat_lit 174), .ofNat (nat_lit 8), .ofNat (nat_lit 186), .ofNat (nat_lit 120), .ofNat (nat_lit 37), .ofNat (nat_lit 46), .ofNat (nat_lit 28), .ofNat (nat_lit 166), .ofNat (nat_lit 180), .ofNat (nat_lit 198), .ofNat (nat_lit 232), .ofNat (nat_lit 221), .ofNat (nat_lit 116), .ofNat (nat_lit 31), .ofNat (nat_lit 75), .ofNat (nat_lit 189), .ofNat (nat_lit 139), .ofNat (nat_lit 138), .ofNat (nat_lit 112), .ofNat (nat_lit 62), .ofNat (nat_lit 181), .ofNat (nat_lit 102), .ofNat (nat_lit 72), .ofNat (nat_lit 3), .ofNat (nat_lit 246), .ofNat (nat_lit 14), .ofNat (nat_lit 97), .ofNat (nat_lit 53), .ofNat (nat_lit 87), .ofNat (nat_lit 185), .ofNat (nat_lit 134), .ofNat (nat_lit 193), .ofNat (nat_lit 29), .ofNat (nat_lit 158), .ofNat (nat_lit 225), .ofNat (nat_lit 248), .ofNat (nat_lit 152), .ofNat (nat_lit 17), .ofNat (nat_lit 105), .ofNat (nat_lit 217), .ofNat (nat_lit 142), .ofNat (nat_lit 148), .ofNat (nat_lit 155), .ofNat (nat_lit 30), .ofNat (nat_lit 135), .ofNat (nat_lit 233), .ofNat (nat_lit 206), .ofNat (nat_lit 85), .ofNat (nat_lit 40), .ofNat (nat_lit 223), .ofNat (nat_lit 140), .ofNat (nat_lit 161), .ofNat (nat_lit 137), .ofNat (nat_lit 13), .ofNat (nat_lit 191), .ofNat (nat_lit 230), .ofNat (nat_lit 66), .ofNat (nat_lit 104), .ofNat (nat_lit 65), .ofNat (nat_lit 153), .ofNat (nat_lit 45), .ofNat (nat_lit 15), .ofNat (nat_lit 176), .ofNat (nat_lit 84), .ofNat (nat_lit 187), .ofNat (nat_lit 22)]
noncomputable def X2 : List Int := [.ofNat (nat_lit 82), .ofNat (nat_lit 9), .ofNat (nat_lit 106), .ofNat (nat_lit 213), .ofNat (nat_lit 48), .ofNat (nat_lit 54), .ofNat (nat_lit 165), .ofNat (nat_lit 56), .ofNat (nat_lit 191), .ofNat (nat_lit 64), .ofNat (nat_lit 163), .ofNat (nat_lit 158), .ofNat (nat_lit 129), .ofNat (nat_lit 243), .ofNat (nat_lit 215), .ofNat (nat_lit 251), .ofNat (nat_lit 124), .ofNat (nat_lit 227), .ofNat (nat_lit 57), .ofNat (nat_lit 130), .ofNat (nat_lit 155), .ofNat (nat_lit 47), .ofNat (nat_lit 255), .ofNat (nat_lit 135), .ofNat (nat_lit 52), .ofNat (nat_lit 142), .ofNat (nat_lit 67), .ofNat (nat_lit 68), .ofNat (nat_lit 196), .ofNat (nat_lit 222), .ofNat (nat_lit 233), .ofNat (nat_lit 203), .ofNat (nat_lit 84), .ofNat (nat_lit 123), .ofNat (nat_lit 148), .ofNat (nat_lit 50), .ofNat (nat_lit 166), .ofNat (nat_lit 194), .ofNat (nat_lit 35), .ofNat (nat_lit 61), .ofNat (nat_lit 238), .ofNat (nat_lit 76), .ofNat (nat_lit 149), .ofNat (nat_lit 11), .ofNat (nat_lit 66), .ofNat (nat_lit 250), .ofNat (nat_lit 195), .ofNat (nat_lit 78), .ofNat (nat_lit 8), .ofNat (nat_lit 46), .ofNat (nat_lit 161), .ofNat (nat_lit 102), .ofNat (nat_lit 40), .ofNat (nat_lit 217), .ofNat (nat_lit 36), .ofNat (nat_lit 178), .ofNat (nat_lit 118), .ofNat (nat_lit 91), .ofNat (nat_lit 162), .ofNat (nat_lit 73), .ofNat (nat_lit 109), .ofNat (nat_lit 139), .ofNat (nat_lit 209), .ofNat (nat_lit 37), .ofNat (nat_lit 114), .ofNat (nat_lit 248), .ofNat (nat_lit 246), .ofNat (nat_lit 100), .ofNat (nat_lit 134), .ofNat (nat_lit 104), .ofNat (nat_lit 152), .ofNat (nat_lit 22), .ofNat (nat_lit 212), .ofNat (nat_lit 164), .ofNat (nat_lit 92), .ofNat (nat_lit 204), .ofNat (nat_lit 93), .ofNat (nat_lit 101), .ofNat (nat_lit 182), .ofNat (nat_lit 146), .ofNat (nat_lit 108), .ofNat (nat_lit 112), .ofNat (nat_lit 72), .ofNat (nat_lit 80), .ofNat (nat_lit 253), .ofNat (nat_lit 237), .ofNat (nat_lit 185), .ofNat (nat_lit 218), .ofNat (nat_lit 94), .ofNat (nat_lit 21), .ofNat (nat_lit 70), .ofNat (nat_lit 87), .ofNat (nat_lit 167), .ofNat (nat_lit 141), .ofNat (nat_lit 157), .ofNat (nat_lit 132), .ofNat (nat_lit 144), .ofNat (nat_lit 216), .ofNat (nat_lit 171), .ofNat (nat_lit 0), .ofNat (nat_lit 140), .ofNat (nat_lit 188), .ofNat (nat_lit 211), .ofNat (nat_lit 10), .ofNat (nat_lit 247), .ofNat (nat_lit 228), .ofNat (nat_lit 88), .ofNat (nat_lit 5), .ofNat (nat_lit 184), .ofNat (nat_lit 179), .ofNat (nat_lit 69), .ofNat (nat_lit 6), .ofNat (nat_lit 208), .ofNat (nat_lit 44), .ofNat (nat_lit 30), .ofNat (nat_lit 143), .ofNat (nat_lit 202), .ofNat (nat_lit 63), .ofNat (nat_lit 15), .ofNat (nat_lit 2), .ofNat (nat_lit 193), .ofNat (nat_lit 175), .ofNat (nat_lit 189), .ofNat (nat_lit 3), .ofNat (nat_lit 1), .ofNat (nat_lit 19), .ofNat (nat_lit 138), .ofNat (nat_lit 107)]
noncomputable def X3 : List Int := [.ofNat (nat_lit 58), .ofNat (nat_lit 145), .ofNat (nat_lit 17), .ofNat (nat_lit 65), .ofNat (nat_lit 79), .ofNat (nat_lit 103), .ofNat (nat_lit 220), .ofNat (nat_lit 234), .ofNat (nat_lit 151), .ofNat (nat_lit 242), .ofNat (nat_lit 207), .ofNat (nat_lit 206), .ofNat (nat_lit 240), .ofNat (nat_lit 180), .ofNat (nat_lit 230), .ofNat (nat_lit 115), .ofNat (nat_lit 150), .ofNat (nat_lit 172), .ofNat (nat_lit 116), .ofNat (nat_lit 34), .ofNat (nat_lit 231), .ofNat (nat_lit 173), .ofNat (nat_lit 53), .ofNat (nat_lit 133), .ofNat (nat_lit 226), .ofNat (nat_lit 249), .ofNat (nat_lit 55), .ofNat (nat_lit 232), .ofNat (nat_lit 28), .ofNat (nat_lit 117), .ofNat (nat_lit 223), .ofNat (nat_lit 110), .ofNat (nat_lit 71), .ofNat (nat_lit 241), .ofNat (nat_lit 26), .ofNat (nat_lit 113), .ofNat (nat_lit 29), .ofNat (nat_lit 41), .ofNat (nat_lit 197), .ofNat (nat_lit 137), .ofNat (nat_lit 111), .ofNat (nat_lit 183), .ofNat (nat_lit 98), .ofNat (nat_lit 14), .ofNat (nat_lit 170), .ofNat (nat_lit 24), .ofNat (nat_lit 190), .ofNat (nat_lit 27), .ofNat (nat_lit 252), .ofNat (nat_lit 86), .ofNat (nat_lit 62), .ofNat (nat_lit 75), .ofNat (nat_lit 198), .ofNat (nat_lit 210), .ofNat (nat_lit 121), .ofNat (nat_lit 32), .ofNat (nat_lit 154), .ofNat (nat_lit 219), .ofNat (nat_lit 192), .ofNat (nat_lit 254), .ofNat (nat_lit 120), .ofNat (nat_lit 205), .ofNat (nat_lit 90), .ofNat (nat_lit 244), .ofNat (nat_lit 31), .ofNat (nat_lit 221), .ofNat (nat_lit 168), .ofNat (nat_lit 51), .ofNat (nat_lit 136), .ofNat (nat_lit 7), .ofNat (nat_lit 199), .ofNat (nat_lit 49), .ofNat (nat_lit 177), .ofNat (nat_lit 18), .ofNat (nat_lit 16), .ofNat (nat_lit 89), .ofNat (nat_lit 39), .ofNat (nat_lit 128), .ofNat (nat_lit 236), .ofNat (nat_lit 95), .ofNat (nat_lit 96), .ofNat (nat_lit 81), .ofNat (nat_lit 127), .ofNat (nat_lit 169), .ofNat (nat_lit 25), .ofNat (nat_lit 181), .ofNat (nat_lit 74), .ofNat (nat_lit 13), .ofNat (nat_lit 45), .ofNat (nat_lit 229), .ofNat (nat_lit 122), .ofNat (nat_lit 159), .ofNat (nat_lit 147), .ofNat (nat_lit 201), .ofNat (nat_lit 156), .ofNat (nat_lit 239), .ofNat (nat_lit 160), .ofNat (nat_lit 224), .ofNat (nat_lit 59), .ofNat (nat_lit 77), .ofNat (nat_lit 174), .ofNat (nat_lit 42), .ofNat (nat_lit 245), .ofNat (nat_lit 176), .ofNat (nat_lit 200), .ofNat (nat_lit 235), .ofNat (nat_lit 187), .ofNat (nat_lit 60), .ofNat (nat_lit 131), .ofNat (nat_lit 83), .ofNat (nat_lit 153), .ofNat (nat_lit 97), .ofNat (nat_lit 23), .ofNat (nat_lit 43), .ofNat (nat_lit 4), .ofNat (nat_lit 126), .ofNat (nat_lit 186), .ofNat (nat_lit 119), .ofNat (nat_lit 214), .ofNat (nat_lit 38), .ofNat (nat_lit 225), .ofNat (nat_lit 105), .ofNat (nat_lit 20), .ofNat (nat_lit 99), .ofNat (nat_lit 85), .ofNat (nat_lit 33), .ofNat (nat_lit 12), .ofNat (nat_lit 125)]
noncomputable def X4 : List Int := [.ofNat (nat_lit 3328402341), .ofNat (nat_lit 4168907908), .ofNat (nat_lit 4000806809), .ofNat (nat_lit 4135287693), .ofNat (nat_lit 4294111757), .ofNat (nat_lit 3597364157), .ofNat (nat_lit 3731845041), .ofNat (nat_lit 2445657428), .ofNat (nat_lit 1613770832), .ofNat (nat_lit 33620227), .ofNat (nat_lit 3462883241), .ofNat (nat_lit 1445669757), .ofNat (nat_lit 3892248089), .ofNat (nat_lit 3050821474), .ofNat (nat_lit 1303096294), .ofNat (nat_lit 3967186586), .ofNat (nat_lit 2412431941), .ofNat (nat_lit 528646813), .ofNat (nat_lit 2311702848), .ofNat (nat_lit 4202528135), .ofNat (nat_lit 4026202645), .ofNat (nat_lit 2992200171), .ofNat (nat_lit 2387036105), .ofNat (nat_lit 4226871307), .ofNat (nat_lit 1101901292), .ofNat (nat_lit 3017069671), .ofNat (nat_lit 1604494077), .ofNat (nat_lit 1169141738), .ofNat (nat_lit 597466303), .ofNat (nat_lit 1403299063), .ofNat (nat_lit 3832705686), .ofNat (nat_lit 2613100635), .ofNat (nat_lit 1974974402), .ofNat (nat_lit 3791519004), .ofNat (nat_lit 1033081774), .ofNat (nat_lit 1277568618), .ofNat (nat_lit 1815492186), .ofNat (nat_lit 2118074177), .ofNat (nat_lit 4126668546), .ofNat (nat_lit 2211236943), .ofNat (nat_lit 1748251740), .ofNat (nat_lit 1369810420), .ofNat (nat_lit 3521504564), .ofNat (nat_lit 4193382664), .ofNat (nat_lit 3799085459), .ofNat (nat_lit 2883115123), .ofNat (nat_lit 1647391059), .ofNat (nat_lit 706024767), .ofNat (nat_lit 134480908), .ofNat (nat_lit 2512897874), .ofNat (nat_lit 1176707941), .ofNat (nat_lit 2646852446), .ofNat (nat_lit 806885416), .ofNat (nat_lit 932615841), .ofNat (nat_lit 168101135), .ofNat (nat_lit 798661301), .ofNat (nat_lit 235341577), .ofNat (nat_lit 605164086), .ofNat (nat_lit 461406363), .ofNat (nat_lit 3756188221), .ofNat (nat_lit 3454790438), .ofNat (nat_lit 1311188841), .ofNat (nat_lit 2142417613), .ofNat (nat_lit 3933566367), .ofNat (nat_lit 302582043), .ofNat (nat_lit 495158174), .ofNat (nat_lit 1479289972), .ofNat (nat_lit 874125870), .ofNat (nat_lit 907746093), .ofNat (nat_lit 3698224818), .ofNat (nat_lit 3025820398), .ofNat (nat_lit 1537253627), .ofNat (nat_lit 2756858614), .ofNat (nat_lit 1983593293), .ofNat (nat_lit 3084310113), .ofNat (nat_lit 2108928974), .ofNat (nat_lit 1378429307), .ofNat (nat_lit 3722699582), .ofNat (nat_lit 1580150641), .ofNat (nat_lit 327451799), .ofNat (nat_lit 2790478837), .ofNat (nat_lit 3117535592), .ofNat (nat_lit 0), .ofNat (nat_lit 3253595436), .ofNat (nat_lit 1075847264), .ofNat (nat_lit 3825007647), .ofNat (nat_lit 2041688520), .ofNat (nat_lit 3059440621), .ofNat (nat_lit 3563743934), .ofNat (nat_lit 2378943302), .ofNat (nat_lit 1740553945), .ofNat (nat_lit 1916352843), .ofNat (nat_lit 2487896798), .ofNat (nat_lit 2555137236), .ofNat (nat_lit 2958579944), .ofNat (nat_lit 2244988746), .ofNat (nat_lit 3151024235), .ofNat (nat_lit 3320835882), .ofNat (nat_lit 1336584933), .ofNat (nat_lit 3992714006), .ofNat (nat_lit 2252555205), .ofNat (nat_lit 2588757463), .ofNat (nat_lit 1714631509), .ofNat (nat_lit 293963156), .ofNat (nat_lit 2319795663), .ofNat (nat_lit 3925473552), .ofNat (nat_lit 67240454), .ofNat (nat_lit 4269768577), .ofNat (nat_lit 2689618160), .ofNat (nat_lit 2017213508), .ofNat (nat_lit 631218106), .ofNat (nat_lit 1269344483), .ofNat (nat_lit 2723238387), .ofNat (nat_lit 1571005438), .ofNat (nat_lit 2151694528), .ofNat (nat_lit 93294474), .ofNat (nat_lit 1066570413), .ofNat (nat_lit 563977660), .ofNat (nat_lit 1882732616), .ofNat (nat_lit 4059428100), .ofNat (nat_lit 1673313503), .ofNat (nat_lit 2008463041), .ofNat (nat_lit 2950355573), .ofNat (nat_lit 1109467491), .ofNat (nat_lit 537923632), .ofNat (nat_lit 3858759450), .ofNat (nat_lit 4260623118), .ofNat (nat_lit 3218264685)]
noncomputable def X5 : List Int := [.ofNat (nat_lit 2177748300), .ofNat (nat_lit 403442708), .ofNat (nat_lit 638784309), .ofNat (nat_lit 3287084079), .ofNat (nat_lit 3193921505), .ofNat (nat_lit 899127202), .ofNat (nat_lit 2286175436), .ofNat (nat_lit 773265209), .ofNat (nat_lit 2479146071), .ofNat (nat_lit 1437050866), .ofNat (nat_lit 4236148354), .ofNat (nat_lit 2050833735), .ofNat (nat_lit 3362022572), .ofNat (nat_lit 3126681063), .ofNat (nat_lit 840505643), .ofNat (nat_lit 3866325909), .ofNat (nat_lit 3227541664), .ofNat (nat_lit 427917720), .ofNat (nat_lit 2655997905), .ofNat (nat_lit 2749160575), .ofNat (nat_lit 1143087718), .ofNat (nat_lit 1412049534), .ofNat (nat_lit 999329963), .ofNat (nat_lit 193497219), .ofNat (nat_lit 2353415882), .ofNat (nat_lit 3354324521), .ofNat (nat_lit 1807268051), .ofNat (nat_lit 672404540), .ofNat (nat_lit 2816401017), .ofNat (nat_lit 3160301282), .ofNat (nat_lit 369822493), .ofNat (nat_lit 2916866934), .ofNat (nat_lit 3688947771), .ofNat (nat_lit 1681011286), .ofNat (nat_lit 1949973070), .ofNat (nat_lit 336202270), .ofNat (nat_lit 2454276571), .ofNat (nat_lit 201721354), .ofNat (nat_lit 1210328172), .ofNat (nat_lit 3093060836), .ofNat (nat_lit 2680341085), .ofNat (nat_lit 3184776046), .ofNat (nat_lit 1135389935), .ofNat (nat_lit 3294782118), .ofNat (nat_lit 965841320), .ofNat (nat_lit 831886756), .ofNat (nat_lit 3554993207), .ofNat (nat_lit 4068047243), .ofNat (nat_lit 3588745010), .ofNat (nat_lit 2345191491), .ofNat (nat_lit 1849112409), .ofNat (nat_lit 3664604599), .ofNat (nat_lit 26054028), .ofNat (nat_lit 2983581028), .ofNat (nat_lit 2622377682), .ofNat (nat_lit 1235855840), .ofNat (nat_lit 3630984372), .ofNat (nat_lit 2891339514), .ofNat (nat_lit 4092916743), .ofNat (nat_lit 3488279077), .ofNat (nat_lit 3395642799), .ofNat (nat_lit 4101667470), .ofNat (nat_lit 1202630377), .ofNat (nat_lit 268961816), .ofNat (nat_lit 1874508501), .ofNat (nat_lit 4034427016), .ofNat (nat_lit 1243948399), .ofNat (nat_lit 1546530418), .ofNat (nat_lit 941366308), .ofNat (nat_lit 1470539505), .ofNat (nat_lit 1941222599), .ofNat (nat_lit 2546386513), .ofNat (nat_lit 3421038627), .ofNat (nat_lit 2715671932), .ofNat (nat_lit 3899946140), .ofNat (nat_lit 1042226977), .ofNat (nat_lit 2521517021), .ofNat (nat_lit 1639824860), .ofNat (nat_lit 227249030), .ofNat (nat_lit 260737669), .ofNat (nat_lit 3765465232), .ofNat (nat_lit 2084453954), .ofNat (nat_lit 1907733956), .ofNat (nat_lit 3429263018), .ofNat (nat_lit 2420656344), .ofNat (nat_lit 100860677), .ofNat (nat_lit 4160157185), .ofNat (nat_lit 470683154), .ofNat (nat_lit 3261161891), .ofNat (nat_lit 1781871967), .ofNat (nat_lit 2924959737), .ofNat (nat_lit 1773779408), .ofNat (nat_lit 394692241), .ofNat (nat_lit 2579611992), .ofNat (nat_lit 974986535), .ofNat (nat_lit 664706745), .ofNat (nat_lit 3655459128), .ofNat (nat_lit 3958962195), .ofNat (nat_lit 731420851), .ofNat (nat_lit 571543859), .ofNat (nat_lit 3530123707), .ofNat (nat_lit 2849626480), .ofNat (nat_lit 126783113), .ofNat (nat_lit 865375399), .ofNat (nat_lit 765172662), .ofNat (nat_lit 1008606754), .ofNat (nat_lit 361203602), .ofNat (nat_lit 3387549984), .ofNat (nat_lit 2278477385), .ofNat (nat_lit 2857719295), .ofNat (nat_lit 1344809080), .ofNat (nat_lit 2782912378), .ofNat (nat_lit 59542671), .ofNat (nat_lit 1503764984), .ofNat (nat_lit 160008576), .ofNat (nat_lit 437062935), .ofNat (nat_lit 1707065306), .ofNat (nat_lit 3622233649), .ofNat (nat_lit 2218934982), .ofNat (nat_lit 3496503480), .ofNat (nat_lit 2185314755), .ofNat (nat_lit 697932208), .ofNat (nat_lit 1512910199), .ofNat (nat_lit 504303377), .ofNat (nat_lit 2075177163), .ofNat (nat_lit 2824099068), .ofNat (nat_lit 1841019862), .ofNat (nat_lit 739644986)]
noncomputable def X6 : List Int := [.ofNat (nat_lit 2781242211), .ofNat (nat_lit 2230877308), .ofNat (nat_lit 2582542199), .ofNat (nat_lit 2381740923), .ofNat (nat_lit 234877682), .ofNat (nat_lit 3184946027), .ofNat (nat_lit 2984144751), .ofNat (nat_lit 1418839493), .ofNat (nat_lit 1348481072), .ofNat (nat_lit 50462977), .ofNat (nat_lit 2848876391), .ofNat (nat_lit 2102799147), .ofNat (nat_lit 434634494), .ofNat (nat_lit 1656084439), .ofNat (nat_lit 3863849899), .ofNat (nat_lit 2599188086), .ofNat (nat_lit 1167051466), .ofNat (nat_lit 2636087938), .ofNat (nat_lit 1082771913), .ofNat (nat_lit 2281340285), .ofNat (nat_lit 368048890), .ofNat (nat_lit 3954334041), .ofNat (nat_lit 3381544775), .ofNat (nat_lit 201060592), .ofNat (nat_lit 3963727277), .ofNat (nat_lit 1739838676), .ofNat (nat_lit 4250903202), .ofNat (nat_lit 3930435503), .ofNat (nat_lit 3206782108), .ofNat (nat_lit 4149453988), .ofNat (nat_lit 2531553906), .ofNat (nat_lit 1536934080), .ofNat (nat_lit 3262494647), .ofNat (nat_lit 484572669), .ofNat (nat_lit 2923271059), .ofNat (nat_lit 1783375398), .ofNat (nat_lit 1517041206), .ofNat (nat_lit 1098792767), .ofNat (nat_lit 49674231), .ofNat (nat_lit 1334037708), .ofNat (nat_lit 1550332980), .ofNat (nat_lit 4098991525), .ofNat (nat_lit 886171109), .ofNat (nat_lit 150598129), .ofNat (nat_lit 2481090929), .ofNat (nat_lit 1940642008), .ofNat (nat_lit 1398944049), .ofNat (nat_lit 1059722517), .ofNat (nat_lit 201851908), .ofNat (nat_lit 1385547719), .ofNat (nat_lit 1699095331), .ofNat (nat_lit 1587397571), .ofNat (nat_lit 674240536), .ofNat (nat_lit 2704774806), .ofNat (nat_lit 252314885), .ofNat (nat_lit 3039795866), .ofNat (nat_lit 151914247), .ofNat (nat_lit 908333586), .ofNat (nat_lit 2602270848), .ofNat (nat_lit 1038082786), .ofNat (nat_lit 651029483), .ofNat (nat_lit 1766729511), .ofNat (nat_lit 3447698098), .ofNat (nat_lit 2682942837), .ofNat (nat_lit 454166793), .ofNat (nat_lit 2652734339), .ofNat (nat_lit 1951935532), .ofNat (nat_lit 775166490), .ofNat (nat_lit 758520603), .ofNat (nat_lit 3000790638), .ofNat (nat_lit 4004797018), .ofNat (nat_lit 4217086112), .ofNat (nat_lit 4137964114), .ofNat (nat_lit 1299594043), .ofNat (nat_lit 1639438038), .ofNat (nat_lit 3464344499), .ofNat (nat_lit 2068982057), .ofNat (nat_lit 1054729187), .ofNat (nat_lit 1901997871), .ofNat (nat_lit 2534638724), .ofNat (nat_lit 4121318227), .ofNat (nat_lit 1757008337), .ofNat (nat_lit 0), .ofNat (nat_lit 750906861), .ofNat (nat_lit 1614815264), .ofNat (nat_lit 535035132), .ofNat (nat_lit 3363418545), .ofNat (nat_lit 3988151131), .ofNat (nat_lit 3201591914), .ofNat (nat_lit 1183697867), .ofNat (nat_lit 3647454910), .ofNat (nat_lit 1265776953), .ofNat (nat_lit 3734260298), .ofNat (nat_lit 3566750796), .ofNat (nat_lit 3903871064), .ofNat (nat_lit 1250283471), .ofNat (nat_lit 1807470800), .ofNat (nat_lit 717615087), .ofNat (nat_lit 3847203498), .ofNat (nat_lit 384695291), .ofNat (nat_lit 3313910595), .ofNat (nat_lit 3617213773), .ofNat (nat_lit 1432761139), .ofNat (nat_lit 2484176261), .ofNat (nat_lit 3481945413), .ofNat (nat_lit 283769337), .ofNat (nat_lit 100925954), .ofNat (nat_lit 2180939647), .ofNat (nat_lit 4037038160), .ofNat (nat_lit 1148730428), .ofNat (nat_lit 3123027871), .ofNat (nat_lit 3813386408), .ofNat (nat_lit 4087501137), .ofNat (nat_lit 4267549603), .ofNat (nat_lit 3229630528), .ofNat (nat_lit 2315620239), .ofNat (nat_lit 2906624658), .ofNat (nat_lit 3156319645), .ofNat (nat_lit 1215313976), .ofNat (nat_lit 82966005), .ofNat (nat_lit 3747855548), .ofNat (nat_lit 3245848246), .ofNat (nat_lit 1974459098), .ofNat (nat_lit 1665278241), .ofNat (nat_lit 807407632), .ofNat (nat_lit 451280895), .ofNat (nat_lit 251524083), .ofNat (nat_lit 1841287890)]
noncomputable def X7 : List Int := [.ofNat (nat_lit 1283575245), .ofNat (nat_lit 337120268), .ofNat (nat_lit 891687699), .ofNat (nat_lit 801369324), .ofNat (nat_lit 3787349855), .ofNat (nat_lit 2721421207), .ofNat (nat_lit 3431482436), .ofNat (nat_lit 959321879), .ofNat (nat_lit 1469301956), .ofNat (nat_lit 4065699751), .ofNat (nat_lit 2197585534), .ofNat (nat_lit 1199193405), .ofNat (nat_lit 2898814052), .ofNat (nat_lit 3887750493), .ofNat (nat_lit 724703513), .ofNat (nat_lit 2514908019), .ofNat (nat_lit 2696962144), .ofNat (nat_lit 2551808385), .ofNat (nat_lit 3516813135), .ofNat (nat_lit 2141445340), .ofNat (nat_lit 1715741218), .ofNat (nat_lit 2119445034), .ofNat (nat_lit 2872807568), .ofNat (nat_lit 2198571144), .ofNat (nat_lit 3398190662), .ofNat (nat_lit 700968686), .ofNat (nat_lit 3547052216), .ofNat (nat_lit 1009259540), .ofNat (nat_lit 2041044702), .ofNat (nat_lit 3803995742), .ofNat (nat_lit 487983883), .ofNat (nat_lit 1991105499), .ofNat (nat_lit 1004265696), .ofNat (nat_lit 1449407026), .ofNat (nat_lit 1316239930), .ofNat (nat_lit 504629770), .ofNat (nat_lit 3683797321), .ofNat (nat_lit 168560134), .ofNat (nat_lit 1816667172), .ofNat (nat_lit 3837287516), .ofNat (nat_lit 1570751170), .ofNat (nat_lit 1857934291), .ofNat (nat_lit 4014189740), .ofNat (nat_lit 2797888098), .ofNat (nat_lit 2822345105), .ofNat (nat_lit 2754712981), .ofNat (nat_lit 936633572), .ofNat (nat_lit 2347923833), .ofNat (nat_lit 852879335), .ofNat (nat_lit 1133234376), .ofNat (nat_lit 1500395319), .ofNat (nat_lit 3084545389), .ofNat (nat_lit 2348912013), .ofNat (nat_lit 1689376213), .ofNat (nat_lit 3533459022), .ofNat (nat_lit 3762923945), .ofNat (nat_lit 3034082412), .ofNat (nat_lit 4205598294), .ofNat (nat_lit 133428468), .ofNat (nat_lit 634383082), .ofNat (nat_lit 2949277029), .ofNat (nat_lit 2398386810), .ofNat (nat_lit 3913789102), .ofNat (nat_lit 403703816), .ofNat (nat_lit 3580869306), .ofNat (nat_lit 2297460856), .ofNat (nat_lit 1867130149), .ofNat (nat_lit 1918643758), .ofNat (nat_lit 607656988), .ofNat (nat_lit 4049053350), .ofNat (nat_lit 3346248884), .ofNat (nat_lit 1368901318), .ofNat (nat_lit 600565992), .ofNat (nat_lit 2090982877), .ofNat (nat_lit 2632479860), .ofNat (nat_lit 557719327), .ofNat (nat_lit 3717614411), .ofNat (nat_lit 3697393085), .ofNat (nat_lit 2249034635), .ofNat (nat_lit 2232388234), .ofNat (nat_lit 2430627952), .ofNat (nat_lit 1115438654), .ofNat (nat_lit 3295786421), .ofNat (nat_lit 2865522278), .ofNat (nat_lit 3633334344), .ofNat (nat_lit 84280067), .ofNat (nat_lit 33027830), .ofNat (nat_lit 303828494), .ofNat (nat_lit 2747425121), .ofNat (nat_lit 1600795957), .ofNat (nat_lit 4188952407), .ofNat (nat_lit 3496589753), .ofNat (nat_lit 2434238086), .ofNat (nat_lit 1486471617), .ofNat (nat_lit 658119965), .ofNat (nat_lit 3106381470), .ofNat (nat_lit 953803233), .ofNat (nat_lit 334231800), .ofNat (nat_lit 3005978776), .ofNat (nat_lit 857870609), .ofNat (nat_lit 3151128937), .ofNat (nat_lit 1890179545), .ofNat (nat_lit 2298973838), .ofNat (nat_lit 2805175444), .ofNat (nat_lit 3056442267), .ofNat (nat_lit 574365214), .ofNat (nat_lit 2450884487), .ofNat (nat_lit 550103529), .ofNat (nat_lit 1233637070), .ofNat (nat_lit 4289353045), .ofNat (nat_lit 2018519080), .ofNat (nat_lit 2057691103), .ofNat (nat_lit 2399374476), .ofNat (nat_lit 4166623649), .ofNat (nat_lit 2148108681), .ofNat (nat_lit 387583245), .ofNat (nat_lit 3664101311), .ofNat (nat_lit 836232934), .ofNat (nat_lit 3330556482), .ofNat (nat_lit 3100665960), .ofNat (nat_lit 3280093505), .ofNat (nat_lit 2955516313), .ofNat (nat_lit 2002398509), .ofNat (nat_lit 287182607), .ofNat (nat_lit 3413881008), .ofNat (nat_lit 4238890068), .ofNat (nat_lit 3597515707), .ofNat (nat_lit 975967766)]
noncomputable def X8 : List Int := [.ofNat (nat_lit 1671808611), .ofNat (nat_lit 2089089148), .ofNat (nat_lit 2006576759), .ofNat (nat_lit 2072901243), .ofNat (nat_lit 4061003762), .ofNat (nat_lit 1807603307), .ofNat (nat_lit 1873927791), .ofNat (nat_lit 3310653893), .ofNat (nat_lit 810573872), .ofNat (nat_lit 16974337), .ofNat (nat_lit 1739181671), .ofNat (nat_lit 729634347), .ofNat (nat_lit 4263110654), .ofNat (nat_lit 3613570519), .ofNat (nat_lit 2883997099), .ofNat (nat_lit 1989864566), .ofNat (nat_lit 3393556426), .ofNat (nat_lit 2191335298), .ofNat (nat_lit 3376449993), .ofNat (nat_lit 2106063485), .ofNat (nat_lit 4195741690), .ofNat (nat_lit 1508618841), .ofNat (nat_lit 1204391495), .ofNat (nat_lit 4027317232), .ofNat (nat_lit 2917941677), .ofNat (nat_lit 3563566036), .ofNat (nat_lit 2734514082), .ofNat (nat_lit 2951366063), .ofNat (nat_lit 2629772188), .ofNat (nat_lit 2767672228), .ofNat (nat_lit 1922491506), .ofNat (nat_lit 3227229120), .ofNat (nat_lit 3082974647), .ofNat (nat_lit 4246528509), .ofNat (nat_lit 2477669779), .ofNat (nat_lit 644500518), .ofNat (nat_lit 911895606), .ofNat (nat_lit 1061256767), .ofNat (nat_lit 4144166391), .ofNat (nat_lit 3427763148), .ofNat (nat_lit 878471220), .ofNat (nat_lit 2784252325), .ofNat (nat_lit 3845444069), .ofNat (nat_lit 4043897329), .ofNat (nat_lit 1905517169), .ofNat (nat_lit 3631459288), .ofNat (nat_lit 827548209), .ofNat (nat_lit 356461077), .ofNat (nat_lit 67897348), .ofNat (nat_lit 3344078279), .ofNat (nat_lit 593839651), .ofNat (nat_lit 3277757891), .ofNat (nat_lit 405286936), .ofNat (nat_lit 2527147926), .ofNat (nat_lit 84871685), .ofNat (nat_lit 2595565466), .ofNat (nat_lit 118033927), .ofNat (nat_lit 305538066), .ofNat (nat_lit 2157648768), .ofNat (nat_lit 3795705826), .ofNat (nat_lit 3945188843), .ofNat (nat_lit 661212711), .ofNat (nat_lit 2999812018), .ofNat (nat_lit 1973414517), .ofNat (nat_lit 152769033), .ofNat (nat_lit 2208177539), .ofNat (nat_lit 745822252), .ofNat (nat_lit 439235610), .ofNat (nat_lit 455947803), .ofNat (nat_lit 1857215598), .ofNat (nat_lit 1525593178), .ofNat (nat_lit 2700827552), .ofNat (nat_lit 1391895634), .ofNat (nat_lit 994932283), .ofNat (nat_lit 3596728278), .ofNat (nat_lit 3016654259), .ofNat (nat_lit 695947817), .ofNat (nat_lit 3812548067), .ofNat (nat_lit 795958831), .ofNat (nat_lit 2224493444), .ofNat (nat_lit 1408607827), .ofNat (nat_lit 3513301457), .ofNat (nat_lit 0), .ofNat (nat_lit 3979133421), .ofNat (nat_lit 543178784), .ofNat (nat_lit 4229948412), .ofNat (nat_lit 2982705585), .ofNat (nat_lit 1542305371), .ofNat (nat_lit 1790891114), .ofNat (nat_lit 3410398667), .ofNat (nat_lit 3201918910), .ofNat (nat_lit 961245753), .ofNat (nat_lit 1256100938), .ofNat (nat_lit 1289001036), .ofNat (nat_lit 1491644504), .ofNat (nat_lit 3477767631), .ofNat (nat_lit 3496721360), .ofNat (nat_lit 4012557807), .ofNat (nat_lit 2867154858), .ofNat (nat_lit 4212583931), .ofNat (nat_lit 1137018435), .ofNat (nat_lit 1305975373), .ofNat (nat_lit 861234739), .ofNat (nat_lit 2241073541), .ofNat (nat_lit 1171229253), .ofNat (nat_lit 4178635257), .ofNat (nat_lit 33948674), .ofNat (nat_lit 2139225727), .ofNat (nat_lit 1357946960), .ofNat (nat_lit 1011120188), .ofNat (nat_lit 2679776671), .ofNat (nat_lit 2833468328), .ofNat (nat_lit 1374921297), .ofNat (nat_lit 2751356323), .ofNat (nat_lit 1086357568), .ofNat (nat_lit 2408187279), .ofNat (nat_lit 2460827538), .ofNat (nat_lit 2646352285), .ofNat (nat_lit 944271416), .ofNat (nat_lit 4110742005), .ofNat (nat_lit 3168756668), .ofNat (nat_lit 3066132406), .ofNat (nat_lit 3665145818), .ofNat (nat_lit 560153121), .ofNat (nat_lit 271589392), .ofNat (nat_lit 4279952895), .ofNat (nat_lit 4077846003), .ofNat (nat_lit 3530407890)]
noncomputable def X9 : List Int := [.ofNat (nat_lit 3444343245), .ofNat (nat_lit 202643468), .ofNat (nat_lit 322250259), .ofNat (nat_lit 3962553324), .ofNat (nat_lit 1608629855), .ofNat (nat_lit 2543990167), .ofNat (nat_lit 1154254916), .ofNat (nat_lit 389623319), .ofNat (nat_lit 3294073796), .ofNat (nat_lit 2817676711), .ofNat (nat_lit 2122513534), .ofNat (nat_lit 1028094525), .ofNat (nat_lit 1689045092), .ofNat (nat_lit 1575467613), .ofNat (nat_lit 422261273), .ofNat (nat_lit 1939203699), .ofNat (nat_lit 1621147744), .ofNat (nat_lit 2174228865), .ofNat (nat_lit 1339137615), .ofNat (nat_lit 3699352540), .ofNat (nat_lit 577127458), .ofNat (nat_lit 712922154), .ofNat (nat_lit 2427141008), .ofNat (nat_lit 2290289544), .ofNat (nat_lit 1187679302), .ofNat (nat_lit 3995715566), .ofNat (nat_lit 3100863416), .ofNat (nat_lit 339486740), .ofNat (nat_lit 3732514782), .ofNat (nat_lit 1591917662), .ofNat (nat_lit 186455563), .ofNat (nat_lit 3681988059), .ofNat (nat_lit 3762019296), .ofNat (nat_lit 844522546), .ofNat (nat_lit 978220090), .ofNat (nat_lit 169743370), .ofNat (nat_lit 1239126601), .ofNat (nat_lit 101321734), .ofNat (nat_lit 611076132), .ofNat (nat_lit 1558493276), .ofNat (nat_lit 3260915650), .ofNat (nat_lit 3547250131), .ofNat (nat_lit 2901361580), .ofNat (nat_lit 1655096418), .ofNat (nat_lit 2443721105), .ofNat (nat_lit 2510565781), .ofNat (nat_lit 3828863972), .ofNat (nat_lit 2039214713), .ofNat (nat_lit 3878868455), .ofNat (nat_lit 3359869896), .ofNat (nat_lit 928607799), .ofNat (nat_lit 1840765549), .ofNat (nat_lit 2374762893), .ofNat (nat_lit 3580146133), .ofNat (nat_lit 1322425422), .ofNat (nat_lit 2850048425), .ofNat (nat_lit 1823791212), .ofNat (nat_lit 1459268694), .ofNat (nat_lit 4094161908), .ofNat (nat_lit 3928346602), .ofNat (nat_lit 1706019429), .ofNat (nat_lit 2056189050), .ofNat (nat_lit 2934523822), .ofNat (nat_lit 135794696), .ofNat (nat_lit 3134549946), .ofNat (nat_lit 2022240376), .ofNat (nat_lit 628050469), .ofNat (nat_lit 779246638), .ofNat (nat_lit 472135708), .ofNat (nat_lit 2800834470), .ofNat (nat_lit 3032970164), .ofNat (nat_lit 3327236038), .ofNat (nat_lit 3894660072), .ofNat (nat_lit 3715932637), .ofNat (nat_lit 1956440180), .ofNat (nat_lit 522272287), .ofNat (nat_lit 1272813131), .ofNat (nat_lit 3185336765), .ofNat (nat_lit 2340818315), .ofNat (nat_lit 2323976074), .ofNat (nat_lit 1888542832), .ofNat (nat_lit 1044544574), .ofNat (nat_lit 3049550261), .ofNat (nat_lit 1722469478), .ofNat (nat_lit 1222152264), .ofNat (nat_lit 50660867), .ofNat (nat_lit 4127324150), .ofNat (nat_lit 236067854), .ofNat (nat_lit 1638122081), .ofNat (nat_lit 895445557), .ofNat (nat_lit 1475980887), .ofNat (nat_lit 3117443513), .ofNat (nat_lit 2257655686), .ofNat (nat_lit 3243809217), .ofNat (nat_lit 489110045), .ofNat (nat_lit 2662934430), .ofNat (nat_lit 3778599393), .ofNat (nat_lit 4162055160), .ofNat (nat_lit 2561878936), .ofNat (nat_lit 288563729), .ofNat (nat_lit 1773916777), .ofNat (nat_lit 3648039385), .ofNat (nat_lit 2391345038), .ofNat (nat_lit 2493985684), .ofNat (nat_lit 2612407707), .ofNat (nat_lit 505560094), .ofNat (nat_lit 2274497927), .ofNat (nat_lit 3911240169), .ofNat (nat_lit 3460925390), .ofNat (nat_lit 1442818645), .ofNat (nat_lit 678973480), .ofNat (nat_lit 3749357023), .ofNat (nat_lit 2358182796), .ofNat (nat_lit 2717407649), .ofNat (nat_lit 2306869641), .ofNat (nat_lit 219617805), .ofNat (nat_lit 3218761151), .ofNat (nat_lit 3862026214), .ofNat (nat_lit 1120306242), .ofNat (nat_lit 1756942440), .ofNat (nat_lit 1103331905), .ofNat (nat_lit 2578459033), .ofNat (nat_lit 762796589), .ofNat (nat_lit 252780047), .ofNat (nat_lit 2966125488), .ofNat (nat_lit 1425844308), .ofNat (nat_lit 3151392187), .ofNat (nat_lit 372911126)]
noncomputable def X10 : List Int := [.ofNat (nat_lit 1667474886), .ofNat (nat_lit 2088535288), .ofNat (nat_lit 2004326894), .ofNat (nat_lit 2071694838), .ofNat (nat_lit 4075949567), .ofNat (nat_lit 1802223062), .ofNat (nat_lit 1869591006), .ofNat (nat_lit 3318043793), .ofNat (nat_lit 808472672), .ofNat (nat_lit 16843522), .ofNat (nat_lit 1734846926), .ofNat (nat_lit 724270422), .ofNat (nat_lit 4278065639), .ofNat (nat_lit 3621216949), .ofNat (nat_lit 2880169549), .ofNat (nat_lit 1987484396), .ofNat (nat_lit 3402253711), .ofNat (nat_lit 2189597983), .ofNat (nat_lit 3385409673), .ofNat (nat_lit 2105378810), .ofNat (nat_lit 4210693615), .ofNat (nat_lit 1499065266), .ofNat (nat_lit 1195886990), .ofNat (nat_lit 4042263547), .ofNat (nat_lit 2913856577), .ofNat (nat_lit 3570689971), .ofNat (nat_lit 2728590687), .ofNat (nat_lit 2947541573), .ofNat (nat_lit 2627518243), .ofNat (nat_lit 2762274643), .ofNat (nat_lit 1920112356), .ofNat (nat_lit 3233831835), .ofNat (nat_lit 3082273397), .ofNat (nat_lit 4261223649), .ofNat (nat_lit 2475929149), .ofNat (nat_lit 640051788), .ofNat (nat_lit 909531756), .ofNat (nat_lit 1061110142), .ofNat (nat_lit 4160160501), .ofNat (nat_lit 3435941763), .ofNat (nat_lit 875846760), .ofNat (nat_lit 2779116625), .ofNat (nat_lit 3857003729), .ofNat (nat_lit 4059105529), .ofNat (nat_lit 1903268834), .ofNat (nat_lit 3638064043), .ofNat (nat_lit 825316194), .ofNat (nat_lit 353713962), .ofNat (nat_lit 67374088), .ofNat (nat_lit 3351728789), .ofNat (nat_lit 589522246), .ofNat (nat_lit 3284360861), .ofNat (nat_lit 404236336), .ofNat (nat_lit 2526454071), .ofNat (nat_lit 84217610), .ofNat (nat_lit 2593830191), .ofNat (nat_lit 117901582), .ofNat (nat_lit 303183396), .ofNat (nat_lit 2155911963), .ofNat (nat_lit 3806477791), .ofNat (nat_lit 3958056653), .ofNat (nat_lit 656894286), .ofNat (nat_lit 2998062463), .ofNat (nat_lit 1970642922), .ofNat (nat_lit 151591698), .ofNat (nat_lit 2206440989), .ofNat (nat_lit 741110872), .ofNat (nat_lit 437923380), .ofNat (nat_lit 454765878), .ofNat (nat_lit 1852748508), .ofNat (nat_lit 1515908788), .ofNat (nat_lit 2694904667), .ofNat (nat_lit 1381168804), .ofNat (nat_lit 993742198), .ofNat (nat_lit 3604373943), .ofNat (nat_lit 3014905469), .ofNat (nat_lit 690584402), .ofNat (nat_lit 3823320797), .ofNat (nat_lit 791638366), .ofNat (nat_lit 2223281939), .ofNat (nat_lit 1398011302), .ofNat (nat_lit 3520161977), .ofNat (nat_lit 0), .ofNat (nat_lit 3991743681), .ofNat (nat_lit 538992704), .ofNat (nat_lit 4244381667), .ofNat (nat_lit 2981218425), .ofNat (nat_lit 1532751286), .ofNat (nat_lit 1785380564), .ofNat (nat_lit 3419096717), .ofNat (nat_lit 3200178535), .ofNat (nat_lit 960056178), .ofNat (nat_lit 1246420628), .ofNat (nat_lit 1280103576), .ofNat (nat_lit 1482221744), .ofNat (nat_lit 3486468741), .ofNat (nat_lit 3503319995), .ofNat (nat_lit 4025428677), .ofNat (nat_lit 2863326543), .ofNat (nat_lit 4227536621), .ofNat (nat_lit 1128514950), .ofNat (nat_lit 1296947098), .ofNat (nat_lit 859002214), .ofNat (nat_lit 2240123921), .ofNat (nat_lit 1162203018), .ofNat (nat_lit 4193849577), .ofNat (nat_lit 33687044), .ofNat (nat_lit 2139062782), .ofNat (nat_lit 1347481760), .ofNat (nat_lit 1010582648), .ofNat (nat_lit 2678045221), .ofNat (nat_lit 2829640523), .ofNat (nat_lit 1364325282), .ofNat (nat_lit 2745433693), .ofNat (nat_lit 1077985408), .ofNat (nat_lit 2408548869), .ofNat (nat_lit 2459086143), .ofNat (nat_lit 2644360225), .ofNat (nat_lit 943212656), .ofNat (nat_lit 4126475505), .ofNat (nat_lit 3166494563), .ofNat (nat_lit 3065430391), .ofNat (nat_lit 3671750063), .ofNat (nat_lit 555836226), .ofNat (nat_lit 269496352), .ofNat (nat_lit 4294908645), .ofNat (nat_lit 4092792573), .ofNat (nat_lit 3537006015)]
noncomputable def X11 : List Int := [.ofNat (nat_lit 3452783745), .ofNat (nat_lit 202118168), .ofNat (nat_lit 320025894), .ofNat (nat_lit 3974901699), .ofNat (nat_lit 1600119230), .ofNat (nat_lit 2543297077), .ofNat (nat_lit 1145359496), .ofNat (nat_lit 387397934), .ofNat (nat_lit 3301201811), .ofNat (nat_lit 2812801621), .ofNat (nat_lit 2122220284), .ofNat (nat_lit 1027426170), .ofNat (nat_lit 1684319432), .ofNat (nat_lit 1566435258), .ofNat (nat_lit 421079858), .ofNat (nat_lit 1936954854), .ofNat (nat_lit 1616945344), .ofNat (nat_lit 2172753945), .ofNat (nat_lit 1330631070), .ofNat (nat_lit 3705438115), .ofNat (nat_lit 572679748), .ofNat (nat_lit 707427924), .ofNat (nat_lit 2425400123), .ofNat (nat_lit 2290647819), .ofNat (nat_lit 1179044492), .ofNat (nat_lit 4008585671), .ofNat (nat_lit 3099120491), .ofNat (nat_lit 336870440), .ofNat (nat_lit 3739122087), .ofNat (nat_lit 1583276732), .ofNat (nat_lit 185277718), .ofNat (nat_lit 3688593069), .ofNat (nat_lit 3772791771), .ofNat (nat_lit 842159716), .ofNat (nat_lit 976899700), .ofNat (nat_lit 168435220), .ofNat (nat_lit 1229577106), .ofNat (nat_lit 101059084), .ofNat (nat_lit 606366792), .ofNat (nat_lit 1549591736), .ofNat (nat_lit 3267517855), .ofNat (nat_lit 3553849021), .ofNat (nat_lit 2897014595), .ofNat (nat_lit 1650632388), .ofNat (nat_lit 2442242105), .ofNat (nat_lit 2509612081), .ofNat (nat_lit 3840161747), .ofNat (nat_lit 2038008818), .ofNat (nat_lit 3890688725), .ofNat (nat_lit 3368567691), .ofNat (nat_lit 926374254), .ofNat (nat_lit 1835907034), .ofNat (nat_lit 2374863873), .ofNat (nat_lit 3587531953), .ofNat (nat_lit 1313788572), .ofNat (nat_lit 2846482505), .ofNat (nat_lit 1819063512), .ofNat (nat_lit 1448540844), .ofNat (nat_lit 4109633523), .ofNat (nat_lit 3941213647), .ofNat (nat_lit 1701162954), .ofNat (nat_lit 2054852340), .ofNat (nat_lit 2930698567), .ofNat (nat_lit 134748176), .ofNat (nat_lit 3132806511), .ofNat (nat_lit 2021165296), .ofNat (nat_lit 623210314), .ofNat (nat_lit 774795868), .ofNat (nat_lit 471606328), .ofNat (nat_lit 2795958615), .ofNat (nat_lit 3031746419), .ofNat (nat_lit 3334885783), .ofNat (nat_lit 3907527627), .ofNat (nat_lit 3722280097), .ofNat (nat_lit 1953799400), .ofNat (nat_lit 522133822), .ofNat (nat_lit 1263263126), .ofNat (nat_lit 3183336545), .ofNat (nat_lit 2341176845), .ofNat (nat_lit 2324333839), .ofNat (nat_lit 1886425312), .ofNat (nat_lit 1044267644), .ofNat (nat_lit 3048588401), .ofNat (nat_lit 1718004428), .ofNat (nat_lit 1212733584), .ofNat (nat_lit 50529542), .ofNat (nat_lit 4143317495), .ofNat (nat_lit 235803164), .ofNat (nat_lit 1633788866), .ofNat (nat_lit 892690282), .ofNat (nat_lit 1465383342), .ofNat (nat_lit 3115962473), .ofNat (nat_lit 2256965911), .ofNat (nat_lit 3250673817), .ofNat (nat_lit 488449850), .ofNat (nat_lit 2661202215), .ofNat (nat_lit 3789633753), .ofNat (nat_lit 4177007595), .ofNat (nat_lit 2560144171), .ofNat (nat_lit 286339874), .ofNat (nat_lit 1768537042), .ofNat (nat_lit 3654906025), .ofNat (nat_lit 2391705863), .ofNat (nat_lit 2492770099), .ofNat (nat_lit 2610673197), .ofNat (nat_lit 505291324), .ofNat (nat_lit 2273808917), .ofNat (nat_lit 3924369609), .ofNat (nat_lit 3469625735), .ofNat (nat_lit 1431699370), .ofNat (nat_lit 673740880), .ofNat (nat_lit 3755965093), .ofNat (nat_lit 2358021891), .ofNat (nat_lit 2711746649), .ofNat (nat_lit 2307489801), .ofNat (nat_lit 218961690), .ofNat (nat_lit 3217021541), .ofNat (nat_lit 3873845719), .ofNat (nat_lit 1111672452), .ofNat (nat_lit 1751693520), .ofNat (nat_lit 1094828930), .ofNat (nat_lit 2576986153), .ofNat (nat_lit 757954394), .ofNat (nat_lit 252645662), .ofNat (nat_lit 2964376443), .ofNat (nat_lit 1414855848), .ofNat (nat_lit 3149649517), .ofNat (nat_lit 370555436)]
noncomputable def X12 : List Int := [.ofNat (nat_lit 1374988112), .ofNat (nat_lit 2118214995), .ofNat (nat_lit 437757123), .ofNat (nat_lit 975658646), .ofNat (nat_lit 1001089995), .ofNat (nat_lit 530400753), .ofNat (nat_lit 2902087851), .ofNat (nat_lit 1273168787), .ofNat (nat_lit 540080725), .ofNat (nat_lit 2910219766), .ofNat (nat_lit 2295101073), .ofNat (nat_lit 4110568485), .ofNat (nat_lit 1340463100), .ofNat (nat_lit 3307916247), .ofNat (nat_lit 641025152), .ofNat (nat_lit 3043140495), .ofNat (nat_lit 3736164937), .ofNat (nat_lit 632953703), .ofNat (nat_lit 1172967064), .ofNat (nat_lit 1576976609), .ofNat (nat_lit 3274667266), .ofNat (nat_lit 2169303058), .ofNat (nat_lit 2370213795), .ofNat (nat_lit 1809054150), .ofNat (nat_lit 59727847), .ofNat (nat_lit 361929877), .ofNat (nat_lit 3211623147), .ofNat (nat_lit 2505202138), .ofNat (nat_lit 3569255213), .ofNat (nat_lit 1484005843), .ofNat (nat_lit 1239443753), .ofNat (nat_lit 2395588676), .ofNat (nat_lit 1975683434), .ofNat (nat_lit 4102977912), .ofNat (nat_lit 2572697195), .ofNat (nat_lit 666464733), .ofNat (nat_lit 3202437046), .ofNat (nat_lit 4035489047), .ofNat (nat_lit 3374361702), .ofNat (nat_lit 2110667444), .ofNat (nat_lit 1675577880), .ofNat (nat_lit 3843699074), .ofNat (nat_lit 2538681184), .ofNat (nat_lit 1649639237), .ofNat (nat_lit 2976151520), .ofNat (nat_lit 3144396420), .ofNat (nat_lit 4269907996), .ofNat (nat_lit 4178062228), .ofNat (nat_lit 1883793496), .ofNat (nat_lit 2403728665), .ofNat (nat_lit 2497604743), .ofNat (nat_lit 1383856311), .ofNat (nat_lit 2876494627), .ofNat (nat_lit 1917518562), .ofNat (nat_lit 3810496343), .ofNat (nat_lit 1716890410), .ofNat (nat_lit 3001755655), .ofNat (nat_lit 800440835), .ofNat (nat_lit 2261089178), .ofNat (nat_lit 3543599269), .ofNat (nat_lit 807962610), .ofNat (nat_lit 599762354), .ofNat (nat_lit 33778362), .ofNat (nat_lit 3977675356), .ofNat (nat_lit 2328828971), .ofNat (nat_lit 2809771154), .ofNat (nat_lit 4077384432), .ofNat (nat_lit 1315562145), .ofNat (nat_lit 1708848333), .ofNat (nat_lit 101039829), .ofNat (nat_lit 3509871135), .ofNat (nat_lit 3299278474), .ofNat (nat_lit 875451293), .ofNat (nat_lit 2733856160), .ofNat (nat_lit 92987698), .ofNat (nat_lit 2767645557), .ofNat (nat_lit 193195065), .ofNat (nat_lit 1080094634), .ofNat (nat_lit 1584504582), .ofNat (nat_lit 3178106961), .ofNat (nat_lit 1042385657), .ofNat (nat_lit 2531067453), .ofNat (nat_lit 3711829422), .ofNat (nat_lit 1306967366), .ofNat (nat_lit 2438237621), .ofNat (nat_lit 1908694277), .ofNat (nat_lit 67556463), .ofNat (nat_lit 1615861247), .ofNat (nat_lit 429456164), .ofNat (nat_lit 3602770327), .ofNat (nat_lit 2302690252), .ofNat (nat_lit 1742315127), .ofNat (nat_lit 2968011453), .ofNat (nat_lit 126454664), .ofNat (nat_lit 3877198648), .ofNat (nat_lit 2043211483), .ofNat (nat_lit 2709260871), .ofNat (nat_lit 2084704233), .ofNat (nat_lit 4169408201), .ofNat (nat_lit 0), .ofNat (nat_lit 159417987), .ofNat (nat_lit 841739592), .ofNat (nat_lit 504459436), .ofNat (nat_lit 1817866830), .ofNat (nat_lit 4245618683), .ofNat (nat_lit 260388950), .ofNat (nat_lit 1034867998), .ofNat (nat_lit 908933415), .ofNat (nat_lit 168810852), .ofNat (nat_lit 1750902305), .ofNat (nat_lit 2606453969), .ofNat (nat_lit 607530554), .ofNat (nat_lit 202008497), .ofNat (nat_lit 2472011535), .ofNat (nat_lit 3035535058), .ofNat (nat_lit 463180190), .ofNat (nat_lit 2160117071), .ofNat (nat_lit 1641816226), .ofNat (nat_lit 1517767529), .ofNat (nat_lit 470948374), .ofNat (nat_lit 3801332234), .ofNat (nat_lit 3231722213), .ofNat (nat_lit 1008918595), .ofNat (nat_lit 303765277), .ofNat (nat_lit 235474187), .ofNat (nat_lit 4069246893), .ofNat (nat_lit 766945465), .ofNat (nat_lit 337553864)]
noncomputable def X13 : List Int := [.ofNat (nat_lit 1475418501), .ofNat (nat_lit 2943682380), .ofNat (nat_lit 4003061179), .ofNat (nat_lit 2743034109), .ofNat (nat_lit 4144047775), .ofNat (nat_lit 1551037884), .ofNat (nat_lit 1147550661), .ofNat (nat_lit 1543208500), .ofNat (nat_lit 2336434550), .ofNat (nat_lit 3408119516), .ofNat (nat_lit 3069049960), .ofNat (nat_lit 3102011747), .ofNat (nat_lit 3610369226), .ofNat (nat_lit 1113818384), .ofNat (nat_lit 328671808), .ofNat (nat_lit 2227573024), .ofNat (nat_lit 2236228733), .ofNat (nat_lit 3535486456), .ofNat (nat_lit 2935566865), .ofNat (nat_lit 3341394285), .ofNat (nat_lit 496906059), .ofNat (nat_lit 3702665459), .ofNat (nat_lit 226906860), .ofNat (nat_lit 2009195472), .ofNat (nat_lit 733156972), .ofNat (nat_lit 2842737049), .ofNat (nat_lit 294930682), .ofNat (nat_lit 1206477858), .ofNat (nat_lit 2835123396), .ofNat (nat_lit 2700099354), .ofNat (nat_lit 1451044056), .ofNat (nat_lit 573804783), .ofNat (nat_lit 2269728455), .ofNat (nat_lit 3644379585), .ofNat (nat_lit 2362090238), .ofNat (nat_lit 2564033334), .ofNat (nat_lit 2801107407), .ofNat (nat_lit 2776292904), .ofNat (nat_lit 3669462566), .ofNat (nat_lit 1068351396), .ofNat (nat_lit 742039012), .ofNat (nat_lit 1350078989), .ofNat (nat_lit 1784663195), .ofNat (nat_lit 1417561698), .ofNat (nat_lit 4136440770), .ofNat (nat_lit 2430122216), .ofNat (nat_lit 775550814), .ofNat (nat_lit 2193862645), .ofNat (nat_lit 2673705150), .ofNat (nat_lit 1775276924), .ofNat (nat_lit 1876241833), .ofNat (nat_lit 3475313331), .ofNat (nat_lit 3366754619), .ofNat (nat_lit 270040487), .ofNat (nat_lit 3902563182), .ofNat (nat_lit 3678124923), .ofNat (nat_lit 3441850377), .ofNat (nat_lit 1851332852), .ofNat (nat_lit 3969562369), .ofNat (nat_lit 2203032232), .ofNat (nat_lit 3868552805), .ofNat (nat_lit 2868897406), .ofNat (nat_lit 566021896), .ofNat (nat_lit 4011190502), .ofNat (nat_lit 3135740889), .ofNat (nat_lit 1248802510), .ofNat (nat_lit 3936291284), .ofNat (nat_lit 699432150), .ofNat (nat_lit 832877231), .ofNat (nat_lit 708780849), .ofNat (nat_lit 3332740144), .ofNat (nat_lit 899835584), .ofNat (nat_lit 1951317047), .ofNat (nat_lit 4236429990), .ofNat (nat_lit 3767586992), .ofNat (nat_lit 866637845), .ofNat (nat_lit 4043610186), .ofNat (nat_lit 1106041591), .ofNat (nat_lit 2144161806), .ofNat (nat_lit 395441711), .ofNat (nat_lit 1984812685), .ofNat (nat_lit 1139781709), .ofNat (nat_lit 3433712980), .ofNat (nat_lit 3835036895), .ofNat (nat_lit 2664543715), .ofNat (nat_lit 1282050075), .ofNat (nat_lit 3240894392), .ofNat (nat_lit 1181045119), .ofNat (nat_lit 2640243204), .ofNat (nat_lit 25965917), .ofNat (nat_lit 4203181171), .ofNat (nat_lit 4211818798), .ofNat (nat_lit 3009879386), .ofNat (nat_lit 2463879762), .ofNat (nat_lit 3910161971), .ofNat (nat_lit 1842759443), .ofNat (nat_lit 2597806476), .ofNat (nat_lit 933301370), .ofNat (nat_lit 1509430414), .ofNat (nat_lit 3943906441), .ofNat (nat_lit 3467192302), .ofNat (nat_lit 3076639029), .ofNat (nat_lit 3776767469), .ofNat (nat_lit 2051518780), .ofNat (nat_lit 2631065433), .ofNat (nat_lit 1441952575), .ofNat (nat_lit 404016761), .ofNat (nat_lit 1942435775), .ofNat (nat_lit 1408749034), .ofNat (nat_lit 1610459739), .ofNat (nat_lit 3745345300), .ofNat (nat_lit 2017778566), .ofNat (nat_lit 3400528769), .ofNat (nat_lit 3110650942), .ofNat (nat_lit 941896748), .ofNat (nat_lit 3265478751), .ofNat (nat_lit 371049330), .ofNat (nat_lit 3168937228), .ofNat (nat_lit 675039627), .ofNat (nat_lit 4279080257), .ofNat (nat_lit 967311729), .ofNat (nat_lit 135050206), .ofNat (nat_lit 3635733660), .ofNat (nat_lit 1683407248), .ofNat (nat_lit 2076935265), .ofNat (nat_lit 3576870512), .ofNat (nat_lit 1215061108), .ofNat (nat_lit 3501741890)]
noncomputable def X14 : List Int := [.ofNat (nat_lit 1347548327), .ofNat (nat_lit 1400783205), .ofNat (nat_lit 3273267108), .ofNat (nat_lit 2520393566), .ofNat (nat_lit 3409685355), .ofNat (nat_lit 4045380933), .ofNat (nat_lit 2880240216), .ofNat (nat_lit 2471224067), .ofNat (nat_lit 1428173050), .ofNat (nat_lit 4138563181), .ofNat (nat_lit 2441661558), .ofNat (nat_lit 636813900), .ofNat (nat_lit 4233094615), .ofNat (nat_lit 3620022987), .ofNat (nat_lit 2149987652), .ofNat (nat_lit 2411029155), .ofNat (nat_lit 1239331162), .ofNat (nat_lit 1730525723), .ofNat (nat_lit 2554718734), .ofNat (nat_lit 3781033664), .ofNat (nat_lit 46346101), .ofNat (nat_lit 310463728), .ofNat (nat_lit 2743944855), .ofNat (nat_lit 3328955385), .ofNat (nat_lit 3875770207), .ofNat (nat_lit 2501218972), .ofNat (nat_lit 3955191162), .ofNat (nat_lit 3667219033), .ofNat (nat_lit 768917123), .ofNat (nat_lit 3545789473), .ofNat (nat_lit 692707433), .ofNat (nat_lit 1150208456), .ofNat (nat_lit 1786102409), .ofNat (nat_lit 2029293177), .ofNat (nat_lit 1805211710), .ofNat (nat_lit 3710368113), .ofNat (nat_lit 3065962831), .ofNat (nat_lit 401639597), .ofNat (nat_lit 1724457132), .ofNat (nat_lit 3028143674), .ofNat (nat_lit 409198410), .ofNat (nat_lit 2196052529), .ofNat (nat_lit 1620529459), .ofNat (nat_lit 1164071807), .ofNat (nat_lit 3769721975), .ofNat (nat_lit 2226875310), .ofNat (nat_lit 486441376), .ofNat (nat_lit 2499348523), .ofNat (nat_lit 1483753576), .ofNat (nat_lit 428819965), .ofNat (nat_lit 2274680428), .ofNat (nat_lit 3075636216), .ofNat (nat_lit 598438867), .ofNat (nat_lit 3799141122), .ofNat (nat_lit 1474502543), .ofNat (nat_lit 711349675), .ofNat (nat_lit 129166120), .ofNat (nat_lit 53458370), .ofNat (nat_lit 2592523643), .ofNat (nat_lit 2782082824), .ofNat (nat_lit 4063242375), .ofNat (nat_lit 2988687269), .ofNat (nat_lit 3120694122), .ofNat (nat_lit 1559041666), .ofNat (nat_lit 730517276), .ofNat (nat_lit 2460449204), .ofNat (nat_lit 4042459122), .ofNat (nat_lit 2706270690), .ofNat (nat_lit 3446004468), .ofNat (nat_lit 3573941694), .ofNat (nat_lit 533804130), .ofNat (nat_lit 2328143614), .ofNat (nat_lit 2637442643), .ofNat (nat_lit 2695033685), .ofNat (nat_lit 839224033), .ofNat (nat_lit 1973745387), .ofNat (nat_lit 957055980), .ofNat (nat_lit 2856345839), .ofNat (nat_lit 106852767), .ofNat (nat_lit 1371368976), .ofNat (nat_lit 4181598602), .ofNat (nat_lit 1033297158), .ofNat (nat_lit 2933734917), .ofNat (nat_lit 1179510461), .ofNat (nat_lit 3046200461), .ofNat (nat_lit 91341917), .ofNat (nat_lit 1862534868), .ofNat (nat_lit 4284502037), .ofNat (nat_lit 605657339), .ofNat (nat_lit 2547432937), .ofNat (nat_lit 3431546947), .ofNat (nat_lit 2003294622), .ofNat (nat_lit 3182487618), .ofNat (nat_lit 2282195339), .ofNat (nat_lit 954669403), .ofNat (nat_lit 3682191598), .ofNat (nat_lit 1201765386), .ofNat (nat_lit 3917234703), .ofNat (nat_lit 3388507166), .ofNat (nat_lit 0), .ofNat (nat_lit 2198438022), .ofNat (nat_lit 1211247597), .ofNat (nat_lit 2887651696), .ofNat (nat_lit 1315723890), .ofNat (nat_lit 4227665663), .ofNat (nat_lit 1443857720), .ofNat (nat_lit 507358933), .ofNat (nat_lit 657861945), .ofNat (nat_lit 1678381017), .ofNat (nat_lit 560487590), .ofNat (nat_lit 3516619604), .ofNat (nat_lit 975451694), .ofNat (nat_lit 2970356327), .ofNat (nat_lit 261314535), .ofNat (nat_lit 3535072918), .ofNat (nat_lit 2652609425), .ofNat (nat_lit 1333838021), .ofNat (nat_lit 2724322336), .ofNat (nat_lit 1767536459), .ofNat (nat_lit 370938394), .ofNat (nat_lit 182621114), .ofNat (nat_lit 3854606378), .ofNat (nat_lit 1128014560), .ofNat (nat_lit 487725847), .ofNat (nat_lit 185469197), .ofNat (nat_lit 2918353863), .ofNat (nat_lit 3106780840), .ofNat (nat_lit 3356761769)]
noncomputable def X15 : List Int := [.ofNat (nat_lit 2237133081), .ofNat (nat_lit 1286567175), .ofNat (nat_lit 3152976349), .ofNat (nat_lit 4255350624), .ofNat (nat_lit 2683765030), .ofNat (nat_lit 3160175349), .ofNat (nat_lit 3309594171), .ofNat (nat_lit 878443390), .ofNat (nat_lit 1988838185), .ofNat (nat_lit 3704300486), .ofNat (nat_lit 1756818940), .ofNat (nat_lit 1673061617), .ofNat (nat_lit 3403100636), .ofNat (nat_lit 272786309), .ofNat (nat_lit 1075025698), .ofNat (nat_lit 545572369), .ofNat (nat_lit 2105887268), .ofNat (nat_lit 4174560061), .ofNat (nat_lit 296679730), .ofNat (nat_lit 1841768865), .ofNat (nat_lit 1260232239), .ofNat (nat_lit 4091327024), .ofNat (nat_lit 3960309330), .ofNat (nat_lit 3497509347), .ofNat (nat_lit 1814803222), .ofNat (nat_lit 2578018489), .ofNat (nat_lit 4195456072), .ofNat (nat_lit 575138148), .ofNat (nat_lit 3299409036), .ofNat (nat_lit 446754879), .ofNat (nat_lit 3629546796), .ofNat (nat_lit 4011996048), .ofNat (nat_lit 3347532110), .ofNat (nat_lit 3252238545), .ofNat (nat_lit 4270639778), .ofNat (nat_lit 915985419), .ofNat (nat_lit 3483825537), .ofNat (nat_lit 681933534), .ofNat (nat_lit 651868046), .ofNat (nat_lit 2755636671), .ofNat (nat_lit 3828103837), .ofNat (nat_lit 223377554), .ofNat (nat_lit 2607439820), .ofNat (nat_lit 1649704518), .ofNat (nat_lit 3270937875), .ofNat (nat_lit 3901806776), .ofNat (nat_lit 1580087799), .ofNat (nat_lit 4118987695), .ofNat (nat_lit 3198115200), .ofNat (nat_lit 2087309459), .ofNat (nat_lit 2842678573), .ofNat (nat_lit 3016697106), .ofNat (nat_lit 1003007129), .ofNat (nat_lit 2802849917), .ofNat (nat_lit 1860738147), .ofNat (nat_lit 2077965243), .ofNat (nat_lit 164439672), .ofNat (nat_lit 4100872472), .ofNat (nat_lit 32283319), .ofNat (nat_lit 2827177882), .ofNat (nat_lit 1709610350), .ofNat (nat_lit 2125135846), .ofNat (nat_lit 136428751), .ofNat (nat_lit 3874428392), .ofNat (nat_lit 3652904859), .ofNat (nat_lit 3460984630), .ofNat (nat_lit 3572145929), .ofNat (nat_lit 3593056380), .ofNat (nat_lit 2939266226), .ofNat (nat_lit 824852259), .ofNat (nat_lit 818324884), .ofNat (nat_lit 3224740454), .ofNat (nat_lit 930369212), .ofNat (nat_lit 2801566410), .ofNat (nat_lit 2967507152), .ofNat (nat_lit 355706840), .ofNat (nat_lit 1257309336), .ofNat (nat_lit 4148292826), .ofNat (nat_lit 243256656), .ofNat (nat_lit 790073846), .ofNat (nat_lit 2373340630), .ofNat (nat_lit 1296297904), .ofNat (nat_lit 1422699085), .ofNat (nat_lit 3756299780), .ofNat (nat_lit 3818836405), .ofNat (nat_lit 457992840), .ofNat (nat_lit 3099667487), .ofNat (nat_lit 2135319889), .ofNat (nat_lit 77422314), .ofNat (nat_lit 1560382517), .ofNat (nat_lit 1945798516), .ofNat (nat_lit 788204353), .ofNat (nat_lit 1521706781), .ofNat (nat_lit 1385356242), .ofNat (nat_lit 870912086), .ofNat (nat_lit 325965383), .ofNat (nat_lit 2358957921), .ofNat (nat_lit 2050466060), .ofNat (nat_lit 2388260884), .ofNat (nat_lit 2313884476), .ofNat (nat_lit 4006521127), .ofNat (nat_lit 901210569), .ofNat (nat_lit 3990953189), .ofNat (nat_lit 1014646705), .ofNat (nat_lit 1503449823), .ofNat (nat_lit 1062597235), .ofNat (nat_lit 2031621326), .ofNat (nat_lit 3212035895), .ofNat (nat_lit 3931371469), .ofNat (nat_lit 1533017514), .ofNat (nat_lit 350174575), .ofNat (nat_lit 2256028891), .ofNat (nat_lit 2177544179), .ofNat (nat_lit 1052338372), .ofNat (nat_lit 741876788), .ofNat (nat_lit 1606591296), .ofNat (nat_lit 1914052035), .ofNat (nat_lit 213705253), .ofNat (nat_lit 2334669897), .ofNat (nat_lit 1107234197), .ofNat (nat_lit 1899603969), .ofNat (nat_lit 3725069491), .ofNat (nat_lit 2631447780), .ofNat (nat_lit 2422494913), .ofNat (nat_lit 1635502980), .ofNat (nat_lit 1893020342), .ofNat (nat_lit 1950903388), .ofNat (nat_lit 1120974935)]
noncomputable def X16 : List Int := [.ofNat (nat_lit 2807058932), .ofNat (nat_lit 1699970625), .ofNat (nat_lit 2764249623), .ofNat (nat_lit 1586903591), .ofNat (nat_lit 1808481195), .ofNat (nat_lit 1173430173), .ofNat (nat_lit 1487645946), .ofNat (nat_lit 59984867), .ofNat (nat_lit 4199882800), .ofNat (nat_lit 1844882806), .ofNat (nat_lit 1989249228), .ofNat (nat_lit 1277555970), .ofNat (nat_lit 3623636965), .ofNat (nat_lit 3419915562), .ofNat (nat_lit 1149249077), .ofNat (nat_lit 2744104290), .ofNat (nat_lit 1514790577), .ofNat (nat_lit 459744698), .ofNat (nat_lit 244860394), .ofNat (nat_lit 3235995134), .ofNat (nat_lit 1963115311), .ofNat (nat_lit 4027744588), .ofNat (nat_lit 2544078150), .ofNat (nat_lit 4190530515), .ofNat (nat_lit 1608975247), .ofNat (nat_lit 2627016082), .ofNat (nat_lit 2062270317), .ofNat (nat_lit 1507497298), .ofNat (nat_lit 2200818878), .ofNat (nat_lit 567498868), .ofNat (nat_lit 1764313568), .ofNat (nat_lit 3359936201), .ofNat (nat_lit 2305455554), .ofNat (nat_lit 2037970062), .ofNat (nat_lit 1047239000), .ofNat (nat_lit 1910319033), .ofNat (nat_lit 1337376481), .ofNat (nat_lit 2904027272), .ofNat (nat_lit 2892417312), .ofNat (nat_lit 984907214), .ofNat (nat_lit 1243112415), .ofNat (nat_lit 830661914), .ofNat (nat_lit 861968209), .ofNat (nat_lit 2135253587), .ofNat (nat_lit 2011214180), .ofNat (nat_lit 2927934315), .ofNat (nat_lit 2686254721), .ofNat (nat_lit 731183368), .ofNat (nat_lit 1750626376), .ofNat (nat_lit 4246310725), .ofNat (nat_lit 1820824798), .ofNat (nat_lit 4172763771), .ofNat (nat_lit 3542330227), .ofNat (nat_lit 48394827), .ofNat (nat_lit 2404901663), .ofNat (nat_lit 2871682645), .ofNat (nat_lit 671593195), .ofNat (nat_lit 3254988725), .ofNat (nat_lit 2073724613), .ofNat (nat_lit 145085239), .ofNat (nat_lit 2280796200), .ofNat (nat_lit 2779915199), .ofNat (nat_lit 1790575107), .ofNat (nat_lit 2187128086), .ofNat (nat_lit 472615631), .ofNat (nat_lit 3029510009), .ofNat (nat_lit 4075877127), .ofNat (nat_lit 3802222185), .ofNat (nat_lit 4107101658), .ofNat (nat_lit 3201631749), .ofNat (nat_lit 1646252340), .ofNat (nat_lit 4270507174), .ofNat (nat_lit 1402811438), .ofNat (nat_lit 1436590835), .ofNat (nat_lit 3778151818), .ofNat (nat_lit 3950355702), .ofNat (nat_lit 3963161475), .ofNat (nat_lit 4020912224), .ofNat (nat_lit 2667994737), .ofNat (nat_lit 273792366), .ofNat (nat_lit 2331590177), .ofNat (nat_lit 104699613), .ofNat (nat_lit 95345982), .ofNat (nat_lit 3175501286), .ofNat (nat_lit 2377486676), .ofNat (nat_lit 1560637892), .ofNat (nat_lit 3564045318), .ofNat (nat_lit 369057872), .ofNat (nat_lit 4213447064), .ofNat (nat_lit 3919042237), .ofNat (nat_lit 1137477952), .ofNat (nat_lit 2658625497), .ofNat (nat_lit 1119727848), .ofNat (nat_lit 2340947849), .ofNat (nat_lit 1530455833), .ofNat (nat_lit 4007360968), .ofNat (nat_lit 172466556), .ofNat (nat_lit 266959938), .ofNat (nat_lit 516552836), .ofNat (nat_lit 0), .ofNat (nat_lit 2256734592), .ofNat (nat_lit 3980931627), .ofNat (nat_lit 1890328081), .ofNat (nat_lit 1917742170), .ofNat (nat_lit 4294704398), .ofNat (nat_lit 945164165), .ofNat (nat_lit 3575528878), .ofNat (nat_lit 958871085), .ofNat (nat_lit 3647212047), .ofNat (nat_lit 2787207260), .ofNat (nat_lit 1423022939), .ofNat (nat_lit 775562294), .ofNat (nat_lit 1739656202), .ofNat (nat_lit 3876557655), .ofNat (nat_lit 2530391278), .ofNat (nat_lit 2443058075), .ofNat (nat_lit 3310321856), .ofNat (nat_lit 547512796), .ofNat (nat_lit 1265195639), .ofNat (nat_lit 437656594), .ofNat (nat_lit 3121275539), .ofNat (nat_lit 719700128), .ofNat (nat_lit 3762502690), .ofNat (nat_lit 387781147), .ofNat (nat_lit 218828297), .ofNat (nat_lit 3350065803), .ofNat (nat_lit 2830708150), .ofNat (nat_lit 2848461854)]
noncomputable def X17 : List Int := [.ofNat (nat_lit 428169201), .ofNat (nat_lit 122466165), .ofNat (nat_lit 3720081049), .ofNat (nat_lit 1627235199), .ofNat (nat_lit 648017665), .ofNat (nat_lit 4122762354), .ofNat (nat_lit 1002783846), .ofNat (nat_lit 2117360635), .ofNat (nat_lit 695634755), .ofNat (nat_lit 3336358691), .ofNat (nat_lit 4234721005), .ofNat (nat_lit 4049844452), .ofNat (nat_lit 3704280881), .ofNat (nat_lit 2232435299), .ofNat (nat_lit 574624663), .ofNat (nat_lit 287343814), .ofNat (nat_lit 612205898), .ofNat (nat_lit 1039717051), .ofNat (nat_lit 840019705), .ofNat (nat_lit 2708326185), .ofNat (nat_lit 793451934), .ofNat (nat_lit 821288114), .ofNat (nat_lit 1391201670), .ofNat (nat_lit 3822090177), .ofNat (nat_lit 376187827), .ofNat (nat_lit 3113855344), .ofNat (nat_lit 1224348052), .ofNat (nat_lit 1679968233), .ofNat (nat_lit 2361698556), .ofNat (nat_lit 1058709744), .ofNat (nat_lit 752375421), .ofNat (nat_lit 2431590963), .ofNat (nat_lit 1321699145), .ofNat (nat_lit 3519142200), .ofNat (nat_lit 2734591178), .ofNat (nat_lit 188127444), .ofNat (nat_lit 2177869557), .ofNat (nat_lit 3727205754), .ofNat (nat_lit 2384911031), .ofNat (nat_lit 3215212461), .ofNat (nat_lit 2648976442), .ofNat (nat_lit 2450346104), .ofNat (nat_lit 3432737375), .ofNat (nat_lit 1180849278), .ofNat (nat_lit 331544205), .ofNat (nat_lit 3102249176), .ofNat (nat_lit 4150144569), .ofNat (nat_lit 2952102595), .ofNat (nat_lit 2159976285), .ofNat (nat_lit 2474404304), .ofNat (nat_lit 766078933), .ofNat (nat_lit 313773861), .ofNat (nat_lit 2570832044), .ofNat (nat_lit 2108100632), .ofNat (nat_lit 1668212892), .ofNat (nat_lit 3145456443), .ofNat (nat_lit 2013908262), .ofNat (nat_lit 418672217), .ofNat (nat_lit 3070356634), .ofNat (nat_lit 2594734927), .ofNat (nat_lit 1852171925), .ofNat (nat_lit 3867060991), .ofNat (nat_lit 3473416636), .ofNat (nat_lit 3907448597), .ofNat (nat_lit 2614737639), .ofNat (nat_lit 919489135), .ofNat (nat_lit 164948639), .ofNat (nat_lit 2094410160), .ofNat (nat_lit 2997825956), .ofNat (nat_lit 590424639), .ofNat (nat_lit 2486224549), .ofNat (nat_lit 1723872674), .ofNat (nat_lit 3157750862), .ofNat (nat_lit 3399941250), .ofNat (nat_lit 3501252752), .ofNat (nat_lit 3625268135), .ofNat (nat_lit 2555048196), .ofNat (nat_lit 3673637356), .ofNat (nat_lit 1343127501), .ofNat (nat_lit 4130281361), .ofNat (nat_lit 3599595085), .ofNat (nat_lit 2957853679), .ofNat (nat_lit 1297403050), .ofNat (nat_lit 81781910), .ofNat (nat_lit 3051593425), .ofNat (nat_lit 2283490410), .ofNat (nat_lit 532201772), .ofNat (nat_lit 1367295589), .ofNat (nat_lit 3926170974), .ofNat (nat_lit 895287692), .ofNat (nat_lit 1953757831), .ofNat (nat_lit 1093597963), .ofNat (nat_lit 492483431), .ofNat (nat_lit 3528626907), .ofNat (nat_lit 1446242576), .ofNat (nat_lit 1192455638), .ofNat (nat_lit 1636604631), .ofNat (nat_lit 209336225), .ofNat (nat_lit 344873464), .ofNat (nat_lit 1015671571), .ofNat (nat_lit 669961897), .ofNat (nat_lit 3375740769), .ofNat (nat_lit 3857572124), .ofNat (nat_lit 2973530695), .ofNat (nat_lit 3747192018), .ofNat (nat_lit 1933530610), .ofNat (nat_lit 3464042516), .ofNat (nat_lit 935293895), .ofNat (nat_lit 3454686199), .ofNat (nat_lit 2858115069), .ofNat (nat_lit 1863638845), .ofNat (nat_lit 3683022916), .ofNat (nat_lit 4085369519), .ofNat (nat_lit 3292445032), .ofNat (nat_lit 875313188), .ofNat (nat_lit 1080017571), .ofNat (nat_lit 3279033885), .ofNat (nat_lit 621591778), .ofNat (nat_lit 1233856572), .ofNat (nat_lit 2504130317), .ofNat (nat_lit 24197544), .ofNat (nat_lit 3017672716), .ofNat (nat_lit 3835484340), .ofNat (nat_lit 3247465558), .ofNat (nat_lit 2220981195), .ofNat (nat_lit 3060847922), .ofNat (nat_lit 1551124588), .ofNat (nat_lit 1463996600)]
noncomputable def X18 : List Int := [.ofNat (nat_lit 4104605777), .ofNat (nat_lit 1097159550), .ofNat (nat_lit 396673818), .ofNat (nat_lit 660510266), .ofNat (nat_lit 2875968315), .ofNat (nat_lit 2638606623), .ofNat (nat_lit 4200115116), .ofNat (nat_lit 3808662347), .ofNat (nat_lit 821712160), .ofNat (nat_lit 1986918061), .ofNat (nat_lit 3430322568), .ofNat (nat_lit 38544885), .ofNat (nat_lit 3856137295), .ofNat (nat_lit 718002117), .ofNat (nat_lit 893681702), .ofNat (nat_lit 1654886325), .ofNat (nat_lit 2975484382), .ofNat (nat_lit 3122358053), .ofNat (nat_lit 3926825029), .ofNat (nat_lit 4274053469), .ofNat (nat_lit 796197571), .ofNat (nat_lit 1290801793), .ofNat (nat_lit 1184342925), .ofNat (nat_lit 3556361835), .ofNat (nat_lit 2405426947), .ofNat (nat_lit 2459735317), .ofNat (nat_lit 1836772287), .ofNat (nat_lit 1381620373), .ofNat (nat_lit 3196267988), .ofNat (nat_lit 1948373848), .ofNat (nat_lit 3764988233), .ofNat (nat_lit 3385345166), .ofNat (nat_lit 3263785589), .ofNat (nat_lit 2390325492), .ofNat (nat_lit 1480485785), .ofNat (nat_lit 3111247143), .ofNat (nat_lit 3780097726), .ofNat (nat_lit 2293045232), .ofNat (nat_lit 548169417), .ofNat (nat_lit 3459953789), .ofNat (nat_lit 3746175075), .ofNat (nat_lit 439452389), .ofNat (nat_lit 1362321559), .ofNat (nat_lit 1400849762), .ofNat (nat_lit 1685577905), .ofNat (nat_lit 1806599355), .ofNat (nat_lit 2174754046), .ofNat (nat_lit 137073913), .ofNat (nat_lit 1214797936), .ofNat (nat_lit 1174215055), .ofNat (nat_lit 3731654548), .ofNat (nat_lit 2079897426), .ofNat (nat_lit 1943217067), .ofNat (nat_lit 1258480242), .ofNat (nat_lit 529487843), .ofNat (nat_lit 1437280870), .ofNat (nat_lit 3945269170), .ofNat (nat_lit 3049390895), .ofNat (nat_lit 3313212038), .ofNat (nat_lit 923313619), .ofNat (nat_lit 679998000), .ofNat (nat_lit 3215307299), .ofNat (nat_lit 57326082), .ofNat (nat_lit 377642221), .ofNat (nat_lit 3474729866), .ofNat (nat_lit 2041877159), .ofNat (nat_lit 133361907), .ofNat (nat_lit 1776460110), .ofNat (nat_lit 3673476453), .ofNat (nat_lit 96392454), .ofNat (nat_lit 878845905), .ofNat (nat_lit 2801699524), .ofNat (nat_lit 777231668), .ofNat (nat_lit 4082475170), .ofNat (nat_lit 2330014213), .ofNat (nat_lit 4142626212), .ofNat (nat_lit 2213296395), .ofNat (nat_lit 1626319424), .ofNat (nat_lit 1906247262), .ofNat (nat_lit 1846563261), .ofNat (nat_lit 562755902), .ofNat (nat_lit 3708173718), .ofNat (nat_lit 1040559837), .ofNat (nat_lit 3871163981), .ofNat (nat_lit 1418573201), .ofNat (nat_lit 3294430577), .ofNat (nat_lit 114585348), .ofNat (nat_lit 1343618912), .ofNat (nat_lit 2566595609), .ofNat (nat_lit 3186202582), .ofNat (nat_lit 1078185097), .ofNat (nat_lit 3651041127), .ofNat (nat_lit 3896688048), .ofNat (nat_lit 2307622919), .ofNat (nat_lit 425408743), .ofNat (nat_lit 3371096953), .ofNat (nat_lit 2081048481), .ofNat (nat_lit 1108339068), .ofNat (nat_lit 2216610296), .ofNat (nat_lit 0), .ofNat (nat_lit 2156299017), .ofNat (nat_lit 736970802), .ofNat (nat_lit 292596766), .ofNat (nat_lit 1517440620), .ofNat (nat_lit 251657213), .ofNat (nat_lit 2235061775), .ofNat (nat_lit 2933202493), .ofNat (nat_lit 758720310), .ofNat (nat_lit 265905162), .ofNat (nat_lit 1554391400), .ofNat (nat_lit 1532285339), .ofNat (nat_lit 908999204), .ofNat (nat_lit 174567692), .ofNat (nat_lit 1474760595), .ofNat (nat_lit 4002861748), .ofNat (nat_lit 2610011675), .ofNat (nat_lit 3234156416), .ofNat (nat_lit 3693126241), .ofNat (nat_lit 2001430874), .ofNat (nat_lit 303699484), .ofNat (nat_lit 2478443234), .ofNat (nat_lit 2687165888), .ofNat (nat_lit 585122620), .ofNat (nat_lit 454499602), .ofNat (nat_lit 151849742), .ofNat (nat_lit 2345119218), .ofNat (nat_lit 3064510765), .ofNat (nat_lit 514443284)]
noncomputable def X19 : List Int := [.ofNat (nat_lit 4044981591), .ofNat (nat_lit 1963412655), .ofNat (nat_lit 2581445614), .ofNat (nat_lit 2137062819), .ofNat (nat_lit 19308535), .ofNat (nat_lit 1928707164), .ofNat (nat_lit 1715193156), .ofNat (nat_lit 4219352155), .ofNat (nat_lit 1126790795), .ofNat (nat_lit 600235211), .ofNat (nat_lit 3992742070), .ofNat (nat_lit 3841024952), .ofNat (nat_lit 836553431), .ofNat (nat_lit 1669664834), .ofNat (nat_lit 2535604243), .ofNat (nat_lit 3323011204), .ofNat (nat_lit 1243905413), .ofNat (nat_lit 3141400786), .ofNat (nat_lit 4180808110), .ofNat (nat_lit 698445255), .ofNat (nat_lit 2653899549), .ofNat (nat_lit 2989552604), .ofNat (nat_lit 2253581325), .ofNat (nat_lit 3252932727), .ofNat (nat_lit 3004591147), .ofNat (nat_lit 1891211689), .ofNat (nat_lit 2487810577), .ofNat (nat_lit 3915653703), .ofNat (nat_lit 4237083816), .ofNat (nat_lit 4030667424), .ofNat (nat_lit 2100090966), .ofNat (nat_lit 865136418), .ofNat (nat_lit 1229899655), .ofNat (nat_lit 953270745), .ofNat (nat_lit 3399679628), .ofNat (nat_lit 3557504664), .ofNat (nat_lit 4118925222), .ofNat (nat_lit 2061379749), .ofNat (nat_lit 3079546586), .ofNat (nat_lit 2915017791), .ofNat (nat_lit 983426092), .ofNat (nat_lit 2022837584), .ofNat (nat_lit 1607244650), .ofNat (nat_lit 2118541908), .ofNat (nat_lit 2366882550), .ofNat (nat_lit 3635996816), .ofNat (nat_lit 972512814), .ofNat (nat_lit 3283088770), .ofNat (nat_lit 1568718495), .ofNat (nat_lit 3499326569), .ofNat (nat_lit 3576539503), .ofNat (nat_lit 621982671), .ofNat (nat_lit 2895723464), .ofNat (nat_lit 410887952), .ofNat (nat_lit 2623762152), .ofNat (nat_lit 1002142683), .ofNat (nat_lit 645401037), .ofNat (nat_lit 1494807662), .ofNat (nat_lit 2595684844), .ofNat (nat_lit 1335535747), .ofNat (nat_lit 2507040230), .ofNat (nat_lit 4293295786), .ofNat (nat_lit 3167684641), .ofNat (nat_lit 367585007), .ofNat (nat_lit 3885750714), .ofNat (nat_lit 1865862730), .ofNat (nat_lit 2668221674), .ofNat (nat_lit 2960971305), .ofNat (nat_lit 2763173681), .ofNat (nat_lit 1059270954), .ofNat (nat_lit 2777952454), .ofNat (nat_lit 2724642869), .ofNat (nat_lit 1320957812), .ofNat (nat_lit 2194319100), .ofNat (nat_lit 2429595872), .ofNat (nat_lit 2815956275), .ofNat (nat_lit 77089521), .ofNat (nat_lit 3973773121), .ofNat (nat_lit 3444575871), .ofNat (nat_lit 2448830231), .ofNat (nat_lit 1305906550), .ofNat (nat_lit 4021308739), .ofNat (nat_lit 2857194700), .ofNat (nat_lit 2516901860), .ofNat (nat_lit 3518358430), .ofNat (nat_lit 1787304780), .ofNat (nat_lit 740276417), .ofNat (nat_lit 1699839814), .ofNat (nat_lit 1592394909), .ofNat (nat_lit 2352307457), .ofNat (nat_lit 2272556026), .ofNat (nat_lit 188821243), .ofNat (nat_lit 1729977011), .ofNat (nat_lit 3687994002), .ofNat (nat_lit 274084841), .ofNat (nat_lit 3594982253), .ofNat (nat_lit 3613494426), .ofNat (nat_lit 2701949495), .ofNat (nat_lit 4162096729), .ofNat (nat_lit 322734571), .ofNat (nat_lit 2837966542), .ofNat (nat_lit 1640576439), .ofNat (nat_lit 484830689), .ofNat (nat_lit 1202797690), .ofNat (nat_lit 3537852828), .ofNat (nat_lit 4067639125), .ofNat (nat_lit 349075736), .ofNat (nat_lit 3342319475), .ofNat (nat_lit 4157467219), .ofNat (nat_lit 4255800159), .ofNat (nat_lit 1030690015), .ofNat (nat_lit 1155237496), .ofNat (nat_lit 2951971274), .ofNat (nat_lit 1757691577), .ofNat (nat_lit 607398968), .ofNat (nat_lit 2738905026), .ofNat (nat_lit 499347990), .ofNat (nat_lit 3794078908), .ofNat (nat_lit 1011452712), .ofNat (nat_lit 227885567), .ofNat (nat_lit 2818666809), .ofNat (nat_lit 213114376), .ofNat (nat_lit 3034881240), .ofNat (nat_lit 1455525988), .ofNat (nat_lit 3414450555), .ofNat (nat_lit 850817237), .ofNat (nat_lit 1817998408), .ofNat (nat_lit 3092726480)]
noncomputable def X20 : List Int := [.ofNat (nat_lit 0), .ofNat (nat_lit 235474187), .ofNat (nat_lit 470948374), .ofNat (nat_lit 303765277), .ofNat (nat_lit 941896748), .ofNat (nat_lit 908933415), .ofNat (nat_lit 607530554), .ofNat (nat_lit 708780849), .ofNat (nat_lit 1883793496), .ofNat (nat_lit 2118214995), .ofNat (nat_lit 1817866830), .ofNat (nat_lit 1649639237), .ofNat (nat_lit 1215061108), .ofNat (nat_lit 1181045119), .ofNat (nat_lit 1417561698), .ofNat (nat_lit 1517767529), .ofNat (nat_lit 3767586992), .ofNat (nat_lit 4003061179), .ofNat (nat_lit 4236429990), .ofNat (nat_lit 4069246893), .ofNat (nat_lit 3635733660), .ofNat (nat_lit 3602770327), .ofNat (nat_lit 3299278474), .ofNat (nat_lit 3400528769), .ofNat (nat_lit 2430122216), .ofNat (nat_lit 2664543715), .ofNat (nat_lit 2362090238), .ofNat (nat_lit 2193862645), .ofNat (nat_lit 2835123396), .ofNat (nat_lit 2801107407), .ofNat (nat_lit 3035535058), .ofNat (nat_lit 3135740889), .ofNat (nat_lit 3678124923), .ofNat (nat_lit 3576870512), .ofNat (nat_lit 3341394285), .ofNat (nat_lit 3374361702), .ofNat (nat_lit 3810496343), .ofNat (nat_lit 3977675356), .ofNat (nat_lit 4279080257), .ofNat (nat_lit 4043610186), .ofNat (nat_lit 2876494627), .ofNat (nat_lit 2776292904), .ofNat (nat_lit 3076639029), .ofNat (nat_lit 3110650942), .ofNat (nat_lit 2472011535), .ofNat (nat_lit 2640243204), .ofNat (nat_lit 2403728665), .ofNat (nat_lit 2169303058), .ofNat (nat_lit 1001089995), .ofNat (nat_lit 899835584), .ofNat (nat_lit 666464733), .ofNat (nat_lit 699432150), .ofNat (nat_lit 59727847), .ofNat (nat_lit 226906860), .ofNat (nat_lit 530400753), .ofNat (nat_lit 294930682), .ofNat (nat_lit 1273168787), .ofNat (nat_lit 1172967064), .ofNat (nat_lit 1475418501), .ofNat (nat_lit 1509430414), .ofNat (nat_lit 1942435775), .ofNat (nat_lit 2110667444), .ofNat (nat_lit 1876241833), .ofNat (nat_lit 1641816226), .ofNat (nat_lit 2910219766), .ofNat (nat_lit 2743034109), .ofNat (nat_lit 2976151520), .ofNat (nat_lit 3211623147), .ofNat (nat_lit 2505202138), .ofNat (nat_lit 2606453969), .ofNat (nat_lit 2302690252), .ofNat (nat_lit 2269728455), .ofNat (nat_lit 3711829422), .ofNat (nat_lit 3543599269), .ofNat (nat_lit 3240894392), .ofNat (nat_lit 3475313331), .ofNat (nat_lit 3843699074), .ofNat (nat_lit 3943906441), .ofNat (nat_lit 4178062228), .ofNat (nat_lit 4144047775), .ofNat (nat_lit 1306967366), .ofNat (nat_lit 1139781709), .ofNat (nat_lit 1374988112), .ofNat (nat_lit 1610459739), .ofNat (nat_lit 1975683434), .ofNat (nat_lit 2076935265), .ofNat (nat_lit 1775276924), .ofNat (nat_lit 1742315127), .ofNat (nat_lit 1034867998), .ofNat (nat_lit 866637845), .ofNat (nat_lit 566021896), .ofNat (nat_lit 800440835), .ofNat (nat_lit 92987698), .ofNat (nat_lit 193195065), .ofNat (nat_lit 429456164), .ofNat (nat_lit 395441711), .ofNat (nat_lit 1984812685), .ofNat (nat_lit 2017778566), .ofNat (nat_lit 1784663195), .ofNat (nat_lit 1683407248), .ofNat (nat_lit 1315562145), .ofNat (nat_lit 1080094634), .ofNat (nat_lit 1383856311), .ofNat (nat_lit 1551037884), .ofNat (nat_lit 101039829), .ofNat (nat_lit 135050206), .ofNat (nat_lit 437757123), .ofNat (nat_lit 337553864), .ofNat (nat_lit 1042385657), .ofNat (nat_lit 807962610), .ofNat (nat_lit 573804783), .ofNat (nat_lit 742039012), .ofNat (nat_lit 2531067453), .ofNat (nat_lit 2564033334), .ofNat (nat_lit 2328828971), .ofNat (nat_lit 2227573024), .ofNat (nat_lit 2935566865), .ofNat (nat_lit 2700099354), .ofNat (nat_lit 3001755655), .ofNat (nat_lit 3168937228), .ofNat (nat_lit 3868552805), .ofNat (nat_lit 3902563182), .ofNat (nat_lit 4203181171), .ofNat (nat_lit 4102977912), .ofNat (nat_lit 3736164937), .ofNat (nat_lit 3501741890), .ofNat (nat_lit 3265478751), .ofNat (nat_lit 3433712980)]
noncomputable def X21 : List Int := [.ofNat (nat_lit 1106041591), .ofNat (nat_lit 1340463100), .ofNat (nat_lit 1576976609), .ofNat (nat_lit 1408749034), .ofNat (nat_lit 2043211483), .ofNat (nat_lit 2009195472), .ofNat (nat_lit 1708848333), .ofNat (nat_lit 1809054150), .ofNat (nat_lit 832877231), .ofNat (nat_lit 1068351396), .ofNat (nat_lit 766945465), .ofNat (nat_lit 599762354), .ofNat (nat_lit 159417987), .ofNat (nat_lit 126454664), .ofNat (nat_lit 361929877), .ofNat (nat_lit 463180190), .ofNat (nat_lit 2709260871), .ofNat (nat_lit 2943682380), .ofNat (nat_lit 3178106961), .ofNat (nat_lit 3009879386), .ofNat (nat_lit 2572697195), .ofNat (nat_lit 2538681184), .ofNat (nat_lit 2236228733), .ofNat (nat_lit 2336434550), .ofNat (nat_lit 3509871135), .ofNat (nat_lit 3745345300), .ofNat (nat_lit 3441850377), .ofNat (nat_lit 3274667266), .ofNat (nat_lit 3910161971), .ofNat (nat_lit 3877198648), .ofNat (nat_lit 4110568485), .ofNat (nat_lit 4211818798), .ofNat (nat_lit 2597806476), .ofNat (nat_lit 2497604743), .ofNat (nat_lit 2261089178), .ofNat (nat_lit 2295101073), .ofNat (nat_lit 2733856160), .ofNat (nat_lit 2902087851), .ofNat (nat_lit 3202437046), .ofNat (nat_lit 2968011453), .ofNat (nat_lit 3936291284), .ofNat (nat_lit 3835036895), .ofNat (nat_lit 4136440770), .ofNat (nat_lit 4169408201), .ofNat (nat_lit 3535486456), .ofNat (nat_lit 3702665459), .ofNat (nat_lit 3467192302), .ofNat (nat_lit 3231722213), .ofNat (nat_lit 2051518780), .ofNat (nat_lit 1951317047), .ofNat (nat_lit 1716890410), .ofNat (nat_lit 1750902305), .ofNat (nat_lit 1113818384), .ofNat (nat_lit 1282050075), .ofNat (nat_lit 1584504582), .ofNat (nat_lit 1350078989), .ofNat (nat_lit 168810852), .ofNat (nat_lit 67556463), .ofNat (nat_lit 371049330), .ofNat (nat_lit 404016761), .ofNat (nat_lit 841739592), .ofNat (nat_lit 1008918595), .ofNat (nat_lit 775550814), .ofNat (nat_lit 540080725), .ofNat (nat_lit 3969562369), .ofNat (nat_lit 3801332234), .ofNat (nat_lit 4035489047), .ofNat (nat_lit 4269907996), .ofNat (nat_lit 3569255213), .ofNat (nat_lit 3669462566), .ofNat (nat_lit 3366754619), .ofNat (nat_lit 3332740144), .ofNat (nat_lit 2631065433), .ofNat (nat_lit 2463879762), .ofNat (nat_lit 2160117071), .ofNat (nat_lit 2395588676), .ofNat (nat_lit 2767645557), .ofNat (nat_lit 2868897406), .ofNat (nat_lit 3102011747), .ofNat (nat_lit 3069049960), .ofNat (nat_lit 202008497), .ofNat (nat_lit 33778362), .ofNat (nat_lit 270040487), .ofNat (nat_lit 504459436), .ofNat (nat_lit 875451293), .ofNat (nat_lit 975658646), .ofNat (nat_lit 675039627), .ofNat (nat_lit 641025152), .ofNat (nat_lit 2084704233), .ofNat (nat_lit 1917518562), .ofNat (nat_lit 1615861247), .ofNat (nat_lit 1851332852), .ofNat (nat_lit 1147550661), .ofNat (nat_lit 1248802510), .ofNat (nat_lit 1484005843), .ofNat (nat_lit 1451044056), .ofNat (nat_lit 933301370), .ofNat (nat_lit 967311729), .ofNat (nat_lit 733156972), .ofNat (nat_lit 632953703), .ofNat (nat_lit 260388950), .ofNat (nat_lit 25965917), .ofNat (nat_lit 328671808), .ofNat (nat_lit 496906059), .ofNat (nat_lit 1206477858), .ofNat (nat_lit 1239443753), .ofNat (nat_lit 1543208500), .ofNat (nat_lit 1441952575), .ofNat (nat_lit 2144161806), .ofNat (nat_lit 1908694277), .ofNat (nat_lit 1675577880), .ofNat (nat_lit 1842759443), .ofNat (nat_lit 3610369226), .ofNat (nat_lit 3644379585), .ofNat (nat_lit 3408119516), .ofNat (nat_lit 3307916247), .ofNat (nat_lit 4011190502), .ofNat (nat_lit 3776767469), .ofNat (nat_lit 4077384432), .ofNat (nat_lit 4245618683), .ofNat (nat_lit 2809771154), .ofNat (nat_lit 2842737049), .ofNat (nat_lit 3144396420), .ofNat (nat_lit 3043140495), .ofNat (nat_lit 2673705150), .ofNat (nat_lit 2438237621), .ofNat (nat_lit 2203032232), .ofNat (nat_lit 2370213795)]
noncomputable def X22 : List Int := [.ofNat (nat_lit 0), .ofNat (nat_lit 185469197), .ofNat (nat_lit 370938394), .ofNat (nat_lit 487725847), .ofNat (nat_lit 741876788), .ofNat (nat_lit 657861945), .ofNat (nat_lit 975451694), .ofNat (nat_lit 824852259), .ofNat (nat_lit 1483753576), .ofNat (nat_lit 1400783205), .ofNat (nat_lit 1315723890), .ofNat (nat_lit 1164071807), .ofNat (nat_lit 1950903388), .ofNat (nat_lit 2135319889), .ofNat (nat_lit 1649704518), .ofNat (nat_lit 1767536459), .ofNat (nat_lit 2967507152), .ofNat (nat_lit 3152976349), .ofNat (nat_lit 2801566410), .ofNat (nat_lit 2918353863), .ofNat (nat_lit 2631447780), .ofNat (nat_lit 2547432937), .ofNat (nat_lit 2328143614), .ofNat (nat_lit 2177544179), .ofNat (nat_lit 3901806776), .ofNat (nat_lit 3818836405), .ofNat (nat_lit 4270639778), .ofNat (nat_lit 4118987695), .ofNat (nat_lit 3299409036), .ofNat (nat_lit 3483825537), .ofNat (nat_lit 3535072918), .ofNat (nat_lit 3652904859), .ofNat (nat_lit 2077965243), .ofNat (nat_lit 1893020342), .ofNat (nat_lit 1841768865), .ofNat (nat_lit 1724457132), .ofNat (nat_lit 1474502543), .ofNat (nat_lit 1559041666), .ofNat (nat_lit 1107234197), .ofNat (nat_lit 1257309336), .ofNat (nat_lit 598438867), .ofNat (nat_lit 681933534), .ofNat (nat_lit 901210569), .ofNat (nat_lit 1052338372), .ofNat (nat_lit 261314535), .ofNat (nat_lit 77422314), .ofNat (nat_lit 428819965), .ofNat (nat_lit 310463728), .ofNat (nat_lit 3409685355), .ofNat (nat_lit 3224740454), .ofNat (nat_lit 3710368113), .ofNat (nat_lit 3593056380), .ofNat (nat_lit 3875770207), .ofNat (nat_lit 3960309330), .ofNat (nat_lit 4045380933), .ofNat (nat_lit 4195456072), .ofNat (nat_lit 2471224067), .ofNat (nat_lit 2554718734), .ofNat (nat_lit 2237133081), .ofNat (nat_lit 2388260884), .ofNat (nat_lit 3212035895), .ofNat (nat_lit 3028143674), .ofNat (nat_lit 2842678573), .ofNat (nat_lit 2724322336), .ofNat (nat_lit 4138563181), .ofNat (nat_lit 4255350624), .ofNat (nat_lit 3769721975), .ofNat (nat_lit 3955191162), .ofNat (nat_lit 3667219033), .ofNat (nat_lit 3516619604), .ofNat (nat_lit 3431546947), .ofNat (nat_lit 3347532110), .ofNat (nat_lit 2933734917), .ofNat (nat_lit 2782082824), .ofNat (nat_lit 3099667487), .ofNat (nat_lit 3016697106), .ofNat (nat_lit 2196052529), .ofNat (nat_lit 2313884476), .ofNat (nat_lit 2499348523), .ofNat (nat_lit 2683765030), .ofNat (nat_lit 1179510461), .ofNat (nat_lit 1296297904), .ofNat (nat_lit 1347548327), .ofNat (nat_lit 1533017514), .ofNat (nat_lit 1786102409), .ofNat (nat_lit 1635502980), .ofNat (nat_lit 2087309459), .ofNat (nat_lit 2003294622), .ofNat (nat_lit 507358933), .ofNat (nat_lit 355706840), .ofNat (nat_lit 136428751), .ofNat (nat_lit 53458370), .ofNat (nat_lit 839224033), .ofNat (nat_lit 957055980), .ofNat (nat_lit 605657339), .ofNat (nat_lit 790073846), .ofNat (nat_lit 2373340630), .ofNat (nat_lit 2256028891), .ofNat (nat_lit 2607439820), .ofNat (nat_lit 2422494913), .ofNat (nat_lit 2706270690), .ofNat (nat_lit 2856345839), .ofNat (nat_lit 3075636216), .ofNat (nat_lit 3160175349), .ofNat (nat_lit 3573941694), .ofNat (nat_lit 3725069491), .ofNat (nat_lit 3273267108), .ofNat (nat_lit 3356761769), .ofNat (nat_lit 4181598602), .ofNat (nat_lit 4063242375), .ofNat (nat_lit 4011996048), .ofNat (nat_lit 3828103837), .ofNat (nat_lit 1033297158), .ofNat (nat_lit 915985419), .ofNat (nat_lit 730517276), .ofNat (nat_lit 545572369), .ofNat (nat_lit 296679730), .ofNat (nat_lit 446754879), .ofNat (nat_lit 129166120), .ofNat (nat_lit 213705253), .ofNat (nat_lit 1709610350), .ofNat (nat_lit 1860738147), .ofNat (nat_lit 1945798516), .ofNat (nat_lit 2029293177), .ofNat (nat_lit 1239331162), .ofNat (nat_lit 1120974935), .ofNat (nat_lit 1606591296), .ofNat (nat_lit 1422699085)]
noncomputable def X23 : List Int := [.ofNat (nat_lit 4148292826), .ofNat (nat_lit 4233094615), .ofNat (nat_lit 3781033664), .ofNat (nat_lit 3931371469), .ofNat (nat_lit 3682191598), .ofNat (nat_lit 3497509347), .ofNat (nat_lit 3446004468), .ofNat (nat_lit 3328955385), .ofNat (nat_lit 2939266226), .ofNat (nat_lit 2755636671), .ofNat (nat_lit 3106780840), .ofNat (nat_lit 2988687269), .ofNat (nat_lit 2198438022), .ofNat (nat_lit 2282195339), .ofNat (nat_lit 2501218972), .ofNat (nat_lit 2652609425), .ofNat (nat_lit 1201765386), .ofNat (nat_lit 1286567175), .ofNat (nat_lit 1371368976), .ofNat (nat_lit 1521706781), .ofNat (nat_lit 1805211710), .ofNat (nat_lit 1620529459), .ofNat (nat_lit 2105887268), .ofNat (nat_lit 1988838185), .ofNat (nat_lit 533804130), .ofNat (nat_lit 350174575), .ofNat (nat_lit 164439672), .ofNat (nat_lit 46346101), .ofNat (nat_lit 870912086), .ofNat (nat_lit 954669403), .ofNat (nat_lit 636813900), .ofNat (nat_lit 788204353), .ofNat (nat_lit 2358957921), .ofNat (nat_lit 2274680428), .ofNat (nat_lit 2592523643), .ofNat (nat_lit 2441661558), .ofNat (nat_lit 2695033685), .ofNat (nat_lit 2880240216), .ofNat (nat_lit 3065962831), .ofNat (nat_lit 3182487618), .ofNat (nat_lit 3572145929), .ofNat (nat_lit 3756299780), .ofNat (nat_lit 3270937875), .ofNat (nat_lit 3388507166), .ofNat (nat_lit 4174560061), .ofNat (nat_lit 4091327024), .ofNat (nat_lit 4006521127), .ofNat (nat_lit 3854606378), .ofNat (nat_lit 1014646705), .ofNat (nat_lit 930369212), .ofNat (nat_lit 711349675), .ofNat (nat_lit 560487590), .ofNat (nat_lit 272786309), .ofNat (nat_lit 457992840), .ofNat (nat_lit 106852767), .ofNat (nat_lit 223377554), .ofNat (nat_lit 1678381017), .ofNat (nat_lit 1862534868), .ofNat (nat_lit 1914052035), .ofNat (nat_lit 2031621326), .ofNat (nat_lit 1211247597), .ofNat (nat_lit 1128014560), .ofNat (nat_lit 1580087799), .ofNat (nat_lit 1428173050), .ofNat (nat_lit 32283319), .ofNat (nat_lit 182621114), .ofNat (nat_lit 401639597), .ofNat (nat_lit 486441376), .ofNat (nat_lit 768917123), .ofNat (nat_lit 651868046), .ofNat (nat_lit 1003007129), .ofNat (nat_lit 818324884), .ofNat (nat_lit 1503449823), .ofNat (nat_lit 1385356242), .ofNat (nat_lit 1333838021), .ofNat (nat_lit 1150208456), .ofNat (nat_lit 1973745387), .ofNat (nat_lit 2125135846), .ofNat (nat_lit 1673061617), .ofNat (nat_lit 1756818940), .ofNat (nat_lit 2970356327), .ofNat (nat_lit 3120694122), .ofNat (nat_lit 2802849917), .ofNat (nat_lit 2887651696), .ofNat (nat_lit 2637442643), .ofNat (nat_lit 2520393566), .ofNat (nat_lit 2334669897), .ofNat (nat_lit 2149987652), .ofNat (nat_lit 3917234703), .ofNat (nat_lit 3799141122), .ofNat (nat_lit 4284502037), .ofNat (nat_lit 4100872472), .ofNat (nat_lit 3309594171), .ofNat (nat_lit 3460984630), .ofNat (nat_lit 3545789473), .ofNat (nat_lit 3629546796), .ofNat (nat_lit 2050466060), .ofNat (nat_lit 1899603969), .ofNat (nat_lit 1814803222), .ofNat (nat_lit 1730525723), .ofNat (nat_lit 1443857720), .ofNat (nat_lit 1560382517), .ofNat (nat_lit 1075025698), .ofNat (nat_lit 1260232239), .ofNat (nat_lit 575138148), .ofNat (nat_lit 692707433), .ofNat (nat_lit 878443390), .ofNat (nat_lit 1062597235), .ofNat (nat_lit 243256656), .ofNat (nat_lit 91341917), .ofNat (nat_lit 409198410), .ofNat (nat_lit 325965383), .ofNat (nat_lit 3403100636), .ofNat (nat_lit 3252238545), .ofNat (nat_lit 3704300486), .ofNat (nat_lit 3620022987), .ofNat (nat_lit 3874428392), .ofNat (nat_lit 3990953189), .ofNat (nat_lit 4042459122), .ofNat (nat_lit 4227665663), .ofNat (nat_lit 2460449204), .ofNat (nat_lit 2578018489), .ofNat (nat_lit 2226875310), .ofNat (nat_lit 2411029155), .ofNat (nat_lit 3198115200), .ofNat (nat_lit 3046200461), .ofNat (nat_lit 2827177882), .ofNat (nat_lit 2743944855)]
noncomputable def X24 : List Int := [.ofNat (nat_lit 0), .ofNat (nat_lit 218828297), .ofNat (nat_lit 437656594), .ofNat (nat_lit 387781147), .ofNat (nat_lit 875313188), .ofNat (nat_lit 958871085), .ofNat (nat_lit 775562294), .ofNat (nat_lit 590424639), .ofNat (nat_lit 1750626376), .ofNat (nat_lit 1699970625), .ofNat (nat_lit 1917742170), .ofNat (nat_lit 2135253587), .ofNat (nat_lit 1551124588), .ofNat (nat_lit 1367295589), .ofNat (nat_lit 1180849278), .ofNat (nat_lit 1265195639), .ofNat (nat_lit 3501252752), .ofNat (nat_lit 3720081049), .ofNat (nat_lit 3399941250), .ofNat (nat_lit 3350065803), .ofNat (nat_lit 3835484340), .ofNat (nat_lit 3919042237), .ofNat (nat_lit 4270507174), .ofNat (nat_lit 4085369519), .ofNat (nat_lit 3102249176), .ofNat (nat_lit 3051593425), .ofNat (nat_lit 2734591178), .ofNat (nat_lit 2952102595), .ofNat (nat_lit 2361698556), .ofNat (nat_lit 2177869557), .ofNat (nat_lit 2530391278), .ofNat (nat_lit 2614737639), .ofNat (nat_lit 3145456443), .ofNat (nat_lit 3060847922), .ofNat (nat_lit 2708326185), .ofNat (nat_lit 2892417312), .ofNat (nat_lit 2404901663), .ofNat (nat_lit 2187128086), .ofNat (nat_lit 2504130317), .ofNat (nat_lit 2555048196), .ofNat (nat_lit 3542330227), .ofNat (nat_lit 3727205754), .ofNat (nat_lit 3375740769), .ofNat (nat_lit 3292445032), .ofNat (nat_lit 3876557655), .ofNat (nat_lit 3926170974), .ofNat (nat_lit 4246310725), .ofNat (nat_lit 4027744588), .ofNat (nat_lit 1808481195), .ofNat (nat_lit 1723872674), .ofNat (nat_lit 1910319033), .ofNat (nat_lit 2094410160), .ofNat (nat_lit 1608975247), .ofNat (nat_lit 1391201670), .ofNat (nat_lit 1173430173), .ofNat (nat_lit 1224348052), .ofNat (nat_lit 59984867), .ofNat (nat_lit 244860394), .ofNat (nat_lit 428169201), .ofNat (nat_lit 344873464), .ofNat (nat_lit 935293895), .ofNat (nat_lit 984907214), .ofNat (nat_lit 766078933), .ofNat (nat_lit 547512796), .ofNat (nat_lit 1844882806), .ofNat (nat_lit 1627235199), .ofNat (nat_lit 2011214180), .ofNat (nat_lit 2062270317), .ofNat (nat_lit 1507497298), .ofNat (nat_lit 1423022939), .ofNat (nat_lit 1137477952), .ofNat (nat_lit 1321699145), .ofNat (nat_lit 95345982), .ofNat (nat_lit 145085239), .ofNat (nat_lit 532201772), .ofNat (nat_lit 313773861), .ofNat (nat_lit 830661914), .ofNat (nat_lit 1015671571), .ofNat (nat_lit 731183368), .ofNat (nat_lit 648017665), .ofNat (nat_lit 3175501286), .ofNat (nat_lit 2957853679), .ofNat (nat_lit 2807058932), .ofNat (nat_lit 2858115069), .ofNat (nat_lit 2305455554), .ofNat (nat_lit 2220981195), .ofNat (nat_lit 2474404304), .ofNat (nat_lit 2658625497), .ofNat (nat_lit 3575528878), .ofNat (nat_lit 3625268135), .ofNat (nat_lit 3473416636), .ofNat (nat_lit 3254988725), .ofNat (nat_lit 3778151818), .ofNat (nat_lit 3963161475), .ofNat (nat_lit 4213447064), .ofNat (nat_lit 4130281361), .ofNat (nat_lit 3599595085), .ofNat (nat_lit 3683022916), .ofNat (nat_lit 3432737375), .ofNat (nat_lit 3247465558), .ofNat (nat_lit 3802222185), .ofNat (nat_lit 4020912224), .ofNat (nat_lit 4172763771), .ofNat (nat_lit 4122762354), .ofNat (nat_lit 3201631749), .ofNat (nat_lit 3017672716), .ofNat (nat_lit 2764249623), .ofNat (nat_lit 2848461854), .ofNat (nat_lit 2331590177), .ofNat (nat_lit 2280796200), .ofNat (nat_lit 2431590963), .ofNat (nat_lit 2648976442), .ofNat (nat_lit 104699613), .ofNat (nat_lit 188127444), .ofNat (nat_lit 472615631), .ofNat (nat_lit 287343814), .ofNat (nat_lit 840019705), .ofNat (nat_lit 1058709744), .ofNat (nat_lit 671593195), .ofNat (nat_lit 621591778), .ofNat (nat_lit 1852171925), .ofNat (nat_lit 1668212892), .ofNat (nat_lit 1953757831), .ofNat (nat_lit 2037970062), .ofNat (nat_lit 1514790577), .ofNat (nat_lit 1463996600), .ofNat (nat_lit 1080017571), .ofNat (nat_lit 1297403050)]
noncomputable def X25 : List Int := [.ofNat (nat_lit 3673637356), .ofNat (nat_lit 3623636965), .ofNat (nat_lit 3235995134), .ofNat (nat_lit 3454686199), .ofNat (nat_lit 4007360968), .ofNat (nat_lit 3822090177), .ofNat (nat_lit 4107101658), .ofNat (nat_lit 4190530515), .ofNat (nat_lit 2997825956), .ofNat (nat_lit 3215212461), .ofNat (nat_lit 2830708150), .ofNat (nat_lit 2779915199), .ofNat (nat_lit 2256734592), .ofNat (nat_lit 2340947849), .ofNat (nat_lit 2627016082), .ofNat (nat_lit 2443058075), .ofNat (nat_lit 172466556), .ofNat (nat_lit 122466165), .ofNat (nat_lit 273792366), .ofNat (nat_lit 492483431), .ofNat (nat_lit 1047239000), .ofNat (nat_lit 861968209), .ofNat (nat_lit 612205898), .ofNat (nat_lit 695634755), .ofNat (nat_lit 1646252340), .ofNat (nat_lit 1863638845), .ofNat (nat_lit 2013908262), .ofNat (nat_lit 1963115311), .ofNat (nat_lit 1446242576), .ofNat (nat_lit 1530455833), .ofNat (nat_lit 1277555970), .ofNat (nat_lit 1093597963), .ofNat (nat_lit 1636604631), .ofNat (nat_lit 1820824798), .ofNat (nat_lit 2073724613), .ofNat (nat_lit 1989249228), .ofNat (nat_lit 1436590835), .ofNat (nat_lit 1487645946), .ofNat (nat_lit 1337376481), .ofNat (nat_lit 1119727848), .ofNat (nat_lit 164948639), .ofNat (nat_lit 81781910), .ofNat (nat_lit 331544205), .ofNat (nat_lit 516552836), .ofNat (nat_lit 1039717051), .ofNat (nat_lit 821288114), .ofNat (nat_lit 669961897), .ofNat (nat_lit 719700128), .ofNat (nat_lit 2973530695), .ofNat (nat_lit 3157750862), .ofNat (nat_lit 2871682645), .ofNat (nat_lit 2787207260), .ofNat (nat_lit 2232435299), .ofNat (nat_lit 2283490410), .ofNat (nat_lit 2667994737), .ofNat (nat_lit 2450346104), .ofNat (nat_lit 3647212047), .ofNat (nat_lit 3564045318), .ofNat (nat_lit 3279033885), .ofNat (nat_lit 3464042516), .ofNat (nat_lit 3980931627), .ofNat (nat_lit 3762502690), .ofNat (nat_lit 4150144569), .ofNat (nat_lit 4199882800), .ofNat (nat_lit 3070356634), .ofNat (nat_lit 3121275539), .ofNat (nat_lit 2904027272), .ofNat (nat_lit 2686254721), .ofNat (nat_lit 2200818878), .ofNat (nat_lit 2384911031), .ofNat (nat_lit 2570832044), .ofNat (nat_lit 2486224549), .ofNat (nat_lit 3747192018), .ofNat (nat_lit 3528626907), .ofNat (nat_lit 3310321856), .ofNat (nat_lit 3359936201), .ofNat (nat_lit 3950355702), .ofNat (nat_lit 3867060991), .ofNat (nat_lit 4049844452), .ofNat (nat_lit 4234721005), .ofNat (nat_lit 1739656202), .ofNat (nat_lit 1790575107), .ofNat (nat_lit 2108100632), .ofNat (nat_lit 1890328081), .ofNat (nat_lit 1402811438), .ofNat (nat_lit 1586903591), .ofNat (nat_lit 1233856572), .ofNat (nat_lit 1149249077), .ofNat (nat_lit 266959938), .ofNat (nat_lit 48394827), .ofNat (nat_lit 369057872), .ofNat (nat_lit 418672217), .ofNat (nat_lit 1002783846), .ofNat (nat_lit 919489135), .ofNat (nat_lit 567498868), .ofNat (nat_lit 752375421), .ofNat (nat_lit 209336225), .ofNat (nat_lit 24197544), .ofNat (nat_lit 376187827), .ofNat (nat_lit 459744698), .ofNat (nat_lit 945164165), .ofNat (nat_lit 895287692), .ofNat (nat_lit 574624663), .ofNat (nat_lit 793451934), .ofNat (nat_lit 1679968233), .ofNat (nat_lit 1764313568), .ofNat (nat_lit 2117360635), .ofNat (nat_lit 1933530610), .ofNat (nat_lit 1343127501), .ofNat (nat_lit 1560637892), .ofNat (nat_lit 1243112415), .ofNat (nat_lit 1192455638), .ofNat (nat_lit 3704280881), .ofNat (nat_lit 3519142200), .ofNat (nat_lit 3336358691), .ofNat (nat_lit 3419915562), .ofNat (nat_lit 3907448597), .ofNat (nat_lit 3857572124), .ofNat (nat_lit 4075877127), .ofNat (nat_lit 4294704398), .ofNat (nat_lit 3029510009), .ofNat (nat_lit 3113855344), .ofNat (nat_lit 2927934315), .ofNat (nat_lit 2744104290), .ofNat (nat_lit 2159976285), .ofNat (nat_lit 2377486676), .ofNat (nat_lit 2594734927), .ofNat (nat_lit 2544078150)]
noncomputable def X26 : List Int := [.ofNat (nat_lit 0), .ofNat (nat_lit 151849742), .ofNat (nat_lit 303699484), .ofNat (nat_lit 454499602), .ofNat (nat_lit 607398968), .ofNat (nat_lit 758720310), .ofNat (nat_lit 908999204), .ofNat (nat_lit 1059270954), .ofNat (nat_lit 1214797936), .ofNat (nat_lit 1097159550), .ofNat (nat_lit 1517440620), .ofNat (nat_lit 1400849762), .ofNat (nat_lit 1817998408), .ofNat (nat_lit 1699839814), .ofNat (nat_lit 2118541908), .ofNat (nat_lit 2001430874), .ofNat (nat_lit 2429595872), .ofNat (nat_lit 2581445614), .ofNat (nat_lit 2194319100), .ofNat (nat_lit 2345119218), .ofNat (nat_lit 3034881240), .ofNat (nat_lit 3186202582), .ofNat (nat_lit 2801699524), .ofNat (nat_lit 2951971274), .ofNat (nat_lit 3635996816), .ofNat (nat_lit 3518358430), .ofNat (nat_lit 3399679628), .ofNat (nat_lit 3283088770), .ofNat (nat_lit 4237083816), .ofNat (nat_lit 4118925222), .ofNat (nat_lit 4002861748), .ofNat (nat_lit 3885750714), .ofNat (nat_lit 1002142683), .ofNat (nat_lit 850817237), .ofNat (nat_lit 698445255), .ofNat (nat_lit 548169417), .ofNat (nat_lit 529487843), .ofNat (nat_lit 377642221), .ofNat (nat_lit 227885567), .ofNat (nat_lit 77089521), .ofNat (nat_lit 1943217067), .ofNat (nat_lit 2061379749), .ofNat (nat_lit 1640576439), .ofNat (nat_lit 1757691577), .ofNat (nat_lit 1474760595), .ofNat (nat_lit 1592394909), .ofNat (nat_lit 1174215055), .ofNat (nat_lit 1290801793), .ofNat (nat_lit 2875968315), .ofNat (nat_lit 2724642869), .ofNat (nat_lit 3111247143), .ofNat (nat_lit 2960971305), .ofNat (nat_lit 2405426947), .ofNat (nat_lit 2253581325), .ofNat (nat_lit 2638606623), .ofNat (nat_lit 2487810577), .ofNat (nat_lit 3808662347), .ofNat (nat_lit 3926825029), .ofNat (nat_lit 4044981591), .ofNat (nat_lit 4162096729), .ofNat (nat_lit 3342319475), .ofNat (nat_lit 3459953789), .ofNat (nat_lit 3576539503), .ofNat (nat_lit 3693126241), .ofNat (nat_lit 1986918061), .ofNat (nat_lit 2137062819), .ofNat (nat_lit 1685577905), .ofNat (nat_lit 1836772287), .ofNat (nat_lit 1381620373), .ofNat (nat_lit 1532285339), .ofNat (nat_lit 1078185097), .ofNat (nat_lit 1229899655), .ofNat (nat_lit 1040559837), .ofNat (nat_lit 923313619), .ofNat (nat_lit 740276417), .ofNat (nat_lit 621982671), .ofNat (nat_lit 439452389), .ofNat (nat_lit 322734571), .ofNat (nat_lit 137073913), .ofNat (nat_lit 19308535), .ofNat (nat_lit 3871163981), .ofNat (nat_lit 4021308739), .ofNat (nat_lit 4104605777), .ofNat (nat_lit 4255800159), .ofNat (nat_lit 3263785589), .ofNat (nat_lit 3414450555), .ofNat (nat_lit 3499326569), .ofNat (nat_lit 3651041127), .ofNat (nat_lit 2933202493), .ofNat (nat_lit 2815956275), .ofNat (nat_lit 3167684641), .ofNat (nat_lit 3049390895), .ofNat (nat_lit 2330014213), .ofNat (nat_lit 2213296395), .ofNat (nat_lit 2566595609), .ofNat (nat_lit 2448830231), .ofNat (nat_lit 1305906550), .ofNat (nat_lit 1155237496), .ofNat (nat_lit 1607244650), .ofNat (nat_lit 1455525988), .ofNat (nat_lit 1776460110), .ofNat (nat_lit 1626319424), .ofNat (nat_lit 2079897426), .ofNat (nat_lit 1928707164), .ofNat (nat_lit 96392454), .ofNat (nat_lit 213114376), .ofNat (nat_lit 396673818), .ofNat (nat_lit 514443284), .ofNat (nat_lit 562755902), .ofNat (nat_lit 679998000), .ofNat (nat_lit 865136418), .ofNat (nat_lit 983426092), .ofNat (nat_lit 3708173718), .ofNat (nat_lit 3557504664), .ofNat (nat_lit 3474729866), .ofNat (nat_lit 3323011204), .ofNat (nat_lit 4180808110), .ofNat (nat_lit 4030667424), .ofNat (nat_lit 3945269170), .ofNat (nat_lit 3794078908), .ofNat (nat_lit 2507040230), .ofNat (nat_lit 2623762152), .ofNat (nat_lit 2272556026), .ofNat (nat_lit 2390325492), .ofNat (nat_lit 2975484382), .ofNat (nat_lit 3092726480), .ofNat (nat_lit 2738905026), .ofNat (nat_lit 2857194700)]
noncomputable def X27 : List Int := [.ofNat (nat_lit 3973773121), .ofNat (nat_lit 3856137295), .ofNat (nat_lit 4274053469), .ofNat (nat_lit 4157467219), .ofNat (nat_lit 3371096953), .ofNat (nat_lit 3252932727), .ofNat (nat_lit 3673476453), .ofNat (nat_lit 3556361835), .ofNat (nat_lit 2763173681), .ofNat (nat_lit 2915017791), .ofNat (nat_lit 3064510765), .ofNat (nat_lit 3215307299), .ofNat (nat_lit 2156299017), .ofNat (nat_lit 2307622919), .ofNat (nat_lit 2459735317), .ofNat (nat_lit 2610011675), .ofNat (nat_lit 2081048481), .ofNat (nat_lit 1963412655), .ofNat (nat_lit 1846563261), .ofNat (nat_lit 1729977011), .ofNat (nat_lit 1480485785), .ofNat (nat_lit 1362321559), .ofNat (nat_lit 1243905413), .ofNat (nat_lit 1126790795), .ofNat (nat_lit 878845905), .ofNat (nat_lit 1030690015), .ofNat (nat_lit 645401037), .ofNat (nat_lit 796197571), .ofNat (nat_lit 274084841), .ofNat (nat_lit 425408743), .ofNat (nat_lit 38544885), .ofNat (nat_lit 188821243), .ofNat (nat_lit 3613494426), .ofNat (nat_lit 3731654548), .ofNat (nat_lit 3313212038), .ofNat (nat_lit 3430322568), .ofNat (nat_lit 4082475170), .ofNat (nat_lit 4200115116), .ofNat (nat_lit 3780097726), .ofNat (nat_lit 3896688048), .ofNat (nat_lit 2668221674), .ofNat (nat_lit 2516901860), .ofNat (nat_lit 2366882550), .ofNat (nat_lit 2216610296), .ofNat (nat_lit 3141400786), .ofNat (nat_lit 2989552604), .ofNat (nat_lit 2837966542), .ofNat (nat_lit 2687165888), .ofNat (nat_lit 1202797690), .ofNat (nat_lit 1320957812), .ofNat (nat_lit 1437280870), .ofNat (nat_lit 1554391400), .ofNat (nat_lit 1669664834), .ofNat (nat_lit 1787304780), .ofNat (nat_lit 1906247262), .ofNat (nat_lit 2022837584), .ofNat (nat_lit 265905162), .ofNat (nat_lit 114585348), .ofNat (nat_lit 499347990), .ofNat (nat_lit 349075736), .ofNat (nat_lit 736970802), .ofNat (nat_lit 585122620), .ofNat (nat_lit 972512814), .ofNat (nat_lit 821712160), .ofNat (nat_lit 2595684844), .ofNat (nat_lit 2478443234), .ofNat (nat_lit 2293045232), .ofNat (nat_lit 2174754046), .ofNat (nat_lit 3196267988), .ofNat (nat_lit 3079546586), .ofNat (nat_lit 2895723464), .ofNat (nat_lit 2777952454), .ofNat (nat_lit 3537852828), .ofNat (nat_lit 3687994002), .ofNat (nat_lit 3234156416), .ofNat (nat_lit 3385345166), .ofNat (nat_lit 4142626212), .ofNat (nat_lit 4293295786), .ofNat (nat_lit 3841024952), .ofNat (nat_lit 3992742070), .ofNat (nat_lit 174567692), .ofNat (nat_lit 57326082), .ofNat (nat_lit 410887952), .ofNat (nat_lit 292596766), .ofNat (nat_lit 777231668), .ofNat (nat_lit 660510266), .ofNat (nat_lit 1011452712), .ofNat (nat_lit 893681702), .ofNat (nat_lit 1108339068), .ofNat (nat_lit 1258480242), .ofNat (nat_lit 1343618912), .ofNat (nat_lit 1494807662), .ofNat (nat_lit 1715193156), .ofNat (nat_lit 1865862730), .ofNat (nat_lit 1948373848), .ofNat (nat_lit 2100090966), .ofNat (nat_lit 2701949495), .ofNat (nat_lit 2818666809), .ofNat (nat_lit 3004591147), .ofNat (nat_lit 3122358053), .ofNat (nat_lit 2235061775), .ofNat (nat_lit 2352307457), .ofNat (nat_lit 2535604243), .ofNat (nat_lit 2653899549), .ofNat (nat_lit 3915653703), .ofNat (nat_lit 3764988233), .ofNat (nat_lit 4219352155), .ofNat (nat_lit 4067639125), .ofNat (nat_lit 3444575871), .ofNat (nat_lit 3294430577), .ofNat (nat_lit 3746175075), .ofNat (nat_lit 3594982253), .ofNat (nat_lit 836553431), .ofNat (nat_lit 953270745), .ofNat (nat_lit 600235211), .ofNat (nat_lit 718002117), .ofNat (nat_lit 367585007), .ofNat (nat_lit 484830689), .ofNat (nat_lit 133361907), .ofNat (nat_lit 251657213), .ofNat (nat_lit 2041877159), .ofNat (nat_lit 1891211689), .ofNat (nat_lit 1806599355), .ofNat (nat_lit 1654886325), .ofNat (nat_lit 1568718495), .ofNat (nat_lit 1418573201), .ofNat (nat_lit 1335535747), .ofNat (nat_lit 1184342925)]
noncomputable def o11 (P : Params) : Obj := ⟨.type "tuple", none, (.seq #[] 0), #[]⟩
noncomputable def o12 (P : Params) : Obj := ⟨.none, none, (.fields #[]), #[]⟩
noncomputable def o13 (P : Params) : Obj := ⟨.type "code", none, (.fields #[S "<module>" 182, S "<module>" 183, S "/claim/cut.py" 184, .int 1 0, .int 0 0, .int 0 0, .int 0 0, .int 0 0, .ref 11, .bool false, .int 181 0, .ref 12, .none, .none, .none, .none, .int 185 0, .int 1 0, S "/claim/cut.py" 186]), #[]⟩
noncomputable def o14 (P : Params) : Obj := ⟨.type "frame", none, .plain, #[(some (.ref 13)), (some (.ref 3)), (some (.ref 3)), none, (some (S "__main__" 164)), none, (some (.ref 0))]⟩
noncomputable def o3 (P : Params) : Obj := ⟨.type "dict", none, (.dict #[E P "__name__" 165 (S "pyaes.aes" 194), E P "__doc__" 166 (.none), E P "__package__" 167 (.none), E P "__loader__" 168 (.builtin "__main__.__loader__#opaque"), E P "__spec__" 169 (.none), E P "__annotations__" 170 (.ref 6), E P "__builtins__" 171 (.ref 4), E P "__file__" 173 (S "/claim/cut.py" 172), E P "__cached__" 174 (.none), E P "_wall" 193 (.ref 21), E P "PADDING_DEFAULT" 197 (S "default" 196), E P "_compact_word" 204 (.ref 28), E P "_string_to_bytes" 210 (.ref 33), E P "_bytes_to_string" 217 (.ref 40), E P "_concat_list" 225 (.ref 47)] 15), #[]⟩
noncomputable def o12v5 (P : Params) : Obj := ⟨.none, none, (.fields #[.int 1 0, .int 0 0, .ref 20, .int 6 0, .int 0 0, .ref 27, .int 8 0, .int 0 0, .ref 32, .int 12 0, .int 0 0, .ref 39, .int 14 0, .int 0 0, .ref 46]), #[]⟩
noncomputable def o15 (P : Params) : Obj := ⟨.type "tuple", none, (.seq #[] 0), #[]⟩
noncomputable def o16 (P : Params) : Obj := ⟨.none, none, (.fields #[]), #[]⟩
noncomputable def o17 (P : Params) : Obj := ⟨.type "tuple", none, (.seq #[S "k" 190] 0), #[]⟩
noncomputable def o18 (P : Params) : Obj := ⟨.type "tuple", none, (.seq #[] 0), #[]⟩
noncomputable def o19 (P : Params) : Obj := ⟨.none, none, (.func ⟨"_wall", "_wall", (fP (T 0)), (fB (T 0)), (fS (T 0)), 0, [], .none, .none, .none, .none, none, .none, .none, 0⟩), #[]⟩
noncomputable def o20 (P : Params) : Obj := ⟨.type "code", none, (.fields #[S "_wall" 187, S "_wall" 188, S "/claim/cut.py" 189, .int 1 0, .int 1 0, .int 0 0, .int 0 0, .int 3 0, .ref 15, .bool true, .int 181 0, .ref 16, .none, .ref 17, .ref 18, .ref 19, .int 191 0, .int 1 0, S "/claim/cut.py" 192]), #[]⟩
noncomputable def o21 (P : Params) : Obj := ⟨.type "function", none, (.func ⟨"_wall", "_wall", (fP (T 0)), (fB (T 0)), (fS (T 0)), 3, [], .none, .none, .none, S "__main__" 164, none, .ref 20, .none, 0⟩), #[]⟩
noncomputable def o22 (P : Params) : Obj := ⟨.type "tuple", none, (.seq #[] 0), #[]⟩
noncomputable def o23 (P : Params) : Obj := ⟨.none, none, (.fields #[]), #[]⟩
noncomputable def o24 (P : Params) : Obj := ⟨.type "tuple", none, (.seq #[S "word" 201] 0), #[]⟩
noncomputable def o25 (P : Params) : Obj := ⟨.type "tuple", none, (.seq #[] 0), #[]⟩
noncomputable def o26 (P : Params) : Obj := ⟨.none, none, (.func ⟨"_compact_word", "_compact_word", (fP (T 3)), (fB (T 3)), (fS (T 3)), 0, [], .none, .none, .none, .none, none, .none, .none, 0⟩), #[]⟩
noncomputable def o27 (P : Params) : Obj := ⟨.type "code", none, (.fields #[S "_compact_word" 198, S "_compact_word" 199, S "/claim/cut.py" 200, .int 6 0, .int 1 0, .int 0 0, .int 0 0, .int 3 0, .ref 22, .bool true, .int 181 0, .ref 23, .none, .ref 24, .ref 25, .ref 26, .int 202 0, .int 6 0, S "/claim/cut.py" 203]), #[]⟩
noncomputable def o28 (P : Params) : Obj := ⟨.type "function", none, (.func ⟨"_compact_word", "_compact_word", (fP (T 3)), (fB (T 3)), (fS (T 3)), 3, [], .none, .none, .none, S "pyaes.aes" 194, none, .ref 27, .none, 0⟩), #[]⟩
noncomputable def o29 (P : Params) : Obj := ⟨.type "tuple", none, (.seq #[] 0), #[]⟩
noncomputable def o30 (P : Params) : Obj := ⟨.none, none, (.fields #[]), #[]⟩
noncomputable def o31 (P : Params) : Obj := ⟨.none, none, (.func ⟨"_string_to_bytes", "_string_to_bytes", (fP (T 4)), (fB (T 4)), (fS (T 4)), 0, [], .none, .none, .none, .none, none, .none, .none, 0⟩), #[]⟩
noncomputable def o32 (P : Params) : Obj := ⟨.type "code", none, (.fields #[S "_string_to_bytes" 205, S "_string_to_bytes" 206, S "/claim/cut.py" 207, .int 8 0, .int 1 0, .int 0 0, .int 0 0, .int 3 0, .ref 29, .bool true, .int 181 0, .ref 30, .none, .none, .none, .ref 31, .int 208 0, .int 8 0, S "/claim/cut.py" 209]), #[]⟩
noncomputable def o33 (P : Params) : Obj := ⟨.type "function", none, (.func ⟨"_string_to_bytes", "_string_to_bytes", (fP (T 4)), (fB (T 4)), (fS (T 4)), 3, [], .none, .none, .none, S "pyaes.aes" 194, none, .ref 32, .none, 0⟩), #[]⟩
noncomputable def o34 (P : Params) : Obj := ⟨.type "tuple", none, (.seq #[] 0), #[]⟩
noncomputable def o35 (P : Params) : Obj := ⟨.none, none, (.fields #[]), #[]⟩
noncomputable def o36 (P : Params) : Obj := ⟨.type "tuple", none, (.seq #[S "binary" 214] 0), #[]⟩
noncomputable def o37 (P : Params) : Obj := ⟨.type "tuple", none, (.seq #[] 0), #[]⟩
noncomputable def o38 (P : Params) : Obj := ⟨.none, none, (.func ⟨"_bytes_to_string", "_bytes_to_string", (fP (T 5)), (fB (T 5)), (fS (T 5)), 0, [], .none, .none, .none, .none, none, .none, .none, 0⟩), #[]⟩
noncomputable def o39 (P : Params) : Obj := ⟨.type "code", none, (.fields #[S "_bytes_to_string" 211, S "_bytes_to_string" 212, S "/claim/cut.py" 213, .int 12 0, .int 1 0, .int 0 0, .int 0 0, .int 3 0, .ref 34, .bool true, .int 181 0, .ref 35, .none, .ref 36, .ref 37, .ref 38, .int 215 0, .int 12 0, S "/claim/cut.py" 216]), #[]⟩
noncomputable def o40 (P : Params) : Obj := ⟨.type "function", none, (.func ⟨"_bytes_to_string", "_bytes_to_string", (fP (T 5)), (fB (T 5)), (fS (T 5)), 3, [], .none, .none, .none, S "pyaes.aes" 194, none, .ref 39, .none, 0⟩), #[]⟩
noncomputable def o41 (P : Params) : Obj := ⟨.type "tuple", none, (.seq #[] 0), #[]⟩
noncomputable def o42 (P : Params) : Obj := ⟨.none, none, (.fields #[]), #[]⟩
noncomputable def o43 (P : Params) : Obj := ⟨.type "tuple", none, (.seq #[S "a" 221, S "b" 222] 0), #[]⟩
noncomputable def o44 (P : Params) : Obj := ⟨.type "tuple", none, (.seq #[] 0), #[]⟩
noncomputable def o45 (P : Params) : Obj := ⟨.none, none, (.func ⟨"_concat_list", "_concat_list", (fP (T 6)), (fB (T 6)), (fS (T 6)), 0, [], .none, .none, .none, .none, none, .none, .none, 0⟩), #[]⟩
noncomputable def o46 (P : Params) : Obj := ⟨.type "code", none, (.fields #[S "_concat_list" 218, S "_concat_list" 219, S "/claim/cut.py" 220, .int 14 0, .int 2 0, .int 0 0, .int 0 0, .int 3 0, .ref 41, .bool true, .int 181 0, .ref 42, .none, .ref 43, .ref 44, .ref 45, .int 223 0, .int 14 0, S "/claim/cut.py" 224]), #[]⟩
noncomputable def o47 (P : Params) : Obj := ⟨.type "function", none, (.func ⟨"_concat_list", "_concat_list", (fP (T 6)), (fB (T 6)), (fS (T 6)), 3, [], .none, .none, .none, S "pyaes.aes" 194, none, .ref 46, .none, 0⟩), #[]⟩
noncomputable def o12v39 (P : Params) : Obj := ⟨.none, none, (.fields #[.int 1 0, .int 0 0, .ref 20, .int 6 0, .int 0 0, .ref 27, .int 8 0, .int 0 0, .ref 32, .int 12 0, .int 0 0, .ref 39, .int 14 0, .int 0 0, .ref 46, .int 16 0, .int 0 0, .ref 53]), #[]⟩
noncomputable def o48 (P : Params) : Obj := ⟨.type "tuple", none, (.seq #[.type "object"] 0), #[]⟩
noncomputable def o49 (P : Params) : Obj := ⟨.type "builtin_function_or_method", none, (.fields #[.builtin "type.__prepare__", .type "type"]), #[]⟩
noncomputable def o50 (P : Params) : Obj := ⟨.type "dict", none, (.dict #[E P "__module__" 233 (S "pyaes.aes" 194), E P "__qualname__" 235 (S "AES" 234), E P "__firstlineno__" 237 (.int 16 236)] 3), #[]⟩
noncomputable def o51 (P : Params) : Obj := ⟨.type "tuple", none, (.seq #[] 0), #[]⟩
noncomputable def o52 (P : Params) : Obj := ⟨.none, none, (.fields #[]), #[]⟩
noncomputable def o53 (P : Params) : Obj := ⟨.type "code", none, (.fields #[S "AES" 228, S "AES" 229, S "/claim/cut.py" 230, .int 16 0, .int 0 0, .int 0 0, .int 0 0, .int 0 0, .ref 51, .bool false, .int 181 0, .ref 52, .none, .none, .none, .none, .int 231 0, .int 16 0, S "/claim/cut.py" 232]), #[]⟩
noncomputable def o54 (P : Params) : Obj := ⟨.type "frame", none, .plain, #[(some (.ref 53)), (some (.ref 3)), (some (.ref 50)), none, (some (S "pyaes.aes" 194)), none, (some (.ref 0))]⟩
noncomputable def o50v47 (P : Params) : Obj := ⟨.type "dict", none, (.dict #[E P "__module__" 233 (S "pyaes.aes" 194), E P "__qualname__" 235 (S "AES" 234), E P "__firstlineno__" 237 (.int 16 236), E P "number_of_rounds" 247 (.ref 55), E P "rcon" 278 (.ref 56)] 5), #[]⟩
noncomputable def o55 (P : Params) : Obj := ⟨.type "dict", none, (.dict #[⟨16, .int 16 238, .int 10 239⟩, ⟨24, .int 24 240, .int 12 241⟩, ⟨32, .int 32 242, .int 14 243⟩] 3), #[]⟩
noncomputable def o56 (P : Params) : Obj := ⟨.type "list", none, (.seq #[.int 1 248, .int 2 249, .int 4 250, .int 8 251, .int 16 252, .int 32 253, .int 64 254, .int 128 255, .int 27 256, .int 54 257, .int 108 258, .int 216 259, .int 171 260, .int 77 261, .int 154 262, .int 47 263, .int 94 264, .int 188 265, .int 99 266, .int 198 267, .int 151 268, .int 53 269, .int 106 270, .int 212 271, .int 179 272, .int 125 273, .int 250 274, .int 239 275, .int 197 276, .int 145 277] 0), #[]⟩
noncomputable def o50v50 (P : Params) : Obj := ⟨.type "dict", none, (.dict #[E P "__module__" 233 (S "pyaes.aes" 194), E P "__qualname__" 235 (S "AES" 234), E P "__firstlineno__" 237 (.int 16 236), E P "number_of_rounds" 247 (.ref 55), E P "rcon" 278 (.ref 56), E P "S" 535 (.ref 59)] 6), #[]⟩
noncomputable def o57 (P : Params) : Obj := ⟨.type "list", none, (.seq (tb 279 X0).toArray 0), #[]⟩
noncomputable def o58 (P : Params) : Obj := ⟨.type "list", none, (.seq (tb 407 X1).toArray 0), #[]⟩
noncomputable def o59 (P : Params) : Obj := ⟨.type "list", none, (.seq (tb 279 X0 ++ tb 407 X1).toArray 0), #[]⟩
noncomputable def o50v54 (P : Params) : Obj := ⟨.type "dict", none, (.dict #[E P "__module__" 233 (S "pyaes.aes" 194), E P "__qualname__" 235 (S "AES" 234), E P "__firstlineno__" 237 (.int 16 236), E P "number_of_rounds" 247 (.ref 55), E P "rcon" 278 (.ref 56), E P "S" 535 (.ref 59), E P "Si" 792 (.ref 62)] 7), #[]⟩
noncomputable def o60 (P : Params) : Obj := ⟨.type "list", none, (.seq (tb 536 X2).toArray 0), #[]⟩
noncomputable def o61 (P : Params) : Obj := ⟨.type "list", none, (.seq (tb 664 X3).toArray 0), #[]⟩
noncomputable def o62 (P : Params) : Obj := ⟨.type "list", none, (.seq (tb 536 X2 ++ tb 664 X3).toArray 0), #[]⟩
noncomputable def o50v58 (P : Params) : Obj := ⟨.type "dict", none, (.dict #[E P "__module__" 233 (S "pyaes.aes" 194), E P "__qualname__" 235 (S "AES" 234), E P "__firstlineno__" 237 (.int 16 236), E P "number_of_rounds" 247 (.ref 55), E P "rcon" 278 (.ref 56), E P "S" 535 (.ref 59), E P "Si" 792 (.ref 62), E P "T1" 1049 (.ref 65)] 8), #[]⟩
noncomputable def o63 (P : Params) : Obj := ⟨.type "list", none, (.seq (tb 793 X4).toArray 0), #[]⟩
noncomputable def o64 (P : Params) : Obj := ⟨.type "list", none, (.seq (tb 921 X5).toArray 0), #[]⟩
noncomputable def o65 (P : Params) : Obj := ⟨.type "list", none, (.seq (tb 793 X4 ++ tb 921 X5).toArray 0), #[]⟩
noncomputable def o50v62 (P : Params) : Obj := ⟨.type "dict", none, (.dict #[E P "__module__" 233 (S "pyaes.aes" 194), E P "__qualname__" 235 (S "AES" 234), E P "__firstlineno__" 237 (.int 16 236), E P "number_of_rounds" 247 (.ref 55), E P "rcon" 278 (.ref 56), E P "S" 535 (.ref 59), E P "Si" 792 (.ref 62), E P "T1" 1049 (.ref 65), E P "T2" 1306 (.ref 68)] 9), #[]⟩
noncomputable def o66 (P : Params) : Obj := ⟨.type "list", none, (.seq (tb 1050 X6).toArray 0), #[]⟩
noncomputable def o67 (P : Params) : Obj := ⟨.type "list", none, (.seq (tb 1178 X7).toArray 0), #[]⟩
noncomputable def o68 (P : Params) : Obj := ⟨.type "list", none, (.seq (tb 1050 X6 ++ tb 1178 X7).toArray 0), #[]⟩
noncomputable def o50v66 (P : Params) : Obj := ⟨.type "dict", none, (.dict #[E P "__module__" 233 (S "pyaes.aes" 194), E P "__qualname__" 235 (S "AES" 234), E P "__firstlineno__" 237 (.int 16 236), E P "number_of_rounds" 247 (.ref 55), E P "rcon" 278 (.ref 56), E P "S" 535 (.ref 59), E P "Si" 792 (.ref 62), E P "T1" 1049 (.ref 65), E P "T2" 1306 (.ref 68), E P "T3" 1563 (.ref 71)] 10), #[]⟩
noncomputable def o69 (P : Params) : Obj := ⟨.type "list", none, (.seq (tb 1307 X8).toArray 0), #[]⟩
noncomputable def o70 (P : Params) : Obj := ⟨.type "list", none, (.seq (tb 1435 X9).toArray 0), #[]⟩
noncomputable def o71 (P : Params) : Obj := ⟨.type "list", none, (.seq (tb 1307 X8 ++ tb 1435 X9).toArray 0), #[]⟩
noncomputable def o50v70 (P : Params) : Obj := ⟨.type "dict", none, (.dict #[E P "__module__" 233 (S "pyaes.aes" 194), E P "__qualname__" 235 (S "AES" 234), E P "__firstlineno__" 237 (.int 16 236), E P "number_of_rounds" 247 (.ref 55), E P "rcon" 278 (.ref 56), E P "S" 535 (.ref 59), E P "Si" 792 (.ref 62), E P "T1" 1049 (.ref 65), E P "T2" 1306 (.ref 68), E P "T3" 1563 (.ref 71), E P "T4" 1820 (.ref 74)] 11), #[]⟩
noncomputable def o72 (P : Params) : Obj := ⟨.type "list", none, (.seq (tb 1564 X10).toArray 0), #[]⟩
noncomputable def o73 (P : Params) : Obj := ⟨.type "list", none, (.seq (tb 1692 X11).toArray 0), #[]⟩
noncomputable def o74 (P : Params) : Obj := ⟨.type "list", none, (.seq (tb 1564 X10 ++ tb 1692 X11).toArray 0), #[]⟩
noncomputable def o50v74 (P : Params) : Obj := ⟨.type "dict", none, (.dict #[E P "__module__" 233 (S "pyaes.aes" 194), E P "__qualname__" 235 (S "AES" 234), E P "__firstlineno__" 237 (.int 16 236), E P "number_of_rounds" 247 (.ref 55), E P "rcon" 278 (.ref 56), E P "S" 535 (.ref 59), E P "Si" 792 (.ref 62), E P "T1" 1049 (.ref 65), E P "T2" 1306 (.ref 68), E P "T3" 1563 (.ref 71), E P "T4" 1820 (.ref 74), E P "T5" 2077 (.ref 77)] 12), #[]⟩
noncomputable def o75 (P : Params) : Obj := ⟨.type "list", none, (.seq (tb 1821 X12).toArray 0), #[]⟩
noncomputable def o76 (P : Params) : Obj := ⟨.type "list", none, (.seq (tb 1949 X13).toArray 0), #[]⟩
noncomputable def o77 (P : Params) : Obj := ⟨.type "list", none, (.seq (tb 1821 X12 ++ tb 1949 X13).toArray 0), #[]⟩
noncomputable def o50v78 (P : Params) : Obj := ⟨.type "dict", none, (.dict #[E P "__module__" 233 (S "pyaes.aes" 194), E P "__qualname__" 235 (S "AES" 234), E P "__firstlineno__" 237 (.int 16 236), E P "number_of_rounds" 247 (.ref 55), E P "rcon" 278 (.ref 56), E P "S" 535 (.ref 59), E P "Si" 792 (.ref 62), E P "T1" 1049 (.ref 65), E P "T2" 1306 (.ref 68), E P "T3" 1563 (.ref 71), E P "T4" 1820 (.ref 74), E P "T5" 2077 (.ref 77), E P "T6" 2334 (.ref 80)] 13), #[]⟩
noncomputable def o78 (P : Params) : Obj := ⟨.type "list", none, (.seq (tb 2078 X14).toArray 0), #[]⟩
noncomputable def o79 (P : Params) : Obj := ⟨.type "list", none, (.seq (tb 2206 X15).toArray 0), #[]⟩
noncomputable def o80 (P : Params) : Obj := ⟨.type "list", none, (.seq (tb 2078 X14 ++ tb 2206 X15).toArray 0), #[]⟩
noncomputable def o50v82 (P : Params) : Obj := ⟨.type "dict", none, (.dict #[E P "__module__" 233 (S "pyaes.aes" 194), E P "__qualname__" 235 (S "AES" 234), E P "__firstlineno__" 237 (.int 16 236), E P "number_of_rounds" 247 (.ref 55), E P "rcon" 278 (.ref 56), E P "S" 535 (.ref 59), E P "Si" 792 (.ref 62), E P "T1" 1049 (.ref 65), E P "T2" 1306 (.ref 68), E P "T3" 1563 (.ref 71), E P "T4" 1820 (.ref 74), E P "T5" 2077 (.ref 77), E P "T6" 2334 (.ref 80), E P "T7" 2591 (.ref 83)] 14), #[]⟩
noncomputable def o81 (P : Params) : Obj := ⟨.type "list", none, (.seq (tb 2335 X16).toArray 0), #[]⟩
noncomputable def o82 (P : Params) : Obj := ⟨.type "list", none, (.seq (tb 2463 X17).toArray 0), #[]⟩
noncomputable def o83 (P : Params) : Obj := ⟨.type "list", none, (.seq (tb 2335 X16 ++ tb 2463 X17).toArray 0), #[]⟩
noncomputable def o50v86 (P : Params) : Obj := ⟨.type "dict", none, (.dict #[E P "__module__" 233 (S "pyaes.aes" 194), E P "__qualname__" 235 (S "AES" 234), E P "__firstlineno__" 237 (.int 16 236), E P "number_of_rounds" 247 (.ref 55), E P "rcon" 278 (.ref 56), E P "S" 535 (.ref 59), E P "Si" 792 (.ref 62), E P "T1" 1049 (.ref 65), E P "T2" 1306 (.ref 68), E P "T3" 1563 (.ref 71), E P "T4" 1820 (.ref 74), E P "T5" 2077 (.ref 77), E P "T6" 2334 (.ref 80), E P "T7" 2591 (.ref 83), E P "T8" 2848 (.ref 86)] 15), #[]⟩
noncomputable def o84 (P : Params) : Obj := ⟨.type "list", none, (.seq (tb 2592 X18).toArray 0), #[]⟩
noncomputable def o85 (P : Params) : Obj := ⟨.type "list", none, (.seq (tb 2720 X19).toArray 0), #[]⟩
noncomputable def o86 (P : Params) : Obj := ⟨.type "list", none, (.seq (tb 2592 X18 ++ tb 2720 X19).toArray 0), #[]⟩
noncomputable def o50v90 (P : Params) : Obj := ⟨.type "dict", none, (.dict #[E P "__module__" 233 (S "pyaes.aes" 194), E P "__qualname__" 235 (S "AES" 234), E P "__firstlineno__" 237 (.int 16 236), E P "number_of_rounds" 247 (.ref 55), E P "rcon" 278 (.ref 56), E P "S" 535 (.ref 59), E P "Si" 792 (.ref 62), E P "T1" 1049 (.ref 65), E P "T2" 1306 (.ref 68), E P "T3" 1563 (.ref 71), E P "T4" 1820 (.ref 74), E P "T5" 2077 (.ref 77), E P "T6" 2334 (.ref 80), E P "T7" 2591 (.ref 83), E P "T8" 2848 (.ref 86), E P "U1" 3105 (.ref 89)] 16), #[]⟩
noncomputable def o87 (P : Params) : Obj := ⟨.type "list", none, (.seq (tb 2849 X20).toArray 0), #[]⟩
noncomputable def o88 (P : Params) : Obj := ⟨.type "list", none, (.seq (tb 2977 X21).toArray 0), #[]⟩
noncomputable def o89 (P : Params) : Obj := ⟨.type "list", none, (.seq (tb 2849 X20 ++ tb 2977 X21).toArray 0), #[]⟩
noncomputable def o50v94 (P : Params) : Obj := ⟨.type "dict", none, (.dict #[E P "__module__" 233 (S "pyaes.aes" 194), E P "__qualname__" 235 (S "AES" 234), E P "__firstlineno__" 237 (.int 16 236), E P "number_of_rounds" 247 (.ref 55), E P "rcon" 278 (.ref 56), E P "S" 535 (.ref 59), E P "Si" 792 (.ref 62), E P "T1" 1049 (.ref 65), E P "T2" 1306 (.ref 68), E P "T3" 1563 (.ref 71), E P "T4" 1820 (.ref 74), E P "T5" 2077 (.ref 77), E P "T6" 2334 (.ref 80), E P "T7" 2591 (.ref 83), E P "T8" 2848 (.ref 86), E P "U1" 3105 (.ref 89), E P "U2" 3362 (.ref 92)] 17), #[]⟩
noncomputable def o90 (P : Params) : Obj := ⟨.type "list", none, (.seq (tb 3106 X22).toArray 0), #[]⟩
noncomputable def o91 (P : Params) : Obj := ⟨.type "list", none, (.seq (tb 3234 X23).toArray 0), #[]⟩
noncomputable def o92 (P : Params) : Obj := ⟨.type "list", none, (.seq (tb 3106 X22 ++ tb 3234 X23).toArray 0), #[]⟩
noncomputable def o50v98 (P : Params) : Obj := ⟨.type "dict", none, (.dict #[E P "__module__" 233 (S "pyaes.aes" 194), E P "__qualname__" 235 (S "AES" 234), E P "__firstlineno__" 237 (.int 16 236), E P "number_of_rounds" 247 (.ref 55), E P "rcon" 278 (.ref 56), E P "S" 535 (.ref 59), E P "Si" 792 (.ref 62), E P "T1" 1049 (.ref 65), E P "T2" 1306 (.ref 68), E P "T3" 1563 (.ref 71), E P "T4" 1820 (.ref 74), E P "T5" 2077 (.ref 77), E P "T6" 2334 (.ref 80), E P "T7" 2591 (.ref 83), E P "T8" 2848 (.ref 86), E P "U1" 3105 (.ref 89), E P "U2" 3362 (.ref 92), E P "U3" 3619 (.ref 95)] 18), #[]⟩
noncomputable def o93 (P : Params) : Obj := ⟨.type "list", none, (.seq (tb 3363 X24).toArray 0), #[]⟩
noncomputable def o94 (P : Params) : Obj := ⟨.type "list", none, (.seq (tb 3491 X25).toArray 0), #[]⟩
noncomputable def o95 (P : Params) : Obj := ⟨.type "list", none, (.seq (tb 3363 X24 ++ tb 3491 X25).toArray 0), #[]⟩
noncomputable def o50v102 (P : Params) : Obj := ⟨.type "dict", none, (.dict #[E P "__module__" 233 (S "pyaes.aes" 194), E P "__qualname__" 235 (S "AES" 234), E P "__firstlineno__" 237 (.int 16 236), E P "number_of_rounds" 247 (.ref 55), E P "rcon" 278 (.ref 56), E P "S" 535 (.ref 59), E P "Si" 792 (.ref 62), E P "T1" 1049 (.ref 65), E P "T2" 1306 (.ref 68), E P "T3" 1563 (.ref 71), E P "T4" 1820 (.ref 74), E P "T5" 2077 (.ref 77), E P "T6" 2334 (.ref 80), E P "T7" 2591 (.ref 83), E P "T8" 2848 (.ref 86), E P "U1" 3105 (.ref 89), E P "U2" 3362 (.ref 92), E P "U3" 3619 (.ref 95), E P "U4" 3876 (.ref 98), E P "__init__" 3882 (.ref 103)] 20), #[]⟩
noncomputable def o52v103 (P : Params) : Obj := ⟨.none, none, (.fields #[.int 34 0, .int 4 0, .ref 102]), #[]⟩
noncomputable def o96 (P : Params) : Obj := ⟨.type "list", none, (.seq (tb 3620 X26).toArray 0), #[]⟩
noncomputable def o97 (P : Params) : Obj := ⟨.type "list", none, (.seq (tb 3748 X27).toArray 0), #[]⟩
noncomputable def o98 (P : Params) : Obj := ⟨.type "list", none, (.seq (tb 3620 X26 ++ tb 3748 X27).toArray 0), #[]⟩
noncomputable def o99 (P : Params) : Obj := ⟨.type "tuple", none, (.seq #[] 0), #[]⟩
noncomputable def o100 (P : Params) : Obj := ⟨.none, none, (.fields #[]), #[]⟩
noncomputable def o101 (P : Params) : Obj := ⟨.none, none, (.func ⟨"__init__", "AES.__init__", (fP (M 7 16)), (fB (M 7 16)), (fS (M 7 16)), 0, [], .none, .none, .none, .none, none, .none, .none, 0⟩), #[]⟩
noncomputable def o102 (P : Params) : Obj := ⟨.type "code", none, (.fields #[S "__init__" 3877, S "AES.__init__" 3878, S "/claim/cut.py" 3879, .int 34 0, .int 2 0, .int 0 0, .int 0 0, .int 3 0, .ref 99, .bool true, .int 181 0, .ref 100, .none, .none, .none, .ref 101, .int 3880 0, .int 34 0, S "/claim/cut.py" 3881]), #[]⟩
noncomputable def o103 (P : Params) : Obj := ⟨.type "function", none, (.func ⟨"__init__", "AES.__init__", (fP (M 7 16)), (fB (M 7 16)), (fS (M 7 16)), 3, [], .none, .none, .none, S "pyaes.aes" 194, none, .ref 102, .none, 0⟩), #[]⟩
noncomputable def o50v112 (P : Params) : Obj := ⟨.type "dict", none, (.dict #[E P "__module__" 233 (S "pyaes.aes" 194), E P "__qualname__" 235 (S "AES" 234), E P "__firstlineno__" 237 (.int 16 236), E P "number_of_rounds" 247 (.ref 55), E P "rcon" 278 (.ref 56), E P "S" 535 (.ref 59), E P "Si" 792 (.ref 62), E P "T1" 1049 (.ref 65), E P "T2" 1306 (.ref 68), E P "T3" 1563 (.ref 71), E P "T4" 1820 (.ref 74), E P "T5" 2077 (.ref 77), E P "T6" 2334 (.ref 80), E P "T7" 2591 (.ref 83), E P "T8" 2848 (.ref 86), E P "U1" 3105 (.ref 89), E P "U2" 3362 (.ref 92), E P "U3" 3619 (.ref 95), E P "U4" 3876 (.ref 98), E P "__init__" 3882 (.ref 103), E P "encrypt" 3888 (.ref 108), E P "decrypt" 3894 (.ref 113)] 22), #[]⟩
noncomputable def o52v113 (P : Params) : Obj := ⟨.none, none, (.fields #[.int 34 0, .int 4 0, .ref 102, .int 73 0, .int 4 0, .ref 107, .int 93 0, .int 4 0, .ref 112]), #[]⟩
noncomputable def o104 (P : Params) : Obj := ⟨.type "tuple", none, (.seq #[] 0), #[]⟩
noncomputable def o105 (P : Params) : Obj := ⟨.none, none, (.fields #[]), #[]⟩
noncomputable def o106 (P : Params) : Obj := ⟨.none, none, (.func ⟨"encrypt", "AES.encrypt", (fP (M 7 17)), (fB (M 7 17)), (fS (M 7 17)), 0, [], .none, .none, .none, .none, none, .none, .none, 0⟩), #[]⟩
noncomputable def o107 (P : Params) : Obj := ⟨.type "code", none, (.fields #[S "encrypt" 3883, S "AES.encrypt" 3884, S "/claim/cut.py" 3885, .int 73 0, .int 2 0, .int 0 0, .int 0 0, .int 3 0, .ref 104, .bool true, .int 181 0, .ref 105, .none, .none, .none, .ref 106, .int 3886 0, .int 73 0, S "/claim/cut.py" 3887]), #[]⟩
noncomputable def o108 (P : Params) : Obj := ⟨.type "function", none, (.func ⟨"encrypt", "AES.encrypt", (fP (M 7 17)), (fB (M 7 17)), (fS (M 7 17)), 3, [], .none, .none, .none, S "pyaes.aes" 194, none, .ref 107, .none, 0⟩), #[]⟩
noncomputable def o109 (P : Params) : Obj := ⟨.type "tuple", none, (.seq #[] 0), #[]⟩
noncomputable def o110 (P : Params) : Obj := ⟨.none, none, (.fields #[]), #[]⟩
noncomputable def o111 (P : Params) : Obj := ⟨.none, none, (.func ⟨"decrypt", "AES.decrypt", (fP (M 7 18)), (fB (M 7 18)), (fS (M 7 18)), 0, [], .none, .none, .none, .none, none, .none, .none, 0⟩), #[]⟩
noncomputable def o112 (P : Params) : Obj := ⟨.type "code", none, (.fields #[S "decrypt" 3889, S "AES.decrypt" 3890, S "/claim/cut.py" 3891, .int 93 0, .int 2 0, .int 0 0, .int 0 0, .int 3 0, .ref 109, .bool true, .int 181 0, .ref 110, .none, .none, .none, .ref 111, .int 3892 0, .int 93 0, S "/claim/cut.py" 3893]), #[]⟩
noncomputable def o113 (P : Params) : Obj := ⟨.type "function", none, (.func ⟨"decrypt", "AES.decrypt", (fP (M 7 18)), (fB (M 7 18)), (fS (M 7 18)), 3, [], .none, .none, .none, S "pyaes.aes" 194, none, .ref 112, .none, 0⟩), #[]⟩
noncomputable def o3v124 (P : Params) : Obj := ⟨.type "dict", none, (.dict #[E P "__name__" 165 (S "pyaes.aes" 194), E P "__doc__" 166 (.none), E P "__package__" 167 (.none), E P "__loader__" 168 (.builtin "__main__.__loader__#opaque"), E P "__spec__" 169 (.none), E P "__annotations__" 170 (.ref 6), E P "__builtins__" 171 (.ref 4), E P "__file__" 173 (S "/claim/cut.py" 172), E P "__cached__" 174 (.none), E P "_wall" 193 (.ref 21), E P "PADDING_DEFAULT" 197 (S "default" 196), E P "_compact_word" 204 (.ref 28), E P "_string_to_bytes" 210 (.ref 33), E P "_bytes_to_string" 217 (.ref 40), E P "_concat_list" 225 (.ref 47), E P "AES" 3904 (.ref 116)] 16), #[]⟩
noncomputable def o50v125 (P : Params) : Obj := ⟨.type "dict", none, (.dict #[E P "__module__" 233 (S "pyaes.aes" 194), E P "__qualname__" 235 (S "AES" 234), E P "__firstlineno__" 237 (.int 16 236), E P "number_of_rounds" 247 (.ref 55), E P "rcon" 278 (.ref 56), E P "S" 535 (.ref 59), E P "Si" 792 (.ref 62), E P "T1" 1049 (.ref 65), E P "T2" 1306 (.ref 68), E P "T3" 1563 (.ref 71), E P "T4" 1820 (.ref 74), E P "T5" 2077 (.ref 77), E P "T6" 2334 (.ref 80), E P "T7" 2591 (.ref 83), E P "T8" 2848 (.ref 86), E P "U1" 3105 (.ref 89), E P "U2" 3362 (.ref 92), E P "U3" 3619 (.ref 95), E P "U4" 3876 (.ref 98), E P "__init__" 3882 (.ref 103), E P "encrypt" 3888 (.ref 108), E P "decrypt" 3894 (.ref 113), E P "__static_attributes__" 3897 (.ref 114)] 23), #[]⟩
noncomputable def o114 (P : Params) : Obj := ⟨.type "tuple", none, (.seq #[S "_Kd" 3895, S "_Ke" 3896] 0), #[]⟩
noncomputable def o115 (P : Params) : Obj := ⟨.type "dict", none, (.dict #[E P "__module__" 233 (S "pyaes.aes" 194), E P "__firstlineno__" 237 (.int 16 236), E P "number_of_rounds" 247 (.ref 55), E P "rcon" 278 (.ref 56), E P "S" 535 (.ref 59), E P "Si" 792 (.ref 62), E P "T1" 1049 (.ref 65), E P "T2" 1306 (.ref 68), E P "T3" 1563 (.ref 71), E P "T4" 1820 (.ref 74), E P "T5" 2077 (.ref 77), E P "T6" 2334 (.ref 80), E P "T7" 2591 (.ref 83), E P "T8" 2848 (.ref 86), E P "U1" 3105 (.ref 89), E P "U2" 3362 (.ref 92), E P "U3" 3619 (.ref 95), E P "U4" 3876 (.ref 98), E P "__init__" 3882 (.ref 103), E P "encrypt" 3888 (.ref 108), E P "decrypt" 3894 (.ref 113), E P "__static_attributes__" 3897 (.ref 114), E P "__dict__" 3899 (.ref 117), E P "__weakref__" 3901 (.ref 118), E P "__doc__" 3902 (.none)] 4), #[]⟩
noncomputable def o116 (P : Params) : Obj := ⟨.type "type", none, (.cls ⟨"AES", [.type "object"], [.ref 116, .type "object"], 115, "AES", true, [], [], false, none, false⟩), #[(some (.ref 48)), none, (some (S "AES" 226)), (some (S "AES" 234)), (some (.builtin "object.__new__")), (some (.bool true))]⟩
noncomputable def o117 (P : Params) : Obj := ⟨.type "getset_descriptor", none, (.fields #[S "__dict__" 3898, .ref 116, .builtin "function.__dict__", .builtin "function.__dict__#set"]), #[]⟩
noncomputable def o118 (P : Params) : Obj := ⟨.type "getset_descriptor", none, (.fields #[S "__weakref__" 3900, .ref 116, .builtin "ExceptionGroup.__weakref__", .none]), #[]⟩
noncomputable def o119 (P : Params) : Obj := ⟨.type "super", none, (.fields #[.ref 116, .ref 116, .ref 116]), #[]⟩
noncomputable def o120 (P : Params) : Obj := ⟨.type "builtin_function_or_method", none, (.fields #[.builtin "object.__init_subclass__", .ref 116]), #[]⟩
noncomputable def o3v133 (P : Params) : Obj := ⟨.type "dict", none, (.dict #[E P "__name__" 165 (S "pyaes.aes" 194), E P "__doc__" 166 (.none), E P "__package__" 167 (.none), E P "__loader__" 168 (.builtin "__main__.__loader__#opaque"), E P "__spec__" 169 (.none), E P "__annotations__" 170 (.ref 6), E P "__builtins__" 171 (.ref 4), E P "__file__" 173 (S "/claim/cut.py" 172), E P "__cached__" 174 (.none), E P "_wall" 193 (.ref 21), E P "PADDING_DEFAULT" 197 (S "default" 196), E P "_compact_word" 204 (.ref 28), E P "_string_to_bytes" 210 (.ref 33), E P "_bytes_to_string" 217 (.ref 40), E P "_concat_list" 225 (.ref 47), E P "AES" 3904 (.ref 116), E P "Counter" 3948 (.ref 151)] 17), #[]⟩
noncomputable def o12v134 (P : Params) : Obj := ⟨.none, none, (.fields #[.int 1 0, .int 0 0, .ref 20, .int 6 0, .int 0 0, .ref 27, .int 8 0, .int 0 0, .ref 32, .int 12 0, .int 0 0, .ref 39, .int 14 0, .int 0 0, .ref 46, .int 16 0, .int 0 0, .ref 53, .int 112 0, .int 0 0, .ref 126]), #[]⟩
noncomputable def o121 (P : Params) : Obj := ⟨.type "tuple", none, (.seq #[.type "object"] 0), #[]⟩
noncomputable def o122 (P : Params) : Obj := ⟨.type "builtin_function_or_method", none, (.fields #[.builtin "type.__prepare__", .type "type"]), #[]⟩
noncomputable def o123 (P : Params) : Obj := ⟨.type "dict", none, (.dict #[E P "__module__" 3912 (S "pyaes.aes" 194), E P "__qualname__" 3914 (S "Counter" 3913), E P "__firstlineno__" 3916 (.int 112 3915), E P "__init__" 3923 (.ref 133), E P "value" 3931 (.ref 141), E P "increment" 3939 (.ref 148), E P "__static_attributes__" 3941 (.ref 149)] 7), #[]⟩
noncomputable def o124 (P : Params) : Obj := ⟨.type "tuple", none, (.seq #[] 0), #[]⟩
noncomputable def o125 (P : Params) : Obj := ⟨.none, none, (.fields #[.int 114 0, .int 4 0, .ref 132, .int 116 0, .int 21 0, .ref 139, .int 118 0, .int 4 0, .ref 147]), #[]⟩
noncomputable def o126 (P : Params) : Obj := ⟨.type "code", none, (.fields #[S "Counter" 3907, S "Counter" 3908, S "/claim/cut.py" 3909, .int 112 0, .int 0 0, .int 0 0, .int 0 0, .int 0 0, .ref 124, .bool false, .int 181 0, .ref 125, .none, .none, .none, .none, .int 3910 0, .int 112 0, S "/claim/cut.py" 3911]), #[]⟩
noncomputable def o127 (P : Params) : Obj := ⟨.type "frame", none, .plain, #[(some (.ref 126)), (some (.ref 3)), (some (.ref 123)), none, (some (S "pyaes.aes" 194)), none, (some (.ref 0))]⟩
noncomputable def o128 (P : Params) : Obj := ⟨.type "tuple", none, (.seq #[.int 1 3917] 0), #[]⟩
noncomputable def o129 (P : Params) : Obj := ⟨.type "tuple", none, (.seq #[] 0), #[]⟩
noncomputable def o130 (P : Params) : Obj := ⟨.none, none, (.fields #[]), #[]⟩
noncomputable def o131 (P : Params) : Obj := ⟨.none, none, (.func ⟨"__init__", "Counter.__init__", (fP (M 8 0)), (fB (M 8 0)), (fS (M 8 0)), 0, [], .none, .none, .none, .none, none, .none, .none, 0⟩), #[]⟩
noncomputable def o132 (P : Params) : Obj := ⟨.type "code", none, (.fields #[S "__init__" 3918, S "Counter.__init__" 3919, S "/claim/cut.py" 3920, .int 114 0, .int 2 0, .int 0 0, .int 0 0, .int 3 0, .ref 129, .bool true, .int 181 0, .ref 130, .none, .none, .none, .ref 131, .int 3921 0, .int 114 0, S "/claim/cut.py" 3922]), #[]⟩
noncomputable def o133 (P : Params) : Obj := ⟨.type "function", none, (.func ⟨"__init__", "Counter.__init__", (fP (M 8 0)), (fB (M 8 0)), (fS (M 8 0)), 3, [], .ref 128, .none, .none, S "pyaes.aes" 194, none, .ref 132, .none, 0⟩), #[]⟩
noncomputable def o134 (P : Params) : Obj := ⟨.type "tuple", none, (.seq #[] 0), #[]⟩
noncomputable def o135 (P : Params) : Obj := ⟨.none, none, (.fields #[]), #[]⟩
noncomputable def o136 (P : Params) : Obj := ⟨.type "tuple", none, (.seq #[S "s" 3927] 0), #[]⟩
noncomputable def o137 (P : Params) : Obj := ⟨.type "tuple", none, (.seq #[] 0), #[]⟩
noncomputable def o138 (P : Params) : Obj := ⟨.none, none, (.func ⟨"<lambda>", "Counter.<lambda>", (lA (M 8 1)), (lB (M 8 1)), (lS (M 8 1)), 0, [], .none, .none, .none, .none, none, .none, .none, 0⟩), #[]⟩
noncomputable def o139 (P : Params) : Obj := ⟨.type "code", none, (.fields #[S "<lambda>" 3924, S "Counter.<lambda>" 3925, S "/claim/cut.py" 3926, .int 116 0, .int 1 0, .int 0 0, .int 0 0, .int 3 0, .ref 134, .bool true, .int 181 0, .ref 135, .none, .ref 136, .ref 137, .ref 138, .int 3928 0, .int 116 0, S "/claim/cut.py" 3929]), #[]⟩
noncomputable def o140 (P : Params) : Obj := ⟨.type "function", none, (.func ⟨"<lambda>", "Counter.<lambda>", (lA (M 8 1)), (lB (M 8 1)), (lS (M 8 1)), 3, [], .none, .none, .none, S "pyaes.aes" 194, none, .ref 139, .none, 0⟩), #[]⟩
noncomputable def o141 (P : Params) : Obj := ⟨.type "property", none, (.fields #[.ref 140, .none, .none, .none, S "value" 3931, .bool false]), #[]⟩
noncomputable def o142 (P : Params) : Obj := ⟨.type "tuple", none, (.seq #[] 0), #[]⟩
noncomputable def o143 (P : Params) : Obj := ⟨.none, none, (.fields #[]), #[]⟩
noncomputable def o144 (P : Params) : Obj := ⟨.type "tuple", none, (.seq #[S "self" 3935, S "i" 3936] 0), #[]⟩
noncomputable def o145 (P : Params) : Obj := ⟨.type "tuple", none, (.seq #[] 0), #[]⟩
noncomputable def o146 (P : Params) : Obj := ⟨.none, none, (.func ⟨"increment", "Counter.increment", (fP (M 8 2)), (fB (M 8 2)), (fS (M 8 2)), 0, [], .none, .none, .none, .none, none, .none, .none, 0⟩), #[]⟩
noncomputable def o147 (P : Params) : Obj := ⟨.type "code", none, (.fields #[S "increment" 3932, S "Counter.increment" 3933, S "/claim/cut.py" 3934, .int 118 0, .int 1 0, .int 0 0, .int 0 0, .int 3 0, .ref 142, .bool true, .int 181 0, .ref 143, .none, .ref 144, .ref 145, .ref 146, .int 3937 0, .int 118 0, S "/claim/cut.py" 3938]), #[]⟩
noncomputable def o148 (P : Params) : Obj := ⟨.type "function", none, (.func ⟨"increment", "Counter.increment", (fP (M 8 2)), (fB (M 8 2)), (fS (M 8 2)), 3, [], .none, .none, .none, S "pyaes.aes" 194, none, .ref 147, .none, 0⟩), #[]⟩
noncomputable def o149 (P : Params) : Obj := ⟨.type "tuple", none, (.seq #[S "_counter" 3940] 0), #[]⟩
noncomputable def o150 (P : Params) : Obj := ⟨.type "dict", none, (.dict #[E P "__module__" 3912 (S "pyaes.aes" 194), E P "__firstlineno__" 3916 (.int 112 3915), E P "__init__" 3923 (.ref 133), E P "value" 3931 (.ref 141), E P "increment" 3939 (.ref 148), E P "__static_attributes__" 3941 (.ref 149), E P "__dict__" 3943 (.ref 152), E P "__weakref__" 3945 (.ref 153), E P "__doc__" 3946 (.none)] 4), #[]⟩
noncomputable def o151 (P : Params) : Obj := ⟨.type "type", none, (.cls ⟨"Counter", [.type "object"], [.ref 151, .type "object"], 150, "Counter", true, [], [], false, none, false⟩), #[(some (.ref 121)), none, (some (S "Counter" 3905)), (some (S "Counter" 3913)), (some (.builtin "object.__new__")), (some (.bool true))]⟩
noncomputable def o152 (P : Params) : Obj := ⟨.type "getset_descriptor", none, (.fields #[S "__dict__" 3942, .ref 151, .builtin "function.__dict__", .builtin "function.__dict__#set"]), #[]⟩
noncomputable def o153 (P : Params) : Obj := ⟨.type "getset_descriptor", none, (.fields #[S "__weakref__" 3944, .ref 151, .builtin "ExceptionGroup.__weakref__", .none]), #[]⟩
noncomputable def o154 (P : Params) : Obj := ⟨.type "super", none, (.fields #[.ref 151, .ref 151, .ref 151]), #[]⟩
noncomputable def o155 (P : Params) : Obj := ⟨.type "builtin_function_or_method", none, (.fields #[.builtin "object.__init_subclass__", .ref 151]), #[]⟩
noncomputable def o3v170 (P : Params) : Obj := ⟨.type "dict", none, (.dict #[E P "__name__" 165 (S "pyaes.aes" 194), E P "__doc__" 166 (.none), E P "__package__" 167 (.none), E P "__loader__" 168 (.builtin "__main__.__loader__#opaque"), E P "__spec__" 169 (.none), E P "__annotations__" 170 (.ref 6), E P "__builtins__" 171 (.ref 4), E P "__file__" 173 (S "/claim/cut.py" 172), E P "__cached__" 174 (.none), E P "_wall" 193 (.ref 21), E P "PADDING_DEFAULT" 197 (S "default" 196), E P "_compact_word" 204 (.ref 28), E P "_string_to_bytes" 210 (.ref 33), E P "_bytes_to_string" 217 (.ref 40), E P "_concat_list" 225 (.ref 47), E P "AES" 3904 (.ref 116), E P "Counter" 3948 (.ref 151), E P "AESBlockModeOfOperation" 4019 (.ref 209)] 18), #[]⟩
noncomputable def o12v171 (P : Params) : Obj := ⟨.none, none, (.fields #[.int 1 0, .int 0 0, .ref 20, .int 6 0, .int 0 0, .ref 27, .int 8 0, .int 0 0, .ref 32, .int 12 0, .int 0 0, .ref 39, .int 14 0, .int 0 0, .ref 46, .int 16 0, .int 0 0, .ref 53, .int 112 0, .int 0 0, .ref 126, .int 126 0, .int 0 0, .ref 161]), #[]⟩
noncomputable def o156 (P : Params) : Obj := ⟨.type "tuple", none, (.seq #[.type "object"] 0), #[]⟩
noncomputable def o157 (P : Params) : Obj := ⟨.type "builtin_function_or_method", none, (.fields #[.builtin "type.__prepare__", .type "type"]), #[]⟩
noncomputable def o158 (P : Params) : Obj := ⟨.type "dict", none, (.dict #[E P "__module__" 3956 (S "pyaes.aes" 194), E P "__qualname__" 3958 (S "AESBlockModeOfOperation" 3957), E P "__firstlineno__" 3960 (.int 126 3959), E P "__init__" 3968 (.ref 169), E P "decrypt" 3976 (.ref 176), E P "encrypt" 3984 (.ref 183), E P "_can_consume" 3992 (.ref 190), E P "_final_encrypt" 4001 (.ref 198), E P "_final_decrypt" 4010 (.ref 206), E P "__static_attributes__" 4012 (.ref 207)] 10), #[]⟩
noncomputable def o159 (P : Params) : Obj := ⟨.type "tuple", none, (.seq #[] 0), #[]⟩
noncomputable def o160 (P : Params) : Obj := ⟨.none, none, (.fields #[.int 128 0, .int 4 0, .ref 168, .int 131 0, .int 4 0, .ref 175, .int 134 0, .int 4 0, .ref 182, .int 137 0, .int 4 0, .ref 189, .int 140 0, .int 4 0, .ref 197, .int 143 0, .int 4 0, .ref 205]), #[]⟩
noncomputable def o161 (P : Params) : Obj := ⟨.type "code", none, (.fields #[S "AESBlockModeOfOperation" 3951, S "AESBlockModeOfOperation" 3952, S "/claim/cut.py" 3953, .int 126 0, .int 0 0, .int 0 0, .int 0 0, .int 0 0, .ref 159, .bool false, .int 181 0, .ref 160, .none, .none, .none, .none, .int 3954 0, .int 126 0, S "/claim/cut.py" 3955]), #[]⟩
noncomputable def o162 (P : Params) : Obj := ⟨.type "frame", none, .plain, #[(some (.ref 161)), (some (.ref 3)), (some (.ref 158)), none, (some (S "pyaes.aes" 194)), none, (some (.ref 0))]⟩
noncomputable def o163 (P : Params) : Obj := ⟨.type "tuple", none, (.seq #[] 0), #[]⟩
noncomputable def o164 (P : Params) : Obj := ⟨.none, none, (.fields #[]), #[]⟩
noncomputable def o165 (P : Params) : Obj := ⟨.type "tuple", none, (.seq #[S "self" 3964, S "key" 3965] 0), #[]⟩
noncomputable def o166 (P : Params) : Obj := ⟨.type "tuple", none, (.seq #[] 0), #[]⟩
noncomputable def o167 (P : Params) : Obj := ⟨.none, none, (.func ⟨"__init__", "AESBlockModeOfOperation.__init__", (fP (M 9 0)), (fB (M 9 0)), (fS (M 9 0)), 0, [], .none, .none, .none, .none, none, .none, .none, 0⟩), #[]⟩
noncomputable def o168 (P : Params) : Obj := ⟨.type "code", none, (.fields #[S "__init__" 3961, S "AESBlockModeOfOperation.__init__" 3962, S "/claim/cut.py" 3963, .int 128 0, .int 2 0, .int 0 0, .int 0 0, .int 3 0, .ref 163, .bool true, .int 181 0, .ref 164, .none, .ref 165, .ref 166, .ref 167, .int 3966 0, .int 128 0, S "/claim/cut.py" 3967]), #[]⟩
noncomputable def o169 (P : Params) : Obj := ⟨.type "function", none, (.func ⟨"__init__", "AESBlockModeOfOperation.__init__", (fP (M 9 0)), (fB (M 9 0)), (fS (M 9 0)), 3, [], .none, .none, .none, S "pyaes.aes" 194, none, .ref 168, .none, 0⟩), #[]⟩
noncomputable def o170 (P : Params) : Obj := ⟨.type "tuple", none, (.seq #[] 0), #[]⟩
noncomputable def o171 (P : Params) : Obj := ⟨.none, none, (.fields #[]), #[]⟩
noncomputable def o172 (P : Params) : Obj := ⟨.type "tuple", none, (.seq #[S "self" 3972, S "ciphertext" 3973] 0), #[]⟩
noncomputable def o173 (P : Params) : Obj := ⟨.type "tuple", none, (.seq #[] 0), #[]⟩
noncomputable def o174 (P : Params) : Obj := ⟨.none, none, (.func ⟨"decrypt", "AESBlockModeOfOperation.decrypt", (fP (M 9 1)), (fB (M 9 1)), (fS (M 9 1)), 0, [], .none, .none, .none, .none, none, .none, .none, 0⟩), #[]⟩
noncomputable def o175 (P : Params) : Obj := ⟨.type "code", none, (.fields #[S "decrypt" 3969, S "AESBlockModeOfOperation.decrypt" 3970, S "/claim/cut.py" 3971, .int 131 0, .int 2 0, .int 0 0, .int 0 0, .int 3 0, .ref 170, .bool true, .int 181 0, .ref 171, .none, .ref 172, .ref 173, .ref 174, .int 3974 0, .int 131 0, S "/claim/cut.py" 3975]), #[]⟩
noncomputable def o176 (P : Params) : Obj := ⟨.type "function", none, (.func ⟨"decrypt", "AESBlockModeOfOperation.decrypt", (fP (M 9 1)), (fB (M 9 1)), (fS (M 9 1)), 3, [], .none, .none, .none, S "pyaes.aes" 194, none, .ref 175, .none, 0⟩), #[]⟩
noncomputable def o177 (P : Params) : Obj := ⟨.type "tuple", none, (.seq #[] 0), #[]⟩
noncomputable def o178 (P : Params) : Obj := ⟨.none, none, (.fields #[]), #[]⟩
noncomputable def o179 (P : Params) : Obj := ⟨.type "tuple", none, (.seq #[S "self" 3980, S "plaintext" 3981] 0), #[]⟩
noncomputable def o180 (P : Params) : Obj := ⟨.type "tuple", none, (.seq #[] 0), #[]⟩
noncomputable def o181 (P : Params) : Obj := ⟨.none, none, (.func ⟨"encrypt", "AESBlockModeOfOperation.encrypt", (fP (M 9 2)), (fB (M 9 2)), (fS (M 9 2)), 0, [], .none, .none, .none, .none, none, .none, .none, 0⟩), #[]⟩
noncomputable def o182 (P : Params) : Obj := ⟨.type "code", none, (.fields #[S "encrypt" 3977, S "AESBlockModeOfOperation.encrypt" 3978, S "/claim/cut.py" 3979, .int 134 0, .int 2 0, .int 0 0, .int 0 0, .int 3 0, .ref 177, .bool true, .int 181 0, .ref 178, .none, .ref 179, .ref 180, .ref 181, .int 3982 0, .int 134 0, S "/claim/cut.py" 3983]), #[]⟩
noncomputable def o183 (P : Params) : Obj := ⟨.type "function", none, (.func ⟨"encrypt", "AESBlockModeOfOperation.encrypt", (fP (M 9 2)), (fB (M 9 2)), (fS (M 9 2)), 3, [], .none, .none, .none, S "pyaes.aes" 194, none, .ref 182, .none, 0⟩), #[]⟩
noncomputable def o184 (P : Params) : Obj := ⟨.type "tuple", none, (.seq #[] 0), #[]⟩
noncomputable def o185 (P : Params) : Obj := ⟨.none, none, (.fields #[]), #[]⟩
noncomputable def o186 (P : Params) : Obj := ⟨.type "tuple", none, (.seq #[S "self" 3988, S "size" 3989] 0), #[]⟩
noncomputable def o187 (P : Params) : Obj := ⟨.type "tuple", none, (.seq #[] 0), #[]⟩
noncomputable def o188 (P : Params) : Obj := ⟨.none, none, (.func ⟨"_can_consume", "AESBlockModeOfOperation._can_consume", (fP (M 9 3)), (fB (M 9 3)), (fS (M 9 3)), 0, [], .none, .none, .none, .none, none, .none, .none, 0⟩), #[]⟩
noncomputable def o189 (P : Params) : Obj := ⟨.type "code", none, (.fields #[S "_can_consume" 3985, S "AESBlockModeOfOperation._can_consume" 3986, S "/claim/cut.py" 3987, .int 137 0, .int 2 0, .int 0 0, .int 0 0, .int 3 0, .ref 184, .bool true, .int 181 0, .ref 185, .none, .ref 186, .ref 187, .ref 188, .int 3990 0, .int 137 0, S "/claim/cut.py" 3991]), #[]⟩
noncomputable def o190 (P : Params) : Obj := ⟨.type "function", none, (.func ⟨"_can_consume", "AESBlockModeOfOperation._can_consume", (fP (M 9 3)), (fB (M 9 3)), (fS (M 9 3)), 3, [], .none, .none, .none, S "pyaes.aes" 194, none, .ref 189, .none, 0⟩), #[]⟩
noncomputable def o191 (P : Params) : Obj := ⟨.type "tuple", none, (.seq #[S "default" 196] 0), #[]⟩
noncomputable def o192 (P : Params) : Obj := ⟨.type "tuple", none, (.seq #[] 0), #[]⟩
noncomputable def o193 (P : Params) : Obj := ⟨.none, none, (.fields #[]), #[]⟩
noncomputable def o194 (P : Params) : Obj := ⟨.type "tuple", none, (.seq #[S "self" 3996, S "data" 3997, S "padding" 3998] 0), #[]⟩
noncomputable def o195 (P : Params) : Obj := ⟨.type "tuple", none, (.seq #[] 0), #[]⟩
noncomputable def o196 (P : Params) : Obj := ⟨.none, none, (.func ⟨"_final_encrypt", "AESBlockModeOfOperation._final_encrypt", (fP (M 9 4)), (fB (M 9 4)), (fS (M 9 4)), 0, [], .none, .none, .none, .none, none, .none, .none, 0⟩), #[]⟩
noncomputable def o197 (P : Params) : Obj := ⟨.type "code", none, (.fields #[S "_final_encrypt" 3993, S "AESBlockModeOfOperation._final_encrypt" 3994, S "/claim/cut.py" 3995, .int 140 0, .int 3 0, .int 0 0, .int 0 0, .int 3 0, .ref 192, .bool true, .int 181 0, .ref 193, .none, .ref 194, .ref 195, .ref 196, .int 3999 0, .int 140 0, S "/claim/cut.py" 4000]), #[]⟩
noncomputable def o198 (P : Params) : Obj := ⟨.type "function", none, (.func ⟨"_final_encrypt", "AESBlockModeOfOperation._final_encrypt", (fP (M 9 4)), (fB (M 9 4)), (fS (M 9 4)), 3, [], .ref 191, .none, .none, S "pyaes.aes" 194, none, .ref 197, .none, 0⟩), #[]⟩
noncomputable def o199 (P : Params) : Obj := ⟨.type "tuple", none, (.seq #[S "default" 196] 0), #[]⟩
noncomputable def o200 (P : Params) : Obj := ⟨.type "tuple", none, (.seq #[] 0), #[]⟩
noncomputable def o201 (P : Params) : Obj := ⟨.none, none, (.fields #[]), #[]⟩
noncomputable def o202 (P : Params) : Obj := ⟨.type "tuple", none, (.seq #[S "self" 4005, S "data" 4006, S "padding" 4007] 0), #[]⟩
noncomputable def o203 (P : Params) : Obj := ⟨.type "tuple", none, (.seq #[] 0), #[]⟩
noncomputable def o204 (P : Params) : Obj := ⟨.none, none, (.func ⟨"_final_decrypt", "AESBlockModeOfOperation._final_decrypt", (fP (M 9 5)), (fB (M 9 5)), (fS (M 9 5)), 0, [], .none, .none, .none, .none, none, .none, .none, 0⟩), #[]⟩
noncomputable def o205 (P : Params) : Obj := ⟨.type "code", none, (.fields #[S "_final_decrypt" 4002, S "AESBlockModeOfOperation._final_decrypt" 4003, S "/claim/cut.py" 4004, .int 143 0, .int 3 0, .int 0 0, .int 0 0, .int 3 0, .ref 200, .bool true, .int 181 0, .ref 201, .none, .ref 202, .ref 203, .ref 204, .int 4008 0, .int 143 0, S "/claim/cut.py" 4009]), #[]⟩
noncomputable def o206 (P : Params) : Obj := ⟨.type "function", none, (.func ⟨"_final_decrypt", "AESBlockModeOfOperation._final_decrypt", (fP (M 9 5)), (fB (M 9 5)), (fS (M 9 5)), 3, [], .ref 199, .none, .none, S "pyaes.aes" 194, none, .ref 205, .none, 0⟩), #[]⟩
noncomputable def o207 (P : Params) : Obj := ⟨.type "tuple", none, (.seq #[S "_aes" 4011] 0), #[]⟩
noncomputable def o208 (P : Params) : Obj := ⟨.type "dict", none, (.dict #[E P "__module__" 3956 (S "pyaes.aes" 194), E P "__firstlineno__" 3960 (.int 126 3959), E P "__init__" 3968 (.ref 169), E P "decrypt" 3976 (.ref 176), E P "encrypt" 3984 (.ref 183), E P "_can_consume" 3992 (.ref 190), E P "_final_encrypt" 4001 (.ref 198), E P "_final_decrypt" 4010 (.ref 206), E P "__static_attributes__" 4012 (.ref 207), E P "__dict__" 4014 (.ref 210), E P "__weakref__" 4016 (.ref 211), E P "__doc__" 4017 (.none)] 4), #[]⟩
noncomputable def o209 (P : Params) : Obj := ⟨.type "type", none, (.cls ⟨"AESBlockModeOfOperation", [.type "object"], [.ref 209, .type "object"], 208, "AESBlockModeOfOperation", true, [], [], false, none, false⟩), #[(some (.ref 156)), none, (some (S "AESBlockModeOfOperation" 3949)), (some (S "AESBlockModeOfOperation" 3957)), (some (.builtin "object.__new__")), (some (.bool true))]⟩
noncomputable def o210 (P : Params) : Obj := ⟨.type "getset_descriptor", none, (.fields #[S "__dict__" 4013, .ref 209, .builtin "function.__dict__", .builtin "function.__dict__#set"]), #[]⟩
noncomputable def o211 (P : Params) : Obj := ⟨.type "getset_descriptor", none, (.fields #[S "__weakref__" 4015, .ref 209, .builtin "ExceptionGroup.__weakref__", .none]), #[]⟩
noncomputable def o212 (P : Params) : Obj := ⟨.type "super", none, (.fields #[.ref 209, .ref 209, .ref 209]), #[]⟩
noncomputable def o213 (P : Params) : Obj := ⟨.type "builtin_function_or_method", none, (.fields #[.builtin "object.__init_subclass__", .ref 209]), #[]⟩
noncomputable def o3v230 (P : Params) : Obj := ⟨.type "dict", none, (.dict #[E P "__name__" 165 (S "pyaes.aes" 194), E P "__doc__" 166 (.none), E P "__package__" 167 (.none), E P "__loader__" 168 (.builtin "__main__.__loader__#opaque"), E P "__spec__" 169 (.none), E P "__annotations__" 170 (.ref 6), E P "__builtins__" 171 (.ref 4), E P "__file__" 173 (S "/claim/cut.py" 172), E P "__cached__" 174 (.none), E P "_wall" 193 (.ref 21), E P "PADDING_DEFAULT" 197 (S "default" 196), E P "_compact_word" 204 (.ref 28), E P "_string_to_bytes" 210 (.ref 33), E P "_bytes_to_string" 217 (.ref 40), E P "_concat_list" 225 (.ref 47), E P "AES" 3904 (.ref 116), E P "Counter" 3948 (.ref 151), E P "AESBlockModeOfOperation" 4019 (.ref 209), E P "AESStreamModeOfOperation" 4061 (.ref 246)] 19), #[]⟩
noncomputable def o12v231 (P : Params) : Obj := ⟨.none, none, (.fields #[.int 1 0, .int 0 0, .ref 20, .int 6 0, .int 0 0, .ref 27, .int 8 0, .int 0 0, .ref 32, .int 12 0, .int 0 0, .ref 39, .int 14 0, .int 0 0, .ref 46, .int 16 0, .int 0 0, .ref 53, .int 112 0, .int 0 0, .ref 126, .int 126 0, .int 0 0, .ref 161, .int 145 0, .int 0 0, .ref 219]), #[]⟩
noncomputable def o209v232 (P : Params) : Obj := ⟨.type "type", none, (.cls ⟨"AESBlockModeOfOperation", [.type "object"], [.ref 209, .type "object"], 208, "AESBlockModeOfOperation", true, [], [.ref 246], false, none, false⟩), #[(some (.ref 156)), none, (some (S "AESBlockModeOfOperation" 3949)), (some (S "AESBlockModeOfOperation" 3957)), (some (.builtin "object.__new__")), (some (.bool true))]⟩
noncomputable def o214 (P : Params) : Obj := ⟨.type "tuple", none, (.seq #[.ref 209] 0), #[]⟩
noncomputable def o215 (P : Params) : Obj := ⟨.type "builtin_function_or_method", none, (.fields #[.builtin "type.__prepare__", .type "type"]), #[]⟩
noncomputable def o216 (P : Params) : Obj := ⟨.type "dict", none, (.dict #[E P "__module__" 4027 (S "pyaes.aes" 194), E P "__qualname__" 4029 (S "AESStreamModeOfOperation" 4028), E P "__firstlineno__" 4031 (.int 145 4030), E P "_can_consume" 4039 (.ref 227), E P "_final_encrypt" 4048 (.ref 235), E P "_final_decrypt" 4057 (.ref 243), E P "__static_attributes__" 4058 (.ref 244)] 7), #[]⟩
noncomputable def o217 (P : Params) : Obj := ⟨.type "tuple", none, (.seq #[] 0), #[]⟩
noncomputable def o218 (P : Params) : Obj := ⟨.none, none, (.fields #[.int 147 0, .int 4 0, .ref 226, .int 150 0, .int 4 0, .ref 234, .int 153 0, .int 4 0, .ref 242]), #[]⟩
noncomputable def o219 (P : Params) : Obj := ⟨.type "code", none, (.fields #[S "AESStreamModeOfOperation" 4022, S "AESStreamModeOfOperation" 4023, S "/claim/cut.py" 4024, .int 145 0, .int 0 0, .int 0 0, .int 0 0, .int 0 0, .ref 217, .bool false, .int 181 0, .ref 218, .none, .none, .none, .none, .int 4025 0, .int 145 0, S "/claim/cut.py" 4026]), #[]⟩
noncomputable def o220 (P : Params) : Obj := ⟨.type "frame", none, .plain, #[(some (.ref 219)), (some (.ref 3)), (some (.ref 216)), none, (some (S "pyaes.aes" 194)), none, (some (.ref 0))]⟩
noncomputable def o221 (P : Params) : Obj := ⟨.type "tuple", none, (.seq #[] 0), #[]⟩
noncomputable def o222 (P : Params) : Obj := ⟨.none, none, (.fields #[]), #[]⟩
noncomputable def o223 (P : Params) : Obj := ⟨.type "tuple", none, (.seq #[S "self" 4035, S "size" 4036] 0), #[]⟩
noncomputable def o224 (P : Params) : Obj := ⟨.type "tuple", none, (.seq #[] 0), #[]⟩
noncomputable def o225 (P : Params) : Obj := ⟨.none, none, (.func ⟨"_can_consume", "AESStreamModeOfOperation._can_consume", (fP (M 10 0)), (fB (M 10 0)), (fS (M 10 0)), 0, [], .none, .none, .none, .none, none, .none, .none, 0⟩), #[]⟩
noncomputable def o226 (P : Params) : Obj := ⟨.type "code", none, (.fields #[S "_can_consume" 4032, S "AESStreamModeOfOperation._can_consume" 4033, S "/claim/cut.py" 4034, .int 147 0, .int 2 0, .int 0 0, .int 0 0, .int 3 0, .ref 221, .bool true, .int 181 0, .ref 222, .none, .ref 223, .ref 224, .ref 225, .int 4037 0, .int 147 0, S "/claim/cut.py" 4038]), #[]⟩
noncomputable def o227 (P : Params) : Obj := ⟨.type "function", none, (.func ⟨"_can_consume", "AESStreamModeOfOperation._can_consume", (fP (M 10 0)), (fB (M 10 0)), (fS (M 10 0)), 3, [], .none, .none, .none, S "pyaes.aes" 194, none, .ref 226, .none, 0⟩), #[]⟩
noncomputable def o228 (P : Params) : Obj := ⟨.type "tuple", none, (.seq #[S "default" 196] 0), #[]⟩
noncomputable def o229 (P : Params) : Obj := ⟨.type "tuple", none, (.seq #[] 0), #[]⟩
noncomputable def o230 (P : Params) : Obj := ⟨.none, none, (.fields #[]), #[]⟩
noncomputable def o231 (P : Params) : Obj := ⟨.type "tuple", none, (.seq #[S "self" 4043, S "data" 4044, S "padding" 4045] 0), #[]⟩
noncomputable def o232 (P : Params) : Obj := ⟨.type "tuple", none, (.seq #[] 0), #[]⟩
noncomputable def o233 (P : Params) : Obj := ⟨.none, none, (.func ⟨"_final_encrypt", "AESStreamModeOfOperation._final_encrypt", (fP (M 10 1)), (fB (M 10 1)), (fS (M 10 1)), 0, [], .none, .none, .none, .none, none, .none, .none, 0⟩), #[]⟩
noncomputable def o234 (P : Params) : Obj := ⟨.type "code", none, (.fields #[S "_final_encrypt" 4040, S "AESStreamModeOfOperation._final_encrypt" 4041, S "/claim/cut.py" 4042, .int 150 0, .int 3 0, .int 0 0, .int 0 0, .int 3 0, .ref 229, .bool true, .int 181 0, .ref 230, .none, .ref 231, .ref 232, .ref 233, .int 4046 0, .int 150 0, S "/claim/cut.py" 4047]), #[]⟩
noncomputable def o235 (P : Params) : Obj := ⟨.type "function", none, (.func ⟨"_final_encrypt", "AESStreamModeOfOperation._final_encrypt", (fP (M 10 1)), (fB (M 10 1)), (fS (M 10 1)), 3, [], .ref 228, .none, .none, S "pyaes.aes" 194, none, .ref 234, .none, 0⟩), #[]⟩
noncomputable def o236 (P : Params) : Obj := ⟨.type "tuple", none, (.seq #[S "default" 196] 0), #[]⟩
noncomputable def o237 (P : Params) : Obj := ⟨.type "tuple", none, (.seq #[] 0), #[]⟩
noncomputable def o238 (P : Params) : Obj := ⟨.none, none, (.fields #[]), #[]⟩
noncomputable def o239 (P : Params) : Obj := ⟨.type "tuple", none, (.seq #[S "self" 4052, S "data" 4053, S "padding" 4054] 0), #[]⟩
noncomputable def o240 (P : Params) : Obj := ⟨.type "tuple", none, (.seq #[] 0), #[]⟩
noncomputable def o241 (P : Params) : Obj := ⟨.none, none, (.func ⟨"_final_decrypt", "AESStreamModeOfOperation._final_decrypt", (fP (M 10 2)), (fB (M 10 2)), (fS (M 10 2)), 0, [], .none, .none, .none, .none, none, .none, .none, 0⟩), #[]⟩
noncomputable def o242 (P : Params) : Obj := ⟨.type "code", none, (.fields #[S "_final_decrypt" 4049, S "AESStreamModeOfOperation._final_decrypt" 4050, S "/claim/cut.py" 4051, .int 153 0, .int 3 0, .int 0 0, .int 0 0, .int 3 0, .ref 237, .bool true, .int 181 0, .ref 238, .none, .ref 239, .ref 240, .ref 241, .int 4055 0, .int 153 0, S "/claim/cut.py" 4056]), #[]⟩
noncomputable def o243 (P : Params) : Obj := ⟨.type "function", none, (.func ⟨"_final_decrypt", "AESStreamModeOfOperation._final_decrypt", (fP (M 10 2)), (fB (M 10 2)), (fS (M 10 2)), 3, [], .ref 236, .none, .none, S "pyaes.aes" 194, none, .ref 242, .none, 0⟩), #[]⟩
noncomputable def o244 (P : Params) : Obj := ⟨.type "tuple", none, (.seq #[] 0), #[]⟩
noncomputable def o245 (P : Params) : Obj := ⟨.type "dict", none, (.dict #[E P "__module__" 4027 (S "pyaes.aes" 194), E P "__firstlineno__" 4031 (.int 145 4030), E P "_can_consume" 4039 (.ref 227), E P "_final_encrypt" 4048 (.ref 235), E P "_final_decrypt" 4057 (.ref 243), E P "__static_attributes__" 4058 (.ref 244), E P "__doc__" 4059 (.none)] 2), #[]⟩
noncomputable def o246 (P : Params) : Obj := ⟨.type "type", none, (.cls ⟨"AESStreamModeOfOperation", [.ref 209], [.ref 246, .ref 209, .type "object"], 245, "AESStreamModeOfOperation", true, [], [], false, none, false⟩), #[(some (.ref 214)), none, (some (S "AESStreamModeOfOperation" 4020)), (some (S "AESStreamModeOfOperation" 4028)), (some (.builtin "object.__new__")), (some (.bool true))]⟩
noncomputable def o247 (P : Params) : Obj := ⟨.type "super", none, (.fields #[.ref 246, .ref 246, .ref 246]), #[]⟩
noncomputable def o248 (P : Params) : Obj := ⟨.type "builtin_function_or_method", none, (.fields #[.builtin "object.__init_subclass__", .ref 246]), #[]⟩
noncomputable def o3v268 (P : Params) : Obj := ⟨.type "dict", none, (.dict #[E P "__name__" 165 (S "pyaes.aes" 194), E P "__doc__" 166 (.none), E P "__package__" 167 (.none), E P "__loader__" 168 (.builtin "__main__.__loader__#opaque"), E P "__spec__" 169 (.none), E P "__annotations__" 170 (.ref 6), E P "__builtins__" 171 (.ref 4), E P "__file__" 173 (S "/claim/cut.py" 172), E P "__cached__" 174 (.none), E P "_wall" 193 (.ref 21), E P "PADDING_DEFAULT" 197 (S "default" 196), E P "_compact_word" 204 (.ref 28), E P "_string_to_bytes" 210 (.ref 33), E P "_bytes_to_string" 217 (.ref 40), E P "_concat_list" 225 (.ref 47), E P "AES" 3904 (.ref 116), E P "Counter" 3948 (.ref 151), E P "AESBlockModeOfOperation" 4019 (.ref 209), E P "AESStreamModeOfOperation" 4061 (.ref 246), E P "AESSegmentModeOfOperation" 4105 (.ref 281)] 20), #[]⟩
noncomputable def o12v269 (P : Params) : Obj := ⟨.none, none, (.fields #[.int 1 0, .int 0 0, .ref 20, .int 6 0, .int 0 0, .ref 27, .int 8 0, .int 0 0, .ref 32, .int 12 0, .int 0 0, .ref 39, .int 14 0, .int 0 0, .ref 46, .int 16 0, .int 0 0, .ref 53, .int 112 0, .int 0 0, .ref 126, .int 126 0, .int 0 0, .ref 161, .int 145 0, .int 0 0, .ref 219, .int 155 0, .int 0 0, .ref 254]), #[]⟩
noncomputable def o246v270 (P : Params) : Obj := ⟨.type "type", none, (.cls ⟨"AESStreamModeOfOperation", [.ref 209], [.ref 246, .ref 209, .type "object"], 245, "AESStreamModeOfOperation", true, [], [.ref 281], false, none, false⟩), #[(some (.ref 214)), none, (some (S "AESStreamModeOfOperation" 4020)), (some (S "AESStreamModeOfOperation" 4028)), (some (.builtin "object.__new__")), (some (.bool true))]⟩
noncomputable def o249 (P : Params) : Obj := ⟨.type "tuple", none, (.seq #[.ref 246] 0), #[]⟩
noncomputable def o250 (P : Params) : Obj := ⟨.type "builtin_function_or_method", none, (.fields #[.builtin "type.__prepare__", .type "type"]), #[]⟩
noncomputable def o251 (P : Params) : Obj := ⟨.type "dict", none, (.dict #[E P "__module__" 4069 (S "pyaes.aes" 194), E P "__qualname__" 4071 (S "AESSegmentModeOfOperation" 4070), E P "__firstlineno__" 4073 (.int 155 4072), E P "segment_bytes" 4075 (.int 16 4074), E P "_can_consume" 4083 (.ref 262), E P "_final_encrypt" 4092 (.ref 270), E P "_final_decrypt" 4101 (.ref 278), E P "__static_attributes__" 4102 (.ref 279)] 8), #[]⟩
noncomputable def o252 (P : Params) : Obj := ⟨.type "tuple", none, (.seq #[] 0), #[]⟩
noncomputable def o253 (P : Params) : Obj := ⟨.none, none, (.fields #[.int 158 0, .int 4 0, .ref 261, .int 161 0, .int 4 0, .ref 269, .int 164 0, .int 4 0, .ref 277]), #[]⟩
noncomputable def o254 (P : Params) : Obj := ⟨.type "code", none, (.fields #[S "AESSegmentModeOfOperation" 4064, S "AESSegmentModeOfOperation" 4065, S "/claim/cut.py" 4066, .int 155 0, .int 0 0, .int 0 0, .int 0 0, .int 0 0, .ref 252, .bool false, .int 181 0, .ref 253, .none, .none, .none, .none, .int 4067 0, .int 155 0, S "/claim/cut.py" 4068]), #[]⟩
noncomputable def o255 (P : Params) : Obj := ⟨.type "frame", none, .plain, #[(some (.ref 254)), (some (.ref 3)), (some (.ref 251)), none, (some (S "pyaes.aes" 194)), none, (some (.ref 0))]⟩
noncomputable def o256 (P : Params) : Obj := ⟨.type "tuple", none, (.seq #[] 0), #[]⟩
noncomputable def o257 (P : Params) : Obj := ⟨.none, none, (.fields #[]), #[]⟩
noncomputable def o258 (P : Params) : Obj := ⟨.type "tuple", none, (.seq #[S "self" 4079, S "size" 4080] 0), #[]⟩
noncomputable def o259 (P : Params) : Obj := ⟨.type "tuple", none, (.seq #[] 0), #[]⟩
noncomputable def o260 (P : Params) : Obj := ⟨.none, none, (.func ⟨"_can_consume", "AESSegmentModeOfOperation._can_consume", (fP (M 11 1)), (fB (M 11 1)), (fS (M 11 1)), 0, [], .none, .none, .none, .none, none, .none, .none, 0⟩), #[]⟩
noncomputable def o261 (P : Params) : Obj := ⟨.type "code", none, (.fields #[S "_can_consume" 4076, S "AESSegmentModeOfOperation._can_consume" 4077, S "/claim/cut.py" 4078, .int 158 0, .int 2 0, .int 0 0, .int 0 0, .int 3 0, .ref 256, .bool true, .int 181 0, .ref 257, .none, .ref 258, .ref 259, .ref 260, .int 4081 0, .int 158 0, S "/claim/cut.py" 4082]), #[]⟩
noncomputable def o262 (P : Params) : Obj := ⟨.type "function", none, (.func ⟨"_can_consume", "AESSegmentModeOfOperation._can_consume", (fP (M 11 1)), (fB (M 11 1)), (fS (M 11 1)), 3, [], .none, .none, .none, S "pyaes.aes" 194, none, .ref 261, .none, 0⟩), #[]⟩
noncomputable def o263 (P : Params) : Obj := ⟨.type "tuple", none, (.seq #[S "default" 196] 0), #[]⟩
noncomputable def o264 (P : Params) : Obj := ⟨.type "tuple", none, (.seq #[] 0), #[]⟩
noncomputable def o265 (P : Params) : Obj := ⟨.none, none, (.fields #[]), #[]⟩
noncomputable def o266 (P : Params) : Obj := ⟨.type "tuple", none, (.seq #[S "self" 4087, S "data" 4088, S "padding" 4089] 0), #[]⟩
noncomputable def o267 (P : Params) : Obj := ⟨.type "tuple", none, (.seq #[] 0), #[]⟩
noncomputable def o268 (P : Params) : Obj := ⟨.none, none, (.func ⟨"_final_encrypt", "AESSegmentModeOfOperation._final_encrypt", (fP (M 11 2)), (fB (M 11 2)), (fS (M 11 2)), 0, [], .none, .none, .none, .none, none, .none, .none, 0⟩), #[]⟩
noncomputable def o269 (P : Params) : Obj := ⟨.type "code", none, (.fields #[S "_final_encrypt" 4084, S "AESSegmentModeOfOperation._final_encrypt" 4085, S "/claim/cut.py" 4086, .int 161 0, .int 3 0, .int 0 0, .int 0 0, .int 3 0, .ref 264, .bool true, .int 181 0, .ref 265, .none, .ref 266, .ref 267, .ref 268, .int 4090 0, .int 161 0, S "/claim/cut.py" 4091]), #[]⟩
noncomputable def o270 (P : Params) : Obj := ⟨.type "function", none, (.func ⟨"_final_encrypt", "AESSegmentModeOfOperation._final_encrypt", (fP (M 11 2)), (fB (M 11 2)), (fS (M 11 2)), 3, [], .ref 263, .none, .none, S "pyaes.aes" 194, none, .ref 269, .none, 0⟩), #[]⟩
noncomputable def o271 (P : Params) : Obj := ⟨.type "tuple", none, (.seq #[S "default" 196] 0), #[]⟩
noncomputable def o272 (P : Params) : Obj := ⟨.type "tuple", none, (.seq #[] 0), #[]⟩
noncomputable def o273 (P : Params) : Obj := ⟨.none, none, (.fields #[]), #[]⟩
noncomputable def o274 (P : Params) : Obj := ⟨.type "tuple", none, (.seq #[S "self" 4096, S "data" 4097, S "padding" 4098] 0), #[]⟩
noncomputable def o275 (P : Params) : Obj := ⟨.type "tuple", none, (.seq #[] 0), #[]⟩
noncomputable def o276 (P : Params) : Obj := ⟨.none, none, (.func ⟨"_final_decrypt", "AESSegmentModeOfOperation._final_decrypt", (fP (M 11 3)), (fB (M 11 3)), (fS (M 11 3)), 0, [], .none, .none, .none, .none, none, .none, .none, 0⟩), #[]⟩
noncomputable def o277 (P : Params) : Obj := ⟨.type "code", none, (.fields #[S "_final_decrypt" 4093, S "AESSegmentModeOfOperation._final_decrypt" 4094, S "/claim/cut.py" 4095, .int 164 0, .int 3 0, .int 0 0, .int 0 0, .int 3 0, .ref 272, .bool true, .int 181 0, .ref 273, .none, .ref 274, .ref 275, .ref 276, .int 4099 0, .int 164 0, S "/claim/cut.py" 4100]), #[]⟩
noncomputable def o278 (P : Params) : Obj := ⟨.type "function", none, (.func ⟨"_final_decrypt", "AESSegmentModeOfOperation._final_decrypt", (fP (M 11 3)), (fB (M 11 3)), (fS (M 11 3)), 3, [], .ref 271, .none, .none, S "pyaes.aes" 194, none, .ref 277, .none, 0⟩), #[]⟩
noncomputable def o279 (P : Params) : Obj := ⟨.type "tuple", none, (.seq #[] 0), #[]⟩
noncomputable def o280 (P : Params) : Obj := ⟨.type "dict", none, (.dict #[E P "__module__" 4069 (S "pyaes.aes" 194), E P "__firstlineno__" 4073 (.int 155 4072), E P "segment_bytes" 4075 (.int 16 4074), E P "_can_consume" 4083 (.ref 262), E P "_final_encrypt" 4092 (.ref 270), E P "_final_decrypt" 4101 (.ref 278), E P "__static_attributes__" 4102 (.ref 279), E P "__doc__" 4103 (.none)] 2), #[]⟩
noncomputable def o281 (P : Params) : Obj := ⟨.type "type", none, (.cls ⟨"AESSegmentModeOfOperation", [.ref 246], [.ref 281, .ref 246, .ref 209, .type "object"], 280, "AESSegmentModeOfOperation", true, [], [], false, none, false⟩), #[(some (.ref 249)), none, (some (S "AESSegmentModeOfOperation" 4062)), (some (S "AESSegmentModeOfOperation" 4070)), (some (.builtin "object.__new__")), (some (.bool true))]⟩
noncomputable def o282 (P : Params) : Obj := ⟨.type "super", none, (.fields #[.ref 281, .ref 281, .ref 281]), #[]⟩
noncomputable def o283 (P : Params) : Obj := ⟨.type "builtin_function_or_method", none, (.fields #[.builtin "object.__init_subclass__", .ref 281]), #[]⟩
noncomputable def o3v306 (P : Params) : Obj := ⟨.type "dict", none, (.dict #[E P "__name__" 165 (S "pyaes.aes" 194), E P "__doc__" 166 (.none), E P "__package__" 167 (.none), E P "__loader__" 168 (.builtin "__main__.__loader__#opaque"), E P "__spec__" 169 (.none), E P "__annotations__" 170 (.ref 6), E P "__builtins__" 171 (.ref 4), E P "__file__" 173 (S "/claim/cut.py" 172), E P "__cached__" 174 (.none), E P "_wall" 193 (.ref 21), E P "PADDING_DEFAULT" 197 (S "default" 196), E P "_compact_word" 204 (.ref 28), E P "_string_to_bytes" 210 (.ref 33), E P "_bytes_to_string" 217 (.ref 40), E P "_concat_list" 225 (.ref 47), E P "AES" 3904 (.ref 116), E P "Counter" 3948 (.ref 151), E P "AESBlockModeOfOperation" 4019 (.ref 209), E P "AESStreamModeOfOperation" 4061 (.ref 246), E P "AESSegmentModeOfOperation" 4105 (.ref 281), E P "AESModeOfOperationECB" 4139 (.ref 307)] 21), #[]⟩
noncomputable def o12v307 (P : Params) : Obj := ⟨.none, none, (.fields #[.int 1 0, .int 0 0, .ref 20, .int 6 0, .int 0 0, .ref 27, .int 8 0, .int 0 0, .ref 32, .int 12 0, .int 0 0, .ref 39, .int 14 0, .int 0 0, .ref 46, .int 16 0, .int 0 0, .ref 53, .int 112 0, .int 0 0, .ref 126, .int 126 0, .int 0 0, .ref 161, .int 145 0, .int 0 0, .ref 219, .int 155 0, .int 0 0, .ref 254, .int 166 0, .int 0 0, .ref 289]), #[]⟩
noncomputable def o209v308 (P : Params) : Obj := ⟨.type "type", none, (.cls ⟨"AESBlockModeOfOperation", [.type "object"], [.ref 209, .type "object"], 208, "AESBlockModeOfOperation", true, [], [.ref 246, .ref 307], false, none, false⟩), #[(some (.ref 156)), none, (some (S "AESBlockModeOfOperation" 3949)), (some (S "AESBlockModeOfOperation" 3957)), (some (.builtin "object.__new__")), (some (.bool true))]⟩
noncomputable def o284 (P : Params) : Obj := ⟨.type "tuple", none, (.seq #[.ref 209] 0), #[]⟩
noncomputable def o285 (P : Params) : Obj := ⟨.type "builtin_function_or_method", none, (.fields #[.builtin "type.__prepare__", .type "type"]), #[]⟩
noncomputable def o286 (P : Params) : Obj := ⟨.type "dict", none, (.dict #[E P "__module__" 4113 (S "pyaes.aes" 194), E P "__qualname__" 4115 (S "AESModeOfOperationECB" 4114), E P "__firstlineno__" 4117 (.int 166 4116), E P "name" 4119 (S "Electronic Codebook (ECB)" 4118), E P "encrypt" 4127 (.ref 297), E P "decrypt" 4135 (.ref 304), E P "__static_attributes__" 4136 (.ref 305)] 7), #[]⟩
noncomputable def o287 (P : Params) : Obj := ⟨.type "tuple", none, (.seq #[] 0), #[]⟩
noncomputable def o288 (P : Params) : Obj := ⟨.none, none, (.fields #[.int 169 0, .int 4 0, .ref 296, .int 175 0, .int 4 0, .ref 303]), #[]⟩
noncomputable def o289 (P : Params) : Obj := ⟨.type "code", none, (.fields #[S "AESModeOfOperationECB" 4108, S "AESModeOfOperationECB" 4109, S "/claim/cut.py" 4110, .int 166 0, .int 0 0, .int 0 0, .int 0 0, .int 0 0, .ref 287, .bool false, .int 181 0, .ref 288, .none, .none, .none, .none, .int 4111 0, .int 166 0, S "/claim/cut.py" 4112]), #[]⟩
noncomputable def o290 (P : Params) : Obj := ⟨.type "frame", none, .plain, #[(some (.ref 289)), (some (.ref 3)), (some (.ref 286)), none, (some (S "pyaes.aes" 194)), none, (some (.ref 0))]⟩
noncomputable def o291 (P : Params) : Obj := ⟨.type "tuple", none, (.seq #[] 0), #[]⟩
noncomputable def o292 (P : Params) : Obj := ⟨.none, none, (.fields #[]), #[]⟩
noncomputable def o293 (P : Params) : Obj := ⟨.type "tuple", none, (.seq #[S "self" 4123, S "plaintext" 4124] 0), #[]⟩
noncomputable def o294 (P : Params) : Obj := ⟨.type "tuple", none, (.seq #[] 0), #[]⟩
noncomputable def o295 (P : Params) : Obj := ⟨.none, none, (.func ⟨"encrypt", "AESModeOfOperationECB.encrypt", (fP (M 12 1)), (fB (M 12 1)), (fS (M 12 1)), 0, [], .none, .none, .none, .none, none, .none, .none, 0⟩), #[]⟩
noncomputable def o296 (P : Params) : Obj := ⟨.type "code", none, (.fields #[S "encrypt" 4120, S "AESModeOfOperationECB.encrypt" 4121, S "/claim/cut.py" 4122, .int 169 0, .int 2 0, .int 0 0, .int 0 0, .int 3 0, .ref 291, .bool true, .int 181 0, .ref 292, .none, .ref 293, .ref 294, .ref 295, .int 4125 0, .int 169 0, S "/claim/cut.py" 4126]), #[]⟩
noncomputable def o297 (P : Params) : Obj := ⟨.type "function", none, (.func ⟨"encrypt", "AESModeOfOperationECB.encrypt", (fP (M 12 1)), (fB (M 12 1)), (fS (M 12 1)), 3, [], .none, .none, .none, S "pyaes.aes" 194, none, .ref 296, .none, 0⟩), #[]⟩
noncomputable def o298 (P : Params) : Obj := ⟨.type "tuple", none, (.seq #[] 0), #[]⟩
noncomputable def o299 (P : Params) : Obj := ⟨.none, none, (.fields #[]), #[]⟩
noncomputable def o300 (P : Params) : Obj := ⟨.type "tuple", none, (.seq #[S "self" 4131, S "ciphertext" 4132] 0), #[]⟩
noncomputable def o301 (P : Params) : Obj := ⟨.type "tuple", none, (.seq #[] 0), #[]⟩
noncomputable def o302 (P : Params) : Obj := ⟨.none, none, (.func ⟨"decrypt", "AESModeOfOperationECB.decrypt", (fP (M 12 2)), (fB (M 12 2)), (fS (M 12 2)), 0, [], .none, .none, .none, .none, none, .none, .none, 0⟩), #[]⟩
noncomputable def o303 (P : Params) : Obj := ⟨.type "code", none, (.fields #[S "decrypt" 4128, S "AESModeOfOperationECB.decrypt" 4129, S "/claim/cut.py" 4130, .int 175 0, .int 2 0, .int 0 0, .int 0 0, .int 3 0, .ref 298, .bool true, .int 181 0, .ref 299, .none, .ref 300, .ref 301, .ref 302, .int 4133 0, .int 175 0, S "/claim/cut.py" 4134]), #[]⟩
noncomputable def o304 (P : Params) : Obj := ⟨.type "function", none, (.func ⟨"decrypt", "AESModeOfOperationECB.decrypt", (fP (M 12 2)), (fB (M 12 2)), (fS (M 12 2)), 3, [], .none, .none, .none, S "pyaes.aes" 194, none, .ref 303, .none, 0⟩), #[]⟩
noncomputable def o305 (P : Params) : Obj := ⟨.type "tuple", none, (.seq #[] 0), #[]⟩
noncomputable def o306 (P : Params) : Obj := ⟨.type "dict", none, (.dict #[E P "__module__" 4113 (S "pyaes.aes" 194), E P "__firstlineno__" 4117 (.int 166 4116), E P "name" 4119 (S "Electronic Codebook (ECB)" 4118), E P "encrypt" 4127 (.ref 297), E P "decrypt" 4135 (.ref 304), E P "__static_attributes__" 4136 (.ref 305), E P "__doc__" 4137 (.none)] 2), #[]⟩
noncomputable def o307 (P : Params) : Obj := ⟨.type "type", none, (.cls ⟨"AESModeOfOperationECB", [.ref 209], [.ref 307, .ref 209, .type "object"], 306, "AESModeOfOperationECB", true, [], [], false, none, false⟩), #[(some (.ref 284)), none, (some (S "AESModeOfOperationECB" 4106)), (some (S "AESModeOfOperationECB" 4114)), (some (.builtin "object.__new__")), (some (.bool true))]⟩
noncomputable def o308 (P : Params) : Obj := ⟨.type "super", none, (.fields #[.ref 307, .ref 307, .ref 307]), #[]⟩
noncomputable def o309 (P : Params) : Obj := ⟨.type "builtin_function_or_method", none, (.fields #[.builtin "object.__init_subclass__", .ref 307]), #[]⟩
noncomputable def o3v335 (P : Params) : Obj := ⟨.type "dict", none, (.dict #[E P "__name__" 165 (S "pyaes.aes" 194), E P "__doc__" 166 (.none), E P "__package__" 167 (.none), E P "__loader__" 168 (.builtin "__main__.__loader__#opaque"), E P "__spec__" 169 (.none), E P "__annotations__" 170 (.ref 6), E P "__builtins__" 171 (.ref 4), E P "__file__" 173 (S "/claim/cut.py" 172), E P "__cached__" 174 (.none), E P "_wall" 193 (.ref 21), E P "PADDING_DEFAULT" 197 (S "default" 196), E P "_compact_word" 204 (.ref 28), E P "_string_to_bytes" 210 (.ref 33), E P "_bytes_to_string" 217 (.ref 40), E P "_concat_list" 225 (.ref 47), E P "AES" 3904 (.ref 116), E P "Counter" 3948 (.ref 151), E P "AESBlockModeOfOperation" 4019 (.ref 209), E P "AESStreamModeOfOperation" 4061 (.ref 246), E P "AESSegmentModeOfOperation" 4105 (.ref 281), E P "AESModeOfOperationECB" 4139 (.ref 307), E P "AESModeOfOperationCBC" 4179 (.ref 337)] 22), #[]⟩
noncomputable def o12v336 (P : Params) : Obj := ⟨.none, none, (.fields #[.int 1 0, .int 0 0, .ref 20, .int 6 0, .int 0 0, .ref 27, .int 8 0, .int 0 0, .ref 32, .int 12 0, .int 0 0, .ref 39, .int 14 0, .int 0 0, .ref 46, .int 16 0, .int 0 0, .ref 53, .int 112 0, .int 0 0, .ref 126, .int 126 0, .int 0 0, .ref 161, .int 145 0, .int 0 0, .ref 219, .int 155 0, .int 0 0, .ref 254, .int 166 0, .int 0 0, .ref 289, .int 180 0, .int 0 0, .ref 315]), #[]⟩
noncomputable def o209v337 (P : Params) : Obj := ⟨.type "type", none, (.cls ⟨"AESBlockModeOfOperation", [.type "object"], [.ref 209, .type "object"], 208, "AESBlockModeOfOperation", true, [], [.ref 246, .ref 307, .ref 337], false, none, false⟩), #[(some (.ref 156)), none, (some (S "AESBlockModeOfOperation" 3949)), (some (S "AESBlockModeOfOperation" 3957)), (some (.builtin "object.__new__")), (some (.bool true))]⟩
noncomputable def o310 (P : Params) : Obj := ⟨.type "tuple", none, (.seq #[.ref 209] 0), #[]⟩
noncomputable def o311 (P : Params) : Obj := ⟨.type "builtin_function_or_method", none, (.fields #[.builtin "type.__prepare__", .type "type"]), #[]⟩
noncomputable def o312 (P : Params) : Obj := ⟨.type "dict", none, (.dict #[E P "__module__" 4147 (S "pyaes.aes" 194), E P "__qualname__" 4149 (S "AESModeOfOperationCBC" 4148), E P "__firstlineno__" 4151 (.int 180 4150), E P "name" 4153 (S "Cipher-Block Chaining (CBC)" 4152), E P "__init__" 4162 (.ref 324), E P "encrypt" 4168 (.ref 329), E P "decrypt" 4174 (.ref 334), E P "__static_attributes__" 4176 (.ref 335)] 8), #[]⟩
noncomputable def o313 (P : Params) : Obj := ⟨.type "tuple", none, (.seq #[] 0), #[]⟩
noncomputable def o314 (P : Params) : Obj := ⟨.none, none, (.fields #[.int 183 0, .int 4 0, .ref 323, .int 192 0, .int 4 0, .ref 328, .int 200 0, .int 4 0, .ref 333]), #[]⟩
noncomputable def o315 (P : Params) : Obj := ⟨.type "code", none, (.fields #[S "AESModeOfOperationCBC" 4142, S "AESModeOfOperationCBC" 4143, S "/claim/cut.py" 4144, .int 180 0, .int 0 0, .int 0 0, .int 0 0, .int 0 0, .ref 313, .bool false, .int 181 0, .ref 314, .none, .none, .none, .none, .int 4145 0, .int 180 0, S "/claim/cut.py" 4146]), #[]⟩
noncomputable def o316 (P : Params) : Obj := ⟨.type "frame", none, .plain, #[(some (.ref 315)), (some (.ref 3)), (some (.ref 312)), none, (some (S "pyaes.aes" 194)), none, (some (.ref 0))]⟩
noncomputable def o317 (P : Params) : Obj := ⟨.type "tuple", none, (.seq #[.none] 0), #[]⟩
noncomputable def o318 (P : Params) : Obj := ⟨.type "tuple", none, (.seq #[] 0), #[]⟩
noncomputable def o319 (P : Params) : Obj := ⟨.none, none, (.fields #[]), #[]⟩
noncomputable def o320 (P : Params) : Obj := ⟨.type "tuple", none, (.seq #[S "self" 4157, S "key" 4158, S "iv" 4159] 0), #[]⟩
noncomputable def o321 (P : Params) : Obj := ⟨.type "tuple", none, (.seq #[] 0), #[]⟩
noncomputable def o322 (P : Params) : Obj := ⟨.none, none, (.func ⟨"__init__", "AESModeOfOperationCBC.__init__", (fP (M 13 1)), (fB (M 13 1)), (fS (M 13 1)), 0, [], .none, .none, .none, .none, none, .none, .none, 0⟩), #[]⟩
noncomputable def o323 (P : Params) : Obj := ⟨.type "code", none, (.fields #[S "__init__" 4154, S "AESModeOfOperationCBC.__init__" 4155, S "/claim/cut.py" 4156, .int 183 0, .int 3 0, .int 0 0, .int 0 0, .int 3 0, .ref 318, .bool true, .int 181 0, .ref 319, .none, .ref 320, .ref 321, .ref 322, .int 4160 0, .int 183 0, S "/claim/cut.py" 4161]), #[]⟩
noncomputable def o324 (P : Params) : Obj := ⟨.type "function", none, (.func ⟨"__init__", "AESModeOfOperationCBC.__init__", (fP (M 13 1)), (fB (M 13 1)), (fS (M 13 1)), 3, [], .ref 317, .none, .none, S "pyaes.aes" 194, none, .ref 323, .none, 0⟩), #[]⟩
noncomputable def o325 (P : Params) : Obj := ⟨.type "tuple", none, (.seq #[] 0), #[]⟩
noncomputable def o326 (P : Params) : Obj := ⟨.none, none, (.fields #[]), #[]⟩
noncomputable def o327 (P : Params) : Obj := ⟨.none, none, (.func ⟨"encrypt", "AESModeOfOperationCBC.encrypt", (fP (M 13 2)), (fB (M 13 2)), (fS (M 13 2)), 0, [], .none, .none, .none, .none, none, .none, .none, 0⟩), #[]⟩
noncomputable def o328 (P : Params) : Obj := ⟨.type "code", none, (.fields #[S "encrypt" 4163, S "AESModeOfOperationCBC.encrypt" 4164, S "/claim/cut.py" 4165, .int 192 0, .int 2 0, .int 0 0, .int 0 0, .int 3 0, .ref 325, .bool true, .int 181 0, .ref 326, .none, .none, .none, .ref 327, .int 4166 0, .int 192 0, S "/claim/cut.py" 4167]), #[]⟩
noncomputable def o329 (P : Params) : Obj := ⟨.type "function", none, (.func ⟨"encrypt", "AESModeOfOperationCBC.encrypt", (fP (M 13 2)), (fB (M 13 2)), (fS (M 13 2)), 3, [], .none, .none, .none, S "pyaes.aes" 194, none, .ref 328, .none, 0⟩), #[]⟩
noncomputable def o330 (P : Params) : Obj := ⟨.type "tuple", none, (.seq #[] 0), #[]⟩
noncomputable def o331 (P : Params) : Obj := ⟨.none, none, (.fields #[]), #[]⟩
noncomputable def o332 (P : Params) : Obj := ⟨.none, none, (.func ⟨"decrypt", "AESModeOfOperationCBC.decrypt", (fP (M 13 3)), (fB (M 13 3)), (fS (M 13 3)), 0, [], .none, .none, .none, .none, none, .none, .none, 0⟩), #[]⟩
noncomputable def o333 (P : Params) : Obj := ⟨.type "code", none, (.fields #[S "decrypt" 4169, S "AESModeOfOperationCBC.decrypt" 4170, S "/claim/cut.py" 4171, .int 200 0, .int 2 0, .int 0 0, .int 0 0, .int 3 0, .ref 330, .bool true, .int 181 0, .ref 331, .none, .none, .none, .ref 332, .int 4172 0, .int 200 0, S "/claim/cut.py" 4173]), #[]⟩
noncomputable def o334 (P : Params) : Obj := ⟨.type "function", none, (.func ⟨"decrypt", "AESModeOfOperationCBC.decrypt", (fP (M 13 3)), (fB (M 13 3)), (fS (M 13 3)), 3, [], .none, .none, .none, S "pyaes.aes" 194, none, .ref 333, .none, 0⟩), #[]⟩
noncomputable def o335 (P : Params) : Obj := ⟨.type "tuple", none, (.seq #[S "_last_cipherblock" 4175] 0), #[]⟩
noncomputable def o336 (P : Params) : Obj := ⟨.type "dict", none, (.dict #[E P "__module__" 4147 (S "pyaes.aes" 194), E P "__firstlineno__" 4151 (.int 180 4150), E P "name" 4153 (S "Cipher-Block Chaining (CBC)" 4152), E P "__init__" 4162 (.ref 324), E P "encrypt" 4168 (.ref 329), E P "decrypt" 4174 (.ref 334), E P "__static_attributes__" 4176 (.ref 335), E P "__doc__" 4177 (.none)] 2), #[]⟩
noncomputable def o337 (P : Params) : Obj := ⟨.type "type", none, (.cls ⟨"AESModeOfOperationCBC", [.ref 209], [.ref 337, .ref 209, .type "object"], 336, "AESModeOfOperationCBC", true, [], [], false, none, false⟩), #[(some (.ref 310)), none, (some (S "AESModeOfOperationCBC" 4140)), (some (S "AESModeOfOperationCBC" 4148)), (some (.builtin "object.__new__")), (some (.bool true))]⟩
noncomputable def o338 (P : Params) : Obj := ⟨.type "super", none, (.fields #[.ref 337, .ref 337, .ref 337]), #[]⟩
noncomputable def o339 (P : Params) : Obj := ⟨.type "builtin_function_or_method", none, (.fields #[.builtin "object.__init_subclass__", .ref 337]), #[]⟩
noncomputable def o3v368 (P : Params) : Obj := ⟨.type "dict", none, (.dict #[E P "__name__" 165 (S "pyaes.aes" 194), E P "__doc__" 166 (.none), E P "__package__" 167 (.none), E P "__loader__" 168 (.builtin "__main__.__loader__#opaque"), E P "__spec__" 169 (.none), E P "__annotations__" 170 (.ref 6), E P "__builtins__" 171 (.ref 4), E P "__file__" 173 (S "/claim/cut.py" 172), E P "__cached__" 174 (.none), E P "_wall" 193 (.ref 21), E P "PADDING_DEFAULT" 197 (S "default" 196), E P "_compact_word" 204 (.ref 28), E P "_string_to_bytes" 210 (.ref 33), E P "_bytes_to_string" 217 (.ref 40), E P "_concat_list" 225 (.ref 47), E P "AES" 3904 (.ref 116), E P "Counter" 3948 (.ref 151), E P "AESBlockModeOfOperation" 4019 (.ref 209), E P "AESStreamModeOfOperation" 4061 (.ref 246), E P "AESSegmentModeOfOperation" 4105 (.ref 281), E P "AESModeOfOperationECB" 4139 (.ref 307), E P "AESModeOfOperationCBC" 4179 (.ref 337), E P "AESModeOfOperationCFB" 4230 (.ref 375)] 23), #[]⟩
noncomputable def o12v369 (P : Params) : Obj := ⟨.none, none, (.fields #[.int 1 0, .int 0 0, .ref 20, .int 6 0, .int 0 0, .ref 27, .int 8 0, .int 0 0, .ref 32, .int 12 0, .int 0 0, .ref 39, .int 14 0, .int 0 0, .ref 46, .int 16 0, .int 0 0, .ref 53, .int 112 0, .int 0 0, .ref 126, .int 126 0, .int 0 0, .ref 161, .int 145 0, .int 0 0, .ref 219, .int 155 0, .int 0 0, .ref 254, .int 166 0, .int 0 0, .ref 289, .int 180 0, .int 0 0, .ref 315, .int 207 0, .int 0 0, .ref 345]), #[]⟩
noncomputable def o281v370 (P : Params) : Obj := ⟨.type "type", none, (.cls ⟨"AESSegmentModeOfOperation", [.ref 246], [.ref 281, .ref 246, .ref 209, .type "object"], 280, "AESSegmentModeOfOperation", true, [], [.ref 375], false, none, false⟩), #[(some (.ref 249)), none, (some (S "AESSegmentModeOfOperation" 4062)), (some (S "AESSegmentModeOfOperation" 4070)), (some (.builtin "object.__new__")), (some (.bool true))]⟩
noncomputable def o340 (P : Params) : Obj := ⟨.type "tuple", none, (.seq #[.ref 281] 0), #[]⟩
noncomputable def o341 (P : Params) : Obj := ⟨.type "builtin_function_or_method", none, (.fields #[.builtin "type.__prepare__", .type "type"]), #[]⟩
noncomputable def o342 (P : Params) : Obj := ⟨.type "dict", none, (.dict #[E P "__module__" 4187 (S "pyaes.aes" 194), E P "__qualname__" 4189 (S "AESModeOfOperationCFB" 4188), E P "__firstlineno__" 4191 (.int 207 4190), E P "name" 4193 (S "Cipher Feedback (CFB)" 4192), E P "__init__" 4204 (.ref 354), E P "segment_bytes" 4212 (.ref 362), E P "encrypt" 4218 (.ref 367), E P "decrypt" 4224 (.ref 372), E P "__static_attributes__" 4227 (.ref 373)] 9), #[]⟩
noncomputable def o343 (P : Params) : Obj := ⟨.type "tuple", none, (.seq #[] 0), #[]⟩
noncomputable def o344 (P : Params) : Obj := ⟨.none, none, (.fields #[.int 210 0, .int 4 0, .ref 353, .int 221 0, .int 29 0, .ref 360, .int 223 0, .int 4 0, .ref 366, .int 236 0, .int 4 0, .ref 371]), #[]⟩
noncomputable def o345 (P : Params) : Obj := ⟨.type "code", none, (.fields #[S "AESModeOfOperationCFB" 4182, S "AESModeOfOperationCFB" 4183, S "/claim/cut.py" 4184, .int 207 0, .int 0 0, .int 0 0, .int 0 0, .int 0 0, .ref 343, .bool false, .int 181 0, .ref 344, .none, .none, .none, .none, .int 4185 0, .int 207 0, S "/claim/cut.py" 4186]), #[]⟩
noncomputable def o346 (P : Params) : Obj := ⟨.type "frame", none, .plain, #[(some (.ref 345)), (some (.ref 3)), (some (.ref 342)), none, (some (S "pyaes.aes" 194)), none, (some (.ref 0))]⟩
noncomputable def o347 (P : Params) : Obj := ⟨.type "tuple", none, (.seq #[.int 1 4194] 0), #[]⟩
noncomputable def o348 (P : Params) : Obj := ⟨.type "tuple", none, (.seq #[] 0), #[]⟩
noncomputable def o349 (P : Params) : Obj := ⟨.none, none, (.fields #[]), #[]⟩
noncomputable def o350 (P : Params) : Obj := ⟨.type "tuple", none, (.seq #[S "self" 4198, S "key" 4199, S "iv" 4200, S "segment_size" 4201] 0), #[]⟩
noncomputable def o351 (P : Params) : Obj := ⟨.type "tuple", none, (.seq #[] 0), #[]⟩
noncomputable def o352 (P : Params) : Obj := ⟨.none, none, (.func ⟨"__init__", "AESModeOfOperationCFB.__init__", (fP (M 14 1)), (fB (M 14 1)), (fS (M 14 1)), 0, [], .none, .none, .none, .none, none, .none, .none, 0⟩), #[]⟩
noncomputable def o353 (P : Params) : Obj := ⟨.type "code", none, (.fields #[S "__init__" 4195, S "AESModeOfOperationCFB.__init__" 4196, S "/claim/cut.py" 4197, .int 210 0, .int 4 0, .int 0 0, .int 0 0, .int 3 0, .ref 348, .bool true, .int 181 0, .ref 349, .none, .ref 350, .ref 351, .ref 352, .int 4202 0, .int 210 0, S "/claim/cut.py" 4203]), #[]⟩
noncomputable def o354 (P : Params) : Obj := ⟨.type "function", none, (.func ⟨"__init__", "AESModeOfOperationCFB.__init__", (fP (M 14 1)), (fB (M 14 1)), (fS (M 14 1)), 3, [], .ref 347, .none, .none, S "pyaes.aes" 194, none, .ref 353, .none, 0⟩), #[]⟩
noncomputable def o355 (P : Params) : Obj := ⟨.type "tuple", none, (.seq #[] 0), #[]⟩
noncomputable def o356 (P : Params) : Obj := ⟨.none, none, (.fields #[]), #[]⟩
noncomputable def o357 (P : Params) : Obj := ⟨.type "tuple", none, (.seq #[S "s" 4208] 0), #[]⟩
noncomputable def o358 (P : Params) : Obj := ⟨.type "tuple", none, (.seq #[] 0), #[]⟩
noncomputable def o359 (P : Params) : Obj := ⟨.none, none, (.func ⟨"<lambda>", "AESModeOfOperationCFB.<lambda>", (lA (M 14 2)), (lB (M 14 2)), (lS (M 14 2)), 0, [], .none, .none, .none, .none, none, .none, .none, 0⟩), #[]⟩
noncomputable def o360 (P : Params) : Obj := ⟨.type "code", none, (.fields #[S "<lambda>" 4205, S "AESModeOfOperationCFB.<lambda>" 4206, S "/claim/cut.py" 4207, .int 221 0, .int 1 0, .int 0 0, .int 0 0, .int 3 0, .ref 355, .bool true, .int 181 0, .ref 356, .none, .ref 357, .ref 358, .ref 359, .int 4209 0, .int 221 0, S "/claim/cut.py" 4210]), #[]⟩
noncomputable def o361 (P : Params) : Obj := ⟨.type "function", none, (.func ⟨"<lambda>", "AESModeOfOperationCFB.<lambda>", (lA (M 14 2)), (lB (M 14 2)), (lS (M 14 2)), 3, [], .none, .none, .none, S "pyaes.aes" 194, none, .ref 360, .none, 0⟩), #[]⟩
noncomputable def o362 (P : Params) : Obj := ⟨.type "property", none, (.fields #[.ref 361, .none, .none, .none, S "segment_bytes" 4212, .bool false]), #[]⟩
noncomputable def o363 (P : Params) : Obj := ⟨.type "tuple", none, (.seq #[] 0), #[]⟩
noncomputable def o364 (P : Params) : Obj := ⟨.none, none, (.fields #[]), #[]⟩
noncomputable def o365 (P : Params) : Obj := ⟨.none, none, (.func ⟨"encrypt", "AESModeOfOperationCFB.encrypt", (fP (M 14 3)), (fB (M 14 3)), (fS (M 14 3)), 0, [], .none, .none, .none, .none, none, .none, .none, 0⟩), #[]⟩
noncomputable def o366 (P : Params) : Obj := ⟨.type "code", none, (.fields #[S "encrypt" 4213, S "AESModeOfOperationCFB.encrypt" 4214, S "/claim/cut.py" 4215, .int 223 0, .int 2 0, .int 0 0, .int 0 0, .int 3 0, .ref 363, .bool true, .int 181 0, .ref 364, .none, .none, .none, .ref 365, .int 4216 0, .int 223 0, S "/claim/cut.py" 4217]), #[]⟩
noncomputable def o367 (P : Params) : Obj := ⟨.type "function", none, (.func ⟨"encrypt", "AESModeOfOperationCFB.encrypt", (fP (M 14 3)), (fB (M 14 3)), (fS (M 14 3)), 3, [], .none, .none, .none, S "pyaes.aes" 194, none, .ref 366, .none, 0⟩), #[]⟩
noncomputable def o368 (P : Params) : Obj := ⟨.type "tuple", none, (.seq #[] 0), #[]⟩
noncomputable def o369 (P : Params) : Obj := ⟨.none, none, (.fields #[]), #[]⟩
noncomputable def o370 (P : Params) : Obj := ⟨.none, none, (.func ⟨"decrypt", "AESModeOfOperationCFB.decrypt", (fP (M 14 4)), (fB (M 14 4)), (fS (M 14 4)), 0, [], .none, .none, .none, .none, none, .none, .none, 0⟩), #[]⟩
noncomputable def o371 (P : Params) : Obj := ⟨.type "code", none, (.fields #[S "decrypt" 4219, S "AESModeOfOperationCFB.decrypt" 4220, S "/claim/cut.py" 4221, .int 236 0, .int 2 0, .int 0 0, .int 0 0, .int 3 0, .ref 368, .bool true, .int 181 0, .ref 369, .none, .none, .none, .ref 370, .int 4222 0, .int 236 0, S "/claim/cut.py" 4223]), #[]⟩
noncomputable def o372 (P : Params) : Obj := ⟨.type "function", none, (.func ⟨"decrypt", "AESModeOfOperationCFB.decrypt", (fP (M 14 4)), (fB (M 14 4)), (fS (M 14 4)), 3, [], .none, .none, .none, S "pyaes.aes" 194, none, .ref 371, .none, 0⟩), #[]⟩
noncomputable def o373 (P : Params) : Obj := ⟨.type "tuple", none, (.seq #[S "_segment_bytes" 4225, S "_shift_register" 4226] 0), #[]⟩
noncomputable def o374 (P : Params) : Obj := ⟨.type "dict", none, (.dict #[E P "__module__" 4187 (S "pyaes.aes" 194), E P "__firstlineno__" 4191 (.int 207 4190), E P "name" 4193 (S "Cipher Feedback (CFB)" 4192), E P "__init__" 4204 (.ref 354), E P "segment_bytes" 4212 (.ref 362), E P "encrypt" 4218 (.ref 367), E P "decrypt" 4224 (.ref 372), E P "__static_attributes__" 4227 (.ref 373), E P "__doc__" 4228 (.none)] 2), #[]⟩
noncomputable def o375 (P : Params) : Obj := ⟨.type "type", none, (.cls ⟨"AESModeOfOperationCFB", [.ref 281], [.ref 375, .ref 281, .ref 246, .ref 209, .type "object"], 374, "AESModeOfOperationCFB", true, [], [], false, none, false⟩), #[(some (.ref 340)), none, (some (S "AESModeOfOperationCFB" 4180)), (some (S "AESModeOfOperationCFB" 4188)), (some (.builtin "object.__new__")), (some (.bool true))]⟩
noncomputable def o376 (P : Params) : Obj := ⟨.type "super", none, (.fields #[.ref 375, .ref 375, .ref 375]), #[]⟩
noncomputable def o377 (P : Params) : Obj := ⟨.type "builtin_function_or_method", none, (.fields #[.builtin "object.__init_subclass__", .ref 375]), #[]⟩
noncomputable def o3v409 (P : Params) : Obj := ⟨.type "dict", none, (.dict #[E P "__name__" 165 (S "pyaes.aes" 194), E P "__doc__" 166 (.none), E P "__package__" 167 (.none), E P "__loader__" 168 (.builtin "__main__.__loader__#opaque"), E P "__spec__" 169 (.none), E P "__annotations__" 170 (.ref 6), E P "__builtins__" 171 (.ref 4), E P "__file__" 173 (S "/claim/cut.py" 172), E P "__cached__" 174 (.none), E P "_wall" 193 (.ref 21), E P "PADDING_DEFAULT" 197 (S "default" 196), E P "_compact_word" 204 (.ref 28), E P "_string_to_bytes" 210 (.ref 33), E P "_bytes_to_string" 217 (.ref 40), E P "_concat_list" 225 (.ref 47), E P "AES" 3904 (.ref 116), E P "Counter" 3948 (.ref 151), E P "AESBlockModeOfOperation" 4019 (.ref 209), E P "AESStreamModeOfOperation" 4061 (.ref 246), E P "AESSegmentModeOfOperation" 4105 (.ref 281), E P "AESModeOfOperationECB" 4139 (.ref 307), E P "AESModeOfOperationCBC" 4179 (.ref 337), E P "AESModeOfOperationCFB" 4230 (.ref 375), E P "AESModeOfOperationOFB" 4279 (.ref 409)] 24), #[]⟩
noncomputable def o12v410 (P : Params) : Obj := ⟨.none, none, (.fields #[.int 1 0, .int 0 0, .ref 20, .int 6 0, .int 0 0, .ref 27, .int 8 0, .int 0 0, .ref 32, .int 12 0, .int 0 0, .ref 39, .int 14 0, .int 0 0, .ref 46, .int 16 0, .int 0 0, .ref 53, .int 112 0, .int 0 0, .ref 126, .int 126 0, .int 0 0, .ref 161, .int 145 0, .int 0 0, .ref 219, .int 155 0, .int 0 0, .ref 254, .int 166 0, .int 0 0, .ref 289, .int 180 0, .int 0 0, .ref 315, .int 207 0, .int 0 0, .ref 345, .int 248 0, .int 0 0, .ref 383]), #[]⟩
noncomputable def o246v411 (P : Params) : Obj := ⟨.type "type", none, (.cls ⟨"AESStreamModeOfOperation", [.ref 209], [.ref 246, .ref 209, .type "object"], 245, "AESStreamModeOfOperation", true, [], [.ref 281, .ref 409], false, none, false⟩), #[(some (.ref 214)), none, (some (S "AESStreamModeOfOperation" 4020)), (some (S "AESStreamModeOfOperation" 4028)), (some (.builtin "object.__new__")), (some (.bool true))]⟩
noncomputable def o378 (P : Params) : Obj := ⟨.type "tuple", none, (.seq #[.ref 246] 0), #[]⟩
noncomputable def o379 (P : Params) : Obj := ⟨.type "builtin_function_or_method", none, (.fields #[.builtin "type.__prepare__", .type "type"]), #[]⟩
noncomputable def o380 (P : Params) : Obj := ⟨.type "dict", none, (.dict #[E P "__module__" 4238 (S "pyaes.aes" 194), E P "__qualname__" 4240 (S "AESModeOfOperationOFB" 4239), E P "__firstlineno__" 4242 (.int 248 4241), E P "name" 4244 (S "Output Feedback (OFB)" 4243), E P "__init__" 4253 (.ref 392), E P "encrypt" 4265 (.ref 399), E P "decrypt" 4273 (.ref 406), E P "__static_attributes__" 4276 (.ref 407)] 8), #[]⟩
noncomputable def o381 (P : Params) : Obj := ⟨.type "tuple", none, (.seq #[] 0), #[]⟩
noncomputable def o382 (P : Params) : Obj := ⟨.none, none, (.fields #[.int 251 0, .int 4 0, .ref 391, .int 261 0, .int 4 0, .ref 398, .int 273 0, .int 4 0, .ref 405]), #[]⟩
noncomputable def o383 (P : Params) : Obj := ⟨.type "code", none, (.fields #[S "AESModeOfOperationOFB" 4233, S "AESModeOfOperationOFB" 4234, S "/claim/cut.py" 4235, .int 248 0, .int 0 0, .int 0 0, .int 0 0, .int 0 0, .ref 381, .bool false, .int 181 0, .ref 382, .none, .none, .none, .none, .int 4236 0, .int 248 0, S "/claim/cut.py" 4237]), #[]⟩
noncomputable def o384 (P : Params) : Obj := ⟨.type "frame", none, .plain, #[(some (.ref 383)), (some (.ref 3)), (some (.ref 380)), none, (some (S "pyaes.aes" 194)), none, (some (.ref 0))]⟩
noncomputable def o385 (P : Params) : Obj := ⟨.type "tuple", none, (.seq #[.none] 0), #[]⟩
noncomputable def o386 (P : Params) : Obj := ⟨.type "tuple", none, (.seq #[] 0), #[]⟩
noncomputable def o387 (P : Params) : Obj := ⟨.none, none, (.fields #[]), #[]⟩
noncomputable def o388 (P : Params) : Obj := ⟨.type "tuple", none, (.seq #[S "self" 4248, S "key" 4249, S "iv" 4250] 0), #[]⟩
noncomputable def o389 (P : Params) : Obj := ⟨.type "tuple", none, (.seq #[] 0), #[]⟩
noncomputable def o390 (P : Params) : Obj := ⟨.none, none, (.func ⟨"__init__", "AESModeOfOperationOFB.__init__", (fP (M 15 1)), (fB (M 15 1)), (fS (M 15 1)), 0, [], .none, .none, .none, .none, none, .none, .none, 0⟩), #[]⟩
noncomputable def o391 (P : Params) : Obj := ⟨.type "code", none, (.fields #[S "__init__" 4245, S "AESModeOfOperationOFB.__init__" 4246, S "/claim/cut.py" 4247, .int 251 0, .int 3 0, .int 0 0, .int 0 0, .int 3 0, .ref 386, .bool true, .int 181 0, .ref 387, .none, .ref 388, .ref 389, .ref 390, .int 4251 0, .int 251 0, S "/claim/cut.py" 4252]), #[]⟩
noncomputable def o392 (P : Params) : Obj := ⟨.type "function", none, (.func ⟨"__init__", "AESModeOfOperationOFB.__init__", (fP (M 15 1)), (fB (M 15 1)), (fS (M 15 1)), 3, [], .ref 385, .none, .none, S "pyaes.aes" 194, none, .ref 391, .none, 0⟩), #[]⟩
noncomputable def o393 (P : Params) : Obj := ⟨.type "tuple", none, (.seq #[] 0), #[]⟩
noncomputable def o394 (P : Params) : Obj := ⟨.none, none, (.fields #[]), #[]⟩
noncomputable def o395 (P : Params) : Obj := ⟨.type "tuple", none, (.seq #[S "self" 4257, S "plaintext" 4258, S "encrypted" 4259, S "p" 4260, S "precipherbyte" 4261, S "cipherbyte" 4262] 0), #[]⟩
noncomputable def o396 (P : Params) : Obj := ⟨.type "tuple", none, (.seq #[] 0), #[]⟩
noncomputable def o397 (P : Params) : Obj := ⟨.none, none, (.func ⟨"encrypt", "AESModeOfOperationOFB.encrypt", (fP (M 15 2)), (fB (M 15 2)), (fS (M 15 2)), 0, [], .none, .none, .none, .none, none, .none, .none, 0⟩), #[]⟩
noncomputable def o398 (P : Params) : Obj := ⟨.type "code", none, (.fields #[S "encrypt" 4254, S "AESModeOfOperationOFB.encrypt" 4255, S "/claim/cut.py" 4256, .int 261 0, .int 2 0, .int 0 0, .int 0 0, .int 3 0, .ref 393, .bool true, .int 181 0, .ref 394, .none, .ref 395, .ref 396, .ref 397, .int 4263 0, .int 261 0, S "/claim/cut.py" 4264]), #[]⟩
noncomputable def o399 (P : Params) : Obj := ⟨.type "function", none, (.func ⟨"encrypt", "AESModeOfOperationOFB.encrypt", (fP (M 15 2)), (fB (M 15 2)), (fS (M 15 2)), 3, [], .none, .none, .none, S "pyaes.aes" 194, none, .ref 398, .none, 0⟩), #[]⟩
noncomputable def o400 (P : Params) : Obj := ⟨.type "tuple", none, (.seq #[] 0), #[]⟩
noncomputable def o401 (P : Params) : Obj := ⟨.none, none, (.fields #[]), #[]⟩
noncomputable def o402 (P : Params) : Obj := ⟨.type "tuple", none, (.seq #[S "self" 4269, S "ciphertext" 4270] 0), #[]⟩
noncomputable def o403 (P : Params) : Obj := ⟨.type "tuple", none, (.seq #[] 0), #[]⟩
noncomputable def o404 (P : Params) : Obj := ⟨.none, none, (.func ⟨"decrypt", "AESModeOfOperationOFB.decrypt", (fP (M 15 3)), (fB (M 15 3)), (fS (M 15 3)), 0, [], .none, .none, .none, .none, none, .none, .none, 0⟩), #[]⟩
noncomputable def o405 (P : Params) : Obj := ⟨.type "code", none, (.fields #[S "decrypt" 4266, S "AESModeOfOperationOFB.decrypt" 4267, S "/claim/cut.py" 4268, .int 273 0, .int 2 0, .int 0 0, .int 0 0, .int 3 0, .ref 400, .bool true, .int 181 0, .ref 401, .none, .ref 402, .ref 403, .ref 404, .int 4271 0, .int 273 0, S "/claim/cut.py" 4272]), #[]⟩
noncomputable def o406 (P : Params) : Obj := ⟨.type "function", none, (.func ⟨"decrypt", "AESModeOfOperationOFB.decrypt", (fP (M 15 3)), (fB (M 15 3)), (fS (M 15 3)), 3, [], .none, .none, .none, S "pyaes.aes" 194, none, .ref 405, .none, 0⟩), #[]⟩
noncomputable def o407 (P : Params) : Obj := ⟨.type "tuple", none, (.seq #[S "_last_precipherblock" 4274, S "_remaining_block" 4275] 0), #[]⟩
noncomputable def o408 (P : Params) : Obj := ⟨.type "dict", none, (.dict #[E P "__module__" 4238 (S "pyaes.aes" 194), E P "__firstlineno__" 4242 (.int 248 4241), E P "name" 4244 (S "Output Feedback (OFB)" 4243), E P "__init__" 4253 (.ref 392), E P "encrypt" 4265 (.ref 399), E P "decrypt" 4273 (.ref 406), E P "__static_attributes__" 4276 (.ref 407), E P "__doc__" 4277 (.none)] 2), #[]⟩
noncomputable def o409 (P : Params) : Obj := ⟨.type "type", none, (.cls ⟨"AESModeOfOperationOFB", [.ref 246], [.ref 409, .ref 246, .ref 209, .type "object"], 408, "AESModeOfOperationOFB", true, [], [], false, none, false⟩), #[(some (.ref 378)), none, (some (S "AESModeOfOperationOFB" 4231)), (some (S "AESModeOfOperationOFB" 4239)), (some (.builtin "object.__new__")), (some (.bool true))]⟩
noncomputable def o410 (P : Params) : Obj := ⟨.type "super", none, (.fields #[.ref 409, .ref 409, .ref 409]), #[]⟩
noncomputable def o411 (P : Params) : Obj := ⟨.type "builtin_function_or_method", none, (.fields #[.builtin "object.__init_subclass__", .ref 409]), #[]⟩
noncomputable def o3v446 (P : Params) : Obj := ⟨.type "dict", none, (.dict #[E P "__name__" 165 (S "law_yv0003_01" 4323), E P "__doc__" 166 (.none), E P "__package__" 167 (.none), E P "__loader__" 168 (.builtin "__main__.__loader__#opaque"), E P "__spec__" 169 (.none), E P "__annotations__" 170 (.ref 6), E P "__builtins__" 171 (.ref 4), E P "__file__" 173 (S "/claim/cut.py" 172), E P "__cached__" 174 (.none), E P "_wall" 193 (.ref 21), E P "PADDING_DEFAULT" 197 (S "default" 196), E P "_compact_word" 204 (.ref 28), E P "_string_to_bytes" 210 (.ref 33), E P "_bytes_to_string" 217 (.ref 40), E P "_concat_list" 225 (.ref 47), E P "AES" 3904 (.ref 116), E P "Counter" 3948 (.ref 151), E P "AESBlockModeOfOperation" 4019 (.ref 209), E P "AESStreamModeOfOperation" 4061 (.ref 246), E P "AESSegmentModeOfOperation" 4105 (.ref 281), E P "AESModeOfOperationECB" 4139 (.ref 307), E P "AESModeOfOperationCBC" 4179 (.ref 337), E P "AESModeOfOperationCFB" 4230 (.ref 375), E P "AESModeOfOperationOFB" 4279 (.ref 409), E P "AESModeOfOperationCTR" 4322 (.ref 441), E P "_law_cell" 4332 (.ref 450)] 26), #[]⟩
noncomputable def o12v447 (P : Params) : Obj := ⟨.none, none, (.fields #[.int 1 0, .int 0 0, .ref 20, .int 6 0, .int 0 0, .ref 27, .int 8 0, .int 0 0, .ref 32, .int 12 0, .int 0 0, .ref 39, .int 14 0, .int 0 0, .ref 46, .int 16 0, .int 0 0, .ref 53, .int 112 0, .int 0 0, .ref 126, .int 126 0, .int 0 0, .ref 161, .int 145 0, .int 0 0, .ref 219, .int 155 0, .int 0 0, .ref 254, .int 166 0, .int 0 0, .ref 289, .int 180 0, .int 0 0, .ref 315, .int 207 0, .int 0 0, .ref 345, .int 248 0, .int 0 0, .ref 383, .int 275 0, .int 0 0, .ref 417, .int 297 0, .int 0 0, .ref 449]), #[]⟩
noncomputable def o246v448 (P : Params) : Obj := ⟨.type "type", none, (.cls ⟨"AESStreamModeOfOperation", [.ref 209], [.ref 246, .ref 209, .type "object"], 245, "AESStreamModeOfOperation", true, [], [.ref 281, .ref 409, .ref 441], false, none, false⟩), #[(some (.ref 214)), none, (some (S "AESStreamModeOfOperation" 4020)), (some (S "AESStreamModeOfOperation" 4028)), (some (.builtin "object.__new__")), (some (.bool true))]⟩
noncomputable def o412 (P : Params) : Obj := ⟨.type "tuple", none, (.seq #[.ref 246] 0), #[]⟩
noncomputable def o413 (P : Params) : Obj := ⟨.type "builtin_function_or_method", none, (.fields #[.builtin "type.__prepare__", .type "type"]), #[]⟩
noncomputable def o414 (P : Params) : Obj := ⟨.type "dict", none, (.dict #[E P "__module__" 4287 (S "pyaes.aes" 194), E P "__qualname__" 4289 (S "AESModeOfOperationCTR" 4288), E P "__firstlineno__" 4291 (.int 275 4290), E P "name" 4293 (S "Counter (CTR)" 4292), E P "__init__" 4302 (.ref 426), E P "encrypt" 4308 (.ref 431), E P "decrypt" 4316 (.ref 438), E P "__static_attributes__" 4319 (.ref 439)] 8), #[]⟩
noncomputable def o415 (P : Params) : Obj := ⟨.type "tuple", none, (.seq #[] 0), #[]⟩
noncomputable def o416 (P : Params) : Obj := ⟨.none, none, (.fields #[.int 278 0, .int 4 0, .ref 425, .int 285 0, .int 4 0, .ref 430, .int 294 0, .int 4 0, .ref 437]), #[]⟩
noncomputable def o417 (P : Params) : Obj := ⟨.type "code", none, (.fields #[S "AESModeOfOperationCTR" 4282, S "AESModeOfOperationCTR" 4283, S "/claim/cut.py" 4284, .int 275 0, .int 0 0, .int 0 0, .int 0 0, .int 0 0, .ref 415, .bool false, .int 181 0, .ref 416, .none, .none, .none, .none, .int 4285 0, .int 275 0, S "/claim/cut.py" 4286]), #[]⟩
noncomputable def o418 (P : Params) : Obj := ⟨.type "frame", none, .plain, #[(some (.ref 417)), (some (.ref 3)), (some (.ref 414)), none, (some (S "pyaes.aes" 194)), none, (some (.ref 0))]⟩
noncomputable def o419 (P : Params) : Obj := ⟨.type "tuple", none, (.seq #[.none] 0), #[]⟩
noncomputable def o420 (P : Params) : Obj := ⟨.type "tuple", none, (.seq #[] 0), #[]⟩
noncomputable def o421 (P : Params) : Obj := ⟨.none, none, (.fields #[]), #[]⟩
noncomputable def o422 (P : Params) : Obj := ⟨.type "tuple", none, (.seq #[S "self" 4297, S "key" 4298, S "counter" 4299] 0), #[]⟩
noncomputable def o423 (P : Params) : Obj := ⟨.type "tuple", none, (.seq #[] 0), #[]⟩
noncomputable def o424 (P : Params) : Obj := ⟨.none, none, (.func ⟨"__init__", "AESModeOfOperationCTR.__init__", (fP (M 16 1)), (fB (M 16 1)), (fS (M 16 1)), 0, [], .none, .none, .none, .none, none, .none, .none, 0⟩), #[]⟩
noncomputable def o425 (P : Params) : Obj := ⟨.type "code", none, (.fields #[S "__init__" 4294, S "AESModeOfOperationCTR.__init__" 4295, S "/claim/cut.py" 4296, .int 278 0, .int 3 0, .int 0 0, .int 0 0, .int 3 0, .ref 420, .bool true, .int 181 0, .ref 421, .none, .ref 422, .ref 423, .ref 424, .int 4300 0, .int 278 0, S "/claim/cut.py" 4301]), #[]⟩
noncomputable def o426 (P : Params) : Obj := ⟨.type "function", none, (.func ⟨"__init__", "AESModeOfOperationCTR.__init__", (fP (M 16 1)), (fB (M 16 1)), (fS (M 16 1)), 3, [], .ref 419, .none, .none, S "pyaes.aes" 194, none, .ref 425, .none, 0⟩), #[]⟩
noncomputable def o427 (P : Params) : Obj := ⟨.type "tuple", none, (.seq #[] 0), #[]⟩
noncomputable def o428 (P : Params) : Obj := ⟨.none, none, (.fields #[]), #[]⟩
noncomputable def o429 (P : Params) : Obj := ⟨.none, none, (.func ⟨"encrypt", "AESModeOfOperationCTR.encrypt", (fP (M 16 2)), (fB (M 16 2)), (fS (M 16 2)), 0, [], .none, .none, .none, .none, none, .none, .none, 0⟩), #[]⟩
noncomputable def o430 (P : Params) : Obj := ⟨.type "code", none, (.fields #[S "encrypt" 4303, S "AESModeOfOperationCTR.encrypt" 4304, S "/claim/cut.py" 4305, .int 285 0, .int 2 0, .int 0 0, .int 0 0, .int 3 0, .ref 427, .bool true, .int 181 0, .ref 428, .none, .none, .none, .ref 429, .int 4306 0, .int 285 0, S "/claim/cut.py" 4307]), #[]⟩
noncomputable def o431 (P : Params) : Obj := ⟨.type "function", none, (.func ⟨"encrypt", "AESModeOfOperationCTR.encrypt", (fP (M 16 2)), (fB (M 16 2)), (fS (M 16 2)), 3, [], .none, .none, .none, S "pyaes.aes" 194, none, .ref 430, .none, 0⟩), #[]⟩
noncomputable def o432 (P : Params) : Obj := ⟨.type "tuple", none, (.seq #[] 0), #[]⟩
noncomputable def o433 (P : Params) : Obj := ⟨.none, none, (.fields #[]), #[]⟩
noncomputable def o434 (P : Params) : Obj := ⟨.type "tuple", none, (.seq #[S "self" 4312, S "crypttext" 4313] 0), #[]⟩
noncomputable def o435 (P : Params) : Obj := ⟨.type "tuple", none, (.seq #[] 0), #[]⟩
noncomputable def o436 (P : Params) : Obj := ⟨.none, none, (.func ⟨"decrypt", "AESModeOfOperationCTR.decrypt", (fP (M 16 3)), (fB (M 16 3)), (fS (M 16 3)), 0, [], .none, .none, .none, .none, none, .none, .none, 0⟩), #[]⟩
noncomputable def o437 (P : Params) : Obj := ⟨.type "code", none, (.fields #[S "decrypt" 4309, S "AESModeOfOperationCTR.decrypt" 4310, S "/claim/cut.py" 4311, .int 294 0, .int 2 0, .int 0 0, .int 0 0, .int 3 0, .ref 432, .bool true, .int 181 0, .ref 433, .none, .ref 434, .ref 435, .ref 436, .int 4314 0, .int 294 0, S "/claim/cut.py" 4315]), #[]⟩
noncomputable def o438 (P : Params) : Obj := ⟨.type "function", none, (.func ⟨"decrypt", "AESModeOfOperationCTR.decrypt", (fP (M 16 3)), (fB (M 16 3)), (fS (M 16 3)), 3, [], .none, .none, .none, S "pyaes.aes" 194, none, .ref 437, .none, 0⟩), #[]⟩
noncomputable def o439 (P : Params) : Obj := ⟨.type "tuple", none, (.seq #[S "_counter" 4317, S "_remaining_counter" 4318] 0), #[]⟩
noncomputable def o440 (P : Params) : Obj := ⟨.type "dict", none, (.dict #[E P "__module__" 4287 (S "pyaes.aes" 194), E P "__firstlineno__" 4291 (.int 275 4290), E P "name" 4293 (S "Counter (CTR)" 4292), E P "__init__" 4302 (.ref 426), E P "encrypt" 4308 (.ref 431), E P "decrypt" 4316 (.ref 438), E P "__static_attributes__" 4319 (.ref 439), E P "__doc__" 4320 (.none)] 2), #[]⟩
noncomputable def o441 (P : Params) : Obj := ⟨.type "type", none, (.cls ⟨"AESModeOfOperationCTR", [.ref 246], [.ref 441, .ref 246, .ref 209, .type "object"], 440, "AESModeOfOperationCTR", true, [], [], false, none, false⟩), #[(some (.ref 412)), none, (some (S "AESModeOfOperationCTR" 4280)), (some (S "AESModeOfOperationCTR" 4288)), (some (.builtin "object.__new__")), (some (.bool true))]⟩
noncomputable def o442 (P : Params) : Obj := ⟨.type "super", none, (.fields #[.ref 441, .ref 441, .ref 441]), #[]⟩
noncomputable def o443 (P : Params) : Obj := ⟨.type "builtin_function_or_method", none, (.fields #[.builtin "object.__init_subclass__", .ref 441]), #[]⟩
noncomputable def o444 (P : Params) : Obj := ⟨.type "tuple", none, (.seq #[] 0), #[]⟩
noncomputable def o445 (P : Params) : Obj := ⟨.none, none, (.fields #[]), #[]⟩
noncomputable def o446 (P : Params) : Obj := ⟨.type "tuple", none, (.seq #[S "script" 4328, S "k" 4329] 0), #[]⟩
noncomputable def o447 (P : Params) : Obj := ⟨.type "tuple", none, (.seq #[] 0), #[]⟩
noncomputable def o448 (P : Params) : Obj := ⟨.none, none, (.func ⟨"_law_cell", "_law_cell", (fP (T 18)), (fB (T 18)), (fS (T 18)), 0, [], .none, .none, .none, .none, none, .none, .none, 0⟩), #[]⟩
noncomputable def o449 (P : Params) : Obj := ⟨.type "code", none, (.fields #[S "_law_cell" 4325, S "_law_cell" 4326, S "/claim/cut.py" 4327, .int 297 0, .int 2 0, .int 0 0, .int 0 0, .int 3 0, .ref 444, .bool true, .int 181 0, .ref 445, .none, .ref 446, .ref 447, .ref 448, .int 4330 0, .int 297 0, S "/claim/cut.py" 4331]), #[]⟩
noncomputable def o450 (P : Params) : Obj := ⟨.type "function", none, (.func ⟨"_law_cell", "_law_cell", (fP (T 18)), (fB (T 18)), (fS (T 18)), 3, [], .none, .none, .none, S "law_yv0003_01" 4323, none, .ref 449, .none, 0⟩), #[]⟩
noncomputable def o3v488 (P : Params) : Obj := ⟨.type "dict", none, (.dict #[E P "__name__" 165 (S "law_yv0003_01" 4323), E P "__doc__" 166 (.none), E P "__package__" 167 (.none), E P "__loader__" 168 (.builtin "__main__.__loader__#opaque"), E P "__spec__" 169 (.none), E P "__annotations__" 170 (.ref 6), E P "__builtins__" 171 (.ref 4), E P "__file__" 173 (S "/claim/cut.py" 172), E P "__cached__" 174 (.none), E P "_wall" 193 (.ref 21), E P "PADDING_DEFAULT" 197 (S "default" 196), E P "_compact_word" 204 (.ref 28), E P "_string_to_bytes" 210 (.ref 33), E P "_bytes_to_string" 217 (.ref 40), E P "_concat_list" 225 (.ref 47), E P "AES" 3904 (.ref 116), E P "Counter" 3948 (.ref 151), E P "AESBlockModeOfOperation" 4019 (.ref 209), E P "AESStreamModeOfOperation" 4061 (.ref 246), E P "AESSegmentModeOfOperation" 4105 (.ref 281), E P "AESModeOfOperationECB" 4139 (.ref 307), E P "AESModeOfOperationCBC" 4179 (.ref 337), E P "AESModeOfOperationCFB" 4230 (.ref 375), E P "AESModeOfOperationOFB" 4279 (.ref 409), E P "AESModeOfOperationCTR" 4322 (.ref 441), E P "_law_cell" 4332 (.ref 450), E P "_law_row" 4344 (.ref 457), E P "_law_sum" 4350 (.ref 462), E P "_law_count" 4356 (.ref 467), E P "_law_padded" 4364 (.ref 474), E P "_law_rule" 4382 (.ref 481), E P "_law_mode" 4393 (.ref 488), E P "_law_pieces" 4407 (.ref 495), E P "law" 4413 (.ref 500)] 34), #[]⟩
noncomputable def o12v489 (P : Params) : Obj := ⟨.none, none, (.fields #[.int 1 0, .int 0 0, .ref 20, .int 6 0, .int 0 0, .ref 27, .int 8 0, .int 0 0, .ref 32, .int 12 0, .int 0 0, .ref 39, .int 14 0, .int 0 0, .ref 46, .int 16 0, .int 0 0, .ref 53, .int 112 0, .int 0 0, .ref 126, .int 126 0, .int 0 0, .ref 161, .int 145 0, .int 0 0, .ref 219, .int 155 0, .int 0 0, .ref 254, .int 166 0, .int 0 0, .ref 289, .int 180 0, .int 0 0, .ref 315, .int 207 0, .int 0 0, .ref 345, .int 248 0, .int 0 0, .ref 383, .int 275 0, .int 0 0, .ref 417, .int 297 0, .int 0 0, .ref 449, .int 301 0, .int 0 0, .ref 456, .int 310 0, .int 0 0, .ref 461, .int 312 0, .int 0 0, .ref 466, .int 315 0, .int 0 0, .ref 473, .int 318 0, .int 0 0, .ref 480, .int 339 0, .int 0 0, .ref 487, .int 349 0, .int 0 0, .ref 494, .int 359 0, .int 0 0, .ref 499]), #[]⟩
noncomputable def o451 (P : Params) : Obj := ⟨.type "tuple", none, (.seq #[] 0), #[]⟩
noncomputable def o452 (P : Params) : Obj := ⟨.none, none, (.fields #[]), #[]⟩
noncomputable def o453 (P : Params) : Obj := ⟨.type "tuple", none, (.seq #[S "script" 4336, S "start" 4337, S "size" 4338, S "row" 4339, S "number" 4340, S "k" 4341] 0), #[]⟩
noncomputable def o454 (P : Params) : Obj := ⟨.type "tuple", none, (.seq #[] 0), #[]⟩
noncomputable def o455 (P : Params) : Obj := ⟨.none, none, (.func ⟨"_law_row", "_law_row", (fP (T 19)), (fB (T 19)), (fS (T 19)), 0, [], .none, .none, .none, .none, none, .none, .none, 0⟩), #[]⟩
noncomputable def o456 (P : Params) : Obj := ⟨.type "code", none, (.fields #[S "_law_row" 4333, S "_law_row" 4334, S "/claim/cut.py" 4335, .int 301 0, .int 3 0, .int 0 0, .int 0 0, .int 3 0, .ref 451, .bool true, .int 181 0, .ref 452, .none, .ref 453, .ref 454, .ref 455, .int 4342 0, .int 301 0, S "/claim/cut.py" 4343]), #[]⟩
noncomputable def o457 (P : Params) : Obj := ⟨.type "function", none, (.func ⟨"_law_row", "_law_row", (fP (T 19)), (fB (T 19)), (fS (T 19)), 3, [], .none, .none, .none, S "law_yv0003_01" 4323, none, .ref 456, .none, 0⟩), #[]⟩
noncomputable def o458 (P : Params) : Obj := ⟨.type "tuple", none, (.seq #[] 0), #[]⟩
noncomputable def o459 (P : Params) : Obj := ⟨.none, none, (.fields #[]), #[]⟩
noncomputable def o460 (P : Params) : Obj := ⟨.none, none, (.func ⟨"_law_sum", "_law_sum", (fP (T 20)), (fB (T 20)), (fS (T 20)), 0, [], .none, .none, .none, .none, none, .none, .none, 0⟩), #[]⟩
noncomputable def o461 (P : Params) : Obj := ⟨.type "code", none, (.fields #[S "_law_sum" 4345, S "_law_sum" 4346, S "/claim/cut.py" 4347, .int 310 0, .int 2 0, .int 0 0, .int 0 0, .int 3 0, .ref 458, .bool true, .int 181 0, .ref 459, .none, .none, .none, .ref 460, .int 4348 0, .int 310 0, S "/claim/cut.py" 4349]), #[]⟩
noncomputable def o462 (P : Params) : Obj := ⟨.type "function", none, (.func ⟨"_law_sum", "_law_sum", (fP (T 20)), (fB (T 20)), (fS (T 20)), 3, [], .none, .none, .none, S "law_yv0003_01" 4323, none, .ref 461, .none, 0⟩), #[]⟩
noncomputable def o463 (P : Params) : Obj := ⟨.type "tuple", none, (.seq #[] 0), #[]⟩
noncomputable def o464 (P : Params) : Obj := ⟨.none, none, (.fields #[]), #[]⟩
noncomputable def o465 (P : Params) : Obj := ⟨.none, none, (.func ⟨"_law_count", "_law_count", (fP (T 21)), (fB (T 21)), (fS (T 21)), 0, [], .none, .none, .none, .none, none, .none, .none, 0⟩), #[]⟩
noncomputable def o466 (P : Params) : Obj := ⟨.type "code", none, (.fields #[S "_law_count" 4351, S "_law_count" 4352, S "/claim/cut.py" 4353, .int 312 0, .int 1 0, .int 0 0, .int 0 0, .int 3 0, .ref 463, .bool true, .int 181 0, .ref 464, .none, .none, .none, .ref 465, .int 4354 0, .int 312 0, S "/claim/cut.py" 4355]), #[]⟩
noncomputable def o467 (P : Params) : Obj := ⟨.type "function", none, (.func ⟨"_law_count", "_law_count", (fP (T 21)), (fB (T 21)), (fS (T 21)), 3, [], .none, .none, .none, S "law_yv0003_01" 4323, none, .ref 466, .none, 0⟩), #[]⟩
noncomputable def o468 (P : Params) : Obj := ⟨.type "tuple", none, (.seq #[] 0), #[]⟩
noncomputable def o469 (P : Params) : Obj := ⟨.none, none, (.fields #[]), #[]⟩
noncomputable def o470 (P : Params) : Obj := ⟨.type "tuple", none, (.seq #[S "data" 4360, S "pad" 4361] 0), #[]⟩
noncomputable def o471 (P : Params) : Obj := ⟨.type "tuple", none, (.seq #[] 0), #[]⟩
noncomputable def o472 (P : Params) : Obj := ⟨.none, none, (.func ⟨"_law_padded", "_law_padded", (fP (T 22)), (fB (T 22)), (fS (T 22)), 0, [], .none, .none, .none, .none, none, .none, .none, 0⟩), #[]⟩
noncomputable def o473 (P : Params) : Obj := ⟨.type "code", none, (.fields #[S "_law_padded" 4357, S "_law_padded" 4358, S "/claim/cut.py" 4359, .int 315 0, .int 1 0, .int 0 0, .int 0 0, .int 3 0, .ref 468, .bool true, .int 181 0, .ref 469, .none, .ref 470, .ref 471, .ref 472, .int 4362 0, .int 315 0, S "/claim/cut.py" 4363]), #[]⟩
noncomputable def o474 (P : Params) : Obj := ⟨.type "function", none, (.func ⟨"_law_padded", "_law_padded", (fP (T 22)), (fB (T 22)), (fS (T 22)), 3, [], .none, .none, .none, S "law_yv0003_01" 4323, none, .ref 473, .none, 0⟩), #[]⟩
noncomputable def o475 (P : Params) : Obj := ⟨.type "tuple", none, (.seq #[] 0), #[]⟩
noncomputable def o476 (P : Params) : Obj := ⟨.none, none, (.fields #[]), #[]⟩
noncomputable def o477 (P : Params) : Obj := ⟨.type "tuple", none, (.seq #[S "mode" 4368, S "aes" 4369, S "first" 4370, S "size" 4371, S "start" 4372, S "data" 4373, S "out" 4374, S "last" 4375, S "step" 4376, S "place" 4377, S "part" 4378, S "made" 4379] 0), #[]⟩
noncomputable def o478 (P : Params) : Obj := ⟨.type "tuple", none, (.seq #[] 0), #[]⟩
noncomputable def o479 (P : Params) : Obj := ⟨.none, none, (.func ⟨"_law_rule", "_law_rule", (fP (T 23)), (fB (T 23)), (fS (T 23)), 0, [], .none, .none, .none, .none, none, .none, .none, 0⟩), #[]⟩
noncomputable def o480 (P : Params) : Obj := ⟨.type "code", none, (.fields #[S "_law_rule" 4365, S "_law_rule" 4366, S "/claim/cut.py" 4367, .int 318 0, .int 6 0, .int 0 0, .int 0 0, .int 3 0, .ref 475, .bool true, .int 181 0, .ref 476, .none, .ref 477, .ref 478, .ref 479, .int 4380 0, .int 318 0, S "/claim/cut.py" 4381]), #[]⟩
noncomputable def o481 (P : Params) : Obj := ⟨.type "function", none, (.func ⟨"_law_rule", "_law_rule", (fP (T 23)), (fB (T 23)), (fS (T 23)), 3, [], .none, .none, .none, S "law_yv0003_01" 4323, none, .ref 480, .none, 0⟩), #[]⟩
noncomputable def o482 (P : Params) : Obj := ⟨.type "tuple", none, (.seq #[] 0), #[]⟩
noncomputable def o483 (P : Params) : Obj := ⟨.none, none, (.fields #[]), #[]⟩
noncomputable def o484 (P : Params) : Obj := ⟨.type "tuple", none, (.seq #[S "mode" 4386, S "key" 4387, S "first" 4388, S "size" 4389, S "start" 4390] 0), #[]⟩
noncomputable def o485 (P : Params) : Obj := ⟨.type "tuple", none, (.seq #[] 0), #[]⟩
noncomputable def o486 (P : Params) : Obj := ⟨.none, none, (.func ⟨"_law_mode", "_law_mode", (fP (T 24)), (fB (T 24)), (fS (T 24)), 0, [], .none, .none, .none, .none, none, .none, .none, 0⟩), #[]⟩
noncomputable def o487 (P : Params) : Obj := ⟨.type "code", none, (.fields #[S "_law_mode" 4383, S "_law_mode" 4384, S "/claim/cut.py" 4385, .int 339 0, .int 5 0, .int 0 0, .int 0 0, .int 3 0, .ref 482, .bool true, .int 181 0, .ref 483, .none, .ref 484, .ref 485, .ref 486, .int 4391 0, .int 339 0, S "/claim/cut.py" 4392]), #[]⟩
noncomputable def o488 (P : Params) : Obj := ⟨.type "function", none, (.func ⟨"_law_mode", "_law_mode", (fP (T 24)), (fB (T 24)), (fS (T 24)), 3, [], .none, .none, .none, S "law_yv0003_01" 4323, none, .ref 487, .none, 0⟩), #[]⟩
noncomputable def o489 (P : Params) : Obj := ⟨.type "tuple", none, (.seq #[] 0), #[]⟩
noncomputable def o490 (P : Params) : Obj := ⟨.none, none, (.fields #[]), #[]⟩
noncomputable def o491 (P : Params) : Obj := ⟨.type "tuple", none, (.seq #[S "call" 4397, S "data" 4398, S "script" 4399, S "start" 4400, S "out" 4401, S "place" 4402, S "k" 4403, S "step" 4404] 0), #[]⟩
noncomputable def o492 (P : Params) : Obj := ⟨.type "tuple", none, (.seq #[] 0), #[]⟩
noncomputable def o493 (P : Params) : Obj := ⟨.none, none, (.func ⟨"_law_pieces", "_law_pieces", (fP (T 25)), (fB (T 25)), (fS (T 25)), 0, [], .none, .none, .none, .none, none, .none, .none, 0⟩), #[]⟩
noncomputable def o494 (P : Params) : Obj := ⟨.type "code", none, (.fields #[S "_law_pieces" 4394, S "_law_pieces" 4395, S "/claim/cut.py" 4396, .int 349 0, .int 4 0, .int 0 0, .int 0 0, .int 3 0, .ref 489, .bool true, .int 181 0, .ref 490, .none, .ref 491, .ref 492, .ref 493, .int 4405 0, .int 349 0, S "/claim/cut.py" 4406]), #[]⟩
noncomputable def o495 (P : Params) : Obj := ⟨.type "function", none, (.func ⟨"_law_pieces", "_law_pieces", (fP (T 25)), (fB (T 25)), (fS (T 25)), 3, [], .none, .none, .none, S "law_yv0003_01" 4323, none, .ref 494, .none, 0⟩), #[]⟩
noncomputable def o496 (P : Params) : Obj := ⟨.type "tuple", none, (.seq #[] 0), #[]⟩
noncomputable def o497 (P : Params) : Obj := ⟨.none, none, (.fields #[]), #[]⟩
noncomputable def o498 (P : Params) : Obj := ⟨.none, none, (.func ⟨"law", "law", (fP (T 26)), (fB (T 26)), (fS (T 26)), 0, [], .none, .none, .none, .none, none, .none, .none, 0⟩), #[]⟩
noncomputable def o499 (P : Params) : Obj := ⟨.type "code", none, (.fields #[S "law" 4408, S "law" 4409, S "/claim/cut.py" 4410, .int 359 0, .int 1 0, .int 0 0, .int 0 0, .int 3 0, .ref 496, .bool true, .int 181 0, .ref 497, .none, .none, .none, .ref 498, .int 4411 0, .int 359 0, S "/claim/cut.py" 4412]), #[]⟩
noncomputable def o500 (P : Params) : Obj := ⟨.type "function", none, (.func ⟨"law", "law", (fP (T 26)), (fB (T 26)), (fS (T 26)), 3, [], .none, .none, .none, S "law_yv0003_01" 4323, none, .ref 499, .none, 0⟩), #[]⟩
noncomputable def t0 (P : Params) : BT := (nd (boot_o_0 P) (nd (boot_o_1 P) (nd (boot_o_3 P) (lf (boot_o_7 P)) (lf (o11 P))) (nd (boot_o_5 P) (lf (boot_o_9 P)) (lf (o13 P)))) (nd (boot_o_2 P) (nd (boot_o_4 P) (lf (boot_o_8 P)) (lf (o12 P))) (nd (boot_o_6 P) (lf (boot_o_10 P)) (lf (o14 P)))))
noncomputable def s0 (w : World) (os : OsState) : SharedT := ⟨t0 w.params, 15, {}, #[], {}, 187, os⟩
noncomputable def t1 (P : Params) : BT := (nd (boot_o_0 P) (nd (boot_o_1 P) (nd (o3 P) (nd (boot_o_7 P) (nd (o15 P) (lf (o31 P)) (lf (o47 P))) (nd (o23 P) (lf (o39 P)) nl)) (nd (o11 P) (nd (o19 P) (lf (o35 P)) nl) (nd (o27 P) (lf (o43 P)) nl))) (nd (boot_o_5 P) (nd (boot_o_9 P) (nd (o17 P) (lf (o33 P)) nl) (nd (o25 P) (lf (o41 P)) nl)) (nd (o13 P) (nd (o21 P) (lf (o37 P)) nl) (nd (o29 P) (lf (o45 P)) nl)))) (nd (boot_o_2 P) (nd (boot_o_4 P) (nd (boot_o_8 P) (nd (o16 P) (lf (o32 P)) nl) (nd (o24 P) (lf (o40 P)) nl)) (nd (o12v5 P) (nd (o20 P) (lf (o36 P)) nl) (nd (o28 P) (lf (o44 P)) nl))) (nd (boot_o_6 P) (nd (boot_o_10 P) (nd (o18 P) (lf (o34 P)) nl) (nd (o26 P) (lf (o42 P)) nl)) (nd (o14 P) (nd (o22 P) (lf (o38 P)) nl) (nd (o30 P) (lf (o46 P)) nl)))))
noncomputable def s1 (w : World) (os : OsState) : SharedT := ⟨t1 w.params, 48, {}, #[], {}, 226, os⟩
noncomputable def tB0 (P : Params) : BT := (nd (boot_o_0 P) (nd (boot_o_1 P) (nd (o3 P) (nd (boot_o_7 P) (nd (o15 P) (lf (o31 P)) (lf (o47 P))) (nd (o23 P) (lf (o39 P)) nl)) (nd (o11 P) (nd (o19 P) (lf (o35 P)) (lf (o51 P))) (nd (o27 P) (lf (o43 P)) nl))) (nd (boot_o_5 P) (nd (boot_o_9 P) (nd (o17 P) (lf (o33 P)) (lf (o49 P))) (nd (o25 P) (lf (o41 P)) nl)) (nd (o13 P) (nd (o21 P) (lf (o37 P)) (lf (o53 P))) (nd (o29 P) (lf (o45 P)) nl)))) (nd (boot_o_2 P) (nd (boot_o_4 P) (nd (boot_o_8 P) (nd (o16 P) (lf (o32 P)) (lf (o48 P))) (nd (o24 P) (lf (o40 P)) nl)) (nd (o12v39 P) (nd (o20 P) (lf (o36 P)) (lf (o52 P))) (nd (o28 P) (lf (o44 P)) nl))) (nd (boot_o_6 P) (nd (boot_o_10 P) (nd (o18 P) (lf (o34 P)) (lf (o50 P))) (nd (o26 P) (lf (o42 P)) nl)) (nd (o14 P) (nd (o22 P) (lf (o38 P)) (lf (o54 P))) (nd (o30 P) (lf (o46 P)) nl)))))
noncomputable def sB0 (w : World) (os : OsState) : SharedT := ⟨tB0 w.params, 55, {}, #[], {}, 238, os⟩
noncomputable def tB1 (P : Params) : BT := (nd (boot_o_0 P) (nd (boot_o_1 P) (nd (o3 P) (nd (boot_o_7 P) (nd (o15 P) (lf (o31 P)) (lf (o47 P))) (nd (o23 P) (lf (o39 P)) (lf (o55 P)))) (nd (o11 P) (nd (o19 P) (lf (o35 P)) (lf (o51 P))) (nd (o27 P) (lf (o43 P)) nl))) (nd (boot_o_5 P) (nd (boot_o_9 P) (nd (o17 P) (lf (o33 P)) (lf (o49 P))) (nd (o25 P) (lf (o41 P)) nl)) (nd (o13 P) (nd (o21 P) (lf (o37 P)) (lf (o53 P))) (nd (o29 P) (lf (o45 P)) nl)))) (nd (boot_o_2 P) (nd (boot_o_4 P) (nd (boot_o_8 P) (nd (o16 P) (lf (o32 P)) (lf (o48 P))) (nd (o24 P) (lf (o40 P)) (lf (o56 P)))) (nd (o12v39 P) (nd (o20 P) (lf (o36 P)) (lf (o52 P))) (nd (o28 P) (lf (o44 P)) nl))) (nd (boot_o_6 P) (nd (boot_o_10 P) (nd (o18 P) (lf (o34 P)) (lf (o50v47 P))) (nd (o26 P) (lf (o42 P)) nl)) (nd (o14 P) (nd (o22 P) (lf (o38 P)) (lf (o54 P))) (nd (o30 P) (lf (o46 P)) nl)))))
noncomputable def sB1 (w : World) (os : OsState) : SharedT := ⟨tB1 w.params, 57, {}, #[], {}, 279, os⟩
noncomputable def tB2 (P : Params) : BT := (nd (boot_o_0 P) (nd (boot_o_1 P) (nd (o3 P) (nd (boot_o_7 P) (nd (o15 P) (lf (o31 P)) (lf (o47 P))) (nd (o23 P) (lf (o39 P)) (lf (o55 P)))) (nd (o11 P) (nd (o19 P) (lf (o35 P)) (lf (o51 P))) (nd (o27 P) (lf (o43 P)) (lf (o59 P))))) (nd (boot_o_5 P) (nd (boot_o_9 P) (nd (o17 P) (lf (o33 P)) (lf (o49 P))) (nd (o25 P) (lf (o41 P)) (lf (o57 P)))) (nd (o13 P) (nd (o21 P) (lf (o37 P)) (lf (o53 P))) (nd (o29 P) (lf (o45 P)) nl)))) (nd (boot_o_2 P) (nd (boot_o_4 P) (nd (boot_o_8 P) (nd (o16 P) (lf (o32 P)) (lf (o48 P))) (nd (o24 P) (lf (o40 P)) (lf (o56 P)))) (nd (o12v39 P) (nd (o20 P) (lf (o36 P)) (lf (o52 P))) (nd (o28 P) (lf (o44 P)) nl))) (nd (boot_o_6 P) (nd (boot_o_10 P) (nd (o18 P) (lf (o34 P)) (lf (o50v50 P))) (nd (o26 P) (lf (o42 P)) (lf (o58 P)))) (nd (o14 P) (nd (o22 P) (lf (o38 P)) (lf (o54 P))) (nd (o30 P) (lf (o46 P)) nl)))))
noncomputable def sB2 (w : World) (os : OsState) : SharedT := ⟨tB2 w.params, 60, {}, #[], {}, 536, os⟩
noncomputable def tB3 (P : Params) : BT := (nd (boot_o_0 P) (nd (boot_o_1 P) (nd (o3 P) (nd (boot_o_7 P) (nd (o15 P) (lf (o31 P)) (lf (o47 P))) (nd (o23 P) (lf (o39 P)) (lf (o55 P)))) (nd (o11 P) (nd (o19 P) (lf (o35 P)) (lf (o51 P))) (nd (o27 P) (lf (o43 P)) (lf (o59 P))))) (nd (boot_o_5 P) (nd (boot_o_9 P) (nd (o17 P) (lf (o33 P)) (lf (o49 P))) (nd (o25 P) (lf (o41 P)) (lf (o57 P)))) (nd (o13 P) (nd (o21 P) (lf (o37 P)) (lf (o53 P))) (nd (o29 P) (lf (o45 P)) (lf (o61 P)))))) (nd (boot_o_2 P) (nd (boot_o_4 P) (nd (boot_o_8 P) (nd (o16 P) (lf (o32 P)) (lf (o48 P))) (nd (o24 P) (lf (o40 P)) (lf (o56 P)))) (nd (o12v39 P) (nd (o20 P) (lf (o36 P)) (lf (o52 P))) (nd (o28 P) (lf (o44 P)) (lf (o60 P))))) (nd (boot_o_6 P) (nd (boot_o_10 P) (nd (o18 P) (lf (o34 P)) (lf (o50v54 P))) (nd (o26 P) (lf (o42 P)) (lf (o58 P)))) (nd (o14 P) (nd (o22 P) (lf (o38 P)) (lf (o54 P))) (nd (o30 P) (lf (o46 P)) (lf (o62 P)))))))
noncomputable def sB3 (w : World) (os : OsState) : SharedT := ⟨tB3 w.params, 63, {}, #[], {}, 793, os⟩
noncomputable def tB4 (P : Params) : BT := (nd (boot_o_0 P) (nd (boot_o_1 P) (nd (o3 P) (nd (boot_o_7 P) (nd (o15 P) (nd (o31 P) (lf (o63 P)) nl) (lf (o47 P))) (nd (o23 P) (lf (o39 P)) (lf (o55 P)))) (nd (o11 P) (nd (o19 P) (lf (o35 P)) (lf (o51 P))) (nd (o27 P) (lf (o43 P)) (lf (o59 P))))) (nd (boot_o_5 P) (nd (boot_o_9 P) (nd (o17 P) (nd (o33 P) (lf (o65 P)) nl) (lf (o49 P))) (nd (o25 P) (lf (o41 P)) (lf (o57 P)))) (nd (o13 P) (nd (o21 P) (lf (o37 P)) (lf (o53 P))) (nd (o29 P) (lf (o45 P)) (lf (o61 P)))))) (nd (boot_o_2 P) (nd (boot_o_4 P) (nd (boot_o_8 P) (nd (o16 P) (nd (o32 P) (lf (o64 P)) nl) (lf (o48 P))) (nd (o24 P) (lf (o40 P)) (lf (o56 P)))) (nd (o12v39 P) (nd (o20 P) (lf (o36 P)) (lf (o52 P))) (nd (o28 P) (lf (o44 P)) (lf (o60 P))))) (nd (boot_o_6 P) (nd (boot_o_10 P) (nd (o18 P) (lf (o34 P)) (lf (o50v58 P))) (nd (o26 P) (lf (o42 P)) (lf (o58 P)))) (nd (o14 P) (nd (o22 P) (lf (o38 P)) (lf (o54 P))) (nd (o30 P) (lf (o46 P)) (lf (o62 P)))))))
noncomputable def sB4 (w : World) (os : OsState) : SharedT := ⟨tB4 w.params, 66, {}, #[], {}, 1050, os⟩
noncomputable def tB5 (P : Params) : BT := (nd (boot_o_0 P) (nd (boot_o_1 P) (nd (o3 P) (nd (boot_o_7 P) (nd (o15 P) (nd (o31 P) (lf (o63 P)) nl) (lf (o47 P))) (nd (o23 P) (lf (o39 P)) (lf (o55 P)))) (nd (o11 P) (nd (o19 P) (nd (o35 P) (lf (o67 P)) nl) (lf (o51 P))) (nd (o27 P) (lf (o43 P)) (lf (o59 P))))) (nd (boot_o_5 P) (nd (boot_o_9 P) (nd (o17 P) (nd (o33 P) (lf (o65 P)) nl) (lf (o49 P))) (nd (o25 P) (lf (o41 P)) (lf (o57 P)))) (nd (o13 P) (nd (o21 P) (lf (o37 P)) (lf (o53 P))) (nd (o29 P) (lf (o45 P)) (lf (o61 P)))))) (nd (boot_o_2 P) (nd (boot_o_4 P) (nd (boot_o_8 P) (nd (o16 P) (nd (o32 P) (lf (o64 P)) nl) (lf (o48 P))) (nd (o24 P) (lf (o40 P)) (lf (o56 P)))) (nd (o12v39 P) (nd (o20 P) (nd (o36 P) (lf (o68 P)) nl) (lf (o52 P))) (nd (o28 P) (lf (o44 P)) (lf (o60 P))))) (nd (boot_o_6 P) (nd (boot_o_10 P) (nd (o18 P) (nd (o34 P) (lf (o66 P)) nl) (lf (o50v62 P))) (nd (o26 P) (lf (o42 P)) (lf (o58 P)))) (nd (o14 P) (nd (o22 P) (lf (o38 P)) (lf (o54 P))) (nd (o30 P) (lf (o46 P)) (lf (o62 P)))))))
noncomputable def sB5 (w : World) (os : OsState) : SharedT := ⟨tB5 w.params, 69, {}, #[], {}, 1307, os⟩
noncomputable def tB6 (P : Params) : BT := (nd (boot_o_0 P) (nd (boot_o_1 P) (nd (o3 P) (nd (boot_o_7 P) (nd (o15 P) (nd (o31 P) (lf (o63 P)) nl) (lf (o47 P))) (nd (o23 P) (nd (o39 P) (lf (o71 P)) nl) (lf (o55 P)))) (nd (o11 P) (nd (o19 P) (nd (o35 P) (lf (o67 P)) nl) (lf (o51 P))) (nd (o27 P) (lf (o43 P)) (lf (o59 P))))) (nd (boot_o_5 P) (nd (boot_o_9 P) (nd (o17 P) (nd (o33 P) (lf (o65 P)) nl) (lf (o49 P))) (nd (o25 P) (lf (o41 P)) (lf (o57 P)))) (nd (o13 P) (nd (o21 P) (nd (o37 P) (lf (o69 P)) nl) (lf (o53 P))) (nd (o29 P) (lf (o45 P)) (lf (o61 P)))))) (nd (boot_o_2 P) (nd (boot_o_4 P) (nd (boot_o_8 P) (nd (o16 P) (nd (o32 P) (lf (o64 P)) nl) (lf (o48 P))) (nd (o24 P) (lf (o40 P)) (lf (o56 P)))) (nd (o12v39 P) (nd (o20 P) (nd (o36 P) (lf (o68 P)) nl) (lf (o52 P))) (nd (o28 P) (lf (o44 P)) (lf (o60 P))))) (nd (boot_o_6 P) (nd (boot_o_10 P) (nd (o18 P) (nd (o34 P) (lf (o66 P)) nl) (lf (o50v66 P))) (nd (o26 P) (lf (o42 P)) (lf (o58 P)))) (nd (o14 P) (nd (o22 P) (nd (o38 P) (lf (o70 P)) nl) (lf (o54 P))) (nd (o30 P) (lf (o46 P)) (lf (o62 P)))))))
noncomputable def sB6 (w : World) (os : OsState) : SharedT := ⟨tB6 w.params, 72, {}, #[], {}, 1564, os⟩
noncomputable def tB7 (P : Params) : BT := (nd (boot_o_0 P) (nd (boot_o_1 P) (nd (o3 P) (nd (boot_o_7 P) (nd (o15 P) (nd (o31 P) (lf (o63 P)) nl) (lf (o47 P))) (nd (o23 P) (nd (o39 P) (lf (o71 P)) nl) (lf (o55 P)))) (nd (o11 P) (nd (o19 P) (nd (o35 P) (lf (o67 P)) nl) (lf (o51 P))) (nd (o27 P) (lf (o43 P)) (lf (o59 P))))) (nd (boot_o_5 P) (nd (boot_o_9 P) (nd (o17 P) (nd (o33 P) (lf (o65 P)) nl) (lf (o49 P))) (nd (o25 P) (nd (o41 P) (lf (o73 P)) nl) (lf (o57 P)))) (nd (o13 P) (nd (o21 P) (nd (o37 P) (lf (o69 P)) nl) (lf (o53 P))) (nd (o29 P) (lf (o45 P)) (lf (o61 P)))))) (nd (boot_o_2 P) (nd (boot_o_4 P) (nd (boot_o_8 P) (nd (o16 P) (nd (o32 P) (lf (o64 P)) nl) (lf (o48 P))) (nd (o24 P) (nd (o40 P) (lf (o72 P)) nl) (lf (o56 P)))) (nd (o12v39 P) (nd (o20 P) (nd (o36 P) (lf (o68 P)) nl) (lf (o52 P))) (nd (o28 P) (lf (o44 P)) (lf (o60 P))))) (nd (boot_o_6 P) (nd (boot_o_10 P) (nd (o18 P) (nd (o34 P) (lf (o66 P)) nl) (lf (o50v70 P))) (nd (o26 P) (nd (o42 P) (lf (o74 P)) nl) (lf (o58 P)))) (nd (o14 P) (nd (o22 P) (nd (o38 P) (lf (o70 P)) nl) (lf (o54 P))) (nd (o30 P) (lf (o46 P)) (lf (o62 P)))))))
noncomputable def sB7 (w : World) (os : OsState) : SharedT := ⟨tB7 w.params, 75, {}, #[], {}, 1821, os⟩
noncomputable def tB8 (P : Params) : BT := (nd (boot_o_0 P) (nd (boot_o_1 P) (nd (o3 P) (nd (boot_o_7 P) (nd (o15 P) (nd (o31 P) (lf (o63 P)) nl) (lf (o47 P))) (nd (o23 P) (nd (o39 P) (lf (o71 P)) nl) (lf (o55 P)))) (nd (o11 P) (nd (o19 P) (nd (o35 P) (lf (o67 P)) nl) (lf (o51 P))) (nd (o27 P) (nd (o43 P) (lf (o75 P)) nl) (lf (o59 P))))) (nd (boot_o_5 P) (nd (boot_o_9 P) (nd (o17 P) (nd (o33 P) (lf (o65 P)) nl) (lf (o49 P))) (nd (o25 P) (nd (o41 P) (lf (o73 P)) nl) (lf (o57 P)))) (nd (o13 P) (nd (o21 P) (nd (o37 P) (lf (o69 P)) nl) (lf (o53 P))) (nd (o29 P) (nd (o45 P) (lf (o77 P)) nl) (lf (o61 P)))))) (nd (boot_o_2 P) (nd (boot_o_4 P) (nd (boot_o_8 P) (nd (o16 P) (nd (o32 P) (lf (o64 P)) nl) (lf (o48 P))) (nd (o24 P) (nd (o40 P) (lf (o72 P)) nl) (lf (o56 P)))) (nd (o12v39 P) (nd (o20 P) (nd (o36 P) (lf (o68 P)) nl) (lf (o52 P))) (nd (o28 P) (nd (o44 P) (lf (o76 P)) nl) (lf (o60 P))))) (nd (boot_o_6 P) (nd (boot_o_10 P) (nd (o18 P) (nd (o34 P) (lf (o66 P)) nl) (lf (o50v74 P))) (nd (o26 P) (nd (o42 P) (lf (o74 P)) nl) (lf (o58 P)))) (nd (o14 P) (nd (o22 P) (nd (o38 P) (lf (o70 P)) nl) (lf (o54 P))) (nd (o30 P) (lf (o46 P)) (lf (o62 P)))))))
noncomputable def sB8 (w : World) (os : OsState) : SharedT := ⟨tB8 w.params, 78, {}, #[], {}, 2078, os⟩
noncomputable def tB9 (P : Params) : BT := (nd (boot_o_0 P) (nd (boot_o_1 P) (nd (o3 P) (nd (boot_o_7 P) (nd (o15 P) (nd (o31 P) (lf (o63 P)) nl) (nd (o47 P) (lf (o79 P)) nl)) (nd (o23 P) (nd (o39 P) (lf (o71 P)) nl) (lf (o55 P)))) (nd (o11 P) (nd (o19 P) (nd (o35 P) (lf (o67 P)) nl) (lf (o51 P))) (nd (o27 P) (nd (o43 P) (lf (o75 P)) nl) (lf (o59 P))))) (nd (boot_o_5 P) (nd (boot_o_9 P) (nd (o17 P) (nd (o33 P) (lf (o65 P)) nl) (lf (o49 P))) (nd (o25 P) (nd (o41 P) (lf (o73 P)) nl) (lf (o57 P)))) (nd (o13 P) (nd (o21 P) (nd (o37 P) (lf (o69 P)) nl) (lf (o53 P))) (nd (o29 P) (nd (o45 P) (lf (o77 P)) nl) (lf (o61 P)))))) (nd (boot_o_2 P) (nd (boot_o_4 P) (nd (boot_o_8 P) (nd (o16 P) (nd (o32 P) (lf (o64 P)) nl) (nd (o48 P) (lf (o80 P)) nl)) (nd (o24 P) (nd (o40 P) (lf (o72 P)) nl) (lf (o56 P)))) (nd (o12v39 P) (nd (o20 P) (nd (o36 P) (lf (o68 P)) nl) (lf (o52 P))) (nd (o28 P) (nd (o44 P) (lf (o76 P)) nl) (lf (o60 P))))) (nd (boot_o_6 P) (nd (boot_o_10 P) (nd (o18 P) (nd (o34 P) (lf (o66 P)) nl) (lf (o50v78 P))) (nd (o26 P) (nd (o42 P) (lf (o74 P)) nl) (lf (o58 P)))) (nd (o14 P) (nd (o22 P) (nd (o38 P) (lf (o70 P)) nl) (lf (o54 P))) (nd (o30 P) (nd (o46 P) (lf (o78 P)) nl) (lf (o62 P)))))))
noncomputable def sB9 (w : World) (os : OsState) : SharedT := ⟨tB9 w.params, 81, {}, #[], {}, 2335, os⟩
noncomputable def tB10 (P : Params) : BT := (nd (boot_o_0 P) (nd (boot_o_1 P) (nd (o3 P) (nd (boot_o_7 P) (nd (o15 P) (nd (o31 P) (lf (o63 P)) nl) (nd (o47 P) (lf (o79 P)) nl)) (nd (o23 P) (nd (o39 P) (lf (o71 P)) nl) (lf (o55 P)))) (nd (o11 P) (nd (o19 P) (nd (o35 P) (lf (o67 P)) nl) (nd (o51 P) (lf (o83 P)) nl)) (nd (o27 P) (nd (o43 P) (lf (o75 P)) nl) (lf (o59 P))))) (nd (boot_o_5 P) (nd (boot_o_9 P) (nd (o17 P) (nd (o33 P) (lf (o65 P)) nl) (nd (o49 P) (lf (o81 P)) nl)) (nd (o25 P) (nd (o41 P) (lf (o73 P)) nl) (lf (o57 P)))) (nd (o13 P) (nd (o21 P) (nd (o37 P) (lf (o69 P)) nl) (lf (o53 P))) (nd (o29 P) (nd (o45 P) (lf (o77 P)) nl) (lf (o61 P)))))) (nd (boot_o_2 P) (nd (boot_o_4 P) (nd (boot_o_8 P) (nd (o16 P) (nd (o32 P) (lf (o64 P)) nl) (nd (o48 P) (lf (o80 P)) nl)) (nd (o24 P) (nd (o40 P) (lf (o72 P)) nl) (lf (o56 P)))) (nd (o12v39 P) (nd (o20 P) (nd (o36 P) (lf (o68 P)) nl) (lf (o52 P))) (nd (o28 P) (nd (o44 P) (lf (o76 P)) nl) (lf (o60 P))))) (nd (boot_o_6 P) (nd (boot_o_10 P) (nd (o18 P) (nd (o34 P) (lf (o66 P)) nl) (nd (o50v82 P) (lf (o82 P)) nl)) (nd (o26 P) (nd (o42 P) (lf (o74 P)) nl) (lf (o58 P)))) (nd (o14 P) (nd (o22 P) (nd (o38 P) (lf (o70 P)) nl) (lf (o54 P))) (nd (o30 P) (nd (o46 P) (lf (o78 P)) nl) (lf (o62 P)))))))
noncomputable def sB10 (w : World) (os : OsState) : SharedT := ⟨tB10 w.params, 84, {}, #[], {}, 2592, os⟩
noncomputable def tB11 (P : Params) : BT := (nd (boot_o_0 P) (nd (boot_o_1 P) (nd (o3 P) (nd (boot_o_7 P) (nd (o15 P) (nd (o31 P) (lf (o63 P)) nl) (nd (o47 P) (lf (o79 P)) nl)) (nd (o23 P) (nd (o39 P) (lf (o71 P)) nl) (lf (o55 P)))) (nd (o11 P) (nd (o19 P) (nd (o35 P) (lf (o67 P)) nl) (nd (o51 P) (lf (o83 P)) nl)) (nd (o27 P) (nd (o43 P) (lf (o75 P)) nl) (lf (o59 P))))) (nd (boot_o_5 P) (nd (boot_o_9 P) (nd (o17 P) (nd (o33 P) (lf (o65 P)) nl) (nd (o49 P) (lf (o81 P)) nl)) (nd (o25 P) (nd (o41 P) (lf (o73 P)) nl) (lf (o57 P)))) (nd (o13 P) (nd (o21 P) (nd (o37 P) (lf (o69 P)) nl) (nd (o53 P) (lf (o85 P)) nl)) (nd (o29 P) (nd (o45 P) (lf (o77 P)) nl) (lf (o61 P)))))) (nd (boot_o_2 P) (nd (boot_o_4 P) (nd (boot_o_8 P) (nd (o16 P) (nd (o32 P) (lf (o64 P)) nl) (nd (o48 P) (lf (o80 P)) nl)) (nd (o24 P) (nd (o40 P) (lf (o72 P)) nl) (lf (o56 P)))) (nd (o12v39 P) (nd (o20 P) (nd (o36 P) (lf (o68 P)) nl) (nd (o52 P) (lf (o84 P)) nl)) (nd (o28 P) (nd (o44 P) (lf (o76 P)) nl) (lf (o60 P))))) (nd (boot_o_6 P) (nd (boot_o_10 P) (nd (o18 P) (nd (o34 P) (lf (o66 P)) nl) (nd (o50v86 P) (lf (o82 P)) nl)) (nd (o26 P) (nd (o42 P) (lf (o74 P)) nl) (lf (o58 P)))) (nd (o14 P) (nd (o22 P) (nd (o38 P) (lf (o70 P)) nl) (nd (o54 P) (lf (o86 P)) nl)) (nd (o30 P) (nd (o46 P) (lf (o78 P)) nl) (lf (o62 P)))))))
noncomputable def sB11 (w : World) (os : OsState) : SharedT := ⟨tB11 w.params, 87, {}, #[], {}, 2849, os⟩
noncomputable def tB12 (P : Params) : BT := (nd (boot_o_0 P) (nd (boot_o_1 P) (nd (o3 P) (nd (boot_o_7 P) (nd (o15 P) (nd (o31 P) (lf (o63 P)) nl) (nd (o47 P) (lf (o79 P)) nl)) (nd (o23 P) (nd (o39 P) (lf (o71 P)) nl) (nd (o55 P) (lf (o87 P)) nl))) (nd (o11 P) (nd (o19 P) (nd (o35 P) (lf (o67 P)) nl) (nd (o51 P) (lf (o83 P)) nl)) (nd (o27 P) (nd (o43 P) (lf (o75 P)) nl) (lf (o59 P))))) (nd (boot_o_5 P) (nd (boot_o_9 P) (nd (o17 P) (nd (o33 P) (lf (o65 P)) nl) (nd (o49 P) (lf (o81 P)) nl)) (nd (o25 P) (nd (o41 P) (lf (o73 P)) nl) (nd (o57 P) (lf (o89 P)) nl))) (nd (o13 P) (nd (o21 P) (nd (o37 P) (lf (o69 P)) nl) (nd (o53 P) (lf (o85 P)) nl)) (nd (o29 P) (nd (o45 P) (lf (o77 P)) nl) (lf (o61 P)))))) (nd (boot_o_2 P) (nd (boot_o_4 P) (nd (boot_o_8 P) (nd (o16 P) (nd (o32 P) (lf (o64 P)) nl) (nd (o48 P) (lf (o80 P)) nl)) (nd (o24 P) (nd (o40 P) (lf (o72 P)) nl) (nd (o56 P) (lf (o88 P)) nl))) (nd (o12v39 P) (nd (o20 P) (nd (o36 P) (lf (o68 P)) nl) (nd (o52 P) (lf (o84 P)) nl)) (nd (o28 P) (nd (o44 P) (lf (o76 P)) nl) (lf (o60 P))))) (nd (boot_o_6 P) (nd (boot_o_10 P) (nd (o18 P) (nd (o34 P) (lf (o66 P)) nl) (nd (o50v90 P) (lf (o82 P)) nl)) (nd (o26 P) (nd (o42 P) (lf (o74 P)) nl) (lf (o58 P)))) (nd (o14 P) (nd (o22 P) (nd (o38 P) (lf (o70 P)) nl) (nd (o54 P) (lf (o86 P)) nl)) (nd (o30 P) (nd (o46 P) (lf (o78 P)) nl) (lf (o62 P)))))))
noncomputable def sB12 (w : World) (os : OsState) : SharedT := ⟨tB12 w.params, 90, {}, #[], {}, 3106, os⟩
noncomputable def tB13 (P : Params) : BT := (nd (boot_o_0 P) (nd (boot_o_1 P) (nd (o3 P) (nd (boot_o_7 P) (nd (o15 P) (nd (o31 P) (lf (o63 P)) nl) (nd (o47 P) (lf (o79 P)) nl)) (nd (o23 P) (nd (o39 P) (lf (o71 P)) nl) (nd (o55 P) (lf (o87 P)) nl))) (nd (o11 P) (nd (o19 P) (nd (o35 P) (lf (o67 P)) nl) (nd (o51 P) (lf (o83 P)) nl)) (nd (o27 P) (nd (o43 P) (lf (o75 P)) nl) (nd (o59 P) (lf (o91 P)) nl)))) (nd (boot_o_5 P) (nd (boot_o_9 P) (nd (o17 P) (nd (o33 P) (lf (o65 P)) nl) (nd (o49 P) (lf (o81 P)) nl)) (nd (o25 P) (nd (o41 P) (lf (o73 P)) nl) (nd (o57 P) (lf (o89 P)) nl))) (nd (o13 P) (nd (o21 P) (nd (o37 P) (lf (o69 P)) nl) (nd (o53 P) (lf (o85 P)) nl)) (nd (o29 P) (nd (o45 P) (lf (o77 P)) nl) (lf (o61 P)))))) (nd (boot_o_2 P) (nd (boot_o_4 P) (nd (boot_o_8 P) (nd (o16 P) (nd (o32 P) (lf (o64 P)) nl) (nd (o48 P) (lf (o80 P)) nl)) (nd (o24 P) (nd (o40 P) (lf (o72 P)) nl) (nd (o56 P) (lf (o88 P)) nl))) (nd (o12v39 P) (nd (o20 P) (nd (o36 P) (lf (o68 P)) nl) (nd (o52 P) (lf (o84 P)) nl)) (nd (o28 P) (nd (o44 P) (lf (o76 P)) nl) (nd (o60 P) (lf (o92 P)) nl)))) (nd (boot_o_6 P) (nd (boot_o_10 P) (nd (o18 P) (nd (o34 P) (lf (o66 P)) nl) (nd (o50v94 P) (lf (o82 P)) nl)) (nd (o26 P) (nd (o42 P) (lf (o74 P)) nl) (nd (o58 P) (lf (o90 P)) nl))) (nd (o14 P) (nd (o22 P) (nd (o38 P) (lf (o70 P)) nl) (nd (o54 P) (lf (o86 P)) nl)) (nd (o30 P) (nd (o46 P) (lf (o78 P)) nl) (lf (o62 P)))))))
noncomputable def sB13 (w : World) (os : OsState) : SharedT := ⟨tB13 w.params, 93, {}, #[], {}, 3363, os⟩
noncomputable def tB14 (P : Params) : BT := (nd (boot_o_0 P) (nd (boot_o_1 P) (nd (o3 P) (nd (boot_o_7 P) (nd (o15 P) (nd (o31 P) (lf (o63 P)) (lf (o95 P))) (nd (o47 P) (lf (o79 P)) nl)) (nd (o23 P) (nd (o39 P) (lf (o71 P)) nl) (nd (o55 P) (lf (o87 P)) nl))) (nd (o11 P) (nd (o19 P) (nd (o35 P) (lf (o67 P)) nl) (nd (o51 P) (lf (o83 P)) nl)) (nd (o27 P) (nd (o43 P) (lf (o75 P)) nl) (nd (o59 P) (lf (o91 P)) nl)))) (nd (boot_o_5 P) (nd (boot_o_9 P) (nd (o17 P) (nd (o33 P) (lf (o65 P)) nl) (nd (o49 P) (lf (o81 P)) nl)) (nd (o25 P) (nd (o41 P) (lf (o73 P)) nl) (nd (o57 P) (lf (o89 P)) nl))) (nd (o13 P) (nd (o21 P) (nd (o37 P) (lf (o69 P)) nl) (nd (o53 P) (lf (o85 P)) nl)) (nd (o29 P) (nd (o45 P) (lf (o77 P)) nl) (nd (o61 P) (lf (o93 P)) nl))))) (nd (boot_o_2 P) (nd (boot_o_4 P) (nd (boot_o_8 P) (nd (o16 P) (nd (o32 P) (lf (o64 P)) nl) (nd (o48 P) (lf (o80 P)) nl)) (nd (o24 P) (nd (o40 P) (lf (o72 P)) nl) (nd (o56 P) (lf (o88 P)) nl))) (nd (o12v39 P) (nd (o20 P) (nd (o36 P) (lf (o68 P)) nl) (nd (o52 P) (lf (o84 P)) nl)) (nd (o28 P) (nd (o44 P) (lf (o76 P)) nl) (nd (o60 P) (lf (o92 P)) nl)))) (nd (boot_o_6 P) (nd (boot_o_10 P) (nd (o18 P) (nd (o34 P) (lf (o66 P)) nl) (nd (o50v98 P) (lf (o82 P)) nl)) (nd (o26 P) (nd (o42 P) (lf (o74 P)) nl) (nd (o58 P) (lf (o90 P)) nl))) (nd (o14 P) (nd (o22 P) (nd (o38 P) (lf (o70 P)) nl) (nd (o54 P) (lf (o86 P)) nl)) (nd (o30 P) (nd (o46 P) (lf (o78 P)) nl) (nd (o62 P) (lf (o94 P)) nl))))))
noncomputable def sB14 (w : World) (os : OsState) : SharedT := ⟨tB14 w.params, 96, {}, #[], {}, 3620, os⟩
noncomputable def tB15 (P : Params) : BT := (nd (boot_o_0 P) (nd (boot_o_1 P) (nd (o3 P) (nd (boot_o_7 P) (nd (o15 P) (nd (o31 P) (lf (o63 P)) (lf (o95 P))) (nd (o47 P) (lf (o79 P)) nl)) (nd (o23 P) (nd (o39 P) (lf (o71 P)) (lf (o103 P))) (nd (o55 P) (lf (o87 P)) nl))) (nd (o11 P) (nd (o19 P) (nd (o35 P) (lf (o67 P)) (lf (o99 P))) (nd (o51 P) (lf (o83 P)) nl)) (nd (o27 P) (nd (o43 P) (lf (o75 P)) nl) (nd (o59 P) (lf (o91 P)) nl)))) (nd (boot_o_5 P) (nd (boot_o_9 P) (nd (o17 P) (nd (o33 P) (lf (o65 P)) (lf (o97 P))) (nd (o49 P) (lf (o81 P)) nl)) (nd (o25 P) (nd (o41 P) (lf (o73 P)) nl) (nd (o57 P) (lf (o89 P)) nl))) (nd (o13 P) (nd (o21 P) (nd (o37 P) (lf (o69 P)) (lf (o101 P))) (nd (o53 P) (lf (o85 P)) nl)) (nd (o29 P) (nd (o45 P) (lf (o77 P)) nl) (nd (o61 P) (lf (o93 P)) nl))))) (nd (boot_o_2 P) (nd (boot_o_4 P) (nd (boot_o_8 P) (nd (o16 P) (nd (o32 P) (lf (o64 P)) (lf (o96 P))) (nd (o48 P) (lf (o80 P)) nl)) (nd (o24 P) (nd (o40 P) (lf (o72 P)) nl) (nd (o56 P) (lf (o88 P)) nl))) (nd (o12v39 P) (nd (o20 P) (nd (o36 P) (lf (o68 P)) (lf (o100 P))) (nd (o52v103 P) (lf (o84 P)) nl)) (nd (o28 P) (nd (o44 P) (lf (o76 P)) nl) (nd (o60 P) (lf (o92 P)) nl)))) (nd (boot_o_6 P) (nd (boot_o_10 P) (nd (o18 P) (nd (o34 P) (lf (o66 P)) (lf (o98 P))) (nd (o50v102 P) (lf (o82 P)) nl)) (nd (o26 P) (nd (o42 P) (lf (o74 P)) nl) (nd (o58 P) (lf (o90 P)) nl))) (nd (o14 P) (nd (o22 P) (nd (o38 P) (lf (o70 P)) (lf (o102 P))) (nd (o54 P) (lf (o86 P)) nl)) (nd (o30 P) (nd (o46 P) (lf (o78 P)) nl) (nd (o62 P) (lf (o94 P)) nl))))))
noncomputable def sB15 (w : World) (os : OsState) : SharedT := ⟨tB15 w.params, 104, {}, #[], {}, 3883, os⟩
noncomputable def tB16 (P : Params) : BT := (nd (boot_o_0 P) (nd (boot_o_1 P) (nd (o3 P) (nd (boot_o_7 P) (nd (o15 P) (nd (o31 P) (lf (o63 P)) (lf (o95 P))) (nd (o47 P) (lf (o79 P)) (lf (o111 P)))) (nd (o23 P) (nd (o39 P) (lf (o71 P)) (lf (o103 P))) (nd (o55 P) (lf (o87 P)) nl))) (nd (o11 P) (nd (o19 P) (nd (o35 P) (lf (o67 P)) (lf (o99 P))) (nd (o51 P) (lf (o83 P)) nl)) (nd (o27 P) (nd (o43 P) (lf (o75 P)) (lf (o107 P))) (nd (o59 P) (lf (o91 P)) nl)))) (nd (boot_o_5 P) (nd (boot_o_9 P) (nd (o17 P) (nd (o33 P) (lf (o65 P)) (lf (o97 P))) (nd (o49 P) (lf (o81 P)) (lf (o113 P)))) (nd (o25 P) (nd (o41 P) (lf (o73 P)) (lf (o105 P))) (nd (o57 P) (lf (o89 P)) nl))) (nd (o13 P) (nd (o21 P) (nd (o37 P) (lf (o69 P)) (lf (o101 P))) (nd (o53 P) (lf (o85 P)) nl)) (nd (o29 P) (nd (o45 P) (lf (o77 P)) (lf (o109 P))) (nd (o61 P) (lf (o93 P)) nl))))) (nd (boot_o_2 P) (nd (boot_o_4 P) (nd (boot_o_8 P) (nd (o16 P) (nd (o32 P) (lf (o64 P)) (lf (o96 P))) (nd (o48 P) (lf (o80 P)) (lf (o112 P)))) (nd (o24 P) (nd (o40 P) (lf (o72 P)) (lf (o104 P))) (nd (o56 P) (lf (o88 P)) nl))) (nd (o12v39 P) (nd (o20 P) (nd (o36 P) (lf (o68 P)) (lf (o100 P))) (nd (o52v113 P) (lf (o84 P)) nl)) (nd (o28 P) (nd (o44 P) (lf (o76 P)) (lf (o108 P))) (nd (o60 P) (lf (o92 P)) nl)))) (nd (boot_o_6 P) (nd (boot_o_10 P) (nd (o18 P) (nd (o34 P) (lf (o66 P)) (lf (o98 P))) (nd (o50v112 P) (lf (o82 P)) nl)) (nd (o26 P) (nd (o42 P) (lf (o74 P)) (lf (o106 P))) (nd (o58 P) (lf (o90 P)) nl))) (nd (o14 P) (nd (o22 P) (nd (o38 P) (lf (o70 P)) (lf (o102 P))) (nd (o54 P) (lf (o86 P)) nl)) (nd (o30 P) (nd (o46 P) (lf (o78 P)) (lf (o110 P))) (nd (o62 P) (lf (o94 P)) nl))))))
noncomputable def sB16 (w : World) (os : OsState) : SharedT := ⟨tB16 w.params, 114, {}, #[], {}, 3895, os⟩
noncomputable def t2 (P : Params) : BT := (nd (boot_o_0 P) (nd (boot_o_1 P) (nd (o3v124 P) (nd (boot_o_7 P) (nd (o15 P) (nd (o31 P) (lf (o63 P)) (lf (o95 P))) (nd (o47 P) (lf (o79 P)) (lf (o111 P)))) (nd (o23 P) (nd (o39 P) (lf (o71 P)) (lf (o103 P))) (nd (o55 P) (lf (o87 P)) (lf (o119 P))))) (nd (o11 P) (nd (o19 P) (nd (o35 P) (lf (o67 P)) (lf (o99 P))) (nd (o51 P) (lf (o83 P)) (lf (o115 P)))) (nd (o27 P) (nd (o43 P) (lf (o75 P)) (lf (o107 P))) (nd (o59 P) (lf (o91 P)) nl)))) (nd (boot_o_5 P) (nd (boot_o_9 P) (nd (o17 P) (nd (o33 P) (lf (o65 P)) (lf (o97 P))) (nd (o49 P) (lf (o81 P)) (lf (o113 P)))) (nd (o25 P) (nd (o41 P) (lf (o73 P)) (lf (o105 P))) (nd (o57 P) (lf (o89 P)) nl))) (nd (o13 P) (nd (o21 P) (nd (o37 P) (lf (o69 P)) (lf (o101 P))) (nd (o53 P) (lf (o85 P)) (lf (o117 P)))) (nd (o29 P) (nd (o45 P) (lf (o77 P)) (lf (o109 P))) (nd (o61 P) (lf (o93 P)) nl))))) (nd (boot_o_2 P) (nd (boot_o_4 P) (nd (boot_o_8 P) (nd (o16 P) (nd (o32 P) (lf (o64 P)) (lf (o96 P))) (nd (o48 P) (lf (o80 P)) (lf (o112 P)))) (nd (o24 P) (nd (o40 P) (lf (o72 P)) (lf (o104 P))) (nd (o56 P) (lf (o88 P)) (lf (o120 P))))) (nd (o12v39 P) (nd (o20 P) (nd (o36 P) (lf (o68 P)) (lf (o100 P))) (nd (o52v113 P) (lf (o84 P)) (lf (o116 P)))) (nd (o28 P) (nd (o44 P) (lf (o76 P)) (lf (o108 P))) (nd (o60 P) (lf (o92 P)) nl)))) (nd (boot_o_6 P) (nd (boot_o_10 P) (nd (o18 P) (nd (o34 P) (lf (o66 P)) (lf (o98 P))) (nd (o50v125 P) (lf (o82 P)) (lf (o114 P)))) (nd (o26 P) (nd (o42 P) (lf (o74 P)) (lf (o106 P))) (nd (o58 P) (lf (o90 P)) nl))) (nd (o14 P) (nd (o22 P) (nd (o38 P) (lf (o70 P)) (lf (o102 P))) (nd (o54 P) (lf (o86 P)) (lf (o118 P)))) (nd (o30 P) (nd (o46 P) (lf (o78 P)) (lf (o110 P))) (nd (o62 P) (lf (o94 P)) nl))))))
noncomputable def s2 (w : World) (os : OsState) : SharedT := ⟨t2 w.params, 121, {}, #[], {}, 3905, os⟩
noncomputable def t3 (P : Params) : BT := (nd (boot_o_0 P) (nd (boot_o_1 P) (nd (o3v133 P) (nd (boot_o_7 P) (nd (o15 P) (nd (o31 P) (nd (o63 P) (lf (o127 P)) nl) (lf (o95 P))) (nd (o47 P) (nd (o79 P) (lf (o143 P)) nl) (lf (o111 P)))) (nd (o23 P) (nd (o39 P) (nd (o71 P) (lf (o135 P)) nl) (lf (o103 P))) (nd (o55 P) (nd (o87 P) (lf (o151 P)) nl) (lf (o119 P))))) (nd (o11 P) (nd (o19 P) (nd (o35 P) (nd (o67 P) (lf (o131 P)) nl) (lf (o99 P))) (nd (o51 P) (nd (o83 P) (lf (o147 P)) nl) (lf (o115 P)))) (nd (o27 P) (nd (o43 P) (nd (o75 P) (lf (o139 P)) nl) (lf (o107 P))) (nd (o59 P) (nd (o91 P) (lf (o155 P)) nl) (lf (o123 P)))))) (nd (boot_o_5 P) (nd (boot_o_9 P) (nd (o17 P) (nd (o33 P) (nd (o65 P) (lf (o129 P)) nl) (lf (o97 P))) (nd (o49 P) (nd (o81 P) (lf (o145 P)) nl) (lf (o113 P)))) (nd (o25 P) (nd (o41 P) (nd (o73 P) (lf (o137 P)) nl) (lf (o105 P))) (nd (o57 P) (nd (o89 P) (lf (o153 P)) nl) (lf (o121 P))))) (nd (o13 P) (nd (o21 P) (nd (o37 P) (nd (o69 P) (lf (o133 P)) nl) (lf (o101 P))) (nd (o53 P) (nd (o85 P) (lf (o149 P)) nl) (lf (o117 P)))) (nd (o29 P) (nd (o45 P) (nd (o77 P) (lf (o141 P)) nl) (lf (o109 P))) (nd (o61 P) (lf (o93 P)) (lf (o125 P))))))) (nd (boot_o_2 P) (nd (boot_o_4 P) (nd (boot_o_8 P) (nd (o16 P) (nd (o32 P) (nd (o64 P) (lf (o128 P)) nl) (lf (o96 P))) (nd (o48 P) (nd (o80 P) (lf (o144 P)) nl) (lf (o112 P)))) (nd (o24 P) (nd (o40 P) (nd (o72 P) (lf (o136 P)) nl) (lf (o104 P))) (nd (o56 P) (nd (o88 P) (lf (o152 P)) nl) (lf (o120 P))))) (nd (o12v134 P) (nd (o20 P) (nd (o36 P) (nd (o68 P) (lf (o132 P)) nl) (lf (o100 P))) (nd (o52v113 P) (nd (o84 P) (lf (o148 P)) nl) (lf (o116 P)))) (nd (o28 P) (nd (o44 P) (nd (o76 P) (lf (o140 P)) nl) (lf (o108 P))) (nd (o60 P) (lf (o92 P)) (lf (o124 P)))))) (nd (boot_o_6 P) (nd (boot_o_10 P) (nd (o18 P) (nd (o34 P) (nd (o66 P) (lf (o130 P)) nl) (lf (o98 P))) (nd (o50v125 P) (nd (o82 P) (lf (o146 P)) nl) (lf (o114 P)))) (nd (o26 P) (nd (o42 P) (nd (o74 P) (lf (o138 P)) nl) (lf (o106 P))) (nd (o58 P) (nd (o90 P) (lf (o154 P)) nl) (lf (o122 P))))) (nd (o14 P) (nd (o22 P) (nd (o38 P) (nd (o70 P) (lf (o134 P)) nl) (lf (o102 P))) (nd (o54 P) (nd (o86 P) (lf (o150 P)) nl) (lf (o118 P)))) (nd (o30 P) (nd (o46 P) (nd (o78 P) (lf (o142 P)) nl) (lf (o110 P))) (nd (o62 P) (lf (o94 P)) (lf (o126 P))))))))
noncomputable def s3 (w : World) (os : OsState) : SharedT := ⟨t3 w.params, 156, {}, #[], {}, 3949, os⟩
noncomputable def t4 (P : Params) : BT := (nd (boot_o_0 P) (nd (boot_o_1 P) (nd (o3v170 P) (nd (boot_o_7 P) (nd (o15 P) (nd (o31 P) (nd (o63 P) (lf (o127 P)) (lf (o191 P))) (nd (o95 P) (lf (o159 P)) nl)) (nd (o47 P) (nd (o79 P) (lf (o143 P)) (lf (o207 P))) (nd (o111 P) (lf (o175 P)) nl))) (nd (o23 P) (nd (o39 P) (nd (o71 P) (lf (o135 P)) (lf (o199 P))) (nd (o103 P) (lf (o167 P)) nl)) (nd (o55 P) (nd (o87 P) (lf (o151 P)) nl) (nd (o119 P) (lf (o183 P)) nl)))) (nd (o11 P) (nd (o19 P) (nd (o35 P) (nd (o67 P) (lf (o131 P)) (lf (o195 P))) (nd (o99 P) (lf (o163 P)) nl)) (nd (o51 P) (nd (o83 P) (lf (o147 P)) (lf (o211 P))) (nd (o115 P) (lf (o179 P)) nl))) (nd (o27 P) (nd (o43 P) (nd (o75 P) (lf (o139 P)) (lf (o203 P))) (nd (o107 P) (lf (o171 P)) nl)) (nd (o59 P) (nd (o91 P) (lf (o155 P)) nl) (nd (o123 P) (lf (o187 P)) nl))))) (nd (boot_o_5 P) (nd (boot_o_9 P) (nd (o17 P) (nd (o33 P) (nd (o65 P) (lf (o129 P)) (lf (o193 P))) (nd (o97 P) (lf (o161 P)) nl)) (nd (o49 P) (nd (o81 P) (lf (o145 P)) (lf (o209 P))) (nd (o113 P) (lf (o177 P)) nl))) (nd (o25 P) (nd (o41 P) (nd (o73 P) (lf (o137 P)) (lf (o201 P))) (nd (o105 P) (lf (o169 P)) nl)) (nd (o57 P) (nd (o89 P) (lf (o153 P)) nl) (nd (o121 P) (lf (o185 P)) nl)))) (nd (o13 P) (nd (o21 P) (nd (o37 P) (nd (o69 P) (lf (o133 P)) (lf (o197 P))) (nd (o101 P) (lf (o165 P)) nl)) (nd (o53 P) (nd (o85 P) (lf (o149 P)) (lf (o213 P))) (nd (o117 P) (lf (o181 P)) nl))) (nd (o29 P) (nd (o45 P) (nd (o77 P) (lf (o141 P)) (lf (o205 P))) (nd (o109 P) (lf (o173 P)) nl)) (nd (o61 P) (nd (o93 P) (lf (o157 P)) nl) (nd (o125 P) (lf (o189 P)) nl)))))) (nd (boot_o_2 P) (nd (boot_o_4 P) (nd (boot_o_8 P) (nd (o16 P) (nd (o32 P) (nd (o64 P) (lf (o128 P)) (lf (o192 P))) (nd (o96 P) (lf (o160 P)) nl)) (nd (o48 P) (nd (o80 P) (lf (o144 P)) (lf (o208 P))) (nd (o112 P) (lf (o176 P)) nl))) (nd (o24 P) (nd (o40 P) (nd (o72 P) (lf (o136 P)) (lf (o200 P))) (nd (o104 P) (lf (o168 P)) nl)) (nd (o56 P) (nd (o88 P) (lf (o152 P)) nl) (nd (o120 P) (lf (o184 P)) nl)))) (nd (o12v171 P) (nd (o20 P) (nd (o36 P) (nd (o68 P) (lf (o132 P)) (lf (o196 P))) (nd (o100 P) (lf (o164 P)) nl)) (nd (o52v113 P) (nd (o84 P) (lf (o148 P)) (lf (o212 P))) (nd (o116 P) (lf (o180 P)) nl))) (nd (o28 P) (nd (o44 P) (nd (o76 P) (lf (o140 P)) (lf (o204 P))) (nd (o108 P) (lf (o172 P)) nl)) (nd (o60 P) (nd (o92 P) (lf (o156 P)) nl) (nd (o124 P) (lf (o188 P)) nl))))) (nd (boot_o_6 P) (nd (boot_o_10 P) (nd (o18 P) (nd (o34 P) (nd (o66 P) (lf (o130 P)) (lf (o194 P))) (nd (o98 P) (lf (o162 P)) nl)) (nd (o50v125 P) (nd (o82 P) (lf (o146 P)) (lf (o210 P))) (nd (o114 P) (lf (o178 P)) nl))) (nd (o26 P) (nd (o42 P) (nd (o74 P) (lf (o138 P)) (lf (o202 P))) (nd (o106 P) (lf (o170 P)) nl)) (nd (o58 P) (nd (o90 P) (lf (o154 P)) nl) (nd (o122 P) (lf (o186 P)) nl)))) (nd (o14 P) (nd (o22 P) (nd (o38 P) (nd (o70 P) (lf (o134 P)) (lf (o198 P))) (nd (o102 P) (lf (o166 P)) nl)) (nd (o54 P) (nd (o86 P) (lf (o150 P)) nl) (nd (o118 P) (lf (o182 P)) nl))) (nd (o30 P) (nd (o46 P) (nd (o78 P) (lf (o142 P)) (lf (o206 P))) (nd (o110 P) (lf (o174 P)) nl)) (nd (o62 P) (nd (o94 P) (lf (o158 P)) nl) (nd (o126 P) (lf (o190 P)) nl)))))))
noncomputable def s4 (w : World) (os : OsState) : SharedT := ⟨t4 w.params, 214, {}, #[], {}, 4020, os⟩
noncomputable def t5 (P : Params) : BT := (nd (boot_o_0 P) (nd (boot_o_1 P) (nd (o3v230 P) (nd (boot_o_7 P) (nd (o15 P) (nd (o31 P) (nd (o63 P) (lf (o127 P)) (lf (o191 P))) (nd (o95 P) (lf (o159 P)) (lf (o223 P)))) (nd (o47 P) (nd (o79 P) (lf (o143 P)) (lf (o207 P))) (nd (o111 P) (lf (o175 P)) (lf (o239 P))))) (nd (o23 P) (nd (o39 P) (nd (o71 P) (lf (o135 P)) (lf (o199 P))) (nd (o103 P) (lf (o167 P)) (lf (o231 P)))) (nd (o55 P) (nd (o87 P) (lf (o151 P)) (lf (o215 P))) (nd (o119 P) (lf (o183 P)) (lf (o247 P)))))) (nd (o11 P) (nd (o19 P) (nd (o35 P) (nd (o67 P) (lf (o131 P)) (lf (o195 P))) (nd (o99 P) (lf (o163 P)) (lf (o227 P)))) (nd (o51 P) (nd (o83 P) (lf (o147 P)) (lf (o211 P))) (nd (o115 P) (lf (o179 P)) (lf (o243 P))))) (nd (o27 P) (nd (o43 P) (nd (o75 P) (lf (o139 P)) (lf (o203 P))) (nd (o107 P) (lf (o171 P)) (lf (o235 P)))) (nd (o59 P) (nd (o91 P) (lf (o155 P)) (lf (o219 P))) (nd (o123 P) (lf (o187 P)) nl))))) (nd (boot_o_5 P) (nd (boot_o_9 P) (nd (o17 P) (nd (o33 P) (nd (o65 P) (lf (o129 P)) (lf (o193 P))) (nd (o97 P) (lf (o161 P)) (lf (o225 P)))) (nd (o49 P) (nd (o81 P) (lf (o145 P)) (lf (o209v232 P))) (nd (o113 P) (lf (o177 P)) (lf (o241 P))))) (nd (o25 P) (nd (o41 P) (nd (o73 P) (lf (o137 P)) (lf (o201 P))) (nd (o105 P) (lf (o169 P)) (lf (o233 P)))) (nd (o57 P) (nd (o89 P) (lf (o153 P)) (lf (o217 P))) (nd (o121 P) (lf (o185 P)) nl)))) (nd (o13 P) (nd (o21 P) (nd (o37 P) (nd (o69 P) (lf (o133 P)) (lf (o197 P))) (nd (o101 P) (lf (o165 P)) (lf (o229 P)))) (nd (o53 P) (nd (o85 P) (lf (o149 P)) (lf (o213 P))) (nd (o117 P) (lf (o181 P)) (lf (o245 P))))) (nd (o29 P) (nd (o45 P) (nd (o77 P) (lf (o141 P)) (lf (o205 P))) (nd (o109 P) (lf (o173 P)) (lf (o237 P)))) (nd (o61 P) (nd (o93 P) (lf (o157 P)) (lf (o221 P))) (nd (o125 P) (lf (o189 P)) nl)))))) (nd (boot_o_2 P) (nd (boot_o_4 P) (nd (boot_o_8 P) (nd (o16 P) (nd (o32 P) (nd (o64 P) (lf (o128 P)) (lf (o192 P))) (nd (o96 P) (lf (o160 P)) (lf (o224 P)))) (nd (o48 P) (nd (o80 P) (lf (o144 P)) (lf (o208 P))) (nd (o112 P) (lf (o176 P)) (lf (o240 P))))) (nd (o24 P) (nd (o40 P) (nd (o72 P) (lf (o136 P)) (lf (o200 P))) (nd (o104 P) (lf (o168 P)) (lf (o232 P)))) (nd (o56 P) (nd (o88 P) (lf (o152 P)) (lf (o216 P))) (nd (o120 P) (lf (o184 P)) (lf (o248 P)))))) (nd (o12v231 P) (nd (o20 P) (nd (o36 P) (nd (o68 P) (lf (o132 P)) (lf (o196 P))) (nd (o100 P) (lf (o164 P)) (lf (o228 P)))) (nd (o52v113 P) (nd (o84 P) (lf (o148 P)) (lf (o212 P))) (nd (o116 P) (lf (o180 P)) (lf (o244 P))))) (nd (o28 P) (nd (o44 P) (nd (o76 P) (lf (o140 P)) (lf (o204 P))) (nd (o108 P) (lf (o172 P)) (lf (o236 P)))) (nd (o60 P) (nd (o92 P) (lf (o156 P)) (lf (o220 P))) (nd (o124 P) (lf (o188 P)) nl))))) (nd (boot_o_6 P) (nd (boot_o_10 P) (nd (o18 P) (nd (o34 P) (nd (o66 P) (lf (o130 P)) (lf (o194 P))) (nd (o98 P) (lf (o162 P)) (lf (o226 P)))) (nd (o50v125 P) (nd (o82 P) (lf (o146 P)) (lf (o210 P))) (nd (o114 P) (lf (o178 P)) (lf (o242 P))))) (nd (o26 P) (nd (o42 P) (nd (o74 P) (lf (o138 P)) (lf (o202 P))) (nd (o106 P) (lf (o170 P)) (lf (o234 P)))) (nd (o58 P) (nd (o90 P) (lf (o154 P)) (lf (o218 P))) (nd (o122 P) (lf (o186 P)) nl)))) (nd (o14 P) (nd (o22 P) (nd (o38 P) (nd (o70 P) (lf (o134 P)) (lf (o198 P))) (nd (o102 P) (lf (o166 P)) (lf (o230 P)))) (nd (o54 P) (nd (o86 P) (lf (o150 P)) (lf (o214 P))) (nd (o118 P) (lf (o182 P)) (lf (o246 P))))) (nd (o30 P) (nd (o46 P) (nd (o78 P) (lf (o142 P)) (lf (o206 P))) (nd (o110 P) (lf (o174 P)) (lf (o238 P)))) (nd (o62 P) (nd (o94 P) (lf (o158 P)) (lf (o222 P))) (nd (o126 P) (lf (o190 P)) nl)))))))
noncomputable def s5 (w : World) (os : OsState) : SharedT := ⟨t5 w.params, 249, {}, #[], {}, 4062, os⟩
noncomputable def t6 (P : Params) : BT := (nd (boot_o_0 P) (nd (boot_o_1 P) (nd (o3v268 P) (nd (boot_o_7 P) (nd (o15 P) (nd (o31 P) (nd (o63 P) (nd (o127 P) (lf (o255 P)) nl) (lf (o191 P))) (nd (o95 P) (lf (o159 P)) (lf (o223 P)))) (nd (o47 P) (nd (o79 P) (nd (o143 P) (lf (o271 P)) nl) (lf (o207 P))) (nd (o111 P) (lf (o175 P)) (lf (o239 P))))) (nd (o23 P) (nd (o39 P) (nd (o71 P) (nd (o135 P) (lf (o263 P)) nl) (lf (o199 P))) (nd (o103 P) (lf (o167 P)) (lf (o231 P)))) (nd (o55 P) (nd (o87 P) (nd (o151 P) (lf (o279 P)) nl) (lf (o215 P))) (nd (o119 P) (lf (o183 P)) (lf (o247 P)))))) (nd (o11 P) (nd (o19 P) (nd (o35 P) (nd (o67 P) (nd (o131 P) (lf (o259 P)) nl) (lf (o195 P))) (nd (o99 P) (lf (o163 P)) (lf (o227 P)))) (nd (o51 P) (nd (o83 P) (nd (o147 P) (lf (o275 P)) nl) (lf (o211 P))) (nd (o115 P) (lf (o179 P)) (lf (o243 P))))) (nd (o27 P) (nd (o43 P) (nd (o75 P) (nd (o139 P) (lf (o267 P)) nl) (lf (o203 P))) (nd (o107 P) (lf (o171 P)) (lf (o235 P)))) (nd (o59 P) (nd (o91 P) (nd (o155 P) (lf (o283 P)) nl) (lf (o219 P))) (nd (o123 P) (lf (o187 P)) (lf (o251 P))))))) (nd (boot_o_5 P) (nd (boot_o_9 P) (nd (o17 P) (nd (o33 P) (nd (o65 P) (nd (o129 P) (lf (o257 P)) nl) (lf (o193 P))) (nd (o97 P) (lf (o161 P)) (lf (o225 P)))) (nd (o49 P) (nd (o81 P) (nd (o145 P) (lf (o273 P)) nl) (lf (o209v232 P))) (nd (o113 P) (lf (o177 P)) (lf (o241 P))))) (nd (o25 P) (nd (o41 P) (nd (o73 P) (nd (o137 P) (lf (o265 P)) nl) (lf (o201 P))) (nd (o105 P) (lf (o169 P)) (lf (o233 P)))) (nd (o57 P) (nd (o89 P) (nd (o153 P) (lf (o281 P)) nl) (lf (o217 P))) (nd (o121 P) (lf (o185 P)) (lf (o249 P)))))) (nd (o13 P) (nd (o21 P) (nd (o37 P) (nd (o69 P) (nd (o133 P) (lf (o261 P)) nl) (lf (o197 P))) (nd (o101 P) (lf (o165 P)) (lf (o229 P)))) (nd (o53 P) (nd (o85 P) (nd (o149 P) (lf (o277 P)) nl) (lf (o213 P))) (nd (o117 P) (lf (o181 P)) (lf (o245 P))))) (nd (o29 P) (nd (o45 P) (nd (o77 P) (nd (o141 P) (lf (o269 P)) nl) (lf (o205 P))) (nd (o109 P) (lf (o173 P)) (lf (o237 P)))) (nd (o61 P) (nd (o93 P) (lf (o157 P)) (lf (o221 P))) (nd (o125 P) (lf (o189 P)) (lf (o253 P)))))))) (nd (boot_o_2 P) (nd (boot_o_4 P) (nd (boot_o_8 P) (nd (o16 P) (nd (o32 P) (nd (o64 P) (nd (o128 P) (lf (o256 P)) nl) (lf (o192 P))) (nd (o96 P) (lf (o160 P)) (lf (o224 P)))) (nd (o48 P) (nd (o80 P) (nd (o144 P) (lf (o272 P)) nl) (lf (o208 P))) (nd (o112 P) (lf (o176 P)) (lf (o240 P))))) (nd (o24 P) (nd (o40 P) (nd (o72 P) (nd (o136 P) (lf (o264 P)) nl) (lf (o200 P))) (nd (o104 P) (lf (o168 P)) (lf (o232 P)))) (nd (o56 P) (nd (o88 P) (nd (o152 P) (lf (o280 P)) nl) (lf (o216 P))) (nd (o120 P) (lf (o184 P)) (lf (o248 P)))))) (nd (o12v269 P) (nd (o20 P) (nd (o36 P) (nd (o68 P) (nd (o132 P) (lf (o260 P)) nl) (lf (o196 P))) (nd (o100 P) (lf (o164 P)) (lf (o228 P)))) (nd (o52v113 P) (nd (o84 P) (nd (o148 P) (lf (o276 P)) nl) (lf (o212 P))) (nd (o116 P) (lf (o180 P)) (lf (o244 P))))) (nd (o28 P) (nd (o44 P) (nd (o76 P) (nd (o140 P) (lf (o268 P)) nl) (lf (o204 P))) (nd (o108 P) (lf (o172 P)) (lf (o236 P)))) (nd (o60 P) (nd (o92 P) (lf (o156 P)) (lf (o220 P))) (nd (o124 P) (lf (o188 P)) (lf (o252 P))))))) (nd (boot_o_6 P) (nd (boot_o_10 P) (nd (o18 P) (nd (o34 P) (nd (o66 P) (nd (o130 P) (lf (o258 P)) nl) (lf (o194 P))) (nd (o98 P) (lf (o162 P)) (lf (o226 P)))) (nd (o50v125 P) (nd (o82 P) (nd (o146 P) (lf (o274 P)) nl) (lf (o210 P))) (nd (o114 P) (lf (o178 P)) (lf (o242 P))))) (nd (o26 P) (nd (o42 P) (nd (o74 P) (nd (o138 P) (lf (o266 P)) nl) (lf (o202 P))) (nd (o106 P) (lf (o170 P)) (lf (o234 P)))) (nd (o58 P) (nd (o90 P) (nd (o154 P) (lf (o282 P)) nl) (lf (o218 P))) (nd (o122 P) (lf (o186 P)) (lf (o250 P)))))) (nd (o14 P) (nd (o22 P) (nd (o38 P) (nd (o70 P) (nd (o134 P) (lf (o262 P)) nl) (lf (o198 P))) (nd (o102 P) (lf (o166 P)) (lf (o230 P)))) (nd (o54 P) (nd (o86 P) (nd (o150 P) (lf (o278 P)) nl) (lf (o214 P))) (nd (o118 P) (lf (o182 P)) (lf (o246v270 P))))) (nd (o30 P) (nd (o46 P) (nd (o78 P) (nd (o142 P) (lf (o270 P)) nl) (lf (o206 P))) (nd (o110 P) (lf (o174 P)) (lf (o238 P)))) (nd (o62 P) (nd (o94 P) (lf (o158 P)) (lf (o222 P))) (nd (o126 P) (lf (o190 P)) (lf (o254 P)))))))))
noncomputable def s6 (w : World) (os : OsState) : SharedT := ⟨t6 w.params, 284, {}, #[], {}, 4106, os⟩
noncomputable def t7 (P : Params) : BT := (nd (boot_o_0 P) (nd (boot_o_1 P) (nd (o3v306 P) (nd (boot_o_7 P) (nd (o15 P) (nd (o31 P) (nd (o63 P) (nd (o127 P) (lf (o255 P)) nl) (lf (o191 P))) (nd (o95 P) (nd (o159 P) (lf (o287 P)) nl) (lf (o223 P)))) (nd (o47 P) (nd (o79 P) (nd (o143 P) (lf (o271 P)) nl) (lf (o207 P))) (nd (o111 P) (nd (o175 P) (lf (o303 P)) nl) (lf (o239 P))))) (nd (o23 P) (nd (o39 P) (nd (o71 P) (nd (o135 P) (lf (o263 P)) nl) (lf (o199 P))) (nd (o103 P) (nd (o167 P) (lf (o295 P)) nl) (lf (o231 P)))) (nd (o55 P) (nd (o87 P) (nd (o151 P) (lf (o279 P)) nl) (lf (o215 P))) (nd (o119 P) (lf (o183 P)) (lf (o247 P)))))) (nd (o11 P) (nd (o19 P) (nd (o35 P) (nd (o67 P) (nd (o131 P) (lf (o259 P)) nl) (lf (o195 P))) (nd (o99 P) (nd (o163 P) (lf (o291 P)) nl) (lf (o227 P)))) (nd (o51 P) (nd (o83 P) (nd (o147 P) (lf (o275 P)) nl) (lf (o211 P))) (nd (o115 P) (nd (o179 P) (lf (o307 P)) nl) (lf (o243 P))))) (nd (o27 P) (nd (o43 P) (nd (o75 P) (nd (o139 P) (lf (o267 P)) nl) (lf (o203 P))) (nd (o107 P) (nd (o171 P) (lf (o299 P)) nl) (lf (o235 P)))) (nd (o59 P) (nd (o91 P) (nd (o155 P) (lf (o283 P)) nl) (lf (o219 P))) (nd (o123 P) (lf (o187 P)) (lf (o251 P))))))) (nd (boot_o_5 P) (nd (boot_o_9 P) (nd (o17 P) (nd (o33 P) (nd (o65 P) (nd (o129 P) (lf (o257 P)) nl) (lf (o193 P))) (nd (o97 P) (nd (o161 P) (lf (o289 P)) nl) (lf (o225 P)))) (nd (o49 P) (nd (o81 P) (nd (o145 P) (lf (o273 P)) nl) (lf (o209v308 P))) (nd (o113 P) (nd (o177 P) (lf (o305 P)) nl) (lf (o241 P))))) (nd (o25 P) (nd (o41 P) (nd (o73 P) (nd (o137 P) (lf (o265 P)) nl) (lf (o201 P))) (nd (o105 P) (nd (o169 P) (lf (o297 P)) nl) (lf (o233 P)))) (nd (o57 P) (nd (o89 P) (nd (o153 P) (lf (o281 P)) nl) (lf (o217 P))) (nd (o121 P) (lf (o185 P)) (lf (o249 P)))))) (nd (o13 P) (nd (o21 P) (nd (o37 P) (nd (o69 P) (nd (o133 P) (lf (o261 P)) nl) (lf (o197 P))) (nd (o101 P) (nd (o165 P) (lf (o293 P)) nl) (lf (o229 P)))) (nd (o53 P) (nd (o85 P) (nd (o149 P) (lf (o277 P)) nl) (lf (o213 P))) (nd (o117 P) (nd (o181 P) (lf (o309 P)) nl) (lf (o245 P))))) (nd (o29 P) (nd (o45 P) (nd (o77 P) (nd (o141 P) (lf (o269 P)) nl) (lf (o205 P))) (nd (o109 P) (nd (o173 P) (lf (o301 P)) nl) (lf (o237 P)))) (nd (o61 P) (nd (o93 P) (nd (o157 P) (lf (o285 P)) nl) (lf (o221 P))) (nd (o125 P) (lf (o189 P)) (lf (o253 P)))))))) (nd (boot_o_2 P) (nd (boot_o_4 P) (nd (boot_o_8 P) (nd (o16 P) (nd (o32 P) (nd (o64 P) (nd (o128 P) (lf (o256 P)) nl) (lf (o192 P))) (nd (o96 P) (nd (o160 P) (lf (o288 P)) nl) (lf (o224 P)))) (nd (o48 P) (nd (o80 P) (nd (o144 P) (lf (o272 P)) nl) (lf (o208 P))) (nd (o112 P) (nd (o176 P) (lf (o304 P)) nl) (lf (o240 P))))) (nd (o24 P) (nd (o40 P) (nd (o72 P) (nd (o136 P) (lf (o264 P)) nl) (lf (o200 P))) (nd (o104 P) (nd (o168 P) (lf (o296 P)) nl) (lf (o232 P)))) (nd (o56 P) (nd (o88 P) (nd (o152 P) (lf (o280 P)) nl) (lf (o216 P))) (nd (o120 P) (lf (o184 P)) (lf (o248 P)))))) (nd (o12v307 P) (nd (o20 P) (nd (o36 P) (nd (o68 P) (nd (o132 P) (lf (o260 P)) nl) (lf (o196 P))) (nd (o100 P) (nd (o164 P) (lf (o292 P)) nl) (lf (o228 P)))) (nd (o52v113 P) (nd (o84 P) (nd (o148 P) (lf (o276 P)) nl) (lf (o212 P))) (nd (o116 P) (nd (o180 P) (lf (o308 P)) nl) (lf (o244 P))))) (nd (o28 P) (nd (o44 P) (nd (o76 P) (nd (o140 P) (lf (o268 P)) nl) (lf (o204 P))) (nd (o108 P) (nd (o172 P) (lf (o300 P)) nl) (lf (o236 P)))) (nd (o60 P) (nd (o92 P) (nd (o156 P) (lf (o284 P)) nl) (lf (o220 P))) (nd (o124 P) (lf (o188 P)) (lf (o252 P))))))) (nd (boot_o_6 P) (nd (boot_o_10 P) (nd (o18 P) (nd (o34 P) (nd (o66 P) (nd (o130 P) (lf (o258 P)) nl) (lf (o194 P))) (nd (o98 P) (nd (o162 P) (lf (o290 P)) nl) (lf (o226 P)))) (nd (o50v125 P) (nd (o82 P) (nd (o146 P) (lf (o274 P)) nl) (lf (o210 P))) (nd (o114 P) (nd (o178 P) (lf (o306 P)) nl) (lf (o242 P))))) (nd (o26 P) (nd (o42 P) (nd (o74 P) (nd (o138 P) (lf (o266 P)) nl) (lf (o202 P))) (nd (o106 P) (nd (o170 P) (lf (o298 P)) nl) (lf (o234 P)))) (nd (o58 P) (nd (o90 P) (nd (o154 P) (lf (o282 P)) nl) (lf (o218 P))) (nd (o122 P) (lf (o186 P)) (lf (o250 P)))))) (nd (o14 P) (nd (o22 P) (nd (o38 P) (nd (o70 P) (nd (o134 P) (lf (o262 P)) nl) (lf (o198 P))) (nd (o102 P) (nd (o166 P) (lf (o294 P)) nl) (lf (o230 P)))) (nd (o54 P) (nd (o86 P) (nd (o150 P) (lf (o278 P)) nl) (lf (o214 P))) (nd (o118 P) (lf (o182 P)) (lf (o246v270 P))))) (nd (o30 P) (nd (o46 P) (nd (o78 P) (nd (o142 P) (lf (o270 P)) nl) (lf (o206 P))) (nd (o110 P) (nd (o174 P) (lf (o302 P)) nl) (lf (o238 P)))) (nd (o62 P) (nd (o94 P) (nd (o158 P) (lf (o286 P)) nl) (lf (o222 P))) (nd (o126 P) (lf (o190 P)) (lf (o254 P)))))))))
noncomputable def s7 (w : World) (os : OsState) : SharedT := ⟨t7 w.params, 310, {}, #[], {}, 4140, os⟩
noncomputable def t8 (P : Params) : BT := (nd (boot_o_0 P) (nd (boot_o_1 P) (nd (o3v335 P) (nd (boot_o_7 P) (nd (o15 P) (nd (o31 P) (nd (o63 P) (nd (o127 P) (lf (o255 P)) nl) (nd (o191 P) (lf (o319 P)) nl)) (nd (o95 P) (nd (o159 P) (lf (o287 P)) nl) (lf (o223 P)))) (nd (o47 P) (nd (o79 P) (nd (o143 P) (lf (o271 P)) nl) (nd (o207 P) (lf (o335 P)) nl)) (nd (o111 P) (nd (o175 P) (lf (o303 P)) nl) (lf (o239 P))))) (nd (o23 P) (nd (o39 P) (nd (o71 P) (nd (o135 P) (lf (o263 P)) nl) (nd (o199 P) (lf (o327 P)) nl)) (nd (o103 P) (nd (o167 P) (lf (o295 P)) nl) (lf (o231 P)))) (nd (o55 P) (nd (o87 P) (nd (o151 P) (lf (o279 P)) nl) (lf (o215 P))) (nd (o119 P) (nd (o183 P) (lf (o311 P)) nl) (lf (o247 P)))))) (nd (o11 P) (nd (o19 P) (nd (o35 P) (nd (o67 P) (nd (o131 P) (lf (o259 P)) nl) (nd (o195 P) (lf (o323 P)) nl)) (nd (o99 P) (nd (o163 P) (lf (o291 P)) nl) (lf (o227 P)))) (nd (o51 P) (nd (o83 P) (nd (o147 P) (lf (o275 P)) nl) (nd (o211 P) (lf (o339 P)) nl)) (nd (o115 P) (nd (o179 P) (lf (o307 P)) nl) (lf (o243 P))))) (nd (o27 P) (nd (o43 P) (nd (o75 P) (nd (o139 P) (lf (o267 P)) nl) (nd (o203 P) (lf (o331 P)) nl)) (nd (o107 P) (nd (o171 P) (lf (o299 P)) nl) (lf (o235 P)))) (nd (o59 P) (nd (o91 P) (nd (o155 P) (lf (o283 P)) nl) (lf (o219 P))) (nd (o123 P) (nd (o187 P) (lf (o315 P)) nl) (lf (o251 P))))))) (nd (boot_o_5 P) (nd (boot_o_9 P) (nd (o17 P) (nd (o33 P) (nd (o65 P) (nd (o129 P) (lf (o257 P)) nl) (nd (o193 P) (lf (o321 P)) nl)) (nd (o97 P) (nd (o161 P) (lf (o289 P)) nl) (lf (o225 P)))) (nd (o49 P) (nd (o81 P) (nd (o145 P) (lf (o273 P)) nl) (nd (o209v337 P) (lf (o337 P)) nl)) (nd (o113 P) (nd (o177 P) (lf (o305 P)) nl) (lf (o241 P))))) (nd (o25 P) (nd (o41 P) (nd (o73 P) (nd (o137 P) (lf (o265 P)) nl) (nd (o201 P) (lf (o329 P)) nl)) (nd (o105 P) (nd (o169 P) (lf (o297 P)) nl) (lf (o233 P)))) (nd (o57 P) (nd (o89 P) (nd (o153 P) (lf (o281 P)) nl) (lf (o217 P))) (nd (o121 P) (nd (o185 P) (lf (o313 P)) nl) (lf (o249 P)))))) (nd (o13 P) (nd (o21 P) (nd (o37 P) (nd (o69 P) (nd (o133 P) (lf (o261 P)) nl) (nd (o197 P) (lf (o325 P)) nl)) (nd (o101 P) (nd (o165 P) (lf (o293 P)) nl) (lf (o229 P)))) (nd (o53 P) (nd (o85 P) (nd (o149 P) (lf (o277 P)) nl) (lf (o213 P))) (nd (o117 P) (nd (o181 P) (lf (o309 P)) nl) (lf (o245 P))))) (nd (o29 P) (nd (o45 P) (nd (o77 P) (nd (o141 P) (lf (o269 P)) nl) (nd (o205 P) (lf (o333 P)) nl)) (nd (o109 P) (nd (o173 P) (lf (o301 P)) nl) (lf (o237 P)))) (nd (o61 P) (nd (o93 P) (nd (o157 P) (lf (o285 P)) nl) (lf (o221 P))) (nd (o125 P) (nd (o189 P) (lf (o317 P)) nl) (lf (o253 P)))))))) (nd (boot_o_2 P) (nd (boot_o_4 P) (nd (boot_o_8 P) (nd (o16 P) (nd (o32 P) (nd (o64 P) (nd (o128 P) (lf (o256 P)) nl) (nd (o192 P) (lf (o320 P)) nl)) (nd (o96 P) (nd (o160 P) (lf (o288 P)) nl) (lf (o224 P)))) (nd (o48 P) (nd (o80 P) (nd (o144 P) (lf (o272 P)) nl) (nd (o208 P) (lf (o336 P)) nl)) (nd (o112 P) (nd (o176 P) (lf (o304 P)) nl) (lf (o240 P))))) (nd (o24 P) (nd (o40 P) (nd (o72 P) (nd (o136 P) (lf (o264 P)) nl) (nd (o200 P) (lf (o328 P)) nl)) (nd (o104 P) (nd (o168 P) (lf (o296 P)) nl) (lf (o232 P)))) (nd (o56 P) (nd (o88 P) (nd (o152 P) (lf (o280 P)) nl) (lf (o216 P))) (nd (o120 P) (nd (o184 P) (lf (o312 P)) nl) (lf (o248 P)))))) (nd (o12v336 P) (nd (o20 P) (nd (o36 P) (nd (o68 P) (nd (o132 P) (lf (o260 P)) nl) (nd (o196 P) (lf (o324 P)) nl)) (nd (o100 P) (nd (o164 P) (lf (o292 P)) nl) (lf (o228 P)))) (nd (o52v113 P) (nd (o84 P) (nd (o148 P) (lf (o276 P)) nl) (lf (o212 P))) (nd (o116 P) (nd (o180 P) (lf (o308 P)) nl) (lf (o244 P))))) (nd (o28 P) (nd (o44 P) (nd (o76 P) (nd (o140 P) (lf (o268 P)) nl) (nd (o204 P) (lf (o332 P)) nl)) (nd (o108 P) (nd (o172 P) (lf (o300 P)) nl) (lf (o236 P)))) (nd (o60 P) (nd (o92 P) (nd (o156 P) (lf (o284 P)) nl) (lf (o220 P))) (nd (o124 P) (nd (o188 P) (lf (o316 P)) nl) (lf (o252 P))))))) (nd (boot_o_6 P) (nd (boot_o_10 P) (nd (o18 P) (nd (o34 P) (nd (o66 P) (nd (o130 P) (lf (o258 P)) nl) (nd (o194 P) (lf (o322 P)) nl)) (nd (o98 P) (nd (o162 P) (lf (o290 P)) nl) (lf (o226 P)))) (nd (o50v125 P) (nd (o82 P) (nd (o146 P) (lf (o274 P)) nl) (nd (o210 P) (lf (o338 P)) nl)) (nd (o114 P) (nd (o178 P) (lf (o306 P)) nl) (lf (o242 P))))) (nd (o26 P) (nd (o42 P) (nd (o74 P) (nd (o138 P) (lf (o266 P)) nl) (nd (o202 P) (lf (o330 P)) nl)) (nd (o106 P) (nd (o170 P) (lf (o298 P)) nl) (lf (o234 P)))) (nd (o58 P) (nd (o90 P) (nd (o154 P) (lf (o282 P)) nl) (lf (o218 P))) (nd (o122 P) (nd (o186 P) (lf (o314 P)) nl) (lf (o250 P)))))) (nd (o14 P) (nd (o22 P) (nd (o38 P) (nd (o70 P) (nd (o134 P) (lf (o262 P)) nl) (nd (o198 P) (lf (o326 P)) nl)) (nd (o102 P) (nd (o166 P) (lf (o294 P)) nl) (lf (o230 P)))) (nd (o54 P) (nd (o86 P) (nd (o150 P) (lf (o278 P)) nl) (lf (o214 P))) (nd (o118 P) (nd (o182 P) (lf (o310 P)) nl) (lf (o246v270 P))))) (nd (o30 P) (nd (o46 P) (nd (o78 P) (nd (o142 P) (lf (o270 P)) nl) (nd (o206 P) (lf (o334 P)) nl)) (nd (o110 P) (nd (o174 P) (lf (o302 P)) nl) (lf (o238 P)))) (nd (o62 P) (nd (o94 P) (nd (o158 P) (lf (o286 P)) nl) (lf (o222 P))) (nd (o126 P) (nd (o190 P) (lf (o318 P)) nl) (lf (o254 P)))))))))
noncomputable def s8 (w : World) (os : OsState) : SharedT := ⟨t8 w.params, 340, {}, #[], {}, 4180, os⟩
noncomputable def t9 (P : Params) : BT := (nd (boot_o_0 P) (nd (boot_o_1 P) (nd (o3v368 P) (nd (boot_o_7 P) (nd (o15 P) (nd (o31 P) (nd (o63 P) (nd (o127 P) (lf (o255 P)) nl) (nd (o191 P) (lf (o319 P)) nl)) (nd (o95 P) (nd (o159 P) (lf (o287 P)) nl) (nd (o223 P) (lf (o351 P)) nl))) (nd (o47 P) (nd (o79 P) (nd (o143 P) (lf (o271 P)) nl) (nd (o207 P) (lf (o335 P)) nl)) (nd (o111 P) (nd (o175 P) (lf (o303 P)) nl) (nd (o239 P) (lf (o367 P)) nl)))) (nd (o23 P) (nd (o39 P) (nd (o71 P) (nd (o135 P) (lf (o263 P)) nl) (nd (o199 P) (lf (o327 P)) nl)) (nd (o103 P) (nd (o167 P) (lf (o295 P)) nl) (nd (o231 P) (lf (o359 P)) nl))) (nd (o55 P) (nd (o87 P) (nd (o151 P) (lf (o279 P)) nl) (nd (o215 P) (lf (o343 P)) nl)) (nd (o119 P) (nd (o183 P) (lf (o311 P)) nl) (nd (o247 P) (lf (o375 P)) nl))))) (nd (o11 P) (nd (o19 P) (nd (o35 P) (nd (o67 P) (nd (o131 P) (lf (o259 P)) nl) (nd (o195 P) (lf (o323 P)) nl)) (nd (o99 P) (nd (o163 P) (lf (o291 P)) nl) (nd (o227 P) (lf (o355 P)) nl))) (nd (o51 P) (nd (o83 P) (nd (o147 P) (lf (o275 P)) nl) (nd (o211 P) (lf (o339 P)) nl)) (nd (o115 P) (nd (o179 P) (lf (o307 P)) nl) (nd (o243 P) (lf (o371 P)) nl)))) (nd (o27 P) (nd (o43 P) (nd (o75 P) (nd (o139 P) (lf (o267 P)) nl) (nd (o203 P) (lf (o331 P)) nl)) (nd (o107 P) (nd (o171 P) (lf (o299 P)) nl) (nd (o235 P) (lf (o363 P)) nl))) (nd (o59 P) (nd (o91 P) (nd (o155 P) (lf (o283 P)) nl) (nd (o219 P) (lf (o347 P)) nl)) (nd (o123 P) (nd (o187 P) (lf (o315 P)) nl) (lf (o251 P))))))) (nd (boot_o_5 P) (nd (boot_o_9 P) (nd (o17 P) (nd (o33 P) (nd (o65 P) (nd (o129 P) (lf (o257 P)) nl) (nd (o193 P) (lf (o321 P)) nl)) (nd (o97 P) (nd (o161 P) (lf (o289 P)) nl) (nd (o225 P) (lf (o353 P)) nl))) (nd (o49 P) (nd (o81 P) (nd (o145 P) (lf (o273 P)) nl) (nd (o209v337 P) (lf (o337 P)) nl)) (nd (o113 P) (nd (o177 P) (lf (o305 P)) nl) (nd (o241 P) (lf (o369 P)) nl)))) (nd (o25 P) (nd (o41 P) (nd (o73 P) (nd (o137 P) (lf (o265 P)) nl) (nd (o201 P) (lf (o329 P)) nl)) (nd (o105 P) (nd (o169 P) (lf (o297 P)) nl) (nd (o233 P) (lf (o361 P)) nl))) (nd (o57 P) (nd (o89 P) (nd (o153 P) (lf (o281v370 P)) nl) (nd (o217 P) (lf (o345 P)) nl)) (nd (o121 P) (nd (o185 P) (lf (o313 P)) nl) (nd (o249 P) (lf (o377 P)) nl))))) (nd (o13 P) (nd (o21 P) (nd (o37 P) (nd (o69 P) (nd (o133 P) (lf (o261 P)) nl) (nd (o197 P) (lf (o325 P)) nl)) (nd (o101 P) (nd (o165 P) (lf (o293 P)) nl) (nd (o229 P) (lf (o357 P)) nl))) (nd (o53 P) (nd (o85 P) (nd (o149 P) (lf (o277 P)) nl) (nd (o213 P) (lf (o341 P)) nl)) (nd (o117 P) (nd (o181 P) (lf (o309 P)) nl) (nd (o245 P) (lf (o373 P)) nl)))) (nd (o29 P) (nd (o45 P) (nd (o77 P) (nd (o141 P) (lf (o269 P)) nl) (nd (o205 P) (lf (o333 P)) nl)) (nd (o109 P) (nd (o173 P) (lf (o301 P)) nl) (nd (o237 P) (lf (o365 P)) nl))) (nd (o61 P) (nd (o93 P) (nd (o157 P) (lf (o285 P)) nl) (nd (o221 P) (lf (o349 P)) nl)) (nd (o125 P) (nd (o189 P) (lf (o317 P)) nl) (lf (o253 P)))))))) (nd (boot_o_2 P) (nd (boot_o_4 P) (nd (boot_o_8 P) (nd (o16 P) (nd (o32 P) (nd (o64 P) (nd (o128 P) (lf (o256 P)) nl) (nd (o192 P) (lf (o320 P)) nl)) (nd (o96 P) (nd (o160 P) (lf (o288 P)) nl) (nd (o224 P) (lf (o352 P)) nl))) (nd (o48 P) (nd (o80 P) (nd (o144 P) (lf (o272 P)) nl) (nd (o208 P) (lf (o336 P)) nl)) (nd (o112 P) (nd (o176 P) (lf (o304 P)) nl) (nd (o240 P) (lf (o368 P)) nl)))) (nd (o24 P) (nd (o40 P) (nd (o72 P) (nd (o136 P) (lf (o264 P)) nl) (nd (o200 P) (lf (o328 P)) nl)) (nd (o104 P) (nd (o168 P) (lf (o296 P)) nl) (nd (o232 P) (lf (o360 P)) nl))) (nd (o56 P) (nd (o88 P) (nd (o152 P) (lf (o280 P)) nl) (nd (o216 P) (lf (o344 P)) nl)) (nd (o120 P) (nd (o184 P) (lf (o312 P)) nl) (nd (o248 P) (lf (o376 P)) nl))))) (nd (o12v369 P) (nd (o20 P) (nd (o36 P) (nd (o68 P) (nd (o132 P) (lf (o260 P)) nl) (nd (o196 P) (lf (o324 P)) nl)) (nd (o100 P) (nd (o164 P) (lf (o292 P)) nl) (nd (o228 P) (lf (o356 P)) nl))) (nd (o52v113 P) (nd (o84 P) (nd (o148 P) (lf (o276 P)) nl) (nd (o212 P) (lf (o340 P)) nl)) (nd (o116 P) (nd (o180 P) (lf (o308 P)) nl) (nd (o244 P) (lf (o372 P)) nl)))) (nd (o28 P) (nd (o44 P) (nd (o76 P) (nd (o140 P) (lf (o268 P)) nl) (nd (o204 P) (lf (o332 P)) nl)) (nd (o108 P) (nd (o172 P) (lf (o300 P)) nl) (nd (o236 P) (lf (o364 P)) nl))) (nd (o60 P) (nd (o92 P) (nd (o156 P) (lf (o284 P)) nl) (nd (o220 P) (lf (o348 P)) nl)) (nd (o124 P) (nd (o188 P) (lf (o316 P)) nl) (lf (o252 P))))))) (nd (boot_o_6 P) (nd (boot_o_10 P) (nd (o18 P) (nd (o34 P) (nd (o66 P) (nd (o130 P) (lf (o258 P)) nl) (nd (o194 P) (lf (o322 P)) nl)) (nd (o98 P) (nd (o162 P) (lf (o290 P)) nl) (nd (o226 P) (lf (o354 P)) nl))) (nd (o50v125 P) (nd (o82 P) (nd (o146 P) (lf (o274 P)) nl) (nd (o210 P) (lf (o338 P)) nl)) (nd (o114 P) (nd (o178 P) (lf (o306 P)) nl) (nd (o242 P) (lf (o370 P)) nl)))) (nd (o26 P) (nd (o42 P) (nd (o74 P) (nd (o138 P) (lf (o266 P)) nl) (nd (o202 P) (lf (o330 P)) nl)) (nd (o106 P) (nd (o170 P) (lf (o298 P)) nl) (nd (o234 P) (lf (o362 P)) nl))) (nd (o58 P) (nd (o90 P) (nd (o154 P) (lf (o282 P)) nl) (nd (o218 P) (lf (o346 P)) nl)) (nd (o122 P) (nd (o186 P) (lf (o314 P)) nl) (lf (o250 P)))))) (nd (o14 P) (nd (o22 P) (nd (o38 P) (nd (o70 P) (nd (o134 P) (lf (o262 P)) nl) (nd (o198 P) (lf (o326 P)) nl)) (nd (o102 P) (nd (o166 P) (lf (o294 P)) nl) (nd (o230 P) (lf (o358 P)) nl))) (nd (o54 P) (nd (o86 P) (nd (o150 P) (lf (o278 P)) nl) (nd (o214 P) (lf (o342 P)) nl)) (nd (o118 P) (nd (o182 P) (lf (o310 P)) nl) (nd (o246v270 P) (lf (o374 P)) nl)))) (nd (o30 P) (nd (o46 P) (nd (o78 P) (nd (o142 P) (lf (o270 P)) nl) (nd (o206 P) (lf (o334 P)) nl)) (nd (o110 P) (nd (o174 P) (lf (o302 P)) nl) (nd (o238 P) (lf (o366 P)) nl))) (nd (o62 P) (nd (o94 P) (nd (o158 P) (lf (o286 P)) nl) (nd (o222 P) (lf (o350 P)) nl)) (nd (o126 P) (nd (o190 P) (lf (o318 P)) nl) (lf (o254 P)))))))))
noncomputable def s9 (w : World) (os : OsState) : SharedT := ⟨t9 w.params, 378, {}, #[], {}, 4231, os⟩
noncomputable def t10 (P : Params) : BT := (nd (boot_o_0 P) (nd (boot_o_1 P) (nd (o3v409 P) (nd (boot_o_7 P) (nd (o15 P) (nd (o31 P) (nd (o63 P) (nd (o127 P) (lf (o255 P)) (lf (o383 P))) (nd (o191 P) (lf (o319 P)) nl)) (nd (o95 P) (nd (o159 P) (lf (o287 P)) nl) (nd (o223 P) (lf (o351 P)) nl))) (nd (o47 P) (nd (o79 P) (nd (o143 P) (lf (o271 P)) (lf (o399 P))) (nd (o207 P) (lf (o335 P)) nl)) (nd (o111 P) (nd (o175 P) (lf (o303 P)) nl) (nd (o239 P) (lf (o367 P)) nl)))) (nd (o23 P) (nd (o39 P) (nd (o71 P) (nd (o135 P) (lf (o263 P)) (lf (o391 P))) (nd (o199 P) (lf (o327 P)) nl)) (nd (o103 P) (nd (o167 P) (lf (o295 P)) nl) (nd (o231 P) (lf (o359 P)) nl))) (nd (o55 P) (nd (o87 P) (nd (o151 P) (lf (o279 P)) (lf (o407 P))) (nd (o215 P) (lf (o343 P)) nl)) (nd (o119 P) (nd (o183 P) (lf (o311 P)) nl) (nd (o247 P) (lf (o375 P)) nl))))) (nd (o11 P) (nd (o19 P) (nd (o35 P) (nd (o67 P) (nd (o131 P) (lf (o259 P)) (lf (o387 P))) (nd (o195 P) (lf (o323 P)) nl)) (nd (o99 P) (nd (o163 P) (lf (o291 P)) nl) (nd (o227 P) (lf (o355 P)) nl))) (nd (o51 P) (nd (o83 P) (nd (o147 P) (lf (o275 P)) (lf (o403 P))) (nd (o211 P) (lf (o339 P)) nl)) (nd (o115 P) (nd (o179 P) (lf (o307 P)) nl) (nd (o243 P) (lf (o371 P)) nl)))) (nd (o27 P) (nd (o43 P) (nd (o75 P) (nd (o139 P) (lf (o267 P)) (lf (o395 P))) (nd (o203 P) (lf (o331 P)) nl)) (nd (o107 P) (nd (o171 P) (lf (o299 P)) nl) (nd (o235 P) (lf (o363 P)) nl))) (nd (o59 P) (nd (o91 P) (nd (o155 P) (lf (o283 P)) (lf (o411 P))) (nd (o219 P) (lf (o347 P)) nl)) (nd (o123 P) (nd (o187 P) (lf (o315 P)) nl) (nd (o251 P) (lf (o379 P)) nl)))))) (nd (boot_o_5 P) (nd (boot_o_9 P) (nd (o17 P) (nd (o33 P) (nd (o65 P) (nd (o129 P) (lf (o257 P)) (lf (o385 P))) (nd (o193 P) (lf (o321 P)) nl)) (nd (o97 P) (nd (o161 P) (lf (o289 P)) nl) (nd (o225 P) (lf (o353 P)) nl))) (nd (o49 P) (nd (o81 P) (nd (o145 P) (lf (o273 P)) (lf (o401 P))) (nd (o209v337 P) (lf (o337 P)) nl)) (nd (o113 P) (nd (o177 P) (lf (o305 P)) nl) (nd (o241 P) (lf (o369 P)) nl)))) (nd (o25 P) (nd (o41 P) (nd (o73 P) (nd (o137 P) (lf (o265 P)) (lf (o393 P))) (nd (o201 P) (lf (o329 P)) nl)) (nd (o105 P) (nd (o169 P) (lf (o297 P)) nl) (nd (o233 P) (lf (o361 P)) nl))) (nd (o57 P) (nd (o89 P) (nd (o153 P) (lf (o281v370 P)) (lf (o409 P))) (nd (o217 P) (lf (o345 P)) nl)) (nd (o121 P) (nd (o185 P) (lf (o313 P)) nl) (nd (o249 P) (lf (o377 P)) nl))))) (nd (o13 P) (nd (o21 P) (nd (o37 P) (nd (o69 P) (nd (o133 P) (lf (o261 P)) (lf (o389 P))) (nd (o197 P) (lf (o325 P)) nl)) (nd (o101 P) (nd (o165 P) (lf (o293 P)) nl) (nd (o229 P) (lf (o357 P)) nl))) (nd (o53 P) (nd (o85 P) (nd (o149 P) (lf (o277 P)) (lf (o405 P))) (nd (o213 P) (lf (o341 P)) nl)) (nd (o117 P) (nd (o181 P) (lf (o309 P)) nl) (nd (o245 P) (lf (o373 P)) nl)))) (nd (o29 P) (nd (o45 P) (nd (o77 P) (nd (o141 P) (lf (o269 P)) (lf (o397 P))) (nd (o205 P) (lf (o333 P)) nl)) (nd (o109 P) (nd (o173 P) (lf (o301 P)) nl) (nd (o237 P) (lf (o365 P)) nl))) (nd (o61 P) (nd (o93 P) (nd (o157 P) (lf (o285 P)) nl) (nd (o221 P) (lf (o349 P)) nl)) (nd (o125 P) (nd (o189 P) (lf (o317 P)) nl) (nd (o253 P) (lf (o381 P)) nl))))))) (nd (boot_o_2 P) (nd (boot_o_4 P) (nd (boot_o_8 P) (nd (o16 P) (nd (o32 P) (nd (o64 P) (nd (o128 P) (lf (o256 P)) (lf (o384 P))) (nd (o192 P) (lf (o320 P)) nl)) (nd (o96 P) (nd (o160 P) (lf (o288 P)) nl) (nd (o224 P) (lf (o352 P)) nl))) (nd (o48 P) (nd (o80 P) (nd (o144 P) (lf (o272 P)) (lf (o400 P))) (nd (o208 P) (lf (o336 P)) nl)) (nd (o112 P) (nd (o176 P) (lf (o304 P)) nl) (nd (o240 P) (lf (o368 P)) nl)))) (nd (o24 P) (nd (o40 P) (nd (o72 P) (nd (o136 P) (lf (o264 P)) (lf (o392 P))) (nd (o200 P) (lf (o328 P)) nl)) (nd (o104 P) (nd (o168 P) (lf (o296 P)) nl) (nd (o232 P) (lf (o360 P)) nl))) (nd (o56 P) (nd (o88 P) (nd (o152 P) (lf (o280 P)) (lf (o408 P))) (nd (o216 P) (lf (o344 P)) nl)) (nd (o120 P) (nd (o184 P) (lf (o312 P)) nl) (nd (o248 P) (lf (o376 P)) nl))))) (nd (o12v410 P) (nd (o20 P) (nd (o36 P) (nd (o68 P) (nd (o132 P) (lf (o260 P)) (lf (o388 P))) (nd (o196 P) (lf (o324 P)) nl)) (nd (o100 P) (nd (o164 P) (lf (o292 P)) nl) (nd (o228 P) (lf (o356 P)) nl))) (nd (o52v113 P) (nd (o84 P) (nd (o148 P) (lf (o276 P)) (lf (o404 P))) (nd (o212 P) (lf (o340 P)) nl)) (nd (o116 P) (nd (o180 P) (lf (o308 P)) nl) (nd (o244 P) (lf (o372 P)) nl)))) (nd (o28 P) (nd (o44 P) (nd (o76 P) (nd (o140 P) (lf (o268 P)) (lf (o396 P))) (nd (o204 P) (lf (o332 P)) nl)) (nd (o108 P) (nd (o172 P) (lf (o300 P)) nl) (nd (o236 P) (lf (o364 P)) nl))) (nd (o60 P) (nd (o92 P) (nd (o156 P) (lf (o284 P)) nl) (nd (o220 P) (lf (o348 P)) nl)) (nd (o124 P) (nd (o188 P) (lf (o316 P)) nl) (nd (o252 P) (lf (o380 P)) nl)))))) (nd (boot_o_6 P) (nd (boot_o_10 P) (nd (o18 P) (nd (o34 P) (nd (o66 P) (nd (o130 P) (lf (o258 P)) (lf (o386 P))) (nd (o194 P) (lf (o322 P)) nl)) (nd (o98 P) (nd (o162 P) (lf (o290 P)) nl) (nd (o226 P) (lf (o354 P)) nl))) (nd (o50v125 P) (nd (o82 P) (nd (o146 P) (lf (o274 P)) (lf (o402 P))) (nd (o210 P) (lf (o338 P)) nl)) (nd (o114 P) (nd (o178 P) (lf (o306 P)) nl) (nd (o242 P) (lf (o370 P)) nl)))) (nd (o26 P) (nd (o42 P) (nd (o74 P) (nd (o138 P) (lf (o266 P)) (lf (o394 P))) (nd (o202 P) (lf (o330 P)) nl)) (nd (o106 P) (nd (o170 P) (lf (o298 P)) nl) (nd (o234 P) (lf (o362 P)) nl))) (nd (o58 P) (nd (o90 P) (nd (o154 P) (lf (o282 P)) (lf (o410 P))) (nd (o218 P) (lf (o346 P)) nl)) (nd (o122 P) (nd (o186 P) (lf (o314 P)) nl) (nd (o250 P) (lf (o378 P)) nl))))) (nd (o14 P) (nd (o22 P) (nd (o38 P) (nd (o70 P) (nd (o134 P) (lf (o262 P)) (lf (o390 P))) (nd (o198 P) (lf (o326 P)) nl)) (nd (o102 P) (nd (o166 P) (lf (o294 P)) nl) (nd (o230 P) (lf (o358 P)) nl))) (nd (o54 P) (nd (o86 P) (nd (o150 P) (lf (o278 P)) (lf (o406 P))) (nd (o214 P) (lf (o342 P)) nl)) (nd (o118 P) (nd (o182 P) (lf (o310 P)) nl) (nd (o246v411 P) (lf (o374 P)) nl)))) (nd (o30 P) (nd (o46 P) (nd (o78 P) (nd (o142 P) (lf (o270 P)) (lf (o398 P))) (nd (o206 P) (lf (o334 P)) nl)) (nd (o110 P) (nd (o174 P) (lf (o302 P)) nl) (nd (o238 P) (lf (o366 P)) nl))) (nd (o62 P) (nd (o94 P) (nd (o158 P) (lf (o286 P)) nl) (nd (o222 P) (lf (o350 P)) nl)) (nd (o126 P) (nd (o190 P) (lf (o318 P)) nl) (nd (o254 P) (lf (o382 P)) nl))))))))
noncomputable def s10 (w : World) (os : OsState) : SharedT := ⟨t10 w.params, 412, {}, #[], {}, 4280, os⟩
noncomputable def t11 (P : Params) : BT := (nd (boot_o_0 P) (nd (boot_o_1 P) (nd (o3v446 P) (nd (boot_o_7 P) (nd (o15 P) (nd (o31 P) (nd (o63 P) (nd (o127 P) (lf (o255 P)) (lf (o383 P))) (nd (o191 P) (lf (o319 P)) (lf (o447 P)))) (nd (o95 P) (nd (o159 P) (lf (o287 P)) (lf (o415 P))) (nd (o223 P) (lf (o351 P)) nl))) (nd (o47 P) (nd (o79 P) (nd (o143 P) (lf (o271 P)) (lf (o399 P))) (nd (o207 P) (lf (o335 P)) nl)) (nd (o111 P) (nd (o175 P) (lf (o303 P)) (lf (o431 P))) (nd (o239 P) (lf (o367 P)) nl)))) (nd (o23 P) (nd (o39 P) (nd (o71 P) (nd (o135 P) (lf (o263 P)) (lf (o391 P))) (nd (o199 P) (lf (o327 P)) nl)) (nd (o103 P) (nd (o167 P) (lf (o295 P)) (lf (o423 P))) (nd (o231 P) (lf (o359 P)) nl))) (nd (o55 P) (nd (o87 P) (nd (o151 P) (lf (o279 P)) (lf (o407 P))) (nd (o215 P) (lf (o343 P)) nl)) (nd (o119 P) (nd (o183 P) (lf (o311 P)) (lf (o439 P))) (nd (o247 P) (lf (o375 P)) nl))))) (nd (o11 P) (nd (o19 P) (nd (o35 P) (nd (o67 P) (nd (o131 P) (lf (o259 P)) (lf (o387 P))) (nd (o195 P) (lf (o323 P)) nl)) (nd (o99 P) (nd (o163 P) (lf (o291 P)) (lf (o419 P))) (nd (o227 P) (lf (o355 P)) nl))) (nd (o51 P) (nd (o83 P) (nd (o147 P) (lf (o275 P)) (lf (o403 P))) (nd (o211 P) (lf (o339 P)) nl)) (nd (o115 P) (nd (o179 P) (lf (o307 P)) (lf (o435 P))) (nd (o243 P) (lf (o371 P)) nl)))) (nd (o27 P) (nd (o43 P) (nd (o75 P) (nd (o139 P) (lf (o267 P)) (lf (o395 P))) (nd (o203 P) (lf (o331 P)) nl)) (nd (o107 P) (nd (o171 P) (lf (o299 P)) (lf (o427 P))) (nd (o235 P) (lf (o363 P)) nl))) (nd (o59 P) (nd (o91 P) (nd (o155 P) (lf (o283 P)) (lf (o411 P))) (nd (o219 P) (lf (o347 P)) nl)) (nd (o123 P) (nd (o187 P) (lf (o315 P)) (lf (o443 P))) (nd (o251 P) (lf (o379 P)) nl)))))) (nd (boot_o_5 P) (nd (boot_o_9 P) (nd (o17 P) (nd (o33 P) (nd (o65 P) (nd (o129 P) (lf (o257 P)) (lf (o385 P))) (nd (o193 P) (lf (o321 P)) (lf (o449 P)))) (nd (o97 P) (nd (o161 P) (lf (o289 P)) (lf (o417 P))) (nd (o225 P) (lf (o353 P)) nl))) (nd (o49 P) (nd (o81 P) (nd (o145 P) (lf (o273 P)) (lf (o401 P))) (nd (o209v337 P) (lf (o337 P)) nl)) (nd (o113 P) (nd (o177 P) (lf (o305 P)) (lf (o433 P))) (nd (o241 P) (lf (o369 P)) nl)))) (nd (o25 P) (nd (o41 P) (nd (o73 P) (nd (o137 P) (lf (o265 P)) (lf (o393 P))) (nd (o201 P) (lf (o329 P)) nl)) (nd (o105 P) (nd (o169 P) (lf (o297 P)) (lf (o425 P))) (nd (o233 P) (lf (o361 P)) nl))) (nd (o57 P) (nd (o89 P) (nd (o153 P) (lf (o281v370 P)) (lf (o409 P))) (nd (o217 P) (lf (o345 P)) nl)) (nd (o121 P) (nd (o185 P) (lf (o313 P)) (lf (o441 P))) (nd (o249 P) (lf (o377 P)) nl))))) (nd (o13 P) (nd (o21 P) (nd (o37 P) (nd (o69 P) (nd (o133 P) (lf (o261 P)) (lf (o389 P))) (nd (o197 P) (lf (o325 P)) nl)) (nd (o101 P) (nd (o165 P) (lf (o293 P)) (lf (o421 P))) (nd (o229 P) (lf (o357 P)) nl))) (nd (o53 P) (nd (o85 P) (nd (o149 P) (lf (o277 P)) (lf (o405 P))) (nd (o213 P) (lf (o341 P)) nl)) (nd (o117 P) (nd (o181 P) (lf (o309 P)) (lf (o437 P))) (nd (o245 P) (lf (o373 P)) nl)))) (nd (o29 P) (nd (o45 P) (nd (o77 P) (nd (o141 P) (lf (o269 P)) (lf (o397 P))) (nd (o205 P) (lf (o333 P)) nl)) (nd (o109 P) (nd (o173 P) (lf (o301 P)) (lf (o429 P))) (nd (o237 P) (lf (o365 P)) nl))) (nd (o61 P) (nd (o93 P) (nd (o157 P) (lf (o285 P)) (lf (o413 P))) (nd (o221 P) (lf (o349 P)) nl)) (nd (o125 P) (nd (o189 P) (lf (o317 P)) (lf (o445 P))) (nd (o253 P) (lf (o381 P)) nl))))))) (nd (boot_o_2 P) (nd (boot_o_4 P) (nd (boot_o_8 P) (nd (o16 P) (nd (o32 P) (nd (o64 P) (nd (o128 P) (lf (o256 P)) (lf (o384 P))) (nd (o192 P) (lf (o320 P)) (lf (o448 P)))) (nd (o96 P) (nd (o160 P) (lf (o288 P)) (lf (o416 P))) (nd (o224 P) (lf (o352 P)) nl))) (nd (o48 P) (nd (o80 P) (nd (o144 P) (lf (o272 P)) (lf (o400 P))) (nd (o208 P) (lf (o336 P)) nl)) (nd (o112 P) (nd (o176 P) (lf (o304 P)) (lf (o432 P))) (nd (o240 P) (lf (o368 P)) nl)))) (nd (o24 P) (nd (o40 P) (nd (o72 P) (nd (o136 P) (lf (o264 P)) (lf (o392 P))) (nd (o200 P) (lf (o328 P)) nl)) (nd (o104 P) (nd (o168 P) (lf (o296 P)) (lf (o424 P))) (nd (o232 P) (lf (o360 P)) nl))) (nd (o56 P) (nd (o88 P) (nd (o152 P) (lf (o280 P)) (lf (o408 P))) (nd (o216 P) (lf (o344 P)) nl)) (nd (o120 P) (nd (o184 P) (lf (o312 P)) (lf (o440 P))) (nd (o248 P) (lf (o376 P)) nl))))) (nd (o12v447 P) (nd (o20 P) (nd (o36 P) (nd (o68 P) (nd (o132 P) (lf (o260 P)) (lf (o388 P))) (nd (o196 P) (lf (o324 P)) nl)) (nd (o100 P) (nd (o164 P) (lf (o292 P)) (lf (o420 P))) (nd (o228 P) (lf (o356 P)) nl))) (nd (o52v113 P) (nd (o84 P) (nd (o148 P) (lf (o276 P)) (lf (o404 P))) (nd (o212 P) (lf (o340 P)) nl)) (nd (o116 P) (nd (o180 P) (lf (o308 P)) (lf (o436 P))) (nd (o244 P) (lf (o372 P)) nl)))) (nd (o28 P) (nd (o44 P) (nd (o76 P) (nd (o140 P) (lf (o268 P)) (lf (o396 P))) (nd (o204 P) (lf (o332 P)) nl)) (nd (o108 P) (nd (o172 P) (lf (o300 P)) (lf (o428 P))) (nd (o236 P) (lf (o364 P)) nl))) (nd (o60 P) (nd (o92 P) (nd (o156 P) (lf (o284 P)) (lf (o412 P))) (nd (o220 P) (lf (o348 P)) nl)) (nd (o124 P) (nd (o188 P) (lf (o316 P)) (lf (o444 P))) (nd (o252 P) (lf (o380 P)) nl)))))) (nd (boot_o_6 P) (nd (boot_o_10 P) (nd (o18 P) (nd (o34 P) (nd (o66 P) (nd (o130 P) (lf (o258 P)) (lf (o386 P))) (nd (o194 P) (lf (o322 P)) (lf (o450 P)))) (nd (o98 P) (nd (o162 P) (lf (o290 P)) (lf (o418 P))) (nd (o226 P) (lf (o354 P)) nl))) (nd (o50v125 P) (nd (o82 P) (nd (o146 P) (lf (o274 P)) (lf (o402 P))) (nd (o210 P) (lf (o338 P)) nl)) (nd (o114 P) (nd (o178 P) (lf (o306 P)) (lf (o434 P))) (nd (o242 P) (lf (o370 P)) nl)))) (nd (o26 P) (nd (o42 P) (nd (o74 P) (nd (o138 P) (lf (o266 P)) (lf (o394 P))) (nd (o202 P) (lf (o330 P)) nl)) (nd (o106 P) (nd (o170 P) (lf (o298 P)) (lf (o426 P))) (nd (o234 P) (lf (o362 P)) nl))) (nd (o58 P) (nd (o90 P) (nd (o154 P) (lf (o282 P)) (lf (o410 P))) (nd (o218 P) (lf (o346 P)) nl)) (nd (o122 P) (nd (o186 P) (lf (o314 P)) (lf (o442 P))) (nd (o250 P) (lf (o378 P)) nl))))) (nd (o14 P) (nd (o22 P) (nd (o38 P) (nd (o70 P) (nd (o134 P) (lf (o262 P)) (lf (o390 P))) (nd (o198 P) (lf (o326 P)) nl)) (nd (o102 P) (nd (o166 P) (lf (o294 P)) (lf (o422 P))) (nd (o230 P) (lf (o358 P)) nl))) (nd (o54 P) (nd (o86 P) (nd (o150 P) (lf (o278 P)) (lf (o406 P))) (nd (o214 P) (lf (o342 P)) nl)) (nd (o118 P) (nd (o182 P) (lf (o310 P)) (lf (o438 P))) (nd (o246v448 P) (lf (o374 P)) nl)))) (nd (o30 P) (nd (o46 P) (nd (o78 P) (nd (o142 P) (lf (o270 P)) (lf (o398 P))) (nd (o206 P) (lf (o334 P)) nl)) (nd (o110 P) (nd (o174 P) (lf (o302 P)) (lf (o430 P))) (nd (o238 P) (lf (o366 P)) nl))) (nd (o62 P) (nd (o94 P) (nd (o158 P) (lf (o286 P)) (lf (o414 P))) (nd (o222 P) (lf (o350 P)) nl)) (nd (o126 P) (nd (o190 P) (lf (o318 P)) (lf (o446 P))) (nd (o254 P) (lf (o382 P)) nl))))))))
noncomputable def s11 (w : World) (os : OsState) : SharedT := ⟨t11 w.params, 451, {}, #[], {}, 4333, os⟩
noncomputable def t12 (P : Params) : BT := (nd (boot_o_0 P) (nd (boot_o_1 P) (nd (o3v488 P) (nd (boot_o_7 P) (nd (o15 P) (nd (o31 P) (nd (o63 P) (nd (o127 P) (lf (o255 P)) (lf (o383 P))) (nd (o191 P) (lf (o319 P)) (lf (o447 P)))) (nd (o95 P) (nd (o159 P) (lf (o287 P)) (lf (o415 P))) (nd (o223 P) (lf (o351 P)) (lf (o479 P))))) (nd (o47 P) (nd (o79 P) (nd (o143 P) (lf (o271 P)) (lf (o399 P))) (nd (o207 P) (lf (o335 P)) (lf (o463 P)))) (nd (o111 P) (nd (o175 P) (lf (o303 P)) (lf (o431 P))) (nd (o239 P) (lf (o367 P)) (lf (o495 P)))))) (nd (o23 P) (nd (o39 P) (nd (o71 P) (nd (o135 P) (lf (o263 P)) (lf (o391 P))) (nd (o199 P) (lf (o327 P)) (lf (o455 P)))) (nd (o103 P) (nd (o167 P) (lf (o295 P)) (lf (o423 P))) (nd (o231 P) (lf (o359 P)) (lf (o487 P))))) (nd (o55 P) (nd (o87 P) (nd (o151 P) (lf (o279 P)) (lf (o407 P))) (nd (o215 P) (lf (o343 P)) (lf (o471 P)))) (nd (o119 P) (nd (o183 P) (lf (o311 P)) (lf (o439 P))) (nd (o247 P) (lf (o375 P)) nl))))) (nd (o11 P) (nd (o19 P) (nd (o35 P) (nd (o67 P) (nd (o131 P) (lf (o259 P)) (lf (o387 P))) (nd (o195 P) (lf (o323 P)) (lf (o451 P)))) (nd (o99 P) (nd (o163 P) (lf (o291 P)) (lf (o419 P))) (nd (o227 P) (lf (o355 P)) (lf (o483 P))))) (nd (o51 P) (nd (o83 P) (nd (o147 P) (lf (o275 P)) (lf (o403 P))) (nd (o211 P) (lf (o339 P)) (lf (o467 P)))) (nd (o115 P) (nd (o179 P) (lf (o307 P)) (lf (o435 P))) (nd (o243 P) (lf (o371 P)) (lf (o499 P)))))) (nd (o27 P) (nd (o43 P) (nd (o75 P) (nd (o139 P) (lf (o267 P)) (lf (o395 P))) (nd (o203 P) (lf (o331 P)) (lf (o459 P)))) (nd (o107 P) (nd (o171 P) (lf (o299 P)) (lf (o427 P))) (nd (o235 P) (lf (o363 P)) (lf (o491 P))))) (nd (o59 P) (nd (o91 P) (nd (o155 P) (lf (o283 P)) (lf (o411 P))) (nd (o219 P) (lf (o347 P)) (lf (o475 P)))) (nd (o123 P) (nd (o187 P) (lf (o315 P)) (lf (o443 P))) (nd (o251 P) (lf (o379 P)) nl)))))) (nd (boot_o_5 P) (nd (boot_o_9 P) (nd (o17 P) (nd (o33 P) (nd (o65 P) (nd (o129 P) (lf (o257 P)) (lf (o385 P))) (nd (o193 P) (lf (o321 P)) (lf (o449 P)))) (nd (o97 P) (nd (o161 P) (lf (o289 P)) (lf (o417 P))) (nd (o225 P) (lf (o353 P)) (lf (o481 P))))) (nd (o49 P) (nd (o81 P) (nd (o145 P) (lf (o273 P)) (lf (o401 P))) (nd (o209v337 P) (lf (o337 P)) (lf (o465 P)))) (nd (o113 P) (nd (o177 P) (lf (o305 P)) (lf (o433 P))) (nd (o241 P) (lf (o369 P)) (lf (o497 P)))))) (nd (o25 P) (nd (o41 P) (nd (o73 P) (nd (o137 P) (lf (o265 P)) (lf (o393 P))) (nd (o201 P) (lf (o329 P)) (lf (o457 P)))) (nd (o105 P) (nd (o169 P) (lf (o297 P)) (lf (o425 P))) (nd (o233 P) (lf (o361 P)) (lf (o489 P))))) (nd (o57 P) (nd (o89 P) (nd (o153 P) (lf (o281v370 P)) (lf (o409 P))) (nd (o217 P) (lf (o345 P)) (lf (o473 P)))) (nd (o121 P) (nd (o185 P) (lf (o313 P)) (lf (o441 P))) (nd (o249 P) (lf (o377 P)) nl))))) (nd (o13 P) (nd (o21 P) (nd (o37 P) (nd (o69 P) (nd (o133 P) (lf (o261 P)) (lf (o389 P))) (nd (o197 P) (lf (o325 P)) (lf (o453 P)))) (nd (o101 P) (nd (o165 P) (lf (o293 P)) (lf (o421 P))) (nd (o229 P) (lf (o357 P)) (lf (o485 P))))) (nd (o53 P) (nd (o85 P) (nd (o149 P) (lf (o277 P)) (lf (o405 P))) (nd (o213 P) (lf (o341 P)) (lf (o469 P)))) (nd (o117 P) (nd (o181 P) (lf (o309 P)) (lf (o437 P))) (nd (o245 P) (lf (o373 P)) nl)))) (nd (o29 P) (nd (o45 P) (nd (o77 P) (nd (o141 P) (lf (o269 P)) (lf (o397 P))) (nd (o205 P) (lf (o333 P)) (lf (o461 P)))) (nd (o109 P) (nd (o173 P) (lf (o301 P)) (lf (o429 P))) (nd (o237 P) (lf (o365 P)) (lf (o493 P))))) (nd (o61 P) (nd (o93 P) (nd (o157 P) (lf (o285 P)) (lf (o413 P))) (nd (o221 P) (lf (o349 P)) (lf (o477 P)))) (nd (o125 P) (nd (o189 P) (lf (o317 P)) (lf (o445 P))) (nd (o253 P) (lf (o381 P)) nl))))))) (nd (boot_o_2 P) (nd (boot_o_4 P) (nd (boot_o_8 P) (nd (o16 P) (nd (o32 P) (nd (o64 P) (nd (o128 P) (lf (o256 P)) (lf (o384 P))) (nd (o192 P) (lf (o320 P)) (lf (o448 P)))) (nd (o96 P) (nd (o160 P) (lf (o288 P)) (lf (o416 P))) (nd (o224 P) (lf (o352 P)) (lf (o480 P))))) (nd (o48 P) (nd (o80 P) (nd (o144 P) (lf (o272 P)) (lf (o400 P))) (nd (o208 P) (lf (o336 P)) (lf (o464 P)))) (nd (o112 P) (nd (o176 P) (lf (o304 P)) (lf (o432 P))) (nd (o240 P) (lf (o368 P)) (lf (o496 P)))))) (nd (o24 P) (nd (o40 P) (nd (o72 P) (nd (o136 P) (lf (o264 P)) (lf (o392 P))) (nd (o200 P) (lf (o328 P)) (lf (o456 P)))) (nd (o104 P) (nd (o168 P) (lf (o296 P)) (lf (o424 P))) (nd (o232 P) (lf (o360 P)) (lf (o488 P))))) (nd (o56 P) (nd (o88 P) (nd (o152 P) (lf (o280 P)) (lf (o408 P))) (nd (o216 P) (lf (o344 P)) (lf (o472 P)))) (nd (o120 P) (nd (o184 P) (lf (o312 P)) (lf (o440 P))) (nd (o248 P) (lf (o376 P)) nl))))) (nd (o12v489 P) (nd (o20 P) (nd (o36 P) (nd (o68 P) (nd (o132 P) (lf (o260 P)) (lf (o388 P))) (nd (o196 P) (lf (o324 P)) (lf (o452 P)))) (nd (o100 P) (nd (o164 P) (lf (o292 P)) (lf (o420 P))) (nd (o228 P) (lf (o356 P)) (lf (o484 P))))) (nd (o52v113 P) (nd (o84 P) (nd (o148 P) (lf (o276 P)) (lf (o404 P))) (nd (o212 P) (lf (o340 P)) (lf (o468 P)))) (nd (o116 P) (nd (o180 P) (lf (o308 P)) (lf (o436 P))) (nd (o244 P) (lf (o372 P)) (lf (o500 P)))))) (nd (o28 P) (nd (o44 P) (nd (o76 P) (nd (o140 P) (lf (o268 P)) (lf (o396 P))) (nd (o204 P) (lf (o332 P)) (lf (o460 P)))) (nd (o108 P) (nd (o172 P) (lf (o300 P)) (lf (o428 P))) (nd (o236 P) (lf (o364 P)) (lf (o492 P))))) (nd (o60 P) (nd (o92 P) (nd (o156 P) (lf (o284 P)) (lf (o412 P))) (nd (o220 P) (lf (o348 P)) (lf (o476 P)))) (nd (o124 P) (nd (o188 P) (lf (o316 P)) (lf (o444 P))) (nd (o252 P) (lf (o380 P)) nl)))))) (nd (boot_o_6 P) (nd (boot_o_10 P) (nd (o18 P) (nd (o34 P) (nd (o66 P) (nd (o130 P) (lf (o258 P)) (lf (o386 P))) (nd (o194 P) (lf (o322 P)) (lf (o450 P)))) (nd (o98 P) (nd (o162 P) (lf (o290 P)) (lf (o418 P))) (nd (o226 P) (lf (o354 P)) (lf (o482 P))))) (nd (o50v125 P) (nd (o82 P) (nd (o146 P) (lf (o274 P)) (lf (o402 P))) (nd (o210 P) (lf (o338 P)) (lf (o466 P)))) (nd (o114 P) (nd (o178 P) (lf (o306 P)) (lf (o434 P))) (nd (o242 P) (lf (o370 P)) (lf (o498 P)))))) (nd (o26 P) (nd (o42 P) (nd (o74 P) (nd (o138 P) (lf (o266 P)) (lf (o394 P))) (nd (o202 P) (lf (o330 P)) (lf (o458 P)))) (nd (o106 P) (nd (o170 P) (lf (o298 P)) (lf (o426 P))) (nd (o234 P) (lf (o362 P)) (lf (o490 P))))) (nd (o58 P) (nd (o90 P) (nd (o154 P) (lf (o282 P)) (lf (o410 P))) (nd (o218 P) (lf (o346 P)) (lf (o474 P)))) (nd (o122 P) (nd (o186 P) (lf (o314 P)) (lf (o442 P))) (nd (o250 P) (lf (o378 P)) nl))))) (nd (o14 P) (nd (o22 P) (nd (o38 P) (nd (o70 P) (nd (o134 P) (lf (o262 P)) (lf (o390 P))) (nd (o198 P) (lf (o326 P)) (lf (o454 P)))) (nd (o102 P) (nd (o166 P) (lf (o294 P)) (lf (o422 P))) (nd (o230 P) (lf (o358 P)) (lf (o486 P))))) (nd (o54 P) (nd (o86 P) (nd (o150 P) (lf (o278 P)) (lf (o406 P))) (nd (o214 P) (lf (o342 P)) (lf (o470 P)))) (nd (o118 P) (nd (o182 P) (lf (o310 P)) (lf (o438 P))) (nd (o246v448 P) (lf (o374 P)) nl)))) (nd (o30 P) (nd (o46 P) (nd (o78 P) (nd (o142 P) (lf (o270 P)) (lf (o398 P))) (nd (o206 P) (lf (o334 P)) (lf (o462 P)))) (nd (o110 P) (nd (o174 P) (lf (o302 P)) (lf (o430 P))) (nd (o238 P) (lf (o366 P)) (lf (o494 P))))) (nd (o62 P) (nd (o94 P) (nd (o158 P) (lf (o286 P)) (lf (o414 P))) (nd (o222 P) (lf (o350 P)) (lf (o478 P)))) (nd (o126 P) (nd (o190 P) (lf (o318 P)) (lf (o446 P))) (nd (o254 P) (lf (o382 P)) nl))))))))
noncomputable def s12 (w : World) (os : OsState) : SharedT := ⟨t12 w.params, 501, {}, #[], {}, 4414, os⟩
noncomputable def hf (P : Params) : Heap := ⟨⟨[boot_o_0 P, boot_o_1 P, boot_o_2 P, o3v488 P, boot_o_4 P, boot_o_5 P, boot_o_6 P, boot_o_7 P, boot_o_8 P, boot_o_9 P, boot_o_10 P, o11 P, o12v489 P, o13 P, o14 P, o15 P, o16 P, o17 P, o18 P, o19 P, o20 P, o21 P, o22 P, o23 P, o24 P, o25 P, o26 P, o27 P, o28 P, o29 P, o30 P, o31 P, o32 P, o33 P, o34 P, o35 P, o36 P, o37 P, o38 P, o39 P, o40 P, o41 P, o42 P, o43 P, o44 P, o45 P, o46 P, o47 P, o48 P, o49 P, o50v125 P, o51 P, o52v113 P, o53 P, o54 P, o55 P, o56 P, o57 P, o58 P, o59 P, o60 P, o61 P, o62 P, o63 P, o64 P, o65 P, o66 P, o67 P, o68 P, o69 P, o70 P, o71 P, o72 P, o73 P, o74 P, o75 P, o76 P, o77 P, o78 P, o79 P, o80 P, o81 P, o82 P, o83 P, o84 P, o85 P, o86 P, o87 P, o88 P, o89 P, o90 P, o91 P, o92 P, o93 P, o94 P, o95 P, o96 P, o97 P, o98 P, o99 P, o100 P, o101 P, o102 P, o103 P, o104 P, o105 P, o106 P, o107 P, o108 P, o109 P, o110 P, o111 P, o112 P, o113 P, o114 P, o115 P, o116 P, o117 P, o118 P, o119 P, o120 P, o121 P, o122 P, o123 P, o124 P, o125 P, o126 P, o127 P, o128 P, o129 P, o130 P, o131 P, o132 P, o133 P, o134 P, o135 P, o136 P, o137 P, o138 P, o139 P, o140 P, o141 P, o142 P, o143 P, o144 P, o145 P, o146 P, o147 P, o148 P, o149 P, o150 P, o151 P, o152 P, o153 P, o154 P, o155 P, o156 P, o157 P, o158 P, o159 P, o160 P, o161 P, o162 P, o163 P, o164 P, o165 P, o166 P, o167 P, o168 P, o169 P, o170 P, o171 P, o172 P, o173 P, o174 P, o175 P, o176 P, o177 P, o178 P, o179 P, o180 P, o181 P, o182 P, o183 P, o184 P, o185 P, o186 P, o187 P, o188 P, o189 P, o190 P, o191 P, o192 P, o193 P, o194 P, o195 P, o196 P, o197 P, o198 P, o199 P, o200 P, o201 P, o202 P, o203 P, o204 P, o205 P, o206 P, o207 P, o208 P, o209v337 P, o210 P, o211 P, o212 P, o213 P, o214 P, o215 P, o216 P, o217 P, o218 P, o219 P, o220 P, o221 P, o222 P, o223 P, o224 P, o225 P, o226 P, o227 P, o228 P, o229 P, o230 P, o231 P, o232 P, o233 P, o234 P, o235 P, o236 P, o237 P, o238 P, o239 P, o240 P, o241 P, o242 P, o243 P, o244 P, o245 P, o246v448 P, o247 P, o248 P, o249 P, o250 P, o251 P, o252 P, o253 P, o254 P, o255 P, o256 P, o257 P, o258 P, o259 P, o260 P, o261 P, o262 P, o263 P, o264 P, o265 P, o266 P, o267 P, o268 P, o269 P, o270 P, o271 P, o272 P, o273 P, o274 P, o275 P, o276 P, o277 P, o278 P, o279 P, o280 P, o281v370 P, o282 P, o283 P, o284 P, o285 P, o286 P, o287 P, o288 P, o289 P, o290 P, o291 P, o292 P, o293 P, o294 P, o295 P, o296 P, o297 P, o298 P, o299 P, o300 P, o301 P, o302 P, o303 P, o304 P, o305 P, o306 P, o307 P, o308 P, o309 P, o310 P, o311 P, o312 P, o313 P, o314 P, o315 P, o316 P, o317 P, o318 P, o319 P, o320 P, o321 P, o322 P, o323 P, o324 P, o325 P, o326 P, o327 P, o328 P, o329 P, o330 P, o331 P, o332 P, o333 P, o334 P, o335 P, o336 P, o337 P, o338 P, o339 P, o340 P, o341 P, o342 P, o343 P, o344 P, o345 P, o346 P, o347 P, o348 P, o349 P, o350 P, o351 P, o352 P, o353 P, o354 P, o355 P, o356 P, o357 P, o358 P, o359 P, o360 P, o361 P, o362 P, o363 P, o364 P, o365 P, o366 P, o367 P, o368 P, o369 P, o370 P, o371 P, o372 P, o373 P, o374 P, o375 P, o376 P, o377 P, o378 P, o379 P, o380 P, o381 P, o382 P, o383 P, o384 P, o385 P, o386 P, o387 P, o388 P, o389 P, o390 P, o391 P, o392 P, o393 P, o394 P, o395 P, o396 P, o397 P, o398 P, o399 P, o400 P, o401 P, o402 P, o403 P, o404 P, o405 P, o406 P, o407 P, o408 P, o409 P, o410 P, o411 P, o412 P, o413 P, o414 P, o415 P, o416 P, o417 P, o418 P, o419 P, o420 P, o421 P, o422 P, o423 P, o424 P, o425 P, o426 P, o427 P, o428 P, o429 P, o430 P, o431 P, o432 P, o433 P, o434 P, o435 P, o436 P, o437 P, o438 P, o439 P, o440 P, o441 P, o442 P, o443 P, o444 P, o445 P, o446 P, o447 P, o448 P, o449 P, o450 P, o451 P, o452 P, o453 P, o454 P, o455 P, o456 P, o457 P, o458 P, o459 P, o460 P, o461 P, o462 P, o463 P, o464 P, o465 P, o466 P, o467 P, o468 P, o469 P, o470 P, o471 P, o472 P, o473 P, o474 P, o475 P, o476 P, o477 P, o478 P, o479 P, o480 P, o481 P, o482 P, o483 P, o484 P, o485 P, o486 P, o487 P, o488 P, o489 P, o490 P, o491 P, o492 P, o493 P, o494 P, o495 P, o496 P, o497 P, o498 P, o499 P, o500 P]⟩, {}⟩
noncomputable def cenv : Env := { scope := cS (T 7), locals := 50, globals := 3, cells := [], qual := "AES.", func := none, code := .ref 53, frame := (some 54), builtins := 0 }
noncomputable def R16 : List Stmt := []
noncomputable def R15 : List Stmt := [M 7 17, M 7 18] ++ R16
noncomputable def R14 : List Stmt := [M 7 15, M 7 16] ++ R15
noncomputable def R13 : List Stmt := [M 7 14] ++ R14
noncomputable def R12 : List Stmt := [M 7 13] ++ R13
noncomputable def R11 : List Stmt := [M 7 12] ++ R12
noncomputable def R10 : List Stmt := [M 7 11] ++ R11
noncomputable def R9 : List Stmt := [M 7 10] ++ R10
noncomputable def R8 : List Stmt := [M 7 9] ++ R9
noncomputable def R7 : List Stmt := [M 7 8] ++ R8
noncomputable def R6 : List Stmt := [M 7 7] ++ R7
noncomputable def R5 : List Stmt := [M 7 6] ++ R6
noncomputable def R4 : List Stmt := [M 7 5] ++ R5
noncomputable def R3 : List Stmt := [M 7 4] ++ R4
noncomputable def R2 : List Stmt := [M 7 3] ++ R3
noncomputable def R1 : List Stmt := [M 7 2] ++ R2
noncomputable def R0 : List Stmt := [M 7 0, M 7 1] ++ R1
noncomputable def cB : Code := .body R0 cenv
noncomputable def frK (w : World) (os : OsState) : Result → Sem Fin := match Fast.tw10295753902157049106 Fast.tw14364793385576792824 pw w 11 ann 1 62 (s1 w os) (piecesOf [T 7] env cE ⟨14, 0, 15, 23⟩ B0) with
  | some (_, ⟨_, _, _, .ret k _ _ _ _ _ _ :: _⟩) => k
  | _ => fun _ => .unsupported ""
noncomputable abbrev frA (k : Result → Sem Fin) : Frame := .ret k none false [.ref 48, .ref 48, .ref 50, .ref 54] cE ⟨16, 0, 111, 21⟩ []
noncomputable abbrev BB (w : World) (os : OsState) : List Frame := [frA (frK w os), topFrame fp0]
theorem pre (w : World) (os : OsState) : topGo treeTable pw w 11 ann 12 ⟨boot_heap w.params, #[], boot_drawn, boot_toks, os⟩ (topStub pw) = some ((s0 w os).abs, ⟨denote treeTable cE, cE, ⟨0, 0, 0, 0⟩, B0⟩) := by
  rw [Fast.te15667345088766844465, Fast.te14364793385576792824, Fast.te11892475500146522536]
  kernel_rfl
theorem blk (w : World) (os : OsState) : segRun treeTable pw w 11 ann 1 1 (s0 w os).abs (blockOf L0 env cE ⟨0, 0, 0, 0⟩ B0) = some (.next, (s0 w os).abs, cE, ⟨0, 0, 0, 0⟩) := by
  rw [Fast.te14374325043358763698, Fast.te14364793385576792824]
  kernel_rfl
theorem p1 (w : World) (os : OsState) : segRunT treeTable pw w 11 ann 1 162 (s0 w os) (piecesOf [T 0, T 1, T 2, T 3, T 4, T 5, T 6] env cE ⟨0, 0, 0, 0⟩ B0) = some (.next, s1 w os, cE, ⟨14, 0, 15, 23⟩) := by
  rw [Fast.te10110043849684766642, Fast.te14364793385576792824]
  kernel_rfl
theorem cin (w : World) (os : OsState) : segGoT treeTable pw w 11 ann 1 62 (s1 w os) (piecesOf [T 7] env cE ⟨14, 0, 15, 23⟩ B0) = some (sB0 w os, ⟨denote treeTable cB, cB, ⟨16, 0, 111, 21⟩, [frA (frK w os), topFrame fp0]⟩) := by
  rw [Fast.te10295753902157049106, Fast.te14364793385576792824, Fast.te11892475500146522536]
  kernel_rfl
theorem cblk (w : World) (os : OsState) (k : Result → Sem Fin) : segRun treeTable pw w 11 ann 2 1 (sB0 w os).abs (blockOf R0 cenv cB ⟨16, 0, 111, 21⟩ [frA k, topFrame fp0]) = some (.next, (sB0 w os).abs, cB, ⟨16, 0, 111, 21⟩) := by
  rw [Fast.te14374325043358763698, Fast.te14364793385576792824]
  kernel_rfl
theorem c1R (b : Bool) (w : World) (os : OsState) (k : Result → Sem Fin) : segRunT treeTable pw (w.withFollow "special-get-raises" b) 11 ann 2 92 (sB0 (w.withFollow "special-get-raises" b) os) (piecesOf [M 7 0, M 7 1] cenv cB ⟨16, 0, 111, 21⟩ [frA k, topFrame fp0]) = some (.next, sB1 (w.withFollow "special-get-raises" b) os, cB, ⟨18, 4, 18, 8⟩) := by
  cases b
  · rw [Fast.te10110043849684766642, Fast.te14364793385576792824]
    kernel_rfl
  · rw [Fast.te10110043849684766642, Fast.te14364793385576792824]
    kernel_rfl
theorem c1 (w : World) (os : OsState) (k : Result → Sem Fin) : segRunT treeTable pw w 11 ann 2 92 (sB0 w os) (piecesOf [M 7 0, M 7 1] cenv cB ⟨16, 0, 111, 21⟩ [frA k, topFrame fp0]) = some (.next, sB1 w os, cB, ⟨18, 4, 18, 8⟩) :=
  byRow2 "special-get-raises" (P := fun w => segRunT treeTable pw w 11 ann 2 92 (sB0 w os) (piecesOf [M 7 0, M 7 1] cenv cB ⟨16, 0, 111, 21⟩ [frA k, topFrame fp0]) = some (.next, sB1 w os, cB, ⟨18, 4, 18, 8⟩)) (fun w => c1R false w os k) (fun w => c1R true w os k) w
theorem c2 (w : World) (os : OsState) (k : Result → Sem Fin) : segRunT treeTable pw w 11 ann 2 284 (sB1 w os) (piecesOf [M 7 2] cenv cB ⟨18, 4, 18, 8⟩ [frA k, topFrame fp0]) = some (.next, sB2 w os, cB, ⟨19, 4, 19, 5⟩) := by
  rw [Fast.te10110043849684766642, Fast.te14364793385576792824]
  kernel_rfl
theorem c3 (w : World) (os : OsState) (k : Result → Sem Fin) : segRunT treeTable pw w 11 ann 2 284 (sB2 w os) (piecesOf [M 7 3] cenv cB ⟨19, 4, 19, 5⟩ [frA k, topFrame fp0]) = some (.next, sB3 w os, cB, ⟨20, 4, 20, 6⟩) := by
  rw [Fast.te10110043849684766642, Fast.te14364793385576792824]
  kernel_rfl
theorem c4 (w : World) (os : OsState) (k : Result → Sem Fin) : segRunT treeTable pw w 11 ann 2 284 (sB3 w os) (piecesOf [M 7 4] cenv cB ⟨20, 4, 20, 6⟩ [frA k, topFrame fp0]) = some (.next, sB4 w os, cB, ⟨21, 4, 21, 6⟩) := by
  rw [Fast.te10110043849684766642, Fast.te14364793385576792824]
  kernel_rfl
theorem c5 (w : World) (os : OsState) (k : Result → Sem Fin) : segRunT treeTable pw w 11 ann 2 284 (sB4 w os) (piecesOf [M 7 5] cenv cB ⟨21, 4, 21, 6⟩ [frA k, topFrame fp0]) = some (.next, sB5 w os, cB, ⟨22, 4, 22, 6⟩) := by
  rw [Fast.te10110043849684766642, Fast.te14364793385576792824]
  kernel_rfl
theorem c6 (w : World) (os : OsState) (k : Result → Sem Fin) : segRunT treeTable pw w 11 ann 2 284 (sB5 w os) (piecesOf [M 7 6] cenv cB ⟨22, 4, 22, 6⟩ [frA k, topFrame fp0]) = some (.next, sB6 w os, cB, ⟨23, 4, 23, 6⟩) := by
  rw [Fast.te10110043849684766642, Fast.te14364793385576792824]
  kernel_rfl
theorem c7 (w : World) (os : OsState) (k : Result → Sem Fin) : segRunT treeTable pw w 11 ann 2 284 (sB6 w os) (piecesOf [M 7 7] cenv cB ⟨23, 4, 23, 6⟩ [frA k, topFrame fp0]) = some (.next, sB7 w os, cB, ⟨24, 4, 24, 6⟩) := by
  rw [Fast.te10110043849684766642, Fast.te14364793385576792824]
  kernel_rfl
theorem c8 (w : World) (os : OsState) (k : Result → Sem Fin) : segRunT treeTable pw w 11 ann 2 284 (sB7 w os) (piecesOf [M 7 8] cenv cB ⟨24, 4, 24, 6⟩ [frA k, topFrame fp0]) = some (.next, sB8 w os, cB, ⟨25, 4, 25, 6⟩) := by
  rw [Fast.te10110043849684766642, Fast.te14364793385576792824]
  kernel_rfl
theorem c9 (w : World) (os : OsState) (k : Result → Sem Fin) : segRunT treeTable pw w 11 ann 2 284 (sB8 w os) (piecesOf [M 7 9] cenv cB ⟨25, 4, 25, 6⟩ [frA k, topFrame fp0]) = some (.next, sB9 w os, cB, ⟨26, 4, 26, 6⟩) := by
  rw [Fast.te10110043849684766642, Fast.te14364793385576792824]
  kernel_rfl
theorem c10 (w : World) (os : OsState) (k : Result → Sem Fin) : segRunT treeTable pw w 11 ann 2 284 (sB9 w os) (piecesOf [M 7 10] cenv cB ⟨26, 4, 26, 6⟩ [frA k, topFrame fp0]) = some (.next, sB10 w os, cB, ⟨27, 4, 27, 6⟩) := by
  rw [Fast.te10110043849684766642, Fast.te14364793385576792824]
  kernel_rfl
theorem c11 (w : World) (os : OsState) (k : Result → Sem Fin) : segRunT treeTable pw w 11 ann 2 284 (sB10 w os) (piecesOf [M 7 11] cenv cB ⟨27, 4, 27, 6⟩ [frA k, topFrame fp0]) = some (.next, sB11 w os, cB, ⟨28, 4, 28, 6⟩) := by
  rw [Fast.te10110043849684766642, Fast.te14364793385576792824]
  kernel_rfl
theorem c12 (w : World) (os : OsState) (k : Result → Sem Fin) : segRunT treeTable pw w 11 ann 2 284 (sB11 w os) (piecesOf [M 7 12] cenv cB ⟨28, 4, 28, 6⟩ [frA k, topFrame fp0]) = some (.next, sB12 w os, cB, ⟨29, 4, 29, 6⟩) := by
  rw [Fast.te10110043849684766642, Fast.te14364793385576792824]
  kernel_rfl
theorem c13 (w : World) (os : OsState) (k : Result → Sem Fin) : segRunT treeTable pw w 11 ann 2 284 (sB12 w os) (piecesOf [M 7 13] cenv cB ⟨29, 4, 29, 6⟩ [frA k, topFrame fp0]) = some (.next, sB13 w os, cB, ⟨30, 4, 30, 6⟩) := by
  rw [Fast.te10110043849684766642, Fast.te14364793385576792824]
  kernel_rfl
theorem c14 (w : World) (os : OsState) (k : Result → Sem Fin) : segRunT treeTable pw w 11 ann 2 284 (sB13 w os) (piecesOf [M 7 14] cenv cB ⟨30, 4, 30, 6⟩ [frA k, topFrame fp0]) = some (.next, sB14 w os, cB, ⟨31, 4, 31, 6⟩) := by
  rw [Fast.te10110043849684766642, Fast.te14364793385576792824]
  kernel_rfl
theorem c15 (w : World) (os : OsState) (k : Result → Sem Fin) : segRunT treeTable pw w 11 ann 2 311 (sB14 w os) (piecesOf [M 7 15, M 7 16] cenv cB ⟨31, 4, 31, 6⟩ [frA k, topFrame fp0]) = some (.next, sB15 w os, cB, ⟨34, 4, 71, 127⟩) := by
  rw [Fast.te10110043849684766642, Fast.te14364793385576792824]
  kernel_rfl
theorem c16 (w : World) (os : OsState) (k : Result → Sem Fin) : segRunT treeTable pw w 11 ann 2 55 (sB15 w os) (piecesOf [M 7 17, M 7 18] cenv cB ⟨34, 4, 71, 127⟩ [frA k, topFrame fp0]) = some (.next, sB16 w os, cB, ⟨93, 4, 111, 21⟩) := by
  rw [Fast.te10110043849684766642, Fast.te14364793385576792824]
  kernel_rfl
theorem cout (w : World) (os : OsState) : segRunT treeTable pw w 11 ann 1 153 (sB16 w os) ⟨doneF .next, cB, ⟨93, 4, 111, 21⟩, [frA (frK w os), topFrame fp0]⟩ = some (.next, s2 w os, cE, ⟨16, 0, 111, 21⟩) := by
  rw [Fast.te10110043849684766642, Fast.te14364793385576792824]
  kernel_rfl
theorem p2 (w : World) (os : OsState) : segRun treeTable pw w 11 ann 1 (62 + (1 + (92 + (284 + (284 + (284 + (284 + (284 + (284 + (284 + (284 + (284 + (284 + (284 + (284 + (284 + (311 + (55 + 153)))))))))))))))))) (s1 w os).abs (piecesOf [T 7] env cE ⟨14, 0, 15, 23⟩ B0) = some (.next, (s2 w os).abs, cE, ⟨16, 0, 111, 21⟩) :=
  seg_go (segGo_of (cin w os)) (mid_block (B := BB w os) rfl (Nat.lt_succ_self 1) (cblk w os _) (mid_app (B := BB w os) (rest := R1) rfl (Nat.lt_succ_self 1) (segRun_of (c1 w os _)) (mid_app (B := BB w os) (rest := R2) rfl (Nat.lt_succ_self 1) (segRun_of (c2 w os _)) (mid_app (B := BB w os) (rest := R3) rfl (Nat.lt_succ_self 1) (segRun_of (c3 w os _)) (mid_app (B := BB w os) (rest := R4) rfl (Nat.lt_succ_self 1) (segRun_of (c4 w os _)) (mid_app (B := BB w os) (rest := R5) rfl (Nat.lt_succ_self 1) (segRun_of (c5 w os _)) (mid_app (B := BB w os) (rest := R6) rfl (Nat.lt_succ_self 1) (segRun_of (c6 w os _)) (mid_app (B := BB w os) (rest := R7) rfl (Nat.lt_succ_self 1) (segRun_of (c7 w os _)) (mid_app (B := BB w os) (rest := R8) rfl (Nat.lt_succ_self 1) (segRun_of (c8 w os _)) (mid_app (B := BB w os) (rest := R9) rfl (Nat.lt_succ_self 1) (segRun_of (c9 w os _)) (mid_app (B := BB w os) (rest := R10) rfl (Nat.lt_succ_self 1) (segRun_of (c10 w os _)) (mid_app (B := BB w os) (rest := R11) rfl (Nat.lt_succ_self 1) (segRun_of (c11 w os _)) (mid_app (B := BB w os) (rest := R12) rfl (Nat.lt_succ_self 1) (segRun_of (c12 w os _)) (mid_app (B := BB w os) (rest := R13) rfl (Nat.lt_succ_self 1) (segRun_of (c13 w os _)) (mid_app (B := BB w os) (rest := R14) rfl (Nat.lt_succ_self 1) (segRun_of (c14 w os _)) (mid_app (B := BB w os) (rest := R15) rfl (Nat.lt_succ_self 1) (segRun_of (c15 w os _)) (mid_app (B := BB w os) (rest := R16) rfl (Nat.lt_succ_self 1) (segRun_of (c16 w os _)) (segRun_of (cout w os)))))))))))))))))))
theorem p3 (w : World) (os : OsState) : segRunT treeTable pw w 11 ann 1 347 (s2 w os) (piecesOf [T 8] env cE ⟨16, 0, 111, 21⟩ B0) = some (.next, s3 w os, cE, ⟨112, 0, 125, 52⟩) := by
  rw [Fast.te10110043849684766642, Fast.te14364793385576792824]
  kernel_rfl
theorem p4 (w : World) (os : OsState) : segRunT treeTable pw w 11 ann 1 399 (s3 w os) (piecesOf [T 9] env cE ⟨112, 0, 125, 52⟩ B0) = some (.next, s4 w os, cE, ⟨126, 0, 144, 16⟩) := by
  rw [Fast.te10110043849684766642, Fast.te14364793385576792824]
  kernel_rfl
theorem p5 (w : World) (os : OsState) : segRunT treeTable pw w 11 ann 1 321 (s4 w os) (piecesOf [T 10] env cE ⟨126, 0, 144, 16⟩ B0) = some (.next, s5 w os, cE, ⟨145, 0, 154, 16⟩) := by
  rw [Fast.te10110043849684766642, Fast.te14364793385576792824]
  kernel_rfl
theorem p6 (w : World) (os : OsState) : segRunT treeTable pw w 11 ann 1 345 (s5 w os) (piecesOf [T 11] env cE ⟨145, 0, 154, 16⟩ B0) = some (.next, s6 w os, cE, ⟨155, 0, 165, 16⟩) := by
  rw [Fast.te10110043849684766642, Fast.te14364793385576792824]
  kernel_rfl
theorem p7 (w : World) (os : OsState) : segRunT treeTable pw w 11 ann 1 287 (s6 w os) (piecesOf [T 12] env cE ⟨155, 0, 165, 16⟩ B0) = some (.next, s7 w os, cE, ⟨166, 0, 179, 62⟩) := by
  rw [Fast.te10110043849684766642, Fast.te14364793385576792824]
  kernel_rfl
theorem p8 (w : World) (os : OsState) : segRunT treeTable pw w 11 ann 1 314 (s7 w os) (piecesOf [T 13] env cE ⟨166, 0, 179, 62⟩ B0) = some (.next, s8 w os, cE, ⟨180, 0, 206, 42⟩) := by
  rw [Fast.te10110043849684766642, Fast.te14364793385576792824]
  kernel_rfl
theorem p9 (w : World) (os : OsState) : segRunT treeTable pw w 11 ann 1 435 (s8 w os) (piecesOf [T 14] env cE ⟨180, 0, 206, 42⟩ B0) = some (.next, s9 w os, cE, ⟨207, 0, 247, 42⟩) := by
  rw [Fast.te10110043849684766642, Fast.te14364793385576792824]
  kernel_rfl
theorem p10 (w : World) (os : OsState) : segRunT treeTable pw w 11 ann 1 341 (s9 w os) (piecesOf [T 15] env cE ⟨207, 0, 247, 42⟩ B0) = some (.next, s10 w os, cE, ⟨248, 0, 274, 39⟩) := by
  rw [Fast.te10110043849684766642, Fast.te14364793385576792824]
  kernel_rfl
theorem p11 (w : World) (os : OsState) : segRunT treeTable pw w 11 ann 1 372 (s10 w os) (piecesOf [T 16, T 17, T 18] env cE ⟨248, 0, 274, 39⟩ B0) = some (.next, s11 w os, cE, ⟨297, 0, 300, 20⟩) := by
  rw [Fast.te10110043849684766642, Fast.te14364793385576792824]
  kernel_rfl
theorem p12 (w : World) (os : OsState) : segRunT treeTable pw w 11 ann 1 252 (s11 w os) (piecesOf [T 19, T 20, T 21, T 22, T 23, T 24, T 25, T 26] env cE ⟨297, 0, 300, 20⟩ B0) = some (.next, s12 w os, cE, ⟨359, 0, 374, 87⟩) := by
  rw [Fast.te10110043849684766642, Fast.te14364793385576792824]
  kernel_rfl
theorem fin (w : World) (os : OsState) : topRun treeTable pw w 11 ann 2 (s12 w os).abs ⟨doneF .next, cE, ⟨359, 0, 374, 87⟩, B0⟩ = some ⟨hf w.params, #[], boot_drawn, 4414, os⟩ := by
  rw [Fast.te14082659384304107361, Fast.te14364793385576792824]
  kernel_rfl
theorem run (w : World) (os : OsState) : topRun treeTable pw w 11 ann (12 + (1 + (162 + ((62 + (1 + (92 + (284 + (284 + (284 + (284 + (284 + (284 + (284 + (284 + (284 + (284 + (284 + (284 + (284 + (311 + (55 + 153)))))))))))))))))) + (347 + (399 + (321 + (345 + (287 + (314 + (435 + (341 + (372 + (252 + 2)))))))))))))) ⟨boot_heap w.params, #[], boot_drawn, boot_toks, os⟩ (topStub pw) = some ⟨hf w.params, #[], boot_drawn, 4414, os⟩ :=
  go_top (pre w os) (piece_block (blk w os) (piece_app (rest := L1) (segRun_of (p1 w os)) (piece_app (rest := L2) (p2 w os) (piece_app (rest := L3) (segRun_of (p3 w os)) (piece_app (rest := L4) (segRun_of (p4 w os)) (piece_app (rest := L5) (segRun_of (p5 w os)) (piece_app (rest := L6) (segRun_of (p6 w os)) (piece_app (rest := L7) (segRun_of (p7 w os)) (piece_app (rest := L8) (segRun_of (p8 w os)) (piece_app (rest := L9) (segRun_of (p9 w os)) (piece_app (rest := L10) (segRun_of (p10 w os)) (piece_app (rest := L11) (segRun_of (p11 w os)) (piece_app (rest := L12) (segRun_of (p12 w os)) (fin w os))))))))))))))
noncomputable def K (P : Params) : Frag := (nat_lit 2, boot_o_2 P) :: (nat_lit 3, o3v488 P) :: (nat_lit 15, o15 P) :: (nat_lit 17, o17 P) :: (nat_lit 18, o18 P) :: (nat_lit 20, o20 P) :: (nat_lit 21, o21 P) :: (nat_lit 22, o22 P) :: (nat_lit 24, o24 P) :: (nat_lit 25, o25 P) :: (nat_lit 27, o27 P) :: (nat_lit 28, o28 P) :: (nat_lit 29, o29 P) :: (nat_lit 32, o32 P) :: (nat_lit 33, o33 P) :: (nat_lit 34, o34 P) :: (nat_lit 36, o36 P) :: (nat_lit 37, o37 P) :: (nat_lit 39, o39 P) :: (nat_lit 40, o40 P) :: (nat_lit 41, o41 P) :: (nat_lit 43, o43 P) :: (nat_lit 44, o44 P) :: (nat_lit 46, o46 P) :: (nat_lit 47, o47 P) :: (nat_lit 48, o48 P) :: (nat_lit 55, o55 P) :: (nat_lit 56, o56 P) :: (nat_lit 59, o59 P) :: (nat_lit 62, o62 P) :: (nat_lit 65, o65 P) :: (nat_lit 68, o68 P) :: (nat_lit 71, o71 P) :: (nat_lit 74, o74 P) :: (nat_lit 77, o77 P) :: (nat_lit 80, o80 P) :: (nat_lit 83, o83 P) :: (nat_lit 86, o86 P) :: (nat_lit 89, o89 P) :: (nat_lit 92, o92 P) :: (nat_lit 95, o95 P) :: (nat_lit 98, o98 P) :: (nat_lit 99, o99 P) :: (nat_lit 102, o102 P) :: (nat_lit 103, o103 P) :: (nat_lit 104, o104 P) :: (nat_lit 107, o107 P) :: (nat_lit 108, o108 P) :: (nat_lit 109, o109 P) :: (nat_lit 112, o112 P) :: (nat_lit 113, o113 P) :: (nat_lit 114, o114 P) :: (nat_lit 115, o115 P) :: (nat_lit 116, o116 P) :: (nat_lit 117, o117 P) :: (nat_lit 118, o118 P) :: (nat_lit 121, o121 P) :: (nat_lit 128, o128 P) :: (nat_lit 129, o129 P) :: (nat_lit 132, o132 P) :: (nat_lit 133, o133 P) :: (nat_lit 134, o134 P) :: (nat_lit 136, o136 P) :: (nat_lit 137, o137 P) :: (nat_lit 139, o139 P) :: (nat_lit 140, o140 P) :: (nat_lit 141, o141 P) :: (nat_lit 142, o142 P) :: (nat_lit 144, o144 P) :: (nat_lit 145, o145 P) :: (nat_lit 147, o147 P) :: (nat_lit 148, o148 P) :: (nat_lit 149, o149 P) :: (nat_lit 150, o150 P) :: (nat_lit 151, o151 P) :: (nat_lit 152, o152 P) :: (nat_lit 153, o153 P) :: (nat_lit 156, o156 P) :: (nat_lit 163, o163 P) :: (nat_lit 165, o165 P) :: (nat_lit 166, o166 P) :: (nat_lit 168, o168 P) :: (nat_lit 169, o169 P) :: (nat_lit 170, o170 P) :: (nat_lit 172, o172 P) :: (nat_lit 173, o173 P) :: (nat_lit 175, o175 P) :: (nat_lit 176, o176 P) :: (nat_lit 177, o177 P) :: (nat_lit 179, o179 P) :: (nat_lit 180, o180 P) :: (nat_lit 182, o182 P) :: (nat_lit 183, o183 P) :: (nat_lit 184, o184 P) :: (nat_lit 186, o186 P) :: (nat_lit 187, o187 P) :: (nat_lit 189, o189 P) :: (nat_lit 190, o190 P) :: (nat_lit 191, o191 P) :: (nat_lit 192, o192 P) :: (nat_lit 194, o194 P) :: (nat_lit 195, o195 P) :: (nat_lit 197, o197 P) :: (nat_lit 198, o198 P) :: (nat_lit 199, o199 P) :: (nat_lit 200, o200 P) :: (nat_lit 202, o202 P) :: (nat_lit 203, o203 P) :: (nat_lit 205, o205 P) :: (nat_lit 206, o206 P) :: (nat_lit 207, o207 P) :: (nat_lit 208, o208 P) :: (nat_lit 209, o209v337 P) :: (nat_lit 210, o210 P) :: (nat_lit 211, o211 P) :: (nat_lit 214, o214 P) :: (nat_lit 221, o221 P) :: (nat_lit 223, o223 P) :: (nat_lit 224, o224 P) :: (nat_lit 226, o226 P) :: (nat_lit 227, o227 P) :: (nat_lit 228, o228 P) :: (nat_lit 229, o229 P) :: (nat_lit 231, o231 P) :: (nat_lit 232, o232 P) :: (nat_lit 234, o234 P) :: (nat_lit 235, o235 P) :: (nat_lit 236, o236 P) :: (nat_lit 237, o237 P) :: (nat_lit 239, o239 P) :: (nat_lit 240, o240 P) :: (nat_lit 242, o242 P) :: (nat_lit 243, o243 P) :: (nat_lit 244, o244 P) :: (nat_lit 245, o245 P) :: (nat_lit 246, o246v448 P) :: (nat_lit 249, o249 P) :: (nat_lit 256, o256 P) :: (nat_lit 258, o258 P) :: (nat_lit 259, o259 P) :: (nat_lit 261, o261 P) :: (nat_lit 262, o262 P) :: (nat_lit 263, o263 P) :: (nat_lit 264, o264 P) :: (nat_lit 266, o266 P) :: (nat_lit 267, o267 P) :: (nat_lit 269, o269 P) :: (nat_lit 270, o270 P) :: (nat_lit 271, o271 P) :: (nat_lit 272, o272 P) :: (nat_lit 274, o274 P) :: (nat_lit 275, o275 P) :: (nat_lit 277, o277 P) :: (nat_lit 278, o278 P) :: (nat_lit 279, o279 P) :: (nat_lit 280, o280 P) :: (nat_lit 281, o281v370 P) :: (nat_lit 284, o284 P) :: (nat_lit 291, o291 P) :: (nat_lit 293, o293 P) :: (nat_lit 294, o294 P) :: (nat_lit 296, o296 P) :: (nat_lit 297, o297 P) :: (nat_lit 298, o298 P) :: (nat_lit 300, o300 P) :: (nat_lit 301, o301 P) :: (nat_lit 303, o303 P) :: (nat_lit 304, o304 P) :: (nat_lit 305, o305 P) :: (nat_lit 306, o306 P) :: (nat_lit 307, o307 P) :: (nat_lit 310, o310 P) :: (nat_lit 317, o317 P) :: (nat_lit 318, o318 P) :: (nat_lit 320, o320 P) :: (nat_lit 321, o321 P) :: (nat_lit 323, o323 P) :: (nat_lit 324, o324 P) :: (nat_lit 325, o325 P) :: (nat_lit 328, o328 P) :: (nat_lit 329, o329 P) :: (nat_lit 330, o330 P) :: (nat_lit 333, o333 P) :: (nat_lit 334, o334 P) :: (nat_lit 335, o335 P) :: (nat_lit 336, o336 P) :: (nat_lit 337, o337 P) :: (nat_lit 340, o340 P) :: (nat_lit 347, o347 P) :: (nat_lit 348, o348 P) :: (nat_lit 350, o350 P) :: (nat_lit 351, o351 P) :: (nat_lit 353, o353 P) :: (nat_lit 354, o354 P) :: (nat_lit 355, o355 P) :: (nat_lit 357, o357 P) :: (nat_lit 358, o358 P) :: (nat_lit 360, o360 P) :: (nat_lit 361, o361 P) :: (nat_lit 362, o362 P) :: (nat_lit 363, o363 P) :: (nat_lit 366, o366 P) :: (nat_lit 367, o367 P) :: (nat_lit 368, o368 P) :: (nat_lit 371, o371 P) :: (nat_lit 372, o372 P) :: (nat_lit 373, o373 P) :: (nat_lit 374, o374 P) :: (nat_lit 375, o375 P) :: (nat_lit 378, o378 P) :: (nat_lit 385, o385 P) :: (nat_lit 386, o386 P) :: (nat_lit 388, o388 P) :: (nat_lit 389, o389 P) :: (nat_lit 391, o391 P) :: (nat_lit 392, o392 P) :: (nat_lit 393, o393 P) :: (nat_lit 395, o395 P) :: (nat_lit 396, o396 P) :: (nat_lit 398, o398 P) :: (nat_lit 399, o399 P) :: (nat_lit 400, o400 P) :: (nat_lit 402, o402 P) :: (nat_lit 403, o403 P) :: (nat_lit 405, o405 P) :: (nat_lit 406, o406 P) :: (nat_lit 407, o407 P) :: (nat_lit 408, o408 P) :: (nat_lit 409, o409 P) :: (nat_lit 412, o412 P) :: (nat_lit 419, o419 P) :: (nat_lit 420, o420 P) :: (nat_lit 422, o422 P) :: (nat_lit 423, o423 P) :: (nat_lit 425, o425 P) :: (nat_lit 426, o426 P) :: (nat_lit 427, o427 P) :: (nat_lit 430, o430 P) :: (nat_lit 431, o431 P) :: (nat_lit 432, o432 P) :: (nat_lit 434, o434 P) :: (nat_lit 435, o435 P) :: (nat_lit 437, o437 P) :: (nat_lit 438, o438 P) :: (nat_lit 439, o439 P) :: (nat_lit 440, o440 P) :: (nat_lit 441, o441 P) :: (nat_lit 444, o444 P) :: (nat_lit 446, o446 P) :: (nat_lit 447, o447 P) :: (nat_lit 449, o449 P) :: (nat_lit 450, o450 P) :: (nat_lit 451, o451 P) :: (nat_lit 453, o453 P) :: (nat_lit 454, o454 P) :: (nat_lit 456, o456 P) :: (nat_lit 457, o457 P) :: (nat_lit 458, o458 P) :: (nat_lit 461, o461 P) :: (nat_lit 462, o462 P) :: (nat_lit 463, o463 P) :: (nat_lit 466, o466 P) :: (nat_lit 467, o467 P) :: (nat_lit 475, o475 P) :: (nat_lit 477, o477 P) :: (nat_lit 478, o478 P) :: (nat_lit 480, o480 P) :: (nat_lit 481, o481 P) :: (nat_lit 482, o482 P) :: (nat_lit 484, o484 P) :: (nat_lit 485, o485 P) :: (nat_lit 487, o487 P) :: (nat_lit 488, o488 P) :: (nat_lit 489, o489 P) :: (nat_lit 491, o491 P) :: (nat_lit 492, o492 P) :: (nat_lit 494, o494 P) :: (nat_lit 495, o495 P) :: (nat_lit 496, o496 P) :: (nat_lit 499, o499 P) :: (nat_lit 500, o500 P) :: []
noncomputable def kA : List Addr := [nat_lit 2, nat_lit 3, nat_lit 15, nat_lit 17, nat_lit 18, nat_lit 20, nat_lit 21, nat_lit 22, nat_lit 24, nat_lit 25, nat_lit 27, nat_lit 28, nat_lit 29, nat_lit 32, nat_lit 33, nat_lit 34, nat_lit 36, nat_lit 37, nat_lit 39, nat_lit 40, nat_lit 41, nat_lit 43, nat_lit 44, nat_lit 46, nat_lit 47, nat_lit 48, nat_lit 55, nat_lit 56, nat_lit 59, nat_lit 62, nat_lit 65, nat_lit 68, nat_lit 71, nat_lit 74, nat_lit 77, nat_lit 80, nat_lit 83, nat_lit 86, nat_lit 89, nat_lit 92, nat_lit 95, nat_lit 98, nat_lit 99, nat_lit 102, nat_lit 103, nat_lit 104, nat_lit 107, nat_lit 108, nat_lit 109, nat_lit 112, nat_lit 113, nat_lit 114, nat_lit 115, nat_lit 116, nat_lit 117, nat_lit 118, nat_lit 121, nat_lit 128, nat_lit 129, nat_lit 132, nat_lit 133, nat_lit 134, nat_lit 136, nat_lit 137, nat_lit 139, nat_lit 140, nat_lit 141, nat_lit 142, nat_lit 144, nat_lit 145, nat_lit 147, nat_lit 148, nat_lit 149, nat_lit 150, nat_lit 151, nat_lit 152, nat_lit 153, nat_lit 156, nat_lit 163, nat_lit 165, nat_lit 166, nat_lit 168, nat_lit 169, nat_lit 170, nat_lit 172, nat_lit 173, nat_lit 175, nat_lit 176, nat_lit 177, nat_lit 179, nat_lit 180, nat_lit 182, nat_lit 183, nat_lit 184, nat_lit 186, nat_lit 187, nat_lit 189, nat_lit 190, nat_lit 191, nat_lit 192, nat_lit 194, nat_lit 195, nat_lit 197, nat_lit 198, nat_lit 199, nat_lit 200, nat_lit 202, nat_lit 203, nat_lit 205, nat_lit 206, nat_lit 207, nat_lit 208, nat_lit 209, nat_lit 210, nat_lit 211, nat_lit 214, nat_lit 221, nat_lit 223, nat_lit 224, nat_lit 226, nat_lit 227, nat_lit 228, nat_lit 229, nat_lit 231, nat_lit 232, nat_lit 234, nat_lit 235, nat_lit 236, nat_lit 237, nat_lit 239, nat_lit 240, nat_lit 242, nat_lit 243, nat_lit 244, nat_lit 245, nat_lit 246, nat_lit 249, nat_lit 256, nat_lit 258, nat_lit 259, nat_lit 261, nat_lit 262, nat_lit 263, nat_lit 264, nat_lit 266, nat_lit 267, nat_lit 269, nat_lit 270, nat_lit 271, nat_lit 272, nat_lit 274, nat_lit 275, nat_lit 277, nat_lit 278, nat_lit 279, nat_lit 280, nat_lit 281, nat_lit 284, nat_lit 291, nat_lit 293, nat_lit 294, nat_lit 296, nat_lit 297, nat_lit 298, nat_lit 300, nat_lit 301, nat_lit 303, nat_lit 304, nat_lit 305, nat_lit 306, nat_lit 307, nat_lit 310, nat_lit 317, nat_lit 318, nat_lit 320, nat_lit 321, nat_lit 323, nat_lit 324, nat_lit 325, nat_lit 328, nat_lit 329, nat_lit 330, nat_lit 333, nat_lit 334, nat_lit 335, nat_lit 336, nat_lit 337, nat_lit 340, nat_lit 347, nat_lit 348, nat_lit 350, nat_lit 351, nat_lit 353, nat_lit 354, nat_lit 355, nat_lit 357, nat_lit 358, nat_lit 360, nat_lit 361, nat_lit 362, nat_lit 363, nat_lit 366, nat_lit 367, nat_lit 368, nat_lit 371, nat_lit 372, nat_lit 373, nat_lit 374, nat_lit 375, nat_lit 378, nat_lit 385, nat_lit 386, nat_lit 388, nat_lit 389, nat_lit 391, nat_lit 392, nat_lit 393, nat_lit 395, nat_lit 396, nat_lit 398, nat_lit 399, nat_lit 400, nat_lit 402, nat_lit 403, nat_lit 405, nat_lit 406, nat_lit 407, nat_lit 408, nat_lit 409, nat_lit 412, nat_lit 419, nat_lit 420, nat_lit 422, nat_lit 423, nat_lit 425, nat_lit 426, nat_lit 427, nat_lit 430, nat_lit 431, nat_lit 432, nat_lit 434, nat_lit 435, nat_lit 437, nat_lit 438, nat_lit 439, nat_lit 440, nat_lit 441, nat_lit 444, nat_lit 446, nat_lit 447, nat_lit 449, nat_lit 450, nat_lit 451, nat_lit 453, nat_lit 454, nat_lit 456, nat_lit 457, nat_lit 458, nat_lit 461, nat_lit 462, nat_lit 463, nat_lit 466, nat_lit 467, nat_lit 475, nat_lit 477, nat_lit 478, nat_lit 480, nat_lit 481, nat_lit 482, nat_lit 484, nat_lit 485, nat_lit 487, nat_lit 488, nat_lit 489, nat_lit 491, nat_lit 492, nat_lit 494, nat_lit 495, nat_lit 496, nat_lit 499, nat_lit 500]
end
section
set_option maxHeartbeats 0
noncomputable def stB : FuncBody → List Stmt
  | .stmts b => b
  | _ => []
noncomputable def posOf : Stmt → Pos
  | .FunctionDef _ _ _ _ _ _ _ _ _ p => p
  | _ => ⟨0, 0, 0, 0⟩
noncomputable def lawD : DefRec := { name := "law", params := fP (T 26), body := stB (fB (T 26)), scope := fS (T 26), pos := posOf (T 26) }
noncomputable def q : Program := { pw with main := { pw.main with body := [T 26] } }
noncomputable def loose : List Str := ["_wall", "PADDING_DEFAULT", "_compact_word", "_string_to_bytes", "_bytes_to_string", "_concat_list", "AES", "Counter", "AESBlockModeOfOperation", "AESStreamModeOfOperation", "AESSegmentModeOfOperation", "AESModeOfOperationECB", "AESModeOfOperationCBC", "AESModeOfOperationCFB", "AESModeOfOperationOFB", "AESModeOfOperationCTR", "_law_cell", "_law_row", "_law_sum", "_law_count", "_law_padded", "_law_rule", "_law_mode", "_law_pieces"]
theorem kAok (P : Params) : kA = (K P).map (·.1) := by kernel_rfl
noncomputable abbrev HK : Hook := kHook K kA kAok
abbrev r0 : OpenRow := PySem.Challenge.rw_yv0003_01.row
noncomputable abbrev Xt (s : Shared) : Bool := xlAt q [] s && recOk (RowW.records r0.toRowW) s
theorem opn : ∀ w : World, (fencedOpening treeTable pw w 16000).map (fun s => (s.heap, s.gens, s.drawn, s.toks)) = some (boot_heap w.params, Array.mk [], boot_drawn, boot_toks) :=
  boot_open (by kernel_rfl) (by decide) (fun s => by kernel_rfl)
theorem siz (w : World) : ((boot_heap w.params).isNs mainGlobals && (Array.mk [] : Array GenState).size == 0, (boot_heap w.params).objs.size, (boot_heap w.params).nsMap mainGlobals "__annotations__") = (true, 11, ann) := by
  kernel_rfl
noncomputable abbrev sf (w : World) (os : OsState) : Shared := ⟨hf w.params, Array.mk [], boot_drawn, 4414, os⟩
theorem lookA (w : World) (os : OsState) : (staticsOk (importedModules pw.main.body) (boot_heap w.params) (hf w.params) && namesBound pw (hf w.params) && gensDone (sf w os) && laidKept (boot_heap w.params) (hf w.params)) = true := by
  kernel_rfl
theorem lookB (w : World) (os : OsState) : openSeen q loose (importedModules pw.main.body) Xt true (sf w os) = openGood q loose := by
  rw [Fast.te4187177175401517315]
  kernel_rfl
theorem lookC (w : World) (os : OsState) : HK.obs (sf w os) = HK.val w := by
  kernel_rfl
theorem left : LeftO pw q loose Xt HK.obs HK.val 16000 :=
  LeftO.of_pieces opn siz run (by decide) fun w => funext fun os => Prod.ext (lookA w os) (Prod.ext (lookB w os) (lookC w os))
end
section
set_option maxHeartbeats 0
theorem said : PySem.Challenge.rw_yv0003_01.wellSaid = true := by
  delta OpenLaw.wellSaid
  with_reducible repeat' (refine look_both ?_ ?_)
  · delta OpenRow.wellSaid OpenRow.partSaid looksOpen
    with_reducible repeat' (refine look_both ?_ ?_)
    all_goals decide +kernel
  all_goals decide +kernel
theorem wit : r0.toRowW.promised := ⟨[.list [.int 3, .int 1]], by decide +kernel, by decide +kernel⟩
theorem hd (walk : WalkO q loose (XL q []) HK.says r0.toRowW lawD [] fun f vs => PySem.call f vs) : PySem.Challenge.rw_yv0003_01.Holds :=
  holds_law said fun said' => W.holds_open (r := r0) (q := q) (loose := loose) (Xt := Xt) (XP := XL q []) (Yf := HK.obs) (Ya := HK.val) (YP := HK.says) (d := lawD) (kwd := []) left HK.of HK.keeps (fun s e => xl_of s (Bool.and_eq_true_iff.mp e).1) XL.keeps
    (by kernel_rfl) (by kernel_rfl) (by kernel_rfl) (fun s e => recFacts_of (Bool.and_eq_true_iff.mp e).2) (by kernel_rfl) said' (by decide +kernel) ⟨rfl, rfl, rfl, rfl, rfl, by decide +kernel⟩ wit walk
end
theorem fillK : K = K ∧ r0 = r0 := by
  k_fill
  exact ⟨rfl, rfl⟩
theorem toldRules : True := by
  k_with "y1" => (repeat' (first | (k_unfold; (try dsimp only)) | walk1 | (dsimp only; walk1) | fail "no step"))
  k_with "y2" => (((try simp only [depth_in1, depth_deeper]); omega))
  k_with "y3" => ((k_here; (with_reducible show wpAny _ _ (call (Value.ref 450) _) _ _ _); k_dflt (refine cell_call (by k_asm) (by k_asm) (by k_asm) (by k_asm) (by k_room) (by assumption) (by assumption) (by assumption) (by omega) (by omega) ?_); intro _ _ _ _ _; (try k_sweep)))
  k_with "y4" => ((refine xorF ?_))
  k_with "y5" => ((refine orF ?_))
  k_with "y6" => ((refine andF ?_))
  k_with "y7" => ((refine shrF (by decide) ?_))
  k_with "y8" => ((refine shlF (by decide) (by decide) (by omega) ?_))
  k_with "y9" => ((refine addF ?_))
  k_with "y10" => (first | (refine ite_bne_eq (by omega) ?_) | (refine ite_bne_ne (by omega) ?_))
  k_with "y11" => ((k_here; (with_reducible show wpAny _ _ (subscriptTail _ _ (Value.ref _) (Value.int (Builtin.bitAnd _ 255) _)) _ _ _); k_dflt (refine tab_item (by k_asm) (by k_asm) (by first | exact is65 _ | exact is68 _ | exact is71 _ | exact is74 _ | exact is59 _ | exact is89 _ | exact is92 _ | exact is95 _ | exact is98 _) (by rfl) ?_ (by with_unfolding_all rfl)); intro _))
  k_with "y12" => (exact inst_base (by assumption) (by assumption) (by assumption))
  k_with "y13" => ((k_here; (with_reducible show wpAny _ _ (subscriptTail _ _ (Value.ref _) (Value.int (Builtin.bitAnd _ 255) _)) _ _ _); k_dflt (refine tab_item (by k_asm) (by k_asm) (by first | exact is65 _ | exact is68 _ | exact is71 _ | exact is74 _ | exact is59 _) (by rfl) ?_ (by with_unfolding_all rfl)); intro _))
  k_with "y14" => ((k_here; (with_reducible show wpAny _ _ (subscriptTail _ _ (Value.ref _) (Value.int _ _)) _ _ _); k_dflt (refine row_item (by k_asm) (by assumption) (by l_idx) (by l_idx) (by l_idx) ?_ (by with_unfolding_all rfl)); intro _ _ _ _ _))
  k_with "y15" => ((k_here; (with_reducible show wpAny _ _ (call (Value.builtin "len") [Value.ref _]) _ _ _); (refine len_rows (by k_asm) (by assumption) (by omega) ?_); intro _ _))
  k_with "y16" => ((k_here; (with_reducible show wpAny _ _ (call (Value.ref 28) _) _ _ _); k_dflt (refine cw_call (by k_asm) (by k_asm) (by k_asm) (by k_asm) (by k_room) (by k_mem) (by assumption) (by first | exact part16 (by assumption) (by assumption) (by assumption) | omega) (by exact Bytes.slice (by assumption) _ _) ?_); intro _ _ _ _ _ kp'; (try (have cE' := InElt.step (by assumption) kp')); (try k_sweep)))
  k_with "y17" => ((k_here; (with_reducible show wpAny _ _ (setItem (Value.ref _) (Value.int _ _) (Value.int _ _)) _ _ _); k_dflt (refine set_la (by k_asm) (by k_asm) (by assumption) (by assumption) (by assumption) (by omega) (by assumption) ?_); intro _ _ _ _ _; (try k_sweep)))
  k_with "y18" => ((k_here; (with_reducible show wpAny _ _ (setItem (Value.ref _) (Value.int _ _) (Value.int _ _)) _ _ _); k_dflt (refine set_la (by k_asm) (by k_asm) (by assumption) (by assumption) (by assumption) (by l_idx) (by omega) (by assumption) ?_); intro _ _ _ _ _; (try k_sweep)))
  k_with "y19" => ((k_here; (with_reducible show wpAny _ _ (call (Value.builtin _) [Value.ref _, _]) _ _ _); k_dflt (refine append_L (by k_asm) (by k_asm) (by k_upd) (by ((try simp only [List.length_append, List.length_cons, List.length_nil]); omega)) ?_; k_whole); intro _ _ _; (try k_sweep)))
  k_with "y20" => ((k_here; (with_reducible show wpAny _ _ (subscriptTail _ (Expr.Slice _ _ none _) (Value.bytes _ _) (Value.ref _)) _ _ _); k_dflt (refine bs_slice (s := ⟨_, _, _, _, _⟩) (by k_asm) (by k_asm) (by assumption) (by omega) (by rfl) (by omega) (by omega) ?_); intro _ _ _ _ _ kp' _ _; (try (have cE' := InElt.step (by assumption) kp')); (try k_sweep)))
  k_with "y21" => ((k_here; (with_reducible show wpAny _ _ (call (Value.ref 28) [Value.bytes _ _]) _ _ _); k_dflt (refine cw_callB (by k_asm) (by k_asm) (by k_asm) (by k_asm) (by k_room) (by assumption) (by first | exact part16 (by assumption) (by assumption) (by assumption) | omega) (by exact Bytes.slice (by assumption) _ _) ?_); intro _ _ _ _ _ kp'; (try (have cE' := InElt.step (by assumption) kp')); (try k_sweep)))
  k_with "y22" => (first | exact inst_base (by assumption) (by assumption) (by assumption) | exact inst_mix (by assumption) (by assumption) (by assumption) (by k_mem))
  k_with "y23" => ((k_here; k_dflt (refine LCg.CompSrc.range (by rfl) (by k_asm) (by k_asm) (by assumption) (small_of (by omega) (by omega) (by omega) (by omega) (by omega) (by omega)) (rsize_nat (by omega)) (by rw [sizeLine_eq]; omega) ?_); intro _))
  k_with "y24" => ((k_here; k_dflt (refine assignComp_S (F₀ := by k_asm) (by rfl) (by with_unfolding_all rfl) (by with_unfolding_all rfl) (by decide) (by rfl) (by decide) (by rfl) (by rfl) (by rfl) ?_)))
  k_with "y25" => ((k_here; k_dflt (refine callWith_boundKW (by k_asm) (by k_mem) (by exact rfl) ?_; k_whole)))
  k_with "y26" => ((k_here; (with_reducible show wpAny _ _ (call (Value.ref _) [Value.bytes _ _, Value.str _ _] _) _ _ _); k_dflt (refine call_bigS (by k_asm) (by k_mem) (by assumption) (by assumption) ?_); intro _ _))
  k_with "y27" => ((k_here; (with_reducible show wpAny _ _ (eval (Expr.Name _ _) (compEnvC _ _ _ _)) _ _ _); k_dflt (refine name_cb (by k_asm) (by k_asm) (by k_asm) (by k_is) (by boot_by_name) (by decide) ?_)))
  k_with "y28" => ((k_here; (with_reducible show wpAny _ _ (subscriptTail _ _ (Value.ref _) (Value.int _ _)) _ _ _); k_dflt (refine led_item (by k_asm) (by k_mem) (by assumption) (by omega) (by omega) (by omega) ?_ (by with_unfolding_all rfl)); intro _))
  k_with "y29" => ((k_here; (with_reducible show wpAny _ _ (subscriptTail _ _ (Value.ref (List.getD _ _ _)) (Value.int _ _)) _ _ _); k_dflt (refine mat_item6 (by k_asm) (by assumption) (by assumption) (by first | exact List.mem_of_mem_take (getD_mem (by omega)) | exact List.mem_of_mem_drop (getD_mem (by omega))) (by omega) (by omega) ?_ (by with_unfolding_all rfl)); intro _))
  k_with "y30" => ((k_here; (with_reducible show wpAny _ _ (subscriptTail _ _ (Value.ref _) (Value.int _ _)) _ _ _); k_dflt (refine mat_row (by k_asm) (by k_mem) (by omega) (by omega) (by omega) ?_ (by with_unfolding_all rfl))))
  k_with "y31" => ((k_here; (with_reducible show wpAny _ _ (setItem (Value.ref (List.getD _ _ _)) (Value.int _ _) (Value.int _ _)) _ _ _); k_dflt (refine mat_set6 (by k_asm) (by k_asm) (by assumption) (by assumption) (by first | exact List.mem_of_mem_take (getD_mem (by omega)) | exact List.mem_of_mem_drop (getD_mem (by omega))) (by assumption) (by omega) (by omega) ?_); intro _ _ _ _ _ _; (try k_sweep)))
  k_with "y32" => ((refine shlF (by decide) (by decide) (by first | exact tabS_fit _ | exact rcon_fit _) ?_))
  k_with "y33" => ((k_here; (with_reducible show wpAny _ _ (subscriptTail _ _ (Value.ref 56) (Value.int _ _)) _ _ _); k_dflt (refine tab_at (by k_asm) (by k_asm) (by exact is56 _) (by omega) (by ((show _ < (30 : Int)); omega)) (by decide) ?_ (by with_unfolding_all rfl)); intro _))
  k_with "y34" => ((k_here; k_dflt (refine led_get (by k_asm) (by k_mem) (by assumption) (by omega) (by omega) (by omega) ?_); intro _))
  k_with "y35" => ((k_here; (with_reducible show wpAny _ _ (setItem (Value.ref (List.getD _ _ _)) (Value.int _ _) (Value.int _ _)) _ _ _); k_dflt (refine mat_set5 (by k_asm) (by k_asm) (by assumption) (by assumption) (by first | exact List.mem_of_mem_take (getD_mem (by omega)) | exact List.mem_of_mem_drop (getD_mem (by omega))) (by assumption) (by omega) (by omega) ?_); intro _ _ _ _ _ _; (try k_sweep)))
  k_with "y36" => ((k_here; (with_reducible show wpAny _ _ (setItem (Value.ref _) (Value.int _ _) (Value.int _ _)) _ _ _); k_dflt (refine led_set (by k_asm) (by k_asm) (by k_upd) (by assumption) (by omega) (by omega) (by omega) ?_); intro _ _ _ _ _; (try k_sweep)))
  k_with "y37" => ((k_here; (with_reducible show wpAny _ _ (subscriptTail _ _ (Value.ref (List.getD _ _ _)) (Value.int _ _)) _ _ _); k_dflt (refine mat_item7 (by k_asm) (by assumption) (by assumption) (by first | exact List.mem_of_mem_take (getD_mem (by omega)) | exact List.mem_of_mem_drop (getD_mem (by omega))) (by omega) (by omega) ?_ (by with_unfolding_all rfl)); intro _))
  k_with "y38" => ((k_here; (with_reducible show wpAny _ _ (setItem (Value.ref (List.getD _ _ _)) (Value.int _ _) (Value.int _ _)) _ _ _); k_dflt (refine mat_set7 (by k_asm) (by k_asm) (by assumption) (by assumption) (by first | exact List.mem_of_mem_take (getD_mem (by omega)) | exact List.mem_of_mem_drop (getD_mem (by omega))) (by assumption) (by assumption) (by omega) (by omega) ?_); intro _ _ _ _ _ _; (try k_sweep)))
  k_with "y39" => ((refine ite_not (by assumption) ?_))
  k_with "y40" => (((with_reducible show wpAny _ _ (binaryOp _ (Value.int _ _) (Value.int (256 ^ Int.toNat _) _)) _ _ _); refine div256 (by omega) ?_; intro _ _))
  k_with "y41" => ((k_here; k_dflt (refine listComp_S (F₀ := by k_asm) (by with_unfolding_all rfl) (by decide) (by rfl) (by decide) (by rfl) ?_)))
  k_with "y42" => ((refine shrF (by omega) ?_))
  k_with "y43" => ((k_here; (with_reducible show wpAny _ _ (call (Value.ref 33) _) _ _ _); k_dflt (refine sb_call (by k_asm) (by k_asm) (by k_asm) (by k_asm) (by k_room) ?_); intro _ _ _ _; (try k_sweep)))
  k_with "y44" => (first | (refine ite_beq_ne (by omega) ?_) | (refine ite_beq_eq (by omega) ?_))
  k_with "y45" => ((k_here; k_dflt (refine pop0 (by k_asm) (by k_asm) (by k_upd) (by assumption) (by omega) (by omega) ?_); intro _ _ _ _ _; (try k_sweep)))
  k_with "y46" => ((k_here; (with_reducible show wpAny _ _ (getAttr (Value.ref _) (PySem.Str.ofString "value") _) _ _ _); k_dflt (refine value_attr (by k_asm) (by k_asm) (by k_asm) (by k_asm) (by k_room) (by assumption) (by k_mem) ?_); intro _ _ _ _; (try k_sweep)))
  k_with "y47" => ((k_here; k_dflt (refine iadd_L (by k_asm) (by k_asm) (by k_mem) (by k_upd) (by omega) (by omega) ?_); intro _ _ _; (try k_sweep)))
  k_with "y48" => ((k_here; (with_reducible show wpAny _ _ (call (Value.builtin "len") [Value.ref _]) _ _ _); k_dflt (refine len_L (by k_asm) (by k_mem) (by assumption) (by omega) ?_); intro _ _))
  k_with "y49" => ((k_here; (with_reducible show wpAny _ _ (subscriptTail _ (PySem.Expr.Slice _ none none _) (Value.ref _) (Value.ref _)) _ _ _); k_dflt (refine kmk_slice_ints (by k_asm) (by k_asm) (by exact News.isList (by k_asm) (by k_mem)) (by exact IsPart.int _ _) (by exact IsPart.none) (by assumption) (by exact kmk_from (by assumption) (by omega)) (by exact List.length_drop ..) ?_ (by with_unfolding_all rfl) (by (intro _; with_unfolding_all rfl)) (by (rw [List.size_toArray, sizeLine_eq]; omega))); intro _ _ _ _ _ l1 _ _ _; (try k_lt l1); (try k_sweep)))
  k_with "y50" => ((k_here; (with_reducible show wpAny _ _ (subscriptTail _ (PySem.Expr.Slice (some _) (some _) none _) (Value.ref _) (Value.ref _)) _ _ _); k_dflt (refine kmk_slice_ints (by k_asm) (by k_asm) (by kmk_list) (by exact IsPart.int _ _) (by exact IsPart.int _ _) (by assumption) (by exact kmk_run (by assumption) (by omega) (by omega)) (by exact rfl) ?_ (by with_unfolding_all rfl) (by (intro _; with_unfolding_all rfl)) (by (rw [List.size_toArray, sizeLine_eq]; omega))); intro _ _ _ _ _ l1 _ _ _; (try k_lt l1); (try k_sweep)))
  k_with "y51" => ((k_here; (with_reducible show wpAny _ _ (subscriptTail _ (PySem.Expr.Slice _ none none _) (Value.ref _) (Value.ref _)) _ _ _); k_dflt (refine kmk_slice_ints (by k_asm) (by k_asm) (by kmk_list) (by exact IsPart.int _ _) (by exact IsPart.none) (by assumption) (by exact kmk_from (by assumption) (by omega)) (by exact List.length_drop ..) ?_ (by with_unfolding_all rfl) (by (intro _; with_unfolding_all rfl)) (by (rw [List.size_toArray, sizeLine_eq]; omega))); intro _ _ _ _ _ l1 _ _ _; (try k_lt l1); (try k_sweep)))
  k_with "y52" => (first | (refine ite_lit (by rfl) ?_) | (refine ite_litT (by rfl) ?_))
  k_with "y53" => ((k_here; (rename (_ = 4 ∨ _ = 18 ∨ _ = 40) => hv3'); (refine modF (by assumption) ?_); intro _ _ _))
  k_with "y54" => ((k_here; (with_reducible show wpAny _ _ (subscriptTail _ _ (Value.ref _) (Value.int (Int.fmod _ 3) _)) _ _ _); k_dflt (refine item3 (by k_asm) (by k_mem) ?_ (by with_unfolding_all rfl)); intro _ _ _))
  k_with "y55" => ((k_here; (with_reducible show wpAny _ _ (call (Value.ref 457) _) _ _ _); k_dflt (refine row_call (by k_asm) (by k_asm) (by k_asm) (by k_asm) (by k_room) (by assumption) (by assumption) (by assumption) (by omega) (by omega) (by omega) (by omega) ?_); intro _ _ _ _ _ _ _ ap' _; (try simp only [List.forall_mem_cons, List.not_mem_nil, false_imp_iff, implies_true, and_true, List.forall_mem_nil] at ap'); (try k_sweep)))
  k_with "y56" => ((k_here; (with_reducible show wpAny _ _ (binaryOp Operator.Mod (Value.int _ _) (Value.int 101 _)) _ _ _); refine mod101 ?_; intro j' _ _; have hj' := j'.2))
  k_with "y57" => ((k_here; k_dflt (refine LCg.CompSrc.range (n := 5) (by rfl) (by k_asm) (by k_asm) (by assumption) (small_of (by omega) (by omega) (by omega) (by omega) (by omega) (by omega)) (by decide) (by rw [sizeLine_eq]; omega) ?_); intro _))
  k_with "y58" => (first | k_extra "y14" | k_extra "y13")
  k_with "y59" => (first | k_extra "y30" | k_extra "y29" | k_extra "y28")
  k_with "y60" => (first | k_extra "y51" | k_extra "y50")
  k_with "om" => (first | with_reducible assumption | decide | with_reducible exact Ne.symm (by assumption) | with_reducible exact Nat.ne_of_lt (by assumption) | with_reducible exact Nat.ne_of_gt (by assumption) | with_reducible exact Nat.lt_of_lt_of_le (Nat.add_lt_add_right (by assumption) 1) (by decide) | with_reducible exact Nat.lt_of_lt_of_le (by assumption) (by decide) | ((with_reducible show @Ne Nat _ _); (repeat (first | (rename (_ < _ ∧ _) => hP; first | (with_reducible first | exact Nat.ne_of_lt hP.1 | exact Nat.ne_of_gt hP.1 | exact Nat.ne_of_lt hP.2.1 | exact Nat.ne_of_gt hP.2.1 | exact Nat.ne_of_lt hP.2.2.1 | exact Nat.ne_of_gt hP.2.2.1 | exact Nat.ne_of_lt hP.2.2.2.1 | exact Nat.ne_of_gt hP.2.2.2.1 | exact Nat.ne_of_lt hP.2.2.2.2.1 | exact Nat.ne_of_gt hP.2.2.2.2.1 | exact Nat.ne_of_lt hP.2.2.2.2.2.1 | exact Nat.ne_of_gt hP.2.2.2.2.2.1 | exact Nat.ne_of_lt hP.2.2.2.2.2.2.1 | exact Nat.ne_of_gt hP.2.2.2.2.2.2.1 | exact Nat.ne_of_lt hP.2.2.2.2.2.2.2.1 | exact Nat.ne_of_gt hP.2.2.2.2.2.2.2.1 | exact Nat.ne_of_lt hP.2.2.2.2.2.2.2.2.1 | exact Nat.ne_of_gt hP.2.2.2.2.2.2.2.2.1 | exact Nat.ne_of_lt hP.2 | exact Nat.ne_of_gt hP.2 | exact Nat.ne_of_lt hP.2.2 | exact Nat.ne_of_gt hP.2.2 | exact Nat.ne_of_lt hP.2.2.2 | exact Nat.ne_of_gt hP.2.2.2 | exact Nat.ne_of_lt hP.2.2.2.2 | exact Nat.ne_of_gt hP.2.2.2.2 | exact Nat.ne_of_lt hP.2.2.2.2.2 | exact Nat.ne_of_gt hP.2.2.2.2.2 | exact Nat.ne_of_lt hP.2.2.2.2.2.2 | exact Nat.ne_of_gt hP.2.2.2.2.2.2 | exact Nat.ne_of_lt hP.2.2.2.2.2.2.2 | exact Nat.ne_of_gt hP.2.2.2.2.2.2.2) | clear hP) | (rename (_ ≠ _ ∧ _) => hP; first | (with_reducible first | exact hP.1 | exact hP.1.symm | exact hP.2.1 | exact hP.2.1.symm | exact hP.2.2.1 | exact hP.2.2.1.symm | exact hP.2.2.2.1 | exact hP.2.2.2.1.symm | exact hP.2.2.2.2.1 | exact hP.2.2.2.2.1.symm | exact hP.2.2.2.2.2.1 | exact hP.2.2.2.2.2.1.symm | exact hP.2.2.2.2.2.2.1 | exact hP.2.2.2.2.2.2.1.symm | exact hP.2.2.2.2.2.2.2.1 | exact hP.2.2.2.2.2.2.2.1.symm | exact hP.2.2.2.2.2.2.2.2.1 | exact hP.2.2.2.2.2.2.2.2.1.symm | exact hP.2 | exact hP.2.symm | exact hP.2.2 | exact hP.2.2.symm | exact hP.2.2.2 | exact hP.2.2.2.symm | exact hP.2.2.2.2 | exact hP.2.2.2.2.symm | exact hP.2.2.2.2.2 | exact hP.2.2.2.2.2.symm | exact hP.2.2.2.2.2.2 | exact hP.2.2.2.2.2.2.symm | exact hP.2.2.2.2.2.2.2 | exact hP.2.2.2.2.2.2.2.symm | exact hP.2.2.2.2.2.2.2.2 | exact hP.2.2.2.2.2.2.2.2.symm | exact hP.1.1 | exact hP.1.1.symm | exact hP.1.2.1 | exact hP.1.2.1.symm | exact hP.1.2.2 | exact hP.1.2.2.symm | exact hP.1.2 | exact hP.1.2.symm | exact hP.2.1.1 | exact hP.2.1.1.symm | exact hP.2.1.2.1 | exact hP.2.1.2.1.symm | exact hP.2.1.2.2 | exact hP.2.1.2.2.symm | exact hP.2.1.2 | exact hP.2.1.2.symm | exact hP.2.2.1.1 | exact hP.2.2.1.1.symm | exact hP.2.2.1.2.1 | exact hP.2.2.1.2.1.symm | exact hP.2.2.1.2.2 | exact hP.2.2.1.2.2.symm | exact hP.2.2.1.2 | exact hP.2.2.1.2.symm | exact hP.2.2.2.1.1 | exact hP.2.2.2.1.1.symm | exact hP.2.2.2.1.2.1 | exact hP.2.2.2.1.2.1.symm | exact hP.2.2.2.1.2.2 | exact hP.2.2.2.1.2.2.symm | exact hP.2.2.2.1.2 | exact hP.2.2.2.1.2.symm | exact hP.2.2.2.2.1.1 | exact hP.2.2.2.2.1.1.symm | exact hP.2.2.2.2.1.2.1 | exact hP.2.2.2.2.1.2.1.symm | exact hP.2.2.2.2.1.2.2 | exact hP.2.2.2.2.1.2.2.symm | exact hP.2.2.2.2.1.2 | exact hP.2.2.2.2.1.2.symm | exact hP.2.2.2.2.2.1.1 | exact hP.2.2.2.2.2.1.1.symm | exact hP.2.2.2.2.2.1.2.1 | exact hP.2.2.2.2.2.1.2.1.symm | exact hP.2.2.2.2.2.1.2.2 | exact hP.2.2.2.2.2.1.2.2.symm | exact hP.2.2.2.2.2.1.2 | exact hP.2.2.2.2.2.1.2.symm | exact hP.2.2.2.2.2.2.1.1 | exact hP.2.2.2.2.2.2.1.1.symm | exact hP.2.2.2.2.2.2.1.2.1 | exact hP.2.2.2.2.2.2.1.2.1.symm | exact hP.2.2.2.2.2.2.1.2.2 | exact hP.2.2.2.2.2.2.1.2.2.symm | exact hP.2.2.2.2.2.2.1.2 | exact hP.2.2.2.2.2.2.1.2.symm) | clear hP) | (rename ((_ ≠ _ ∧ _) ∧ _) => hP; first | (with_reducible first | exact hP.1 | exact hP.1.symm | exact hP.2.1 | exact hP.2.1.symm | exact hP.2.2.1 | exact hP.2.2.1.symm | exact hP.2.2.2.1 | exact hP.2.2.2.1.symm | exact hP.2.2.2.2.1 | exact hP.2.2.2.2.1.symm | exact hP.2.2.2.2.2.1 | exact hP.2.2.2.2.2.1.symm | exact hP.2.2.2.2.2.2.1 | exact hP.2.2.2.2.2.2.1.symm | exact hP.2.2.2.2.2.2.2.1 | exact hP.2.2.2.2.2.2.2.1.symm | exact hP.2.2.2.2.2.2.2.2.1 | exact hP.2.2.2.2.2.2.2.2.1.symm | exact hP.2 | exact hP.2.symm | exact hP.2.2 | exact hP.2.2.symm | exact hP.2.2.2 | exact hP.2.2.2.symm | exact hP.2.2.2.2 | exact hP.2.2.2.2.symm | exact hP.2.2.2.2.2 | exact hP.2.2.2.2.2.symm | exact hP.2.2.2.2.2.2 | exact hP.2.2.2.2.2.2.symm | exact hP.2.2.2.2.2.2.2 | exact hP.2.2.2.2.2.2.2.symm | exact hP.2.2.2.2.2.2.2.2 | exact hP.2.2.2.2.2.2.2.2.symm | exact hP.1.1 | exact hP.1.1.symm | exact hP.1.2.1 | exact hP.1.2.1.symm | exact hP.1.2.2 | exact hP.1.2.2.symm | exact hP.1.2 | exact hP.1.2.symm | exact hP.2.1.1 | exact hP.2.1.1.symm | exact hP.2.1.2.1 | exact hP.2.1.2.1.symm | exact hP.2.1.2.2 | exact hP.2.1.2.2.symm | exact hP.2.1.2 | exact hP.2.1.2.symm | exact hP.2.2.1.1 | exact hP.2.2.1.1.symm | exact hP.2.2.1.2.1 | exact hP.2.2.1.2.1.symm | exact hP.2.2.1.2.2 | exact hP.2.2.1.2.2.symm | exact hP.2.2.1.2 | exact hP.2.2.1.2.symm | exact hP.2.2.2.1.1 | exact hP.2.2.2.1.1.symm | exact hP.2.2.2.1.2.1 | exact hP.2.2.2.1.2.1.symm | exact hP.2.2.2.1.2.2 | exact hP.2.2.2.1.2.2.symm | exact hP.2.2.2.1.2 | exact hP.2.2.2.1.2.symm | exact hP.2.2.2.2.1.1 | exact hP.2.2.2.2.1.1.symm | exact hP.2.2.2.2.1.2.1 | exact hP.2.2.2.2.1.2.1.symm | exact hP.2.2.2.2.1.2.2 | exact hP.2.2.2.2.1.2.2.symm | exact hP.2.2.2.2.1.2 | exact hP.2.2.2.2.1.2.symm | exact hP.2.2.2.2.2.1.1 | exact hP.2.2.2.2.2.1.1.symm | exact hP.2.2.2.2.2.1.2.1 | exact hP.2.2.2.2.2.1.2.1.symm | exact hP.2.2.2.2.2.1.2.2 | exact hP.2.2.2.2.2.1.2.2.symm | exact hP.2.2.2.2.2.1.2 | exact hP.2.2.2.2.2.1.2.symm | exact hP.2.2.2.2.2.2.1.1 | exact hP.2.2.2.2.2.2.1.1.symm | exact hP.2.2.2.2.2.2.1.2.1 | exact hP.2.2.2.2.2.2.1.2.1.symm | exact hP.2.2.2.2.2.2.1.2.2 | exact hP.2.2.2.2.2.2.1.2.2.symm | exact hP.2.2.2.2.2.2.1.2 | exact hP.2.2.2.2.2.2.1.2.symm) | clear hP))); done) | omega (config := { splitDisjunctions := false }) | (rename (_ < 0 + ((Int.toNat _ : Nat) : Int)) => hQ; simp only [Int.reduceSub, Int.reduceToNat, Int.zero_add] at hQ; omega (config := { splitDisjunctions := false })) | ((repeat (first | (rename ((_ ≠ _ ∧ _) ∧ _) => hNe; clear hNe) | (rename (_ ≠ _ ∧ _) => hNe; clear hNe) | (rename (_ ≠ _) => hNe; clear hNe) | (rename (_ ∨ _) => hNe; clear hNe))); omega (config := { splitDisjunctions := true })) | ((repeat (first | (rename ((_ ≠ _ ∧ _) ∧ _) => hNe; clear hNe) | (rename (_ ≠ _ ∧ _) => hNe; clear hNe) | (rename (_ ≠ _) => hNe; clear hNe))); omega (config := { splitDisjunctions := true })) | omega (config := { splitDisjunctions := true }))
  exact trivial
local macro_rules | `(tactic| omega) => `(tactic| k_extra "om")
section
set_option maxHeartbeats 0
noncomputable abbrev Ar (dp un : Nat) (fr : Option (List Env)) (gd : Option (List Code)) : Around := ⟨none, dp, fr, gd, un⟩
section
variable {w : World} {dp un : Nat} {fr : Option (List Env)} {gd : Option (List Code)} {s : Shared} {mg mb : Str → Option Value} {lo : List Str}
/-- a call of a plain def of the text, from a heap that is kept whole -/
theorem enter {R : Result → Shared → Prop} {f : Addr} {oc dV kV doc pm cdv ct : Value} {od an : Option Addr} {osl : Array (Option Value)} {name qual : Str} {params : Arguments} {body : List Stmt} {kd : ScopeKind} {names : List (Str × NameKind)} {g c : Bool} {more : List (Str × Const)}
    {args : Args} {binds : List (Str × Value)}
    (X : (K w.params).In s.heap) (T : TopRead q lo mg mb s.heap) (hd : dp < 900)
    (ho : (K w.params).lookup f = some ⟨oc, od, .func ⟨name, qual, params, .stmts body, ⟨kd, names, g, c, more⟩, mainGlobals, [], dV, kV, doc, pm, an, cdv, ct, builtinsNs⟩, osl⟩)
    (hcd : codeIn (K w.params) cdv qual = true)
    (hbind : BindsTo s ⟨name, qual, params, .stmts body, ⟨kd, names, g, c, more⟩, mainGlobals, [], dV, kV, doc, pm, an, cdv, ct, builtinsNs⟩ args binds)
    (hcell : ∀ x ∈ names, x.2 ≠ .cell) (hloc : (binds.all fun x => decide (names.lookup x.1 = some .local)) = true)
    (h : ∀ L h₁ tk, Fr s.heap L h₁ (fun y => binds.reverse.lookup y) → News s.heap L h₁ [] →
      wpAny (model pw w) ((Ar dp un fr gd).deeper (envOf qual ⟨kd, names, g, c, more⟩ L f cdv)) (execs body (envOf qual ⟨kd, names, g, c, more⟩ L f cdv))
        (fun fl s' => R (.ok (.ret (match fl with | .ret v => v | _ => .none))) s') (fun _ _ => False) { s with heap := h₁, toks := tk })
    (hco : c = false := by rfl) (hgen : g = false := by rfl) (hk : kd = .function := by rfl) : codeAny (model pw w) (Ar dp un fr gd) (.call (.ref f) args) R s := by
  subst hco hgen hk
  refine codeAny_call_def (fd := ⟨name, qual, params, .stmts body, ⟨.function, names, false, false, more⟩, mainGlobals, [], dV, kV, doc, pm, an, cdv, ct, builtinsNs⟩) (body := body) (binds := binds) (by show dp < 1000; omega) (X _ _ ho) rfl T.nolimit (codeRec_of X hcd) rfl hbind hcell (fun x hx => of_decide_eq_true (List.all_eq_true.mp hloc x hx)) (fun h₁ hns hk₁ => ?_) rfl rfl rfl
  refine wpAny_mono (h _ h₁ _ ⟨hns, hk₁, Nat.le_refl _⟩ News.nil) (fun fl s' hl => hl) fun _ _ x => x.elim
end
end
theorem rs1 : True ∧ True := by
  w_top off
  first | (walk1; fail) | exact ⟨trivial, trivial⟩
section
local macro_rules | `(tactic| k_steps) => `(tactic| k_extra "y1")
local macro_rules | `(tactic| k_room) => `(tactic| k_extra "y2")
section
set_option maxHeartbeats 400000
theorem fill : K = K ∧ r0 = r0 := by
  k_fill
  exact ⟨rfl, rfl⟩
noncomputable abbrev Kp (h h' : Heap) : Prop := ∀ b o, h.get? b = some o → h'.get? b = some o
noncomputable def cell (ns : List Int) (k : Nat) : Int := if k < ns.length then ((ns.getD k 0).natAbs : Int) else 7 * k + 3
section
variable {w : World} {dp un : Nat} {fr : Option (List Env)} {gd : Option (List Code)} {s : Shared} {mg mb : Str → Option Value} {lo : List Str}
theorem cell_spec {R : Result → Shared → Prop} {l : Addr} {vs : List Value} {ns : List Int} {k : Nat} {t0 : Tok} (X : (K w.params).In s.heap) (T : TopRead q lo mg mb s.heap) (hd : dp < 900)
    (hl : s.heap.IsList l vs.toArray) (hi : IntsAre vs ns) (hn : ns.length ≤ 63) (hk : k ≤ 1000)
    (hR : ∀ h' tk t, Kp s.heap h' → R (.ok (.ret (.int (cell ns k) t))) { s with heap := h', toks := tk }) :
    codeAny (model pw w) (Ar dp un fr gd) (.call (.ref 450) ⟨[.ref l, .int k t0], []⟩) R s := by
  refine enter (binds := [("script", .ref l), ("k", .int k t0)]) X T hd rfl (by kernel_rfl) (BindsTo.of_eq rfl) (by decide) rfl ?_
  intro L h₁ tk F N
  k_steps
  · rename_i hlt _ _ _ _
    have e : (if ns.getD (k : Int).toNat 0 < 0 then -ns.getD (k : Int).toNat 0 else ns.getD (k : Int).toNat 0) = cell ns k := by
      have hk' : k < ns.length := by omega
      simp only [cell, if_pos hk', Int.toNat_natCast]
      split <;> omega
    rw [e]
    exact hR _ _ _ F.keep
  · rename_i hlt _
    have e : (7 * (k : Int) + 3) = cell ns k := by
      have hk' : ¬ k < ns.length := by omega
      simp only [cell, if_neg hk']
    dsimp only
    rw [e]
    exact hR _ _ _ F.keep
end
end
theorem rs2 : True ∧ True := by
  w_top off
  first | (walk1; fail) | exact ⟨trivial, trivial⟩
section
set_option maxHeartbeats 2000000
theorem frKp {h₀ h h' : Heap} {L : Addr} {m : Str → Option Value} (F : Fr h₀ L h m) (k : Kp h h') : Fr h₀ L h' m := ⟨F.ns.keeps k, fun b o e => k _ _ (F.keep b o e), F.above⟩
theorem newsKp {h₀ h h' : Heap} {L : Addr} {news : List (Addr × Obj)} (N : News h₀ L h news) (k : Kp h h') : News h₀ L h' news := fun p hp => ⟨k _ _ (N p hp).1, (N p hp).2⟩
section
variable {w : World} {dp un : Nat} {fr : Option (List Env)} {gd : Option (List Code)} {s : Shared} {mg mb : Str → Option Value} {lo : List Str} {h₀ : Heap} {L : Addr} {m : Str → Option Value} {news : List (Addr × Obj)}
theorem cell_call {Q : Value → Shared → Prop} {E : Value → Shared → Prop} {l : Addr} {vs : List Value} {ns : List Int} {i : Int} {t0 : Tok} 
    (F : Fr h₀ L s.heap m) (N : News h₀ L s.heap news) (X : (K w.params).In h₀) (T : TopRead q lo mg mb h₀) (hd : dp < 900)
    (hl : h₀.IsList l vs.toArray) (hi : IntsAre vs ns) (hn : ns.length ≤ 63) (h0 : 0 ≤ i) (hk : i ≤ 1000)
    (h : ∀ h' tk t, Fr h₀ L h' m → News h₀ L h' news → Q (.int (cell ns i.toNat) t) { s with heap := h', toks := tk }) :
    wpAny (model pw w) (Ar dp un fr gd) (call (.ref 450) [.ref l, .int i t0]) Q E s := by
  obtain ⟨k, rfl⟩ := Int.eq_ofNat_of_zero_le h0
  refine wpAny_call (cell_spec (X.keeps F.keep) (T.keeps F.keep) hd (hl.at fun o e => F.keep _ _ e) hi hn (by omega) fun h' tk t kp => ?_)
  exact h h' tk t (frKp F kp) (newsKp N kp)
noncomputable def rowNum (ns : List Int) (st : Nat) : Nat → Int
  | 0 => 1 + cell ns st
  | k + 1 => ((if k < 8 then rowNum ns st k + cell ns (st + k) else rowNum ns st k) * 1103515245 + 12345 + k) % 2147483648
noncomputable def rowAt (ns : List Int) (st k : Nat) : Int := rowNum ns st (k + 1) / 4096 % 256
noncomputable def row (ns : List Int) (st n : Nat) : List Int := (List.range n).map (rowAt ns st)
end
end
theorem rs3 : True ∧ True := by
  w_top off
  first | (walk1; fail) | exact ⟨trivial, trivial⟩
section
local macro_rules | `(tactic| walk_at "call ref") => `(tactic| k_extra "y3")
noncomputable def rowL (ns : List Int) (st n : Nat) : List Int := (List.foldl
          (fun (p : Int × List Int) (k : Int) =>
            (if k < 8 then ((p.fst + cell ns (↑st + k).toNat) * 1103515245 + 12345 + k).fmod 2147483648
              else (p.fst * 1103515245 + 12345 + k).fmod 2147483648,
              if k < 8 then
                p.snd ++
                  [((((p.fst + cell ns (↑st + k).toNat) * 1103515245 + 12345 + k).fmod 2147483648).fdiv 4096).fmod 256]
              else p.snd ++ [(((p.fst * 1103515245 + 12345 + k).fmod 2147483648).fdiv 4096).fmod 256]))
          (1 + cell ns st, []) (rangeKs 0 n)).snd
section
variable {w : World} {dp un : Nat} {fr : Option (List Env)} {gd : Option (List Code)} {s : Shared} {mg mb : Str → Option Value} {lo : List Str}
theorem row_spec {R : Result → Shared → Prop} {l : Addr} {vs : List Value} {ns : List Int} {st n : Nat} {t0 t1 : Tok} (X : (K w.params).In s.heap) (T : TopRead q lo mg mb s.heap) (hd : dp < 800)
    (hl : s.heap.IsList l vs.toArray) (hi : IntsAre vs ns) (hn : ns.length ≤ 63) (hk : st ≤ 100) (hz : n ≤ 200)
    (hR : ∀ h' tk D ep vs', Kp s.heap h' → s.heap.get? D = none → h'.get? D = some (listOf vs'.toArray ep) → IntsAre vs' (rowL ns st n) → R (.ok (.ret (.ref D))) { s with heap := h', toks := tk }) :
    codeAny (model pw w) (Ar dp un fr gd) (.call (.ref 457) ⟨[.ref l, .int st t0, .int n t1], []⟩) R s := by
  refine enter (binds := [("script", .ref l), ("start", .int st t0), ("size", .int n t1)]) X T (by omega) rfl (by kernel_rfl) (BindsTo.of_eq rfl) (by decide) rfl ?_
  intro L h₁ tk F N
  k_steps
  (rename IntsAre _ _ => hI); (rename Fr _ _ _ _ => F1); (rename News _ _ _ _ => N1)
  dsimp only
  have e : ((n : Int) - 0).toNat = n := by omega
  rw [e, Int.toNat_natCast] at hI
  obtain ⟨g1, g2, g3⟩ := N1 _ (.head _)
  exact hR _ _ _ _ _ F1.keep g3 g1 hI
end
end
theorem rs4 : True ∧ True := by
  w_top off
  first | (walk1; fail) | exact ⟨trivial, trivial⟩
section
section
variable {w : World} {dp un : Nat} {fr : Option (List Env)} {gd : Option (List Code)} {s : Shared} {mg mb : Str → Option Value} {lo : List Str}
theorem enterC {R : Result → Shared → Prop} {f : Addr} {oc dV kV doc pm cdv ct : Value} {od an : Option Addr} {osl : Array (Option Value)} {name qual : Str} {params : Arguments} {body : List Stmt} {kd : ScopeKind} {names : List (Str × NameKind)} {g c : Bool} {more : List (Str × Const)}
    {args : Args} {binds : List (Str × Value)}
    (X : (K w.params).In s.heap) (T : TopRead q lo mg mb s.heap) (hd : dp < 900)
    (ho : (K w.params).lookup f = some ⟨oc, od, .func ⟨name, qual, params, .stmts body, ⟨kd, names, g, c, more⟩, mainGlobals, [], dV, kV, doc, pm, an, cdv, ct, builtinsNs⟩, osl⟩)
    (hcd : codeIn (K w.params) cdv qual = true)
    (hbind : BindsTo s ⟨name, qual, params, .stmts body, ⟨kd, names, g, c, more⟩, mainGlobals, [], dV, kV, doc, pm, an, cdv, ct, builtinsNs⟩ args binds)
    (hkind : (binds.all fun y => names.lookup y.1 == some .local || names.lookup y.1 == some .cell) = true)
    (hnd : ((cellsFrom 0 names []).map (·.1)).Nodup)
    (h : ∀ L h₁ tk cells, Fr s.heap L h₁ (bindL (envOfC qual ⟨kd, names, g, c, more⟩ L f cdv).kindOf binds fun _ => none) → News s.heap L h₁ cells →
      CellsAre (bindC (envOfC qual ⟨kd, names, g, c, more⟩ L f cdv).kindOf binds fun _ => none) (cellsFrom (L + 1) names []) cells →
      wpAny (model pw w) ((Ar dp un fr gd).deeper (envOfC qual ⟨kd, names, g, c, more⟩ L f cdv)) (execs body (envOfC qual ⟨kd, names, g, c, more⟩ L f cdv))
        (fun fl s' => R (.ok (.ret (match fl with | .ret v => v | _ => .none))) s') (fun _ _ => False) { s with heap := h₁, toks := tk })
    (hco : c = false := by rfl) (hgen : g = false := by rfl) (hk : kd = .function := by rfl) : codeAny (model pw w) (Ar dp un fr gd) (.call (.ref f) args) R s := by
  subst hco hgen hk
  refine codeAny_call_function (by show dp < 1000; omega) (X _ _ ho) rfl rfl rfl rfl (codeRec_of X hcd) (hbind _ _ _ _ ?_)
  refine wpAny_newFunctionEnv_cells rfl (kindsX hkind _) fun env' he s' x => ?_
  subst he
  refine ⟨T.nolimit.keeps x.toInCall.keep, codeAny_func ?_⟩
  refine Classical.byContradiction fun hng => ?_
  obtain ⟨h₁, tk, rfl, _⟩ := x.done
  refine hng ?_
  clear hng
  obtain ⟨cells, NC, Y⟩ := Cl.news (h₀ := s.heap) (Nat.le_refl _) fun n c hm => ⟨x.cell n c (lookup_of_mem_nodup (cellsFrom_names names 0 (s.heap.objs.size + 1) [] [] rfl ▸ hnd) hm), x.above n c hm⟩
  refine wpAny_mono (h s.heap.objs.size h₁ tk cells ⟨x.toInCall.ns, x.toInCall.keep, Nat.le_refl _⟩ NC Y) (fun fl s' hl => hl) fun _ _ x => x.elim
end
end
theorem rs5 : True ∧ True := by
  w_top off
  first | (walk1; fail) | exact ⟨trivial, trivial⟩
section
section
variable {prog : Program} {w : World} {A : Around} {E : Value → Shared → Prop} {s : Shared} {env : Env} {h₀ : Heap} {x : Str} {body : List Stmt} {Q : Flow → Shared → Prop}
/-- what a turn of a loop leaves behind -/
noncomputable def TurnEnd (h₀ : Heap) (L : Addr) (Jn : (Str → Option Value) → List (Addr × Obj) → Prop) (I : Addr) (io : Obj) (s : Shared) (Q : Flow → Shared → Prop) (f : Flow) (s₂ : Shared) : Prop := match f with
  | .ret v => Q (.ret v) s₂
  | .brk => Q .next s₂
  | _ => ∃ h' tk' m' nx, s₂ = { s with heap := h', toks := tk' } ∧ Fr h₀ L h' m' ∧ News h₀ L h' (nx ++ [(I, io)]) ∧ (∀ p ∈ nx, p.1 ≠ I) ∧ Jn m' nx
theorem TurnEnd.intro {L I : Addr} {Jn : (Str → Option Value) → List (Addr × Obj) → Prop} {io : Obj} {h' : Heap} {tk' : Nat} {m' : Str → Option Value} {news nx : List (Addr × Obj)} (F : Fr h₀ L h' m') (N : News h₀ L h' news) (hs : ∀ p ∈ nx ++ [(I, io)], p ∈ news) (hI : ∀ p ∈ nx, p.1 ≠ I) (hJ : Jn m' nx) :
    TurnEnd h₀ L Jn I io s Q .next { s with heap := h', toks := tk' } := ⟨h', tk', m', nx, rfl, F, fun p hp => N p (hs p hp), hI, hJ⟩
theorem walk_J {I : Addr} {n : Nat} {P : Nat → Value → Prop} {St : Nat → Heap → Prop} {m₀ : Str → Option Value} {news : List (Addr × Obj)} (J : Nat → (Str → Option Value) → List (Addr × Obj) → Prop)
    (W : Walks prog w A I [I] [I] n P St) (hL : env.locals ≠ I) (hI : h₀.get? I = none) (hnw : ∀ p ∈ news, p.1 ≠ I) (hlive : ∀ i h, St i h → ∃ o, h.get? I = some o) (hst : St 0 s.heap) (F : Fr h₀ env.locals s.heap m₀) (N : News h₀ env.locals s.heap news) (h0 : J 0 m₀ news)
    (turn : ∀ i v m₁ nx h tk io, i < n → P i v → J i m₁ nx → (∀ p ∈ nx, p.1 ≠ I) → Fr h₀ env.locals h (fun y => if y = x then some v else m₁ y) → News h₀ env.locals h (nx ++ [(I, io)]) →
      wpAny (model prog w) A (execs body env) (TurnEnd h₀ env.locals (J (i + 1)) I io s Q) E { s with heap := h, toks := tk })
    (done : ∀ m' nx h' tk, J n m' nx → Fr h₀ env.locals h' m' → News h₀ env.locals h' nx → Q .next { s with heap := h', toks := tk }) :
    LoopAtV prog w A h₀ env x body Q E (.ref I) s := by
  refine ⟨I, [I], [I], n, P, St, m₀, news, J, rfl, W, by simpa using hL, (fun b hb => by rw [List.mem_singleton.mp hb]; exact hI), (fun p hp hb => hnw p hp (List.mem_singleton.mp hb)), hst, F, N, h0, ?_, ?_⟩
  · rintro i v m₁ nx s₁ own ⟨h, tk, rfl⟩ hin hP hJ hoff hown hget hall hst₁ F₁ N₁
    obtain ⟨io, hio⟩ := hlive _ _ hst₁
    have hm : (I, io) ∈ own := hall I (.head _) hI io hio
    have N₂ : News h₀ env.locals h (nx ++ [(I, io)]) := fun p hp => by
      rcases List.mem_append.mp hp with hp | hp
      · exact N₁ p (List.mem_append.mpr (.inr hp))
      · rw [List.mem_singleton.mp hp]; exact N₁ _ (List.mem_append.mpr (.inl hm))
    have ho : ∀ p ∈ own, p = (I, io) := fun p hp => by
      have e : p.1 = I := by simpa using hown p hp
      have g := hget p hp
      rw [e] at g
      have g' : (some p.2 : Option Obj) = some io := g.symm.trans hio
      obtain ⟨a, o⟩ := p
      cases g'
      cases e
      rfl
    refine wpAny_mono (turn i v m₁ nx h tk io hin hP hJ (fun p hp e => hoff p hp (by rw [e]; exact .head _)) F₁ N₂) (fun f s₂ p => ?_) fun _ _ e => e
    have up : (∃ h' tk' m' nx', s₂ = { s with heap := h', toks := tk' } ∧ Fr h₀ env.locals h' m' ∧ News h₀ env.locals h' (nx' ++ [(I, io)]) ∧ (∀ p ∈ nx', p.1 ≠ I) ∧ J (i + 1) m' nx') → LoopStepU h₀ env.locals [I] own (J (i + 1)) { s with heap := h, toks := tk } .next s₂ := by
      intro hJz
      refine Classical.byContradiction fun hng => ?_
      obtain ⟨h', tk', m', nx', rfl, F', N', hI', hJ'⟩ := hJz
      refine hng ?_
      clear hng
      refine ⟨rfl, h', tk', m', nx', rfl, F', fun p hp => ?_, fun p hp hb => hI' p hp (List.mem_singleton.mp hb), hJ'⟩
      rcases List.mem_append.mp hp with hp | hp
      · rw [ho p hp]; exact N' _ (List.mem_append.mpr (.inr (.head _)))
      · exact N' p (List.mem_append.mpr (.inl hp))
    cases f with
    | ret v => exact p
    | brk => exact p
    | next => exact up p
    | cont => exact up p
  · intro h' tk m' nx F' N' _ hJ
    exact done m' nx h' tk hJ F' N'
theorem range_J {r : Addr} {a₀ b₀ : Int} {t₀ u₀ v₀ : Tok} {n : Nat} {m₀ : Str → Option Value} {news : List (Addr × Obj)} (J : Nat → (Str → Option Value) → List (Addr × Obj) → Prop)
    (hh : A.handled = none) (hr : IsRange s.heap r a₀ b₀ 1 t₀ u₀ v₀) (hsmall : Builtin.Range.small a₀ b₀ 1 = true) (hn : Builtin.Range.rangeSize a₀ b₀ 1 = (n : Int)) (F : Fr h₀ env.locals s.heap m₀) (N : News h₀ env.locals s.heap news) (h0 : J 0 m₀ news)
    (turn : ∀ i t m₁ nx h tk I io, i < n → J i m₁ nx → (∀ p ∈ nx, p.1 ≠ I) → Fr h₀ env.locals h (fun y => if y = x then some (.int (a₀ + (i : Int)) t) else m₁ y) → News h₀ env.locals h (nx ++ [(I, io)]) →
      wpAny (model prog w) A (execs body env) (TurnEnd h₀ env.locals (J (i + 1)) I io s Q) E { s with heap := h, toks := tk })
    (done : ∀ m' nx h' tk, J n m' nx → Fr h₀ env.locals h' m' → News h₀ env.locals h' nx → Q .next { s with heap := h', toks := tk }) :
    wpAny (model prog w) A (pyIter (.ref r)) (fun it s₂ => LoopAtV prog w A h₀ env x body Q E it s₂) E s := by
  refine wpAny_pyIter_range hr hsmall ?_
  have W : Walks prog w A s.heap.objs.size [s.heap.objs.size] [s.heap.objs.size] n (fun i v => i < n ∧ ∃ t, v = .int (a₀ + i * 1) t)
      (fun i h => IsRangeIter h s.heap.objs.size (a₀ + (i : Nat) * 1) ((n : Int) - (i : Nat)) 1) := (Walks.range hh _ a₀ 1 n).bound
  refine walk_J (Q := Q) J W (Nat.ne_of_lt F.ns.lt) ?_ (fun p hp => Nat.ne_of_lt (Heap.lt_size (N p hp).1)) ?_ (by show IsRangeIter _ _ _ _ _; rw [hn]; simpa using Heap.get?_push_size _ rfl) (F.push _) (fun p hp => ⟨Heap.get?_push_of_some _ (N p hp).1, (N p hp).2⟩) h0 ?_ ?_
  · cases e : h₀.get? s.heap.objs.size with
    | none => rfl
    | some o => exact absurd (Heap.lt_size (F.keep _ _ e)) (Nat.lt_irrefl _)
  · intro i h hst
    exact ⟨_, hst⟩
  · rintro i v m₁ nx h tk io hi ⟨_, t, rfl⟩ hJ hI F₁ N₁
    have e1 : a₀ + (i : Int) * 1 = a₀ + (i : Int) := by omega
    rw [e1] at F₁
    exact turn i t m₁ nx h tk _ io hi hJ hI F₁ N₁
  · intro m' nx h' tk hJ F' N'
    exact done m' nx h' tk hJ F' N'
end
end
theorem rs6 : True ∧ True := by
  w_top off
  first | (walk1; fail) | exact ⟨trivial, trivial⟩
section
theorem ite_bne_eq {x c : Int} {P R : Prop} (h : x = c) (q : R) : if (x != c) = true then P else R := by
  subst h
  simpa using q
theorem ite_bne_ne {x c : Int} {P R : Prop} (h : x ≠ c) (q : P) : if (x != c) = true then P else R := by
  simpa [h] using q
theorem tb_ints : ∀ (t : Nat) (l : List Int), IntsAre (tb t l) l
  | _, [] => .nil
  | t, n :: r => .cons n t (tb_ints (t + 1) r)
theorem ints_app {a b : List Value} {x y : List Int} (h : IntsAre a x) (k : IntsAre b y) : IntsAre (a ++ b) (x ++ y) := by
  induction h with
  | nil => exact k
  | cons i t _ ih => exact .cons i t ih
/-- a table of ints in the written part -/
noncomputable def IsTab (P : Params) (a : Addr) (ns : List Int) : Prop := ∃ vs n, (K P).lookup a = some (listOf vs.toArray n) ∧ IntsAre vs ns
noncomputable def tabS : List Int := X0 ++ X1
noncomputable def tabT1 : List Int := X4 ++ X5
noncomputable def tabT2 : List Int := X6 ++ X7
noncomputable def tabT3 : List Int := X8 ++ X9
noncomputable def tabT4 : List Int := X10 ++ X11
noncomputable def tabU1 : List Int := X20 ++ X21
noncomputable def tabU2 : List Int := X22 ++ X23
noncomputable def tabU3 : List Int := X24 ++ X25
noncomputable def tabU4 : List Int := X26 ++ X27
theorem is59 (P : Params) : IsTab P 59 tabS := ⟨_, _, rfl, ints_app (tb_ints _ _) (tb_ints _ _)⟩
theorem is65 (P : Params) : IsTab P 65 tabT1 := ⟨_, _, rfl, ints_app (tb_ints _ _) (tb_ints _ _)⟩
theorem is68 (P : Params) : IsTab P 68 tabT2 := ⟨_, _, rfl, ints_app (tb_ints _ _) (tb_ints _ _)⟩
theorem is71 (P : Params) : IsTab P 71 tabT3 := ⟨_, _, rfl, ints_app (tb_ints _ _) (tb_ints _ _)⟩
theorem is74 (P : Params) : IsTab P 74 tabT4 := ⟨_, _, rfl, ints_app (tb_ints _ _) (tb_ints _ _)⟩
theorem is89 (P : Params) : IsTab P 89 tabU1 := ⟨_, _, rfl, ints_app (tb_ints _ _) (tb_ints _ _)⟩
theorem is92 (P : Params) : IsTab P 92 tabU2 := ⟨_, _, rfl, ints_app (tb_ints _ _) (tb_ints _ _)⟩
theorem is95 (P : Params) : IsTab P 95 tabU3 := ⟨_, _, rfl, ints_app (tb_ints _ _) (tb_ints _ _)⟩
theorem is98 (P : Params) : IsTab P 98 tabU4 := ⟨_, _, rfl, ints_app (tb_ints _ _) (tb_ints _ _)⟩
section
variable {w : World} {A : Around} {E : Value → Shared → Prop} {s : Shared} {h₀ : Heap} {L : Addr} {m : Str → Option Value}
theorem and255 (x : Int) : 0 ≤ Builtin.bitAnd x 255 ∧ Builtin.bitAnd x 255 ≤ 255 := bitAnd_range x (by decide)
theorem tab_item {value slice : PySem.Expr} {a : Addr} {ns : List Int} {k : Int} {u : Tok} {Q : Value → Shared → Prop} (F : Fr h₀ L s.heap m) (X : (K w.params).In h₀) (ht : IsTab w.params a ns) (hl : ns.length = 256)
    (h : ∀ t, Q (.int (ns.getD (Builtin.bitAnd k 255).toNat 0) t) s)
    (hs : subscripted slice false (.ref a) (.int (Builtin.bitAnd k 255) u) = operate [.ref a, .int (Builtin.bitAnd k 255) u] (getItem (.ref a) (.int (Builtin.bitAnd k 255) u)) := by with_unfolding_all rfl) :
    wpAny (model pw w) A (subscriptTail value slice (.ref a) (.int (Builtin.bitAnd k 255) u)) Q E s := by
  refine Classical.byContradiction fun hng => ?_
  obtain ⟨vs, n, e, hi⟩ := ht
  refine hng ?_
  clear hng
  have b := and255 k
  exact item_anyK (IsL.isList (n := n) ((X.keeps F.keep) _ _ e)) hi b.1 (by omega) (by omega) h hs
/-- a row out of a list of rows, both told of the ground -/
noncomputable def RowsAt (h : Heap) (a : Addr) (ke : List (List Int)) : Prop := ∃ rs : List Addr, h.IsList a (rs.map Value.ref).toArray ∧ rs.length = ke.length ∧ ∀ i, i < ke.length → ∃ vs, h.IsList (rs.getD i 0) vs.toArray ∧ IntsAre vs (ke.getD i []) ∧ (ke.getD i []).length = 4
theorem row_item {value slice : PySem.Expr} {a : Addr} {ke : List (List Int)} {k : Int} {u : Tok} {Q : Value → Shared → Prop} (F : Fr h₀ L s.heap m) (hr : RowsAt h₀ a ke) (h0 : 0 ≤ k) (h1 : k < ke.length) (hfit : k < 2 ^ 63)
    (h : ∀ r vs, h₀.IsList r vs.toArray → IntsAre vs (ke.getD k.toNat []) → (ke.getD k.toNat []).length = 4 → Q (.ref r) s)
    (hs : subscripted slice false (.ref a) (.int k u) = operate [.ref a, .int k u] (getItem (.ref a) (.int k u)) := by with_unfolding_all rfl) :
    wpAny (model pw w) A (subscriptTail value slice (.ref a) (.int k u)) Q E s := by
  refine Classical.byContradiction fun hng => ?_
  obtain ⟨rs, hl, hn, hi⟩ := hr
  refine hng ?_
  clear hng
  refine Classical.byContradiction fun hng => ?_
  obtain ⟨vs, h2, h3, h4⟩ := hi k.toNat (by omega)
  refine hng ?_
  clear hng
  have hs' : s.heap.IsList a (rs.map Value.ref).toArray := hl.at fun o e => F.keep _ _ e
  refine tail_any hs'.typeIs slot_list_getitem.lookup (wpAny_getItem_list (x := .ref (rs.getD k.toNat 0)) hs' h0 hfit ?_ (h _ vs h2 h3 h4)) hs
  have hk : k.toNat < rs.length := by omega
  simp [List.getD, hk]
theorem len_rows {a : Addr} {ke : List (List Int)} {Q : Value → Shared → Prop} (F : Fr h₀ L s.heap m) (hr : RowsAt h₀ a ke) (hz : ke.length ≤ 100) (h : ∀ t k, Q (.int ke.length t) { s with toks := k }) : wpAny (model pw w) A (call (.builtin "len") [.ref a]) Q E s := by
  refine Classical.byContradiction fun hng => ?_
  obtain ⟨rs, hl, hn, _⟩ := hr
  refine hng ?_
  clear hng
  have e : (rs.map Value.ref).toArray.size = ke.length := by simp [hn]
  refine Calls.call_len_list (hl.at fun o e => F.keep _ _ e) (by omega) ?_
  rw [e]
  exact h _ _
theorem base_item {value slice : PySem.Expr} {l : Addr} {vs : List Value} {ns : List Int} {k : Int} {u : Tok} {Q : Value → Shared → Prop} (F : Fr h₀ L s.heap m) (hl : h₀.IsList l vs.toArray) (hi : IntsAre vs ns) (h0 : 0 ≤ k) (h1 : k < ns.length) (hfit : k < 2 ^ 63)
    (h : ∀ t, Q (.int (ns.getD k.toNat 0) t) s)
    (hs : subscripted slice false (.ref l) (.int k u) = operate [.ref l, .int k u] (getItem (.ref l) (.int k u)) := by with_unfolding_all rfl) :
    wpAny (model pw w) A (subscriptTail value slice (.ref l) (.int k u)) Q E s := item_anyK (hl.at fun o e => F.keep _ _ e) hi h0 h1 hfit h hs
section
variable {h : Heap} {g : Array GenState} {d : Drawn} {k : Nat} {os : OsState} {a b n : Int} {t u : Tok} {Q : Value → Shared → Prop}
theorem xorF (q : Q (.int (Builtin.bitXor a b) k) ⟨h, g, d, k + 1, os⟩) : wpAny (model pw w) A (binaryOp .BitXor (.int a t) (.int b u)) Q E ⟨h, g, d, k, os⟩ := xor_int q
theorem orF (q : Q (.int (Builtin.bitOr a b) k) ⟨h, g, d, k + 1, os⟩) : wpAny (model pw w) A (binaryOp .BitOr (.int a t) (.int b u)) Q E ⟨h, g, d, k, os⟩ := or_int q
theorem andF (q : Q (.int (Builtin.bitAnd a b) k) ⟨h, g, d, k + 1, os⟩) : wpAny (model pw w) A (binaryOp .BitAnd (.int a t) (.int b u)) Q E ⟨h, g, d, k, os⟩ := and_int q
theorem shrF (hn : 0 ≤ n) (q : Q (.int (a.fdiv (2 ^ n.toNat)) k) ⟨h, g, d, k + 1, os⟩) : wpAny (model pw w) A (binaryOp .RShift (.int a t) (.int n u)) Q E ⟨h, g, d, k, os⟩ := rshift_int hn q
theorem shlF (hn : 0 ≤ n) (hn2 : n ≤ 1000000) (ha : a.natAbs < 2 ^ 64) (q : Q (.int (a * 2 ^ n.toNat) k) ⟨h, g, d, k + 1, os⟩) : wpAny (model pw w) A (binaryOp .LShift (.int a t) (.int n u)) Q E ⟨h, g, d, k, os⟩ := lshift_int_small hn hn2 ha q
theorem addF (q : Q (.int (a + b) k) ⟨h, g, d, k + 1, os⟩) : wpAny (model pw w) A (binaryOp .Add (.int a t) (.int b u)) Q E ⟨h, g, d, k, os⟩ := add_int q
end
theorem inst_base {h : Heap} {x d : Addr} {od : Obj} (F : Fr h₀ L h m) {C : Addr} (h1 : h₀.get? x = some (instObj C d)) (h2 : h₀.get? d = some od) : InstAt h x (instObj C d) C (some od) := ⟨F.keep _ _ h1, rfl, rfl, F.keep _ _ h2⟩
end
end
theorem rs7 : True ∧ True := by
  w_top off
  first | (walk1; fail) | exact ⟨trivial, trivial⟩
section
local macro_rules | `(tactic| walk_at "binaryOp BitXor int int") => `(tactic| k_extra "y4")
local macro_rules | `(tactic| walk_at "binaryOp BitOr int int") => `(tactic| k_extra "y5")
local macro_rules | `(tactic| walk_at "binaryOp BitAnd int int") => `(tactic| k_extra "y6")
local macro_rules | `(tactic| walk_at "binaryOp RShift int int") => `(tactic| k_extra "y7")
local macro_rules | `(tactic| walk_at "binaryOp LShift int int") => `(tactic| k_extra "y8")
local macro_rules | `(tactic| walk_at "binaryOp Add int int") => `(tactic| k_extra "y9")
local macro_rules | `(tactic| walk_at "ite") => `(tactic| k_extra "y10")
local macro_rules | `(tactic| walk_at "subscriptTail") => `(tactic| k_extra "y11")
section
local macro_rules | `(tactic| k_inst) => `(tactic| k_extra "y12")
section
variable {w : World} {dp un : Nat} {fr : Option (List Env)} {gd : Option (List Code)} {s : Shared} {mg mb : Str → Option Value} {lo : List Str}
noncomputable def Bytes (ns : List Int) : Prop := ∀ i : Nat, 0 ≤ ns.getD i 0 ∧ ns.getD i 0 < 256
/-- four bytes as one word -/
noncomputable def word (ns : List Int) : Int := Builtin.bitOr (Builtin.bitOr (Builtin.bitOr (ns.getD 0 0 * 2 ^ 24) (ns.getD 1 0 * 2 ^ 16)) (ns.getD 2 0 * 2 ^ 8)) (ns.getD 3 0)
theorem cw_list {R : Result → Shared → Prop} {l : Addr} {vs : List Value} {ns : List Int} (X : (K w.params).In s.heap) (T : TopRead q lo mg mb s.heap) (hd : dp < 900)
    (hl : s.heap.IsList l vs.toArray) (hi : IntsAre vs ns) (hn : ns.length = 4) (hb : Bytes ns)
    (hR : ∀ h' tk t, Kp s.heap h' → R (.ok (.ret (.int (word ns) t))) { s with heap := h', toks := tk }) :
    codeAny (model pw w) (Ar dp un fr gd) (.call (.ref 28) ⟨[.ref l], []⟩) R s := by
  refine enter (binds := [("word", .ref l)]) X T hd rfl (by kernel_rfl) (BindsTo.of_eq rfl) (by decide) rfl ?_
  intro L h₁ tk F N
  have b0 := hb (Int.toNat 0)
  have b1 := hb (Int.toNat 1)
  have b2 := hb (Int.toNat 2)
  have b3 := hb (Int.toNat 3)
  k_steps
  exact hR _ _ _ F.keep
theorem Bytes.of_mem {ns : List Int} (h : ∀ n ∈ ns, 0 ≤ n ∧ n < 256) : Bytes ns := fun i => by
  by_cases hi : i < ns.length
  · have e : ns.getD i 0 = ns[i] := by simp [List.getD, hi]
    rw [e]
    exact h _ (List.getElem_mem hi)
  · have e : ns.getD i 0 = 0 := by simp [List.getD, Nat.not_lt.mp hi]
    rw [e]
    exact ⟨by decide, by decide⟩
theorem Bytes.mem {ns : List Int} (h : Bytes ns) : ∀ n ∈ ns, 0 ≤ n ∧ n < 256 := fun n hn => by
  obtain ⟨i, hi, rfl⟩ := List.getElem_of_mem hn
  have e : ns.getD i 0 = ns[i] := by simp [List.getD, hi]
  rw [← e]
  exact h i
theorem Bytes.slice {ns : List Int} (h : Bytes ns) (a b : Nat) : Bytes (List.take a (List.drop b ns)) := Bytes.of_mem fun n hn => h.mem n (List.mem_of_mem_drop (List.mem_of_mem_take hn))
theorem InElt.step {a b c : Heap} (e : InElt a b) (k : Kp b c) : InElt a c := fun x o h => k x o (e x o h)
theorem cw_call {h₀ : Heap} {L : Addr} {m : Str → Option Value} {news : List (Addr × Obj)} {Q : Value → Shared → Prop} {E : Value → Shared → Prop} {l : Addr} {vs : List Value} {ns : List Int} {ep : Nat}
    (F : Fr h₀ L s.heap m) (N : News h₀ L s.heap news) (X : (K w.params).In h₀) (T : TopRead q lo mg mb h₀) (hd : dp < 900)
    (hm : (l, listOf vs.toArray ep) ∈ news) (hi : IntsAre vs ns) (hn : ns.length = 4) (hb : Bytes ns)
    (h : ∀ h' tk t, Fr h₀ L h' m → News h₀ L h' news → Kp s.heap h' → Q (.int (word ns) t) { s with heap := h', toks := tk }) :
    wpAny (model pw w) (Ar dp un fr gd) (call (.ref 28) [.ref l]) Q E s := by
  refine wpAny_call (cw_list (X.keeps F.keep) (T.keeps F.keep) hd (IsL.isList (n := ep) (N _ hm).1) hi hn hb fun h' tk t kp => ?_)
  exact h h' tk t (frKp F kp) (newsKp N kp) kp
end
theorem part16 {ns : List Int} {k : Int} (hn : ns.length = 16) (h0 : 0 ≤ k) (h1 : k < 0 + ((4 - 0 : Int).toNat : Int)) : (List.take (min (4 * k + 4).toNat ns.length - (4 * k).toNat) (List.drop (4 * k).toNat ns)).length = 4 := by
  have h2 : k < 4 := h1
  clear h1
  obtain ⟨j, rfl⟩ := Int.eq_ofNat_of_zero_le h0
  have e1 : (4 * (j : Int)).toNat = 4 * j := by omega
  have e2 : (4 * (j : Int) + 4).toNat = 4 * j + 4 := by omega
  rw [List.length_take, List.length_drop, hn, e1, e2]
  omega
theorem toNat_sub1 (a i : Nat) : ((a : Int) + (i : Int) - 1).toNat = a + i - 1 := by omega
theorem toNat_pred (n : Nat) : ((n : Int) - 1).toNat = n - 1 := by omega
end
theorem rs8 : True ∧ True := by
  w_top off
  first | (walk1; fail) | exact ⟨trivial, trivial⟩
section
local macro_rules | `(tactic| k_inst) => `(tactic| k_extra "y12")

local macro_rules | `(tactic| walk_at "subscriptTail") => `(tactic| k_extra "y58")
local macro_rules | `(tactic| walk_at "call builtin:len") => `(tactic| k_extra "y15")
local macro_rules | `(tactic| walk_at "call ref") => `(tactic| k_extra "y16")

theorem with_list {P : List Stmt → Prop} {l : List Stmt} {st : Stmt} {r : List Stmt} (h : l = st :: r) (k : P (st :: r)) : P l := h ▸ k
theorem with_scope {P : Scope → Prop} {sc : Scope} {k : ScopeKind} {n : List (Str × NameKind)} {g c : Bool} {m : List (Str × Const)} (h : sc = ⟨k, n, g, c, m⟩) (q : P ⟨k, n, g, c, m⟩) : P sc := h ▸ q
/-- a frame's map, made explicit where facts tell it -/
theorem frFacts {h₀ h : Heap} {L : Addr} {m : Str → Option Value} (ps : List (Str × Value)) (hm : ∀ p ∈ ps, m p.1 = some p.2) (F : Fr h₀ L h m) : Fr h₀ L h (kstB m ps) := by
  have e : kstB m ps = m := funext fun z => kstB_eq hm fun _ => rfl
  rw [e]
  exact F
theorem fnil {m : Str → Option Value} : ∀ p ∈ ([] : List (Str × Value)), m p.1 = some p.2 := fun _ h => nomatch h
theorem fcons {m : Str → Option Value} {k : Str} {v : Value} {ps : List (Str × Value)} (h : m k = some v) (r : ∀ p ∈ ps, m p.1 = some p.2) : ∀ p ∈ (k, v) :: ps, m p.1 = some p.2 := fun p hp => by
  rcases List.mem_cons.mp hp with rfl | hp
  · exact h
  · exact r p hp
noncomputable def encBody : List Stmt := stB (fB (M 7 17))
noncomputable def encScope : Scope := fS (M 7 17)
/-- the second object of the ledger of five is a list of ints: an item is set -/
theorem set_la {w : World} {A : Around} {E : Value → Shared → Prop} {s : Shared} {h₀ : Heap} {L D la c I J : Addr} {m : Str → Option Value} {oD oc oI oJ : Obj} {va : List Value} {as : List Int} {n : Nat} {k x : Int} {t u : Tok} {Q : Unit → Shared → Prop} (F : Fr h₀ L s.heap m) (N : News h₀ L s.heap [(D, oD), (la, listOf va.toArray n), (c, oc), (I, oI), (J, oJ)]) (hne : D ≠ la ∧ c ≠ la ∧ I ≠ la ∧ J ≠ la) (hi : IntsAre va as) (h0 : 0 ≤ k) (h1 : k < as.length) (h4 : as.length = 4)
    (h : ∀ h', Fr h₀ L h' m → News h₀ L h' [(D, oD), (la, listOf (va.set k.toNat (.int x u)).toArray n), (c, oc), (I, oI), (J, oJ)] → IntsAre (va.set k.toNat (.int x u)) (as.set k.toNat x) → (as.set k.toNat x).length = 4 → Q () { s with heap := h' }) :
    wpAny (model pw w) A (setItem (.ref la) (.int k t) (.int x u)) Q E s :=
  ksa_set F N (Upd.tail hne.1 (Upd.head (by
    intro p hp
    rcases List.mem_cons.mp hp with rfl | hp
    · exact hne.2.1
    rcases List.mem_cons.mp hp with rfl | hp
    · exact hne.2.2.1
    rcases List.mem_cons.mp hp with rfl | hp
    · exact hne.2.2.2
    nomatch hp))) hi h0 h1 (by omega) fun h' F' N' hi' hl' _ => h h' F' N' hi' (hl'.trans h4)
local macro_rules | `(tactic| walk_at "setItem ref int") => `(tactic| k_extra "y17")
section
variable {w : World} {dp un : Nat} {fr : Option (List Env)} {gd : Option (List Code)} {s : Shared} {mg mb : Str → Option Value} {lo : List Str}
/-- one column of a round -/
noncomputable def encCol (ts : List Int) (kr : List Int) (i : Nat) : Int :=
  Builtin.bitXor (Builtin.bitXor (Builtin.bitXor (Builtin.bitXor (tabT1.getD (Builtin.bitAnd ((ts.getD i 0).fdiv (2 ^ 24)) 255).toNat 0) (tabT2.getD (Builtin.bitAnd ((ts.getD ((i + 1) % 4) 0).fdiv (2 ^ 16)) 255).toNat 0)) (tabT3.getD (Builtin.bitAnd ((ts.getD ((i + 2) % 4) 0).fdiv (2 ^ 8)) 255).toNat 0)) (tabT4.getD (Builtin.bitAnd (ts.getD ((i + 3) % 4) 0) 255).toNat 0)) (kr.getD i 0)
noncomputable def encRound (ts : List Int) (kr : List Int) : List Int := [encCol ts kr 0, encCol ts kr 1, encCol ts kr 2, encCol ts kr 3]
theorem ints_eq {vs : List Value} {ns ns' : List Int} (h : IntsAre vs ns) (e : ns = ns') : IntsAre vs ns' := e ▸ h
theorem first4 {α : Type} {p d a c i e : α} (h : p ∈ [d, a, c, i]) : p ∈ [d, e, a, c, i] := by
  simp only [List.mem_cons, List.not_mem_nil, or_false] at h ⊢
  rcases h with h | h | h | h <;> simp [h]
theorem set4 {as : List Int} {x y z v : Int} (h : as.length = 4) : (((as.set 0 x).set 1 y).set 2 z).set 3 v = [x, y, z, v] := by
  match as, h with
  | [_, _, _, _], _ => rfl
theorem turn_fin {h₀ h' : Heap} {tk' : Nat} {L D la I D' : Addr} {io oc2 oD : Obj} {tr a1 a2 a3 : Tok} {ep' ea : Nat} {ke : List (List Int)} {ts as' : List Int} {m' : Str → Option Value} {ys' va' : List Value} {k : Int} {Q : Flow → Shared → Prop}
    (done : ∀ h' tk' m' D' ys' va' as' ep', Fr h₀ L h' m' → (∀ p ∈ [(Str.ofString "t", Value.ref D'), ("a", .ref la), ("s1", .int 1 a1), ("s2", .int 2 a2), ("s3", .int 3 a3), ("rounds", .int (ke.length - 1) tr)], m' p.1 = some p.2) →
      News h₀ L h' [(D', listOf ys'.toArray ep'), (la, listOf va'.toArray ea), (L + 1, oc2), (I, io)] → (D' ≠ la ∧ D' ≠ L + 1 ∧ D' ≠ I) → IntsAre ys' (encRound ts (ke.getD k.toNat [])) → IntsAre va' as' → as'.length = 4 → Q .next { s with heap := h', toks := tk' })
    (F : Fr h₀ L h' m')
    (N : News h₀ L h' [(D', listOf ys'.toArray ep'), (D, oD), (la, listOf va'.toArray ea), (L + 1, oc2), (I, io)])
    (f1 : m' "t" = some (.ref D') ∧ m' "a" = some (.ref la) ∧ m' "s1" = some (.int 1 a1) ∧ m' "s2" = some (.int 2 a2) ∧ m' "s3" = some (.int 3 a3) ∧ m' "rounds" = some (.int (ke.length - 1) tr))
    (hne : D' ≠ la ∧ D' ≠ L + 1 ∧ D' ≠ I) (i1 : IntsAre ys' (encRound ts (ke.getD k.toNat []))) (i2 : IntsAre va' as') (hl : as'.length = 4) : Q .next { s with heap := h', toks := tk' } := by
  refine done _ _ _ _ _ _ _ _ F (fun p hp => ?_) (fun p hp => N p (first4 hp)) hne i1 i2 hl
  simp only [List.mem_cons, List.not_mem_nil, or_false] at hp
  refine Classical.byContradiction fun hng => ?_
  obtain ⟨a, b, c, d, e, f⟩ := f1
  refine hng ?_
  clear hng
  rcases hp with rfl | rfl | rfl | rfl | rfl | rfl <;> assumption
theorem row_at {A : Around} {E : Value → Shared → Prop} {h₀ : Heap} {L r : Addr} {m : Str → Option Value} {value slice : PySem.Expr} {vs : List Value} {ns : List Int} {j : Int} {u : Tok} {Q : Value → Shared → Prop} (F : Fr h₀ L s.heap m) (hr : h₀.IsList r vs.toArray) (hi : IntsAre vs ns) (hl : ns.length = 4) (h0 : 0 ≤ j) (h4 : j < 4) (h : ∀ t, Q (.int (ns.getD j.toNat 0) t) s)
    (hs : subscripted slice false (.ref r) (.int j u) = operate [.ref r, .int j u] (getItem (.ref r) (.int j u)) := by with_unfolding_all rfl) :
    wpAny (model pw w) A (subscriptTail value slice (.ref r) (.int j u)) Q E s :=
  item_anyK (hr.at fun o e => F.keep _ _ e) hi h0 (by omega) (by omega) h hs
noncomputable def encColI (ts : List Int) (kr : List Int) (j : Int) : Int :=
  Builtin.bitXor (Builtin.bitXor (Builtin.bitXor (Builtin.bitXor (tabT1.getD (Builtin.bitAnd ((ts.getD j.toNat 0).fdiv (2 ^ 24)) 255).toNat 0) (tabT2.getD (Builtin.bitAnd ((ts.getD ((j + 1).fmod 4).toNat 0).fdiv (2 ^ 16)) 255).toNat 0)) (tabT3.getD (Builtin.bitAnd ((ts.getD ((j + 2).fmod 4).toNat 0).fdiv (2 ^ 8)) 255).toNat 0)) (tabT4.getD (Builtin.bitAnd (ts.getD ((j + 3).fmod 4).toNat 0) 255).toNat 0)) (kr.getD j.toNat 0)
noncomputable def encPart (ts kr as : List Int) : Nat → List Int
  | 0 => as
  | i + 1 => (encPart ts kr as i).set i (encCol ts kr i)
theorem encPart_len {ts kr as : List Int} : ∀ i, (encPart ts kr as i).length = as.length
  | 0 => rfl
  | i + 1 => by rw [encPart, List.length_set, encPart_len i]
theorem encColI_eq {ts kr : List Int} (i : Nat) : encColI ts kr (0 + (i : Int)) = encCol ts kr i := by
  have e0 : (0 + (i : Int)).toNat = i := by omega
  have e (c : Nat) : ((0 + (i : Int) + (c : Int)).fmod 4).toNat = (i + c) % 4 := by
    rw [Int.fmod_eq_emod_of_nonneg _ (by decide), Int.zero_add, ← Int.natCast_add, show (4 : Int) = ((4 : Nat) : Int) from rfl, ← Int.natCast_emod]
    rfl
  unfold encColI encCol
  rw [e0, show (0 + (i : Int) + 1) = 0 + (i : Int) + ((1 : Nat) : Int) from rfl, show (0 + (i : Int) + 2) = 0 + (i : Int) + ((2 : Nat) : Int) from rfl, show (0 + (i : Int) + 3) = 0 + (i : Int) + ((3 : Nat) : Int) from rfl, e, e, e]
noncomputable def encTurnB : List Stmt := match encBody with | _ :: _ :: _ :: _ :: _ :: .For _ _ b _ _ :: _ => b | _ => []
noncomputable def encInB : List Stmt := match encTurnB with | .For _ _ b _ _ :: _ => b | _ => []
theorem enc_inner {h₀ : Heap} {L x d a b D la I I2 : Addr} {io io2 oc2 : Obj} {h1 h2 : Int} {t1 t2 a1 a2 a3 ti tj : Tok} {n ep ea : Nat} {ke : List (List Int)} {m : Str → Option Value} {ys va : List Value} {ts as : List Int} {k j : Int} {Q : Flow → Shared → Prop}
    (X : (K w.params).In h₀) (T : TopRead q lo mg mb h₀) (hd : dp < 800)
    (hx : h₀.get? x = some (instObj 116 d)) (hxd : h₀.get? d = some (dictOf [⟨h1, .str "_Ke" t1, .ref a⟩, ⟨h2, .str "_Kd" t2, .ref b⟩] n)) (hke : RowsAt h₀ a ke) (hk1 : 2 ≤ ke.length) (hk2 : ke.length ≤ 20)
    (hk : 1 ≤ k) (hk3 : k < ke.length - 1) (hj0 : 0 ≤ j) (hj4 : j < 4) (hts : ts.length = 4) (has : as.length = 4) (hiy : IntsAre ys ts) (hia : IntsAre va as)
    (hc : oc2.data = .cell (some (.ref x)))
    (hne : D ≠ la ∧ L + 1 ≠ la ∧ I ≠ la ∧ I2 ≠ la)
    (F : Fr h₀ L s.heap (fun y => if y = "i" then some (.int j tj) else kstB m [("r", .int k ti), ("t", .ref D), ("a", .ref la), ("s1", .int 1 a1), ("s2", .int 2 a2), ("s3", .int 3 a3)] y))
    (N : News h₀ L s.heap [(D, listOf ys.toArray ep), (la, listOf va.toArray ea), (L + 1, oc2), (I, io), (I2, io2)])
    (done : ∀ h' tk' va', Fr h₀ L h' (fun y => if y = "i" then some (.int j tj) else kstB m [("r", .int k ti), ("t", .ref D), ("a", .ref la), ("s1", .int 1 a1), ("s2", .int 2 a2), ("s3", .int 3 a3)] y) →
      News h₀ L h' [(D, listOf ys.toArray ep), (la, listOf va'.toArray ea), (L + 1, oc2), (I, io), (I2, io2)] → IntsAre va' (as.set j.toNat (encColI ts (ke.getD k.toNat []) j)) → Q .next { s with heap := h', toks := tk' }) :
    wpAny (model pw w) ((Ar dp un fr gd).deeper (envOfC "AES.encrypt" encScope L 108 (.ref 107))) (execs encInB (envOfC "AES.encrypt" encScope L 108 (.ref 107))) Q (fun _ _ => False) s := by
  refine with_scope (sc := encScope) (P := fun sc => wpAny (model pw w) ((Ar dp un fr gd).deeper (envOfC "AES.encrypt" sc L 108 (.ref 107))) (execs encInB (envOfC "AES.encrypt" sc L 108 (.ref 107))) Q (fun _ _ => False) s) rfl ?_
  refine with_list (P := fun l => wpAny (model pw w) _ (execs l _) Q (fun _ _ => False) s) rfl ?_
  dsimp only [kstB] at F
  have f1 : 0 ≤ (j + 1).fmod 4 ∧ (j + 1).fmod 4 < 4 := ⟨Int.fmod_nonneg_of_pos _ (by decide), Int.fmod_lt_of_pos _ (by decide)⟩
  have f2 : 0 ≤ (j + 2).fmod 4 ∧ (j + 2).fmod 4 < 4 := ⟨Int.fmod_nonneg_of_pos _ (by decide), Int.fmod_lt_of_pos _ (by decide)⟩
  have f3 : 0 ≤ (j + 3).fmod 4 ∧ (j + 3).fmod 4 < 4 := ⟨Int.fmod_nonneg_of_pos _ (by decide), Int.fmod_lt_of_pos _ (by decide)⟩
  iterate 92 (first | (k_unfold; (try dsimp only)) | walk1 | (dsimp only; walk1))
  refine row_at F (by assumption) (by assumption) (by assumption) hj0 hj4 ?_
  intro t9
  repeat (first | (k_unfold; (try dsimp only)) | walk1 | (dsimp only; walk1))
  refine' done _ _ _ ?F ?N ?i
  case F => k_asm
  case N => k_asm
  case i => assumption
theorem enc_turn {h₀ : Heap} {L x d a b D la I : Addr} {io oc2 : Obj} {h1 h2 : Int} {t1 t2 tr a1 a2 a3 ti : Tok} {n ep ea : Nat} {ke : List (List Int)} {m : Str → Option Value} {ys va : List Value} {ts as : List Int} {k : Int} {Q : Flow → Shared → Prop}
    (X : (K w.params).In h₀) (T : TopRead q lo mg mb h₀) (hd : dp < 800)
    (hx : h₀.get? x = some (instObj 116 d)) (hxd : h₀.get? d = some (dictOf [⟨h1, .str "_Ke" t1, .ref a⟩, ⟨h2, .str "_Kd" t2, .ref b⟩] n)) (hke : RowsAt h₀ a ke) (hk1 : 2 ≤ ke.length) (hk2 : ke.length ≤ 20)
    (hk : 1 ≤ k) (hk3 : k < ke.length - 1) (hts : ts.length = 4) (has : as.length = 4) (hiy : IntsAre ys ts) (hia : IntsAre va as)
    (hc : oc2.data = .cell (some (.ref x)))
    (hne : D ≠ la ∧ D ≠ L + 1 ∧ D ≠ I ∧ la ≠ L + 1 ∧ la ≠ I ∧ L + 1 ≠ I)
    (F : Fr h₀ L s.heap (fun y => if y = "r" then some (.int k ti) else kstB m [("t", .ref D), ("a", .ref la), ("s1", .int 1 a1), ("s2", .int 2 a2), ("s3", .int 3 a3), ("rounds", .int (ke.length - 1) tr)] y))
    (N : News h₀ L s.heap [(D, listOf ys.toArray ep), (la, listOf va.toArray ea), (L + 1, oc2), (I, io)])
    (done : ∀ h' tk' m' D' ys' va' as' ep', Fr h₀ L h' m' → (∀ p ∈ [(Str.ofString "t", Value.ref D'), ("a", .ref la), ("s1", .int 1 a1), ("s2", .int 2 a2), ("s3", .int 3 a3), ("rounds", .int (ke.length - 1) tr)], m' p.1 = some p.2) →
      News h₀ L h' [(D', listOf ys'.toArray ep'), (la, listOf va'.toArray ea), (L + 1, oc2), (I, io)] → (D' ≠ la ∧ D' ≠ L + 1 ∧ D' ≠ I) → IntsAre ys' (encRound ts (ke.getD k.toNat [])) → IntsAre va' as' → as'.length = 4 → Q .next { s with heap := h', toks := tk' }) :
    wpAny (model pw w) ((Ar dp un fr gd).deeper (envOfC "AES.encrypt" encScope L 108 (.ref 107))) (execs encTurnB (envOfC "AES.encrypt" encScope L 108 (.ref 107))) Q (fun _ _ => False) s := by
  refine with_scope (sc := encScope) (P := fun sc => wpAny (model pw w) ((Ar dp un fr gd).deeper (envOfC "AES.encrypt" sc L 108 (.ref 107))) (execs encTurnB (envOfC "AES.encrypt" sc L 108 (.ref 107))) Q (fun _ _ => False) s) rfl ?_
  refine with_list (P := fun l => wpAny (model pw w) _ (execs l _) Q (fun _ _ => False) s) rfl ?_
  dsimp only [kstB] at F
  repeat ((fail_if_success (with_reducible show wpAny _ _ (pyIter _) _ _ _)); (first | (k_unfold; (try dsimp only)) | walk1 | (dsimp only; walk1)))
  (rename Fr _ _ _ _ => F4); (rename News _ _ _ _ => N4); (rename IsRange _ _ _ _ _ _ _ _ => hr)
  refine range_J (n := 4) (J := fun i m' nx => ∃ va', nx = [(D, listOf ys.toArray ep), (la, listOf (va' : List Value).toArray ea), (L + 1, oc2), (I, io)] ∧ (m' "r" = some (.int k ti) ∧ m' "t" = some (.ref D) ∧ m' "a" = some (.ref la) ∧ m' "s1" = some (.int 1 a1) ∧ m' "s2" = some (.int 2 a2) ∧ m' "s3" = some (.int 3 a3) ∧ m' "rounds" = some (.int (ke.length - 1) tr)) ∧ IntsAre va' (encPart ts (ke.getD k.toNat []) as i)) rfl hr ?sm ?sz F4 N4 ?h0 ?turn ?done
  case sm => rfl
  case sz => rfl
  case h0 => exact ⟨va, rfl, ⟨rfl, rfl, rfl, rfl, rfl, rfl, rfl⟩, hia⟩
  case turn =>
    intro i tj m₁ nx h tk I2 io2 hi hJz hI F5 N5
    refine Classical.byContradiction fun hng => ?_
    obtain ⟨va', rfl, ⟨g1, g2, g3, g4, g5, g6, g7⟩, hi1⟩ := hJz
    refine hng ?_
    clear hng
    have em : kstB m₁ [(Str.ofString "r", Value.int k ti), ("t", .ref D), ("a", .ref la), ("s1", .int 1 a1), ("s2", .int 2 a2), ("s3", .int 3 a3)] = m₁ := funext fun z => kstB_eq (fcons g1 (fcons g2 (fcons g3 (fcons g4 (fcons g5 (fcons g6 fnil)))))) fun _ => rfl
    rw [← em] at F5
    refine enc_inner (j := 0 + (i : Int)) X T hd hx hxd hke hk1 hk2 hk hk3 (by omega) (by omega) hts (by rw [encPart_len]; exact has) hiy hi1 hc ⟨hne.1, hne.2.2.2.1.symm, hne.2.2.2.2.1.symm, (hI _ (.tail _ (.head _))).symm⟩ F5 N5 ?_
    intro h' tk' va2 F6 N6 i6
    have e : (0 + (i : Int)).toNat = i := by omega
    rw [em] at F6
    refine TurnEnd.intro F6 N6 (fun p hp => hp) (fun p hp => ?_) ⟨va2, rfl, ⟨g1, g2, g3, g4, g5, g6, g7⟩, ints_eq i6 (by rw [e, encColI_eq i]; rfl)⟩
    simp only [List.mem_cons, List.not_mem_nil, or_false] at hp
    rcases hp with rfl | rfl | rfl | rfl
    · exact hI _ (.head _)
    · exact hI (la, listOf va'.toArray ea) (.tail _ (.head _))
    · exact hI _ (.tail _ (.tail _ (.head _)))
    · exact hI _ (.tail _ (.tail _ (.tail _ (.head _))))
  case done =>
    intro m9 nx h9 tk hJz F5 N5
    refine Classical.byContradiction fun hng => ?_
    obtain ⟨va', rfl, ⟨g1, g2, g3, g4, g5, g6, g7⟩, hi1⟩ := hJz
    refine hng ?_
    clear hng
    have em : kstB m9 [(Str.ofString "a", Value.ref la), ("t", .ref D)] = m9 := funext fun z => kstB_eq (fcons g3 (fcons g2 fnil)) fun _ => rfl
    rw [← em] at F5
    dsimp only [kstB] at F5
    clear F4 N4 hr
    have hz : (encPart ts (ke.getD k.toNat []) as 4).length = 4 := by rw [encPart_len]; exact has
    dsimp only
    repeat (first | (k_unfold; (try dsimp only)) | walk1 | (dsimp only; walk1))
    refine' turn_fin done ?F ?N ?f1 ?ne ?i1 hi1 hz
    case F => k_asm
    case N => k_asm
    case i1 => exact ints_eq (by assumption) (set4 has)
    case ne => exact ⟨Nat.ne_of_gt (by omega), Nat.ne_of_gt (by omega), Nat.ne_of_gt (by omega)⟩
    case f1 => exact ⟨rfl, rfl, g4, g5, g6, g7⟩
end
end
theorem rs9 : True ∧ True := by
  w_top off
  first | (walk1; fail) | exact ⟨trivial, trivial⟩
section
local macro_rules | `(tactic| k_inst) => `(tactic| k_extra "y12")
local macro_rules | `(tactic| walk_at "subscriptTail") => `(tactic| k_extra "y58")
local macro_rules | `(tactic| walk_at "call builtin:len") => `(tactic| k_extra "y15")
local macro_rules | `(tactic| walk_at "call ref") => `(tactic| k_extra "y16")
local macro_rules | `(tactic| walk_at "setItem ref int") => `(tactic| k_extra "y18")
section
section
variable {w : World} {A : Around} {E : Value → Shared → Prop} {s : Shared} {h₀ : Heap} {L D : Addr} {m : Str → Option Value} {news news' : List (Addr × Obj)}
theorem append_L {rs : List Value} {n : Nat} {x : Value} {Q : Value → Shared → Prop} (F : Fr h₀ L s.heap m) (N : News h₀ L s.heap news) (U : Upd D (listOf rs.toArray n) (listOf (rs ++ [x]).toArray (n + 1)) news news') (hz : rs.length ≤ 100000)
    (h : ∀ h', Fr h₀ L h' m → News h₀ L h' news' → Q .none { s with heap := h' }) : wpAny (model pw w) A (call (.builtin "list.append") [.ref D, x]) Q E s :=
  append_K (n := n) (its := rs.toArray) F N (by rw [List.push_toArray]; exact U) h (by rw [List.size_toArray, sizeLine_eq]; omega)
end
local macro_rules | `(tactic| walk_at "call builtin:list.append") => `(tactic| k_extra "y19")
section
variable {w : World} {dp un : Nat} {fr : Option (List Env)} {gd : Option (List Code)} {s : Shared} {mg mb : Str → Option Value} {lo : List Str}
noncomputable def outCol (ts kr : List Int) (k : Int) : List Int :=
  [Builtin.bitAnd (Builtin.bitXor (tabS.getD (Builtin.bitAnd ((ts.getD k.toNat 0).fdiv (2 ^ 24)) 255).toNat 0) ((kr.getD k.toNat 0).fdiv (2 ^ 24))) 255,
   Builtin.bitAnd (Builtin.bitXor (tabS.getD (Builtin.bitAnd ((ts.getD ((k + 1).fmod 4).toNat 0).fdiv (2 ^ 16)) 255).toNat 0) ((kr.getD k.toNat 0).fdiv (2 ^ 16))) 255,
   Builtin.bitAnd (Builtin.bitXor (tabS.getD (Builtin.bitAnd ((ts.getD ((k + 2).fmod 4).toNat 0).fdiv (2 ^ 8)) 255).toNat 0) ((kr.getD k.toNat 0).fdiv (2 ^ 8))) 255,
   Builtin.bitAnd (Builtin.bitXor (tabS.getD (Builtin.bitAnd (ts.getD ((k + 3).fmod 4).toNat 0) 255).toNat 0) (kr.getD k.toNat 0)) 255]
theorem out_turn {h₀ : Heap} {L x d a b D la res I : Addr} {io oc2 oa : Obj} {h1 h2 : Int} {t1 t2 tr a1 a2 a3 ti : Tok} {n ep er : Nat} {ke : List (List Int)} {m : Str → Option Value} {ys rv : List Value} {ts : List Int} {k : Int} {Q : Flow → Shared → Prop}
    (X : (K w.params).In h₀) (T : TopRead q lo mg mb h₀) (hd : dp < 800)
    (hx : h₀.get? x = some (instObj 116 d)) (hxd : h₀.get? d = some (dictOf [⟨h1, .str "_Ke" t1, .ref a⟩, ⟨h2, .str "_Kd" t2, .ref b⟩] n)) (hke : RowsAt h₀ a ke) (hk1 : 2 ≤ ke.length) (hk2 : ke.length ≤ 20)
    (hk : 0 ≤ k) (hk3 : k < 4) (hts : ts.length = 4) (hiy : IntsAre ys ts) (hrl : rv.length ≤ 100)
    (hc : oc2.data = .cell (some (.ref x)))
    (hne : @Ne Nat res D ∧ @Ne Nat res la ∧ @Ne Nat res (L + 1) ∧ @Ne Nat res I)
    (F : Fr h₀ L s.heap (fun y => if y = "i" then some (.int k ti) else kstB m [("t", .ref D), ("result", .ref res), ("s1", .int 1 a1), ("s2", .int 2 a2), ("s3", .int 3 a3), ("rounds", .int (ke.length - 1) tr)] y))
    (N : News h₀ L s.heap [(res, listOf rv.toArray er), (D, listOf ys.toArray ep), (la, oa), (L + 1, oc2), (I, io)])
    (done : ∀ h' tk' v1 v2 v3 v4 tt, Fr h₀ L h' (fun y => if y = "tt" then tt else if y = "i" then some (.int k ti) else kstB m [("t", .ref D), ("result", .ref res), ("s1", .int 1 a1), ("s2", .int 2 a2), ("s3", .int 3 a3), ("rounds", .int (ke.length - 1) tr)] y) →
      News h₀ L h' [(res, listOf ((((rv ++ [v1]) ++ [v2]) ++ [v3]) ++ [v4]).toArray (er + 1 + 1 + 1 + 1)), (D, listOf ys.toArray ep), (la, oa), (L + 1, oc2), (I, io)] → IntsAre [v1, v2, v3, v4] (outCol ts (ke.getD (ke.length - 1 : Int).toNat []) k) → Q .next { s with heap := h', toks := tk' }) :
    wpAny (model pw w) ((Ar dp un fr gd).deeper (envOfC "AES.encrypt" encScope L 108 (.ref 107))) (execs (match encBody with | _ :: _ :: _ :: _ :: _ :: _ :: _ :: .For _ _ b _ _ :: _ => b | _ => []) (envOfC "AES.encrypt" encScope L 108 (.ref 107))) Q (fun _ _ => False) s := by
  refine with_scope (sc := encScope) (P := fun sc => wpAny (model pw w) ((Ar dp un fr gd).deeper (envOfC "AES.encrypt" sc L 108 (.ref 107))) (execs (match encBody with | _ :: _ :: _ :: _ :: _ :: _ :: _ :: .For _ _ b _ _ :: _ => b | _ => []) (envOfC "AES.encrypt" sc L 108 (.ref 107))) Q (fun _ _ => False) s) rfl ?_
  refine with_list (P := fun l => wpAny (model pw w) _ (execs l _) Q (fun _ _ => False) s) rfl ?_
  dsimp only [kstB] at F
  have f1 : 0 ≤ (k + 1).fmod 4 ∧ (k + 1).fmod 4 < 4 := ⟨Int.fmod_nonneg_of_pos _ (by decide), Int.fmod_lt_of_pos _ (by decide)⟩
  have f2 : 0 ≤ (k + 2).fmod 4 ∧ (k + 2).fmod 4 < 4 := ⟨Int.fmod_nonneg_of_pos _ (by decide), Int.fmod_lt_of_pos _ (by decide)⟩
  have f3 : 0 ≤ (k + 3).fmod 4 ∧ (k + 3).fmod 4 < 4 := ⟨Int.fmod_nonneg_of_pos _ (by decide), Int.fmod_lt_of_pos _ (by decide)⟩
  iterate 161 (first | (k_unfold; (try dsimp only)) | walk1 | (dsimp only; walk1))
  refine' done _ _ _ _ _ _ _ ?F ?N ?i
  case F => k_asm
  case N => k_asm
  case i => exact .cons _ _ (.cons _ _ (.cons _ _ (.cons _ _ .nil)))
end
end
theorem rs10 : True ∧ True := by
  w_top off
  first | (walk1; fail) | exact ⟨trivial, trivial⟩
section
section
variable {w : World} {dp un : Nat} {fr : Option (List Env)} {gd : Option (List Code)} {s : Shared} {mg mb : Str → Option Value} {lo : List Str}
theorem small_of {a b c : Int} (h1 : -1000000 ≤ a) (h2 : a ≤ 1000000) (h3 : -1000000 ≤ b) (h4 : b ≤ 1000000) (h5 : -1000 ≤ c) (h6 : c ≤ 1000) : Builtin.Range.small a b c = true := by
  have hs : 0 ≤ Builtin.Range.rangeSize a b c ∧ Builtin.Range.rangeSize a b c ≤ 4000000 := by
    unfold Builtin.Range.rangeSize
    have d1 : ∀ x y : Int, 0 ≤ x → x ≤ 2000000 → 0 < y → 0 ≤ x / y ∧ x / y ≤ 2000000 := fun x y p1 p2 p3 =>
      ⟨Int.ediv_nonneg p1 (by omega), Int.le_trans (Int.ediv_le_self _ p1) p2⟩
    split
    · split
      · have := d1 (b - a - 1) c (by omega) (by omega) (by omega); omega
      · omega
    · split
      · by_cases hc : c = 0
        · subst hc; simp
        · have := d1 (a - b - 1) (-c) (by omega) (by omega) (by omega); omega
      · omega
  have fit : ∀ x : Int, -9000000 ≤ x → x ≤ 9000000 → Builtin.Range.rangeFitsLong x = true := fun x p1 p2 => by
    unfold Builtin.Range.rangeFitsLong
    simp only [Bool.and_eq_true, decide_eq_true_eq]
    omega
  unfold Builtin.Range.small
  rw [fit a (by omega) (by omega), fit b (by omega) (by omega), fit c (by omega) (by omega), fit _ (by omega) (by omega)]
  simp only [Bool.and_self, Bool.true_and, Bool.or_eq_true]
  right
  split
  · exact fit _ (by omega) (by omega)
  · exact fit _ (by omega) (by omega)
theorem rsize_up {a b : Int} {n : Nat} (h : b - a = n) : Builtin.Range.rangeSize a b 1 = (n : Int) := by
  unfold Builtin.Range.rangeSize
  rw [if_pos (by decide)]
  split <;> omega
noncomputable def encIter (ts : List Int) (ke : List (List Int)) : Nat → List Int
  | 0 => ts
  | i + 1 => encRound (encIter ts ke i) (ke.getD (i + 1) [])
noncomputable def encOuts (ts kr : List Int) : Nat → List Int
  | 0 => []
  | i + 1 => encOuts ts kr i ++ outCol ts kr i
theorem encIter_len {ts : List Int} {ke : List (List Int)} (h : ts.length = 4) : ∀ i, (encIter ts ke i).length = 4
  | 0 => h
  | _ + 1 => rfl
theorem encOuts_len {ts kr : List Int} : ∀ i, (encOuts ts kr i).length = 4 * i
  | 0 => rfl
  | i + 1 => by rw [encOuts, List.length_append, encOuts_len i]; rfl
noncomputable def encRest (ts : List Int) (ke : List (List Int)) : List Int := encOuts (encIter ts ke (ke.length - 2)) (ke.getD (ke.length - 1) []) 4
theorem enc_rest {h₀ : Heap} {L x d a b D la : Addr} {oc2 : Obj} {h1 h2 : Int} {t1 t2 tr a1 a2 a3 : Tok} {n ep ea : Nat} {ke : List (List Int)} {m : Str → Option Value} {ys va : List Value} {ts as : List Int} {news : List (Addr × Obj)} {Q : Flow → Shared → Prop}
    (X : (K w.params).In h₀) (T : TopRead q lo mg mb h₀) (hd : dp < 800)
    (hx : h₀.get? x = some (instObj 116 d)) (hxd : h₀.get? d = some (dictOf [⟨h1, .str "_Ke" t1, .ref a⟩, ⟨h2, .str "_Kd" t2, .ref b⟩] n)) (hke : RowsAt h₀ a ke) (hk1 : 2 ≤ ke.length) (hk2 : ke.length ≤ 20)
    (hts : ts.length = 4) (has : as.length = 4) (hiy : IntsAre ys ts) (hia : IntsAre va as)
    (hc : oc2.data = .cell (some (.ref x)))
    (hne : D ≠ la ∧ D ≠ L + 1 ∧ la ≠ L + 1)
    (F : Fr h₀ L s.heap m) (hm : ∀ p ∈ [(Str.ofString "t", Value.ref D), ("a", .ref la), ("s1", .int 1 a1), ("s2", .int 2 a2), ("s3", .int 3 a3), ("rounds", .int (ke.length - 1) tr)], m p.1 = some p.2)
    (N : News h₀ L s.heap news) (hn : ∀ p ∈ [(D, listOf ys.toArray ep), (la, listOf va.toArray ea), (L + 1, oc2)], p ∈ news)
    (done : ∀ h' tk' res rv er, Kp h₀ h' → h₀.get? res = none → h'.get? res = some (listOf rv.toArray er) → IntsAre rv (encRest ts ke) → Q (.ret (.ref res)) { s with heap := h', toks := tk' }) :
    wpAny (model pw w) ((Ar dp un fr gd).deeper (envOfC "AES.encrypt" encScope L 108 (.ref 107))) (execs (encBody.drop 5) (envOfC "AES.encrypt" encScope L 108 (.ref 107))) Q (fun _ _ => False) s := by
  have N3 : News h₀ L s.heap [(D, listOf ys.toArray ep), (la, listOf va.toArray ea), (L + 1, oc2)] := fun p hp => N p (hn p hp)
  clear N
  have F3 := frFacts _ hm F
  clear F
  refine with_scope (sc := encScope) (P := fun sc => wpAny (model pw w) ((Ar dp un fr gd).deeper (envOfC "AES.encrypt" sc L 108 (.ref 107))) (execs (encBody.drop 5) (envOfC "AES.encrypt" sc L 108 (.ref 107))) Q (fun _ _ => False) s) rfl ?_
  refine with_list (P := fun l => wpAny (model pw w) _ (execs l _) Q (fun _ _ => False) s) rfl ?_
  dsimp only [kstB] at F3
  iterate 11 (first | (k_unfold; (try dsimp only)) | walk1 | (dsimp only; walk1))
  (rename Fr _ _ _ _ => F4); (rename News _ _ _ _ => N4); (rename IsRange _ _ _ _ _ _ _ _ => hr)
  refine range_J (n := ke.length - 2) (J := fun i m' nx => ∃ D' ys' va' as' ep', nx = [(D', listOf ys'.toArray ep'), (la, listOf va'.toArray ea), (L + 1, oc2)] ∧ (∀ p ∈ [(Str.ofString "t", Value.ref D'), ("a", .ref la), ("s1", .int 1 a1), ("s2", .int 2 a2), ("s3", .int 3 a3), ("rounds", .int (ke.length - 1) tr)], m' p.1 = some p.2) ∧
    (D' ≠ la ∧ D' ≠ L + 1) ∧ IntsAre ys' (encIter ts ke i) ∧ IntsAre va' as' ∧ as'.length = 4) rfl hr ?sm ?sz F4 N4 ?h0 ?turn ?done
  case sm => exact small_of (by omega) (by omega) (by omega) (by omega) (by omega) (by omega)
  case sz => exact rsize_up (by omega)
  case h0 =>
    refine ⟨_, _, _, _, _, rfl, fun p hp => ?_, ⟨hne.1, hne.2.1⟩, hiy, hia, has⟩
    simp only [List.mem_cons, List.not_mem_nil, or_false] at hp
    rcases hp with rfl | rfl | rfl | rfl | rfl | rfl <;> rfl
  case turn =>
    intro i t m₁ nx h tk I io hi hJz hI F5 N5
    refine Classical.byContradiction fun hng => ?_
    obtain ⟨D', ys', va', as', ep', rfl, hm', hne', i1, i2, hl⟩ := hJz
    refine hng ?_
    clear hng
    have F6 : Fr h₀ L h (fun y => if y = "r" then some (.int (1 + (i : Int)) t) else kstB m₁ [("t", .ref D'), ("a", .ref la), ("s1", .int 1 a1), ("s2", .int 2 a2), ("s3", .int 3 a3), ("rounds", .int (ke.length - 1) tr)] y) := by
      have e : kstB m₁ [(Str.ofString "t", .ref D'), ("a", .ref la), ("s1", .int 1 a1), ("s2", .int 2 a2), ("s3", .int 3 a3), ("rounds", .int (ke.length - 1) tr)] = m₁ := funext fun z => kstB_eq hm' fun _ => rfl
      rw [e]
      exact F5
    have e1 := hI (D', listOf ys'.toArray ep') (by simp)
    have e2 := hI (la, listOf va'.toArray ea) (by simp)
    have e3 := hI (L + 1, oc2) (by simp)
    refine enc_turn (k := 1 + (i : Int)) X T hd hx hxd hke hk1 hk2 (by omega) (by omega) (encIter_len hts i) hl i1 i2 hc ⟨hne'.1, hne'.2, e1, hne.2.2, e2, e3⟩ F6 N5 ?_
    intro h' tk' m' D2 ys2 va2 as2 ep2 F7 hm2 N7 hne2 j1 j2 hl2
    refine TurnEnd.intro (nx := [(D2, listOf ys2.toArray ep2), (la, listOf va2.toArray ea), (L + 1, oc2)]) F7 N7 (fun p hp => hp) (fun p hp => ?_) ⟨_, _, _, _, _, rfl, hm2, ⟨hne2.1, hne2.2.1⟩, ?_, j2, hl2⟩
    · simp only [List.mem_cons, List.not_mem_nil, or_false] at hp
      rcases hp with rfl | rfl | rfl
      · exact hne2.2.2
      · exact e2
      · exact e3
    · have e : (1 + (i : Int)).toNat = i + 1 := by omega
      rw [e] at j1
      exact j1
  case done =>
    intro m' nx h' tk hJz F5 N5
    refine Classical.byContradiction fun hng => ?_
    obtain ⟨D', ys', va', as', ep', rfl, hm', hne', i1, i2, hl⟩ := hJz
    refine hng ?_
    clear hng
    have F6 := frFacts _ hm' F5
    dsimp only [kstB] at F6
    clear F4 N4 hr F5
    dsimp only
    iterate 18 (first | (k_unfold; (try dsimp only)) | walk1 | (dsimp only; walk1))
    (rename Fr _ _ _ _ => F8); (rename News _ _ _ _ => N8); (rename IsRange _ _ _ _ _ _ _ _ => hr8)
    rename_i res _ _ _ l1 _ _ _ _ _ _ _ _ _
    refine range_J (n := 4) (J := fun i m' nx => ∃ rv er, nx = [(res, listOf rv.toArray er), (D', listOf ys'.toArray ep'), (la, listOf va'.toArray ea), (L + 1, oc2)] ∧ (∀ p ∈ [(Str.ofString "t", Value.ref D'), ("result", .ref res), ("s1", .int 1 a1), ("s2", .int 2 a2), ("s3", .int 3 a3), ("rounds", .int (ke.length - 1) tr)], m' p.1 = some p.2) ∧
      IntsAre rv (encOuts (encIter ts ke (ke.length - 2)) (ke.getD (ke.length - 1) []) i)) rfl hr8 ?sm ?sz F8 N8 ?h0 ?turn ?done
    case sm => exact small_of (by omega) (by omega) (by omega) (by omega) (by omega) (by omega)
    case sz => exact rsize_up (by omega)
    case h0 =>
      refine ⟨[], 0, rfl, fun p hp => ?_, .nil⟩
      simp only [List.mem_cons, List.not_mem_nil, or_false] at hp
      rcases hp with rfl | rfl | rfl | rfl | rfl | rfl <;> rfl
    case turn =>
      intro i t m₁ nx h tk I io hi hJz hI F5 N5
      refine Classical.byContradiction fun hng => ?_
      obtain ⟨rv, er, rfl, hm2, j1⟩ := hJz
      refine hng ?_
      clear hng
      have F6 : Fr h₀ L h (fun y => if y = "i" then some (.int (0 + (i : Int)) t) else kstB m₁ [("t", .ref D'), ("result", .ref res), ("s1", .int 1 a1), ("s2", .int 2 a2), ("s3", .int 3 a3), ("rounds", .int (ke.length - 1) tr)] y) := by
        have e : kstB m₁ [(Str.ofString "t", .ref D'), ("result", .ref res), ("s1", .int 1 a1), ("s2", .int 2 a2), ("s3", .int 3 a3), ("rounds", .int (ke.length - 1) tr)] = m₁ := funext fun z => kstB_eq hm2 fun _ => rfl
        rw [e]
        exact F5
      have e0 := hI (res, listOf rv.toArray er) (by simp)
      have e1 := hI (D', listOf ys'.toArray ep') (by simp)
      have e2 := hI (la, listOf va'.toArray ea) (by simp)
      have e3 := hI (L + 1, oc2) (by simp)
      have hrl : rv.length = 4 * i := by rw [j1.length, encOuts_len]
      refine out_turn (k := 0 + (i : Int)) X T hd hx hxd hke hk1 hk2 (by omega) (by omega) (encIter_len hts _) i1 (by omega) hc ⟨Nat.ne_of_gt l1.1, Nat.ne_of_gt l1.2.1, Nat.ne_of_gt l1.2.2, e0⟩ F6 N5 ?_
      intro h' tk' v1 v2 v3 v4 tt F7 N7 j2
      refine TurnEnd.intro (nx := [(res, listOf ((((rv ++ [v1]) ++ [v2]) ++ [v3]) ++ [v4]).toArray (er + 1 + 1 + 1 + 1)), (D', listOf ys'.toArray ep'), (la, listOf va'.toArray ea), (L + 1, oc2)]) F7 N7 (fun p hp => hp) (fun p hp => ?_) ⟨_, _, rfl, fun p hp => ?_, ?_⟩
      · simp only [List.mem_cons, List.not_mem_nil, or_false] at hp
        rcases hp with rfl | rfl | rfl | rfl
        · exact e0
        · exact e1
        · exact e2
        · exact e3
      · simp only [List.mem_cons, List.not_mem_nil, or_false] at hp
        rcases hp with rfl | rfl | rfl | rfl | rfl | rfl <;> rfl
      · have e : (ke.length - 1 : Int).toNat = ke.length - 1 := toNat_pred ke.length
        rw [e, Int.zero_add] at j2
        rw [List.append_assoc, List.append_assoc, List.append_assoc]
        exact ints_app j1 j2
    case done =>
      intro m9 nx h9 tk hJz F5 N5
      refine Classical.byContradiction fun hng => ?_
      obtain ⟨rv, er, rfl, hm2, j1⟩ := hJz
      refine hng ?_
      clear hng
      have F9 := frFacts _ hm2 F5
      dsimp only [kstB] at F9
      clear F8 N8 hr8 F5
      dsimp only
      iterate 3 (first | (k_unfold; (try dsimp only)) | walk1 | (dsimp only; walk1))
      obtain ⟨g1, g2, g3⟩ := N5 _ (.head _)
      exact done _ _ _ _ _ F9.keep g3 g1 j1
end
end
theorem rs11 : True ∧ True := by
  w_top off
  first | (walk1; fail) | exact ⟨trivial, trivial⟩
section
section
variable {w : World} {dp un : Nat} {fr : Option (List Env)} {gd : Option (List Code)} {s : Shared} {mg mb : Str → Option Value} {lo : List Str}
theorem enc_rest' {h₀ : Heap} {L x d a b D la : Addr} {oc2 : Obj} {h1 h2 : Int} {t1 t2 tr a1 a2 a3 : Tok} {n ep ea : Nat} {ke : List (List Int)} {m : Str → Option Value} {ys va : List Value} {ts as : List Int} {news : List (Addr × Obj)} {Q : Flow → Shared → Prop}
    (X : (K w.params).In h₀) (T : TopRead q lo mg mb h₀) (hd : dp < 800)
    (hx : h₀.get? x = some (instObj 116 d)) (hxd : h₀.get? d = some (dictOf [⟨h1, .str "_Ke" t1, .ref a⟩, ⟨h2, .str "_Kd" t2, .ref b⟩] n)) (hke : RowsAt h₀ a ke) (hk1 : 2 ≤ ke.length) (hk2 : ke.length ≤ 20)
    (F : Fr h₀ L s.heap m) (N : News h₀ L s.heap news)
    (mt : m "t" = some (.ref D)) (ma : m "a" = some (.ref la)) (m1 : m "s1" = some (.int 1 a1)) (m2 : m "s2" = some (.int 2 a2)) (m3 : m "s3" = some (.int 3 a3)) (mr : m "rounds" = some (.int (ke.length - 1) tr))
    (nD : (D, listOf ys.toArray ep) ∈ news) (nla : (la, listOf va.toArray ea) ∈ news) (nc : (L + 1, oc2) ∈ news)
    (hc : oc2.data = .cell (some (.ref x)))
    (hne : D ≠ la ∧ D ≠ L + 1 ∧ la ≠ L + 1)
    (hiy : IntsAre ys ts) (hts : ts.length = 4) (hia : IntsAre va as) (has : as.length = 4)
    (done : ∀ h' tk' res rv er, Kp h₀ h' → h₀.get? res = none → h'.get? res = some (listOf rv.toArray er) → IntsAre rv (encRest ts ke) → Q (.ret (.ref res)) { s with heap := h', toks := tk' }) :
    wpAny (model pw w) ((Ar dp un fr gd).deeper (envOfC "AES.encrypt" encScope L 108 (.ref 107))) (execs (encBody.drop 5) (envOfC "AES.encrypt" encScope L 108 (.ref 107))) Q (fun _ _ => False) s := by
  refine enc_rest (tr := tr) (a1 := a1) (a2 := a2) (a3 := a3) (ep := ep) (ea := ea) X T hd hx hxd hke hk1 hk2 hts has hiy hia hc hne F (fun p hp => ?_) N (fun p hp => ?_) done
  · simp only [List.mem_cons, List.not_mem_nil, or_false] at hp
    rcases hp with rfl | rfl | rfl | rfl | rfl | rfl <;> assumption
  · simp only [List.mem_cons, List.not_mem_nil, or_false] at hp
    rcases hp with rfl | rfl | rfl <;> assumption
noncomputable def encInit (ns : List Int) (ke : List (List Int)) : List Int :=
  [Builtin.bitXor (word (List.take 4 (List.drop 0 ns))) ((ke.getD 0 []).getD 0 0), Builtin.bitXor (word (List.take 4 (List.drop 4 ns))) ((ke.getD 0 []).getD 1 0), Builtin.bitXor (word (List.take 4 (List.drop 8 ns))) ((ke.getD 0 []).getD 2 0), Builtin.bitXor (word (List.take 4 (List.drop 12 ns))) ((ke.getD 0 []).getD 3 0)]
noncomputable def enc (ke : List (List Int)) (ns : List Int) : List Int := encRest (encInit ns ke) ke
theorem enc_list {R : Result → Shared → Prop} {x d a b l : Addr} {h1 h2 : Int} {t1 t2 : Tok} {n : Nat} {ke : List (List Int)} {vs : List Value} {ns : List Int} (X : (K w.params).In s.heap) (T : TopRead q lo mg mb s.heap) (hd : dp < 700)
    (hx : s.heap.get? x = some (instObj 116 d)) (hxd : s.heap.get? d = some (dictOf [⟨h1, .str "_Ke" t1, .ref a⟩, ⟨h2, .str "_Kd" t2, .ref b⟩] n)) (hke : RowsAt s.heap a ke) (hk1 : 2 ≤ ke.length) (hk2 : ke.length ≤ 20)
    (hl : s.heap.IsList l vs.toArray) (hi : IntsAre vs ns) (hn : ns.length = 16) (hb : Bytes ns)
    (hR : ∀ h' tk' res rv er, Kp s.heap h' → s.heap.get? res = none → h'.get? res = some (listOf rv.toArray er) → IntsAre rv (enc ke ns) → R (.ok (.ret (.ref res))) { s with heap := h', toks := tk' }) :
    codeAny (model pw w) (Ar dp un fr gd) (.call (.ref 108) ⟨[.ref x, .ref l], []⟩) R s := by
  refine enterC (binds := [("self", .ref x), ("plaintext", .ref l)]) X T (by omega) rfl (by kernel_rfl) (BindsTo.of_eq rfl) rfl (by decide +kernel) ?_
  intro L h₁ tk cells F N Y
  k_cells Y
  iterate 124 (first | (k_unfold; (try dsimp only)) | walk1 | (dsimp only; walk1))
  (rename Fr _ _ _ _ => F4); (rename News _ _ _ _ => N4); (rename IntsAre _ _ => hI)
  have hr0 : (ke.getD 0 []).length = 4 := by
    refine Classical.byContradiction fun hng => ?_
    obtain ⟨_, _, _, h⟩ := hke
    refine hng ?_
    clear hng
    exact (h 0 (by omega)).choose_spec.2.2
  refine' enc_rest' X T (by omega) hx hxd hke hk1 hk2 F4 N4 ?mt ?ma ?m1 ?m2 ?m3 ?mr ?nD ?nla ?nc ?hc ?hne (ts := encInit ns ke) ?hiy rfl (as := [0, 0, 0, 0]) ?hia rfl ?done
  case mt => exact rfl
  case ma => exact rfl
  case m1 => exact rfl
  case m2 => exact rfl
  case m3 => exact rfl
  case mr => exact rfl
  case nD => k_mem
  case nla => k_mem
  case nc => k_mem
  case hc => (first | assumption | trace_state)
  case hia => exact .cons _ _ (.cons _ _ (.cons _ _ (.cons _ _ .nil)))
  case hiy =>
    refine ints_eq hI ?_
    rw [show rangeKs 0 (4 - 0 : Int).toNat = [0, 1, 2, 3] from rfl]
    have hr1 : (ke.getD (Int.toNat 0) []).length = 4 := hr0
    simp only [List.map_cons, List.map_nil, encInit, hn, hr1, List.length_take, List.length_drop, and_true]
    rfl
  case hne =>
    (rename (_ ≠ _ ∧ _ ≠ _ ∧ _ ≠ _ ∧ _ ≠ _) => o1); (rename (_ < _ ∧ _ < _ ∧ _ < _) => l1)
    exact ⟨o1.1.symm, o1.2.2.2.symm, Nat.ne_of_gt l1.2.2⟩
  case done =>
    dsimp only
    intro h' tk' res rv er kp h1 h2 h3
    exact hR h' tk' res rv er kp h1 h2 h3
end
end
theorem rs12 : True ∧ True := by
  w_top off
  first | (walk1; fail) | exact ⟨trivial, trivial⟩
section

section
variable {w : World} {dp un : Nat} {fr : Option (List Env)} {gd : Option (List Code)} {s : Shared} {mg mb : Str → Option Value} {lo : List Str}
theorem cw_bytes {R : Result → Shared → Prop} {bs : Array UInt8} {tb : Tok} {ns : List Int} (X : (K w.params).In s.heap) (T : TopRead q lo mg mb s.heap) (hd : dp < 900)
    (hi : KBw.bInts bs = ns) (hn : ns.length = 4) (hb : Bytes ns)
    (hR : ∀ h' tk t, Kp s.heap h' → R (.ok (.ret (.int (word ns) t))) { s with heap := h', toks := tk }) :
    codeAny (model pw w) (Ar dp un fr gd) (.call (.ref 28) ⟨[.bytes bs tb], []⟩) R s := by
  refine enter (binds := [("word", .bytes bs tb)]) X T hd rfl (by kernel_rfl) (BindsTo.of_eq rfl) (by decide) rfl ?_
  intro L h₁ tk F N
  have b0 := hb (Int.toNat 0)
  have b1 := hb (Int.toNat 1)
  have b2 := hb (Int.toNat 2)
  have b3 := hb (Int.toNat 3)
  k_steps
  exact hR _ _ _ F.keep
theorem cw_callB {h₀ : Heap} {L : Addr} {m : Str → Option Value} {news : List (Addr × Obj)} {Q : Value → Shared → Prop} {E : Value → Shared → Prop} {bs : Array UInt8} {tb : Tok} {ns : List Int}
    (F : Fr h₀ L s.heap m) (N : News h₀ L s.heap news) (X : (K w.params).In h₀) (T : TopRead q lo mg mb h₀) (hd : dp < 900)
    (hi : KBw.bInts bs = ns) (hn : ns.length = 4) (hb : Bytes ns)
    (h : ∀ h' tk t, Fr h₀ L h' m → News h₀ L h' news → Kp s.heap h' → Q (.int (word ns) t) { s with heap := h', toks := tk }) :
    wpAny (model pw w) (Ar dp un fr gd) (call (.ref 28) [.bytes bs tb]) Q E s := by
  refine wpAny_call (cw_bytes (X.keeps F.keep) (T.keeps F.keep) hd hi hn hb fun h' tk t kp => ?_)
  exact h h' tk t (frKp F kp) (newsKp N kp) kp
end
theorem clip_in {n : Nat} {a : Int} (h0 : 0 ≤ a) (h1 : a ≤ n) : clipAt n a = a.toNat := by
  obtain ⟨k, rfl⟩ := Int.eq_ofNat_of_zero_le h0
  rw [show ((k : Nat) : Int) = (k : Int) from rfl, clipAt_nat]
  simp only [Int.toNat_natCast]
  omega
theorem four {lo : Int} (h0 : 0 ≤ lo) : (lo + 4).toNat - lo.toNat = 4 := by
  obtain ⟨n, rfl⟩ := Int.eq_ofNat_of_zero_le h0
  exact Nat.add_sub_cancel_left ..
theorem bs_slice {w : World} {A : Around} {E : Value → Shared → Prop} {s : Shared} {value slice : PySem.Expr} {b : Array UInt8} {t : Tok} {h₀ : Heap} {L : Addr} {m : PySem.Str → Option Value} {news : List (Addr × Obj)} {tl tu : Tok} {lo hi : Int} {Q : Value → Shared → Prop} {ks : List Int}
    (F : Fr h₀ L s.heap m) (N : News h₀ L s.heap news) (hk : KBw.bInts b = ks) (h0 : 0 ≤ lo) (h1 : lo + 4 = hi) (h2 : hi ≤ ks.length) (hz : ks.length ≤ 1000)
    (h : ∀ h' t' k, Fr h₀ L h' m → News h₀ L h' news → Kp s.heap h' → KBw.bInts (KBy.picked b (some lo) (some hi)) = List.take 4 (List.drop lo.toNat ks) → (List.take 4 (List.drop lo.toNat ks)).length = 4 → Q (.bytes (KBy.picked b (some lo) (some hi)) t') { s with heap := h', toks := k })
    (hs : subscripted slice false (.bytes b t) (.ref s.heap.objs.size) = operate [.ref s.heap.objs.size, .bytes b t] (getItem (.bytes b t) (.ref s.heap.objs.size)) := by with_unfolding_all rfl)
    (ht : ∀ r, letTemporaryGo value (.bytes b t) r = pure () := by intro _; with_unfolding_all rfl) :
    wpAny (model pw w) A (subscriptTail value slice (.bytes b t) (.ref s.heap.objs.size)) Q E { s with heap := s.heap.push { cls := .type "slice", data := .fields #[.int lo tl, .int hi tu, .none] } } := by
  have e : KBw.bInts (KBy.picked b (some lo) (some hi)) = List.take 4 (List.drop lo.toNat ks) := by
    rw [KBc.ints_picked hk]
    show List.take (clipAt ks.length hi - clipAt ks.length lo) (List.drop (clipAt ks.length lo) ks) = _
    rw [clip_in h0 (by omega), clip_in (by omega) h2, show hi.toNat - lo.toNat = 4 from h1 ▸ four h0]
  exact tail_of_ItemOn ⟨"bytes", _, FB.slot_bytes_getitem.lookup, typeIs_bytes _ _ _, getItem_meets (typeIs_bytes _ _ _) (by decide) FB.slot_bytes_getitem FB.entry_bytes_getitem (FB.args_bytes_getitem_2 _ _) (KBc.meets_slice2 b t _ (.int _ _) (.int _ _))
    ⟨Heap.IsSliceOf.new _ _ _ _, Nat.le_trans (KBc.size_picked_le b _ _) (by rw [← KBw.ints_length b, hk, sizeLine_eq]; omega), fun t' k => h _ _ _ (F.push _) (News.pushKeep N _) (fun _ _ e => Heap.get?_push_of_some _ e) e (by rw [List.length_take, List.length_drop]; omega)⟩⟩ hs ht
local macro_rules | `(tactic| walk_at "subscriptTail") => `(tactic| k_extra "y20")
local macro_rules | `(tactic| walk_at "call ref") => `(tactic| k_extra "y21")
section
variable {w : World} {dp un : Nat} {fr : Option (List Env)} {gd : Option (List Code)} {s : Shared} {mg mb : Str → Option Value} {lo : List Str}
theorem enc_bytes {R : Result → Shared → Prop} {x d a b : Addr} {bs : Array UInt8} {tb : Tok} {h1 h2 : Int} {t1 t2 : Tok} {n : Nat} {ke : List (List Int)} {ns : List Int} (X : (K w.params).In s.heap) (T : TopRead q lo mg mb s.heap) (hd : dp < 700)
    (hx : s.heap.get? x = some (instObj 116 d)) (hxd : s.heap.get? d = some (dictOf [⟨h1, .str "_Ke" t1, .ref a⟩, ⟨h2, .str "_Kd" t2, .ref b⟩] n)) (hke : RowsAt s.heap a ke) (hk1 : 2 ≤ ke.length) (hk2 : ke.length ≤ 20)
    (hi : KBw.bInts bs = ns) (hn : ns.length = 16) (hb : Bytes ns)
    (hR : ∀ h' tk' res rv er, Kp s.heap h' → s.heap.get? res = none → h'.get? res = some (listOf rv.toArray er) → IntsAre rv (enc ke ns) → R (.ok (.ret (.ref res))) { s with heap := h', toks := tk' }) :
    codeAny (model pw w) (Ar dp un fr gd) (.call (.ref 108) ⟨[.ref x, .bytes bs tb], []⟩) R s := by
  refine enterC (binds := [("self", .ref x), ("plaintext", .bytes bs tb)]) X T (by omega) rfl (by kernel_rfl) (BindsTo.of_eq rfl) rfl (by decide +kernel) ?_
  intro L h₁ tk cells F N Y
  k_cells Y
  iterate 124 (first | (k_unfold; (try dsimp only)) | walk1 | (dsimp only; walk1))
  (rename Fr _ _ _ _ => F4); (rename News _ _ _ _ => N4); (rename IntsAre _ _ => hI)
  have hr0 : (ke.getD 0 []).length = 4 := by
    refine Classical.byContradiction fun hng => ?_
    obtain ⟨_, _, _, h⟩ := hke
    refine hng ?_
    clear hng
    exact (h 0 (by omega)).choose_spec.2.2
  refine' enc_rest' X T (by omega) hx hxd hke hk1 hk2 F4 N4 ?mt ?ma ?m1 ?m2 ?m3 ?mr ?nD ?nla ?nc ?hc ?hne (ts := encInit ns ke) ?hiy rfl (as := [0, 0, 0, 0]) ?hia rfl ?done
  case mt => exact rfl
  case ma => exact rfl
  case m1 => exact rfl
  case m2 => exact rfl
  case m3 => exact rfl
  case mr => exact rfl
  case nD => k_mem
  case nla => k_mem
  case nc => k_mem
  case hc => (first | assumption | trace_state)
  case hia => exact .cons _ _ (.cons _ _ (.cons _ _ (.cons _ _ .nil)))
  case hiy =>
    refine ints_eq hI ?_
    rw [show rangeKs 0 (4 - 0 : Int).toNat = [0, 1, 2, 3] from rfl]
    have hr1 : (ke.getD (Int.toNat 0) []).length = 4 := hr0
    have pk : ∀ lo : Int, 0 ≤ lo → lo + 4 ≤ ns.length → KBw.bInts (KBy.picked bs (some lo) (some (lo + 4))) = List.take 4 (List.drop lo.toNat ns) ∧ (List.take 4 (List.drop lo.toNat ns)).length = 4 ∧ (ke.getD (Int.toNat 0) []).length = 4 := fun lo h0 h2 => by
      refine ⟨?_, by rw [List.length_take, List.length_drop]; omega, hr1⟩
      rw [KBc.ints_picked hi]
      show List.take (clipAt ns.length (lo + 4) - clipAt ns.length lo) (List.drop (clipAt ns.length lo) ns) = _
      rw [clip_in h0 (by omega), clip_in (by omega) h2, show (lo + 4).toNat - lo.toNat = 4 from four h0]
    simp only [List.map_cons, List.map_nil]
    rw [if_pos (pk (4 * 0) (by omega) (by omega)), if_pos (pk (4 * 1) (by omega) (by omega)), if_pos (pk (4 * 2) (by omega) (by omega)), if_pos (pk (4 * 3) (by omega) (by omega))]
    rfl
  case hne =>
    (rename (_ ≠ _ ∧ _ ≠ _ ∧ _ ≠ _ ∧ _ ≠ _) => o1); (rename (_ < _ ∧ _ < _ ∧ _ < _) => l1)
    exact ⟨o1.1.symm, o1.2.2.2.symm, Nat.ne_of_gt l1.2.2⟩
  case done =>
    dsimp only
    intro h' tk' res rv er kp h1 h2 h3
    exact hR h' tk' res rv er kp h1 h2 h3
end
end
theorem rs13 : True ∧ True := by
  w_top off
  first | (walk1; fail) | exact ⟨trivial, trivial⟩
end
theorem rs14 : True ∧ True := by
  w_top off
  first | (walk1; fail) | exact ⟨trivial, trivial⟩
section
section
variable {w : World} {dp un : Nat} {fr : Option (List Env)} {gd : Option (List Code)} {s : Shared} {mg mb : Str → Option Value} {lo : List Str} {h₀ : Heap}
/-- a call of a def with cells, over a base that is kept; what the call may change is the ledger -/
theorem enterCN {R : Result → Shared → Prop} {f : Addr} {oc dV kV doc pm cdv ct : Value} {od an : Option Addr} {osl : Array (Option Value)} {name qual : Str} {params : Arguments} {body : List Stmt} {kd : ScopeKind} {names : List (Str × NameKind)} {g c : Bool} {more : List (Str × Const)}
    {args : Args} {binds : List (Str × Value)} {news : List (Addr × Obj)}
    (KP : Kp h₀ s.heap) (hsz : h₀.objs.size ≤ s.heap.objs.size) (N0 : ∀ p ∈ news, s.heap.get? p.1 = some p.2 ∧ h₀.get? p.1 = none)
    (X : (K w.params).In h₀) (T : TopRead q lo mg mb h₀) (hd : dp < 900)
    (ho : (K w.params).lookup f = some ⟨oc, od, .func ⟨name, qual, params, .stmts body, ⟨kd, names, g, c, more⟩, mainGlobals, [], dV, kV, doc, pm, an, cdv, ct, builtinsNs⟩, osl⟩)
    (hcd : codeIn (K w.params) cdv qual = true)
    (hbind : BindsTo s ⟨name, qual, params, .stmts body, ⟨kd, names, g, c, more⟩, mainGlobals, [], dV, kV, doc, pm, an, cdv, ct, builtinsNs⟩ args binds)
    (hkind : (binds.all fun y => names.lookup y.1 == some .local || names.lookup y.1 == some .cell) = true)
    (hnd : ((cellsFrom 0 names []).map (·.1)).Nodup)
    (h : ∀ L h₁ tk cells, Fr h₀ L h₁ (bindL (envOfC qual ⟨kd, names, g, c, more⟩ L f cdv).kindOf binds fun _ => none) → News h₀ L h₁ (cells ++ news) →
      CellsAre (bindC (envOfC qual ⟨kd, names, g, c, more⟩ L f cdv).kindOf binds fun _ => none) (cellsFrom (L + 1) names []) cells → (∀ p ∈ news, p.1 < L) →
      wpAny (model pw w) ((Ar dp un fr gd).deeper (envOfC qual ⟨kd, names, g, c, more⟩ L f cdv)) (execs body (envOfC qual ⟨kd, names, g, c, more⟩ L f cdv))
        (fun fl s' => R (.ok (.ret (match fl with | .ret v => v | _ => .none))) s') (fun _ _ => False) { s with heap := h₁, toks := tk })
    (hco : c = false := by rfl) (hgen : g = false := by rfl) (hk : kd = .function := by rfl) : codeAny (model pw w) (Ar dp un fr gd) (.call (.ref f) args) R s := by
  refine enterC (binds := binds) (X.keeps KP) (T.keeps KP) hd ho hcd hbind hkind hnd ?_ hco hgen hk
  intro L h₁ tk cells F N Y
  have hL : s.heap.objs.size ≤ L := F.above
  refine h L h₁ tk cells ⟨F.ns, fun b o e => F.keep b o (KP b o e), Nat.le_trans hsz F.above⟩ ?_ Y (fun p hp => Nat.lt_of_lt_of_le (Heap.lt_size (N0 p hp).1) hL)
  intro p hp
  rcases List.mem_append.mp hp with hp | hp
  · refine ⟨(N p hp).1, (N p hp).2.1, ?_⟩
    cases e : h₀.get? p.1 with
    | none => rfl
    | some o => have := (N p hp).2.2; rw [KP _ _ e] at this; cases this
  · exact ⟨F.keep _ _ (N0 p hp).1, Nat.ne_of_lt (Nat.lt_of_lt_of_le (Heap.lt_size (N0 p hp).1) hL), (N0 p hp).2⟩
/-- the same without cells -/
theorem enterN {R : Result → Shared → Prop} {f : Addr} {oc dV kV doc pm cdv ct : Value} {od an : Option Addr} {osl : Array (Option Value)} {name qual : Str} {params : Arguments} {body : List Stmt} {kd : ScopeKind} {names : List (Str × NameKind)} {g c : Bool} {more : List (Str × Const)}
    {args : Args} {binds : List (Str × Value)} {news : List (Addr × Obj)}
    (KP : Kp h₀ s.heap) (hsz : h₀.objs.size ≤ s.heap.objs.size) (N0 : ∀ p ∈ news, s.heap.get? p.1 = some p.2 ∧ h₀.get? p.1 = none)
    (X : (K w.params).In h₀) (T : TopRead q lo mg mb h₀) (hd : dp < 900)
    (ho : (K w.params).lookup f = some ⟨oc, od, .func ⟨name, qual, params, .stmts body, ⟨kd, names, g, c, more⟩, mainGlobals, [], dV, kV, doc, pm, an, cdv, ct, builtinsNs⟩, osl⟩)
    (hcd : codeIn (K w.params) cdv qual = true)
    (hbind : BindsTo s ⟨name, qual, params, .stmts body, ⟨kd, names, g, c, more⟩, mainGlobals, [], dV, kV, doc, pm, an, cdv, ct, builtinsNs⟩ args binds)
    (hcell : ∀ x ∈ names, x.2 ≠ .cell) (hloc : (binds.all fun x => decide (names.lookup x.1 = some .local)) = true)
    (h : ∀ L h₁ tk, Fr h₀ L h₁ (fun y => binds.reverse.lookup y) → News h₀ L h₁ news → (∀ p ∈ news, p.1 < L) →
      wpAny (model pw w) ((Ar dp un fr gd).deeper (envOf qual ⟨kd, names, g, c, more⟩ L f cdv)) (execs body (envOf qual ⟨kd, names, g, c, more⟩ L f cdv))
        (fun fl s' => R (.ok (.ret (match fl with | .ret v => v | _ => .none))) s') (fun _ _ => False) { s with heap := h₁, toks := tk })
    (hco : c = false := by rfl) (hgen : g = false := by rfl) (hk : kd = .function := by rfl) : codeAny (model pw w) (Ar dp un fr gd) (.call (.ref f) args) R s := by
  refine enter (binds := binds) (X.keeps KP) (T.keeps KP) hd ho hcd hbind hcell hloc ?_ hco hgen hk
  intro L h₁ tk F N
  have hL : s.heap.objs.size ≤ L := F.above
  exact h L h₁ tk ⟨F.ns, fun b o e => F.keep b o (KP b o e), Nat.le_trans hsz F.above⟩ (fun p hp => ⟨F.keep _ _ (N0 p hp).1, Nat.ne_of_lt (Nat.lt_of_lt_of_le (Heap.lt_size (N0 p hp).1) hL), (N0 p hp).2⟩) (fun p hp => Nat.lt_of_lt_of_le (Heap.lt_size (N0 p hp).1) hL)
theorem inst_mix {h : Heap} {L x d : Addr} {m : Str → Option Value} {od : Obj} {news : List (Addr × Obj)} (F : Fr h₀ L h m) (N : News h₀ L h news) {C : Addr} (h1 : h₀.get? x = some (instObj C d)) (h2 : (d, od) ∈ news) : InstAt h x (instObj C d) C (some od) := ⟨F.keep _ _ h1, rfl, rfl, (N _ h2).1⟩
/-- a comprehension by an invariant of its turns -/
theorem comp_J {A : Around} {L : Addr} {m : Str → Option Value} {env : Env} {elt : PySem.Expr} {x : Str} {scope : Scope} {cl : List (Str × Addr)} {S : List (Addr × Obj) → Prop} {P : Nat → Value → Prop} {Fin : List Value → List (Addr × Obj) → Prop} {news : List (Addr × Obj)} {n : Nat}
    (J : Nat → List Value → List (Addr × Obj) → Prop) (h0 : J 0 [] news)
    (turn : ∀ i v ys nw I oI C oC D m₂ h tk (E' : Value → Shared → Prop), i < n → P i v → J i ys nw → LCg.NsObj oC m₂ → m₂ x = some v → Fr h₀ L h m → News h₀ L h ((I, oI) :: (C, oC) :: (D, LCg.lst ys) :: nw) → LCg.Off3 I C D nw → ((@Ne Nat I C) ∧ (@Ne Nat I D) ∧ (@Ne Nat C D)) →
      wpAny (model pw w) A (eval elt (compEnvC scope cl C env)) (LCg.CompEnd h₀ L m { s with heap := h, toks := tk } I oI C oC D (LCg.lst ys) S (fun y nw' => J (i + 1) (ys ++ [y]) nw')) E' { s with heap := h, toks := tk })
    (fin : ∀ ys nw, J n ys nw → Fin ys nw) : LCg.CompRest pw w A h₀ L m env elt x scope cl s S P Fin n 0 [] news := by
  have key : ∀ (j i : Nat) (ys : List Value) (nw : List (Addr × Obj)), i + j = n → J i ys nw → LCg.CompRest pw w A h₀ L m env elt x scope cl s S P Fin j i ys nw := by
    intro j
    induction j with
    | zero =>
      intro i ys nw hi hJ
      have e : i = n := by omega
      subst e
      exact LCg.CompRest.zero (fin ys nw hJ)
    | succ j ih =>
      intro i ys nw hi hJ
      refine LCg.CompRest.succ ?_
      intro v I oI C oC D m₂ h tk E' hv hC hx F N off ne
      refine wpAny_mono (turn i v ys nw I oI C oC D m₂ h tk E' (by omega) hv hJ hC hx F N off ne) (fun y s₂ hq => ?_) fun _ _ e => e
      refine Classical.byContradiction fun hng => ?_
      obtain ⟨h', tk', nw', e, F', N', off', hS, hJ'⟩ := hq
      refine hng ?_
      clear hng
      exact ⟨h', tk', nw', e, F', N', off', hS, ih (i + 1) _ _ (by omega) hJ'⟩
  exact key n 0 [] news (by omega) h0
end
end
theorem rs15 : True ∧ True := by
  w_top off
  first | (walk1; fail) | exact ⟨trivial, trivial⟩
section
local macro_rules | `(tactic| k_inst) => `(tactic| k_extra "y22")
local macro_rules | `(tactic| k_all) => `(tactic| assumption)
section
noncomputable def iniBody : List Stmt := stB (fB (M 7 16))
noncomputable def iniScope : Scope := fS (M 7 16)
/-- rows of four ints at the addresses of a ledger -/
structure Mat (val : Addr → List Int) (led : List (Addr × Obj)) : Prop where
  nd : (led.map (·.1)).Nodup
  row : ∀ p ∈ led, ∃ vs n, p.2 = listOf vs.toArray n ∧ IntsAre vs (val p.1) ∧ (val p.1).length = 4
theorem allLt_mem {d : Addr} : ∀ {l : List (Addr × Obj)}, AllLt d l → ∀ p ∈ l, @LT.lt Nat _ p.1 d
  | [], _, _, h => nomatch h
  | _ :: _, x, p, h => by
    rcases List.mem_cons.mp h with rfl | h
    · exact x.1
    · exact allLt_mem x.2 p h
theorem rsize_nat {a b : Int} (h : 0 ≤ b - a) : Builtin.Range.rangeSize a b 1 = (((b - a).toNat : Nat) : Int) := rsize_up (by omega)
theorem Mat.nil {val : Addr → List Int} : Mat val [] := ⟨.nil, fun _ h => nomatch h⟩
theorem Mat.snoc {val : Addr → List Int} {led : List (Addr × Obj)} {D : Addr} {vs : List Value} {n : Nat} (M : Mat val led) (h : ∀ p ∈ led, @LT.lt Nat _ p.1 D) (hi : IntsAre vs (val D)) (hl : (val D).length = 4) : Mat val (led ++ [(D, listOf vs.toArray n)]) := by
  refine ⟨?_, fun p hp => ?_⟩
  · rw [List.map_append, List.nodup_append]
    refine ⟨M.nd, by simp, fun a ha b hb e => ?_⟩
    obtain ⟨p, hp, rfl⟩ := List.mem_map.mp ha
    have hb' : b = D := by simpa using hb
    exact absurd (h p hp) (by rw [e, hb']; exact Nat.lt_irrefl _)
  · rcases List.mem_append.mp hp with hp | hp
    · exact M.row p hp
    · rw [List.mem_singleton.mp hp]
      exact ⟨vs, n, rfl, hi, hl⟩
theorem LCgOff1.mem {D : Addr} : ∀ {l : List (Addr × Obj)}, LCg.Off1 D l → ∀ p ∈ l, p.1 ≠ D
  | [], _, _, h => nomatch h
  | _ :: _, x, p, h => by
    rcases List.mem_cons.mp h with rfl | h
    · exact x.1
    · exact LCgOff1.mem x.2 p h
theorem rows_end {h' h₀ : Heap} {L D' l' I C D : Addr} {m : Str → Option Value} {vs : List Value} {n0 tk' : Nat} {ol oI oC oD : Obj} {s₁ : Shared} {pre led : List (Addr × Obj)} {rest : Value → List (Addr × Obj) → Prop}
    (F6 : Fr h₀ L h' m) (N6 : News h₀ L h' ((D', listOf vs.toArray n0) :: (l', ol) :: (I, oI) :: (C, oC) :: (D, oD) :: (pre ++ led))) (z : @LT.lt Nat _ I D' ∧ @LT.lt Nat _ C D' ∧ @LT.lt Nat _ D D') (off : LCg.Off3 I C D (pre ++ led))
    (hr : rest (.ref D') (pre ++ (led ++ [(D', listOf vs.toArray n0)]))) : LCg.CompEnd h₀ L m s₁ I oI C oC D oD (fun _ => True) rest (.ref D') { s₁ with heap := h', toks := tk' } := by
  have of3 := off.mem
  refine LCg.CompEnd.intro F6 N6 (pre ++ (led ++ [(D', listOf vs.toArray n0)])) (fun p hp => ?_) (LCg.Off3.of fun p hp => ?_) True.intro hr
  · simp only [List.mem_cons, List.mem_append, List.not_mem_nil, or_false] at hp ⊢
    rcases hp with h | h | h | h | h | h <;> simp [h]
  · simp only [List.mem_cons, List.mem_append, List.not_mem_nil, or_false] at hp
    rcases hp with h | h | h
    · exact of3 p (by simp [h])
    · exact of3 p (by simp [h])
    · rw [h]; exact ⟨Nat.ne_of_gt z.1, Nat.ne_of_gt z.2.1, Nat.ne_of_gt z.2.2⟩
local macro_rules | `(tactic| walk_at "CompSrc") => `(tactic| k_extra "y23")
section
variable {w : World} {dp un : Nat} {fr : Option (List Env)} {gd : Option (List Code)} {s : Shared} {mg mb : Str → Option Value} {lo : List Str} {h₀ : Heap}
theorem ini_A {x d L : Addr} {m : Str → Option Value} {ok : Obj} {r : Nat} {tr : Tok} {Q : Flow → Shared → Prop}
    (X : (K w.params).In h₀) (T : TopRead q lo mg mb h₀) (hdp : dp < 700) (hx : h₀.get? x = some (instObj 116 d)) (hr : 10 ≤ r ∧ r ≤ 14)
    (F : Fr h₀ L s.heap m) (hm : ∀ p ∈ [(Str.ofString "self", Value.ref x), ("rounds", .int r tr)], m p.1 = some p.2)
    (N : News h₀ L s.heap [(L + 1, ok), (d, dictOf [] 0)]) (hne : @LT.lt Nat _ d (L + 1))
    (done : ∀ h' tk' m' ad led a b hE hD tE tD, Fr h₀ L h' m' → (∀ p ∈ [(Str.ofString "self", Value.ref x), ("rounds", .int r tr)], m' p.1 = some p.2) →
      News h₀ L h' ((b, LCg.lst ((ad.drop (r + 1)).map Value.ref)) :: (a, LCg.lst ((ad.take (r + 1)).map Value.ref)) :: (L + 1, ok) :: (d, dictOf [⟨hE, .str "_Ke" tE, .ref a⟩, ⟨hD, .str "_Kd" tD, .ref b⟩] 2) :: led) →
      led.map (·.1) = ad → ad.length = 2 * (r + 1) → Mat (fun _ => [0, 0, 0, 0]) led → (a ∉ ad ∧ b ∉ ad ∧ d ∉ ad ∧ L + 1 ∉ ad) → (@Ne Nat a b ∧ @Ne Nat a (L + 1) ∧ @Ne Nat a d ∧ @Ne Nat b (L + 1) ∧ @Ne Nat b d) →
      wpAny (model pw w) ((Ar dp un fr gd).deeper (envOfC "AES.__init__" iniScope L 103 (.ref 102))) (execs (iniBody.drop 4) (envOfC "AES.__init__" iniScope L 103 (.ref 102))) Q (fun _ _ => False) { s with heap := h', toks := tk' }) :
    wpAny (model pw w) ((Ar dp un fr gd).deeper (envOfC "AES.__init__" iniScope L 103 (.ref 102))) (execs (iniBody.drop 2) (envOfC "AES.__init__" iniScope L 103 (.ref 102))) Q (fun _ _ => False) s := by
  refine with_scope (sc := iniScope) (P := fun sc => wpAny (model pw w) ((Ar dp un fr gd).deeper (envOfC "AES.__init__" sc L 103 (.ref 102))) (execs (iniBody.drop 2) (envOfC "AES.__init__" sc L 103 (.ref 102))) Q (fun _ _ => False) s) rfl ?_
  refine with_list (P := fun l => wpAny (model pw w) _ (execs l _) Q (fun _ _ => False) s) rfl ?_
  have F1 := frFacts _ hm F
  clear F
  dsimp only [kstB] at F1
  iterate 3 (first | (k_unfold; (try dsimp only)) | walk1 | (dsimp only; walk1))
  have hva : ∀ a : Addr, ((fun _ => [0, 0, 0, 0]) : Addr → List Int) a = [0, 0, 0, 0] := fun _ => rfl
  refine comp_J (J := fun i ys nw => ∃ led, nw = (L + 1, ok) :: (d, dictOf [] 0) :: led ∧ Mat (fun _ => [0, 0, 0, 0]) led ∧ ys = led.map (fun p => Value.ref p.1) ∧ led.length = i ∧ ∀ p ∈ led, @LT.lt Nat _ (L + 1) p.1) ⟨[], rfl, .nil, rfl, rfl, fun _ h => nomatch h⟩ ?_ ?_
  · intro i v ys nw I oI C oC D m₂ h tk E' hi hP hJz hC hx1 F5 N5 off ne
    refine Classical.byContradiction fun hng => ?_
    obtain ⟨led, rfl, M, rfl, hl, hL⟩ := hJz
    refine hng ?_
    clear hng
    iterate 8 (first | (k_unfold; (try dsimp only)) | walk1 | (dsimp only; walk1))
    (rename Fr _ _ _ _ => F6); (rename News _ _ _ _ => N6)
    (rename (_ < _ ∧ _ < _ ∧ _ < _ ∧ _ < _ ∧ _ < _ ∧ _ < _ ∧ _) => l1)
    refine Classical.byContradiction fun hng => ?_
    obtain ⟨z1, z2, z3, z4, z5, z6, z7⟩ := l1
    refine hng ?_
    clear hng
    have z8 := allLt_mem z7
    refine rows_end (pre := [(L + 1, ok), (d, dictOf [] 0)]) F6 N6 ⟨z2, z3, z4⟩ off ?_
    simp only [List.cons_append, List.nil_append]
    refine ⟨_, rfl, M.snoc z8 (.cons _ _ (.cons _ _ (.cons _ _ (.cons _ _ .nil)))) rfl, by rw [List.map_append]; rfl, by rw [List.length_append, hl]; rfl, fun p hp => ?_⟩
    rcases List.mem_append.mp hp with hp | hp
    · exact hL p hp
    · rw [List.mem_singleton.mp hp]; exact z5
  · intro ys nw hJz
    refine Classical.byContradiction fun hng => ?_
    obtain ⟨led, rfl, M, rfl, hl, hL⟩ := hJz
    refine hng ?_
    clear hng
    intro a h tk Fa Na oa
    simp only [LCg.Off1] at oa
    have hld : ∀ p ∈ led, p.1 ≠ d := fun p hp => Nat.ne_of_gt (Nat.lt_trans hne (hL p hp))
    iterate 6 (first | (k_unfold; (try dsimp only)) | walk1 | (dsimp only; walk1))
    refine comp_J (J := fun i ys nw => ∃ hE tE led2, nw = (a, LCg.lst (led.map (fun p => Value.ref p.1))) :: (L + 1, ok) :: (d, dictOf [⟨hE, .str "_Ke" tE, .ref a⟩] 1) :: (led ++ led2) ∧ Mat (fun _ => [0, 0, 0, 0]) (led ++ led2) ∧ ys = led2.map (fun p => Value.ref p.1) ∧ led2.length = i ∧ ∀ p ∈ led2, @LT.lt Nat _ (L + 1) p.1 ∧ @LT.lt Nat _ a p.1) ?h0 ?_ ?_
    case h0 => exact ⟨_, _, [], by rw [List.append_nil], by rw [List.append_nil]; exact M, rfl, rfl, fun _ h => nomatch h⟩
    · intro i v ys nw I oI C oC D m₂ h tk E' hi hP hJz hC hx1 F5 N5 off ne
      refine Classical.byContradiction fun hng => ?_
      obtain ⟨hE, tE, led2, rfl, M2, rfl, hl2, hL2⟩ := hJz
      refine hng ?_
      clear hng
      iterate 8 (first | (k_unfold; (try dsimp only)) | walk1 | (dsimp only; walk1))
      (rename Fr _ _ _ _ => F6); (rename News _ _ _ _ => N6)
      (rename (_ < _ ∧ _ < _ ∧ _ < _ ∧ _ < _ ∧ _ < _ ∧ _ < _ ∧ _ < _ ∧ _) => l1)
      refine Classical.byContradiction fun hng => ?_
      obtain ⟨z1, z2, z3, z4, z4a, z5, z6, z7⟩ := l1
      refine hng ?_
      clear hng
      have z8 := allLt_mem z7
      refine rows_end (pre := [(a, LCg.lst (led.map (fun p => Value.ref p.1))), (L + 1, ok), (d, dictOf [⟨hE, .str "_Ke" tE, .ref a⟩] 1)]) (led := led ++ led2) F6 N6 ⟨z2, z3, z4⟩ off ?_
      simp only [List.cons_append, List.nil_append]
      rw [List.append_assoc]
      refine ⟨hE, tE, _, rfl, by rw [← List.append_assoc]; exact M2.snoc z8 (.cons _ _ (.cons _ _ (.cons _ _ (.cons _ _ .nil)))) rfl, by rw [List.map_append]; rfl, by rw [List.length_append, hl2]; rfl, fun p hp => ?_⟩
      rcases List.mem_append.mp hp with hp | hp
      · exact hL2 p hp
      · rw [List.mem_singleton.mp hp]; exact ⟨z5, z4a⟩
    · intro ys nw hJz
      refine Classical.byContradiction fun hng => ?_
      obtain ⟨hE, tE, led2, rfl, M2, rfl, hl2, hL2⟩ := hJz
      refine hng ?_
      clear hng
      intro b h tk Fb Nb ob
      simp only [LCg.Off1] at ob
      have hld2 : ∀ p ∈ led ++ led2, p.1 ≠ d := fun p hp => by
        rcases List.mem_append.mp hp with hp | hp
        · exact hld p hp
        · exact Nat.ne_of_gt (Nat.lt_trans hne (hL2 p hp).1)
      iterate 3 (first | (k_unfold; (try dsimp only)) | walk1 | (dsimp only; walk1))
      (rename Fr _ _ _ _ => F9); (rename News _ _ _ _ => N9)
      have el1 : led.length = r + 1 := by omega
      have e1 : List.map (fun p : Addr × Obj => Value.ref p.1) led = List.map Value.ref (List.take (r + 1) ((led ++ led2).map (·.1))) := by
        rw [List.map_append, List.take_append_of_le_length (by rw [List.length_map]; omega), List.take_of_length_le (by rw [List.length_map]; omega), List.map_map]; rfl
      have e2 : List.map (fun p : Addr × Obj => Value.ref p.1) led2 = List.map Value.ref (List.drop (r + 1) ((led ++ led2).map (·.1))) := by
        rw [List.map_append, List.drop_append_of_le_length (by rw [List.length_map]; omega), List.drop_of_length_le (by rw [List.length_map]; omega), List.nil_append, List.map_map]; rfl
      rw [e1, e2] at N9
      have oa2 := LCgOff1.mem oa.2.2
      have ob2 := LCgOff1.mem ob.2.2.2
      refine done _ _ _ _ (led ++ led2) a b _ _ _ _ F9 (fun p hp => ?_) N9 rfl (by rw [List.length_map, List.length_append]; omega) M2 ⟨?_, ?_, ?_, ?_⟩ ⟨ob.1, oa.1.symm, oa.2.1.symm, ob.2.1.symm, ob.2.2.1.symm⟩
      · simp only [List.mem_cons, List.not_mem_nil, or_false] at hp
        rcases hp with rfl | rfl <;> rfl
      · intro hm
        obtain ⟨p, hp, e⟩ := List.mem_map.mp hm
        rcases List.mem_append.mp hp with hp | hp
        · exact oa2 p hp e
        · exact Nat.lt_irrefl _ (e ▸ (hL2 p hp).2)
      · intro hm
        obtain ⟨p, hp, e⟩ := List.mem_map.mp hm
        exact ob2 p hp e
      · intro hm
        obtain ⟨p, hp, e⟩ := List.mem_map.mp hm
        exact hld2 p hp e
      · intro hm
        obtain ⟨p, hp, e⟩ := List.mem_map.mp hm
        rcases List.mem_append.mp hp with hp | hp
        · exact Nat.lt_irrefl _ (e ▸ hL p hp)
        · exact Nat.lt_irrefl _ (e ▸ (hL2 p hp).1)
end
end
theorem rs16 : True ∧ True := by
  w_top off
  first | (walk1; fail) | exact ⟨trivial, trivial⟩
section
/-- a range of any step as the source of a comprehension -/
noncomputable def SrcS (w : World) (A : Around) (h₀ : Heap) (L : Addr) (m : Str → Option Value) (env : Env) (elt : PySem.Expr) (x : Str) (scope : Scope) (cl : List (Str × Addr)) (Fin : Shared → List Value → List (Addr × Obj) → Prop) (xv : Value) (s₁ : Shared) : Prop :=
  ∃ r a b c t u v n news, xv = .ref r ∧ A.handled = none ∧ Fr h₀ L s₁.heap m ∧ News h₀ L s₁.heap news ∧ IsRange s₁.heap r a b c t u v ∧ Builtin.Range.small a b c = true ∧ Builtin.Range.rangeSize a b c = ((n : Nat) : Int) ∧ n ≤ sizeLine ∧
    ∀ s₂ : Shared, (∃ h, s₂ = { s₁ with heap := h }) → LCg.CompRest pw w A h₀ L m env elt x scope cl s₂ (fun _ => True) (fun i v => ∃ t, v = .int (a + (i : Int) * c) t) (Fin s₂) n 0 [] news
section
variable {w : World} {A : Around} {E : Value → Shared → Prop} {s : Shared} {h₀ : Heap} {L : Addr} {m : Str → Option Value} {env : Env}
theorem SrcS.intro {elt : PySem.Expr} {x : Str} {scope : Scope} {cl : List (Str × Addr)} {Fin : Shared → List Value → List (Addr × Obj) → Prop} {r : Addr} {a b c : Int} {t u v : Tok} {n : Nat} {news : List (Addr × Obj)} {s₁ : Shared}
    (hh : A.handled = none) (F : Fr h₀ L s₁.heap m) (N : News h₀ L s₁.heap news) (hr : IsRange s₁.heap r a b c t u v) (hsm : Builtin.Range.small a b c = true) (hn : Builtin.Range.rangeSize a b c = ((n : Nat) : Int)) (hsz : n ≤ sizeLine)
    (h : ∀ g, LCg.CompRest pw w A h₀ L m env elt x scope cl { s₁ with heap := g } (fun _ => True) (fun i v => ∃ t, v = .int (a + (i : Int) * c) t) (Fin { s₁ with heap := g }) n 0 [] news) :
    SrcS w A h₀ L m env elt x scope cl Fin (.ref r) s₁ := ⟨r, a, b, c, t, u, v, n, news, rfl, hh, F, N, hr, hsm, hn, hsz, fun _ ⟨g, e⟩ => e ▸ h g⟩
theorem stepWalks {I : Addr} (hh : A.handled = none) (a c : Int) (n : Nat) : Walks pw w A I [I] [I] n (fun i v => ∃ t, v = .int (a + (i : Int) * c) t) (fun i h => IsRangeIter h I (a + (i : Nat) * c) ((n : Int) - (i : Nat)) c) :=
  let W := (Walks.range (prog := pw) (w := w) hh I a c n).bound
  { sub := W.sub, frame := W.frame, done := W.done, self := W.self, item := fun i s Q E hi st hQ => W.item i s Q E hi st fun v h' tk hP => hQ v h' tk hP.2 }
theorem iterStays {I : Addr} {a c : Int} {n : Nat} : ∀ i (h h' : Heap) (o : Obj) (nw : List (Addr × Obj)), IsRangeIter h I (a + (i : Nat) * c) ((n : Int) - (i : Nat)) c → h.get? I = some o → h'.get? I = some o → (∀ b o, h₀.get? b = some o → h'.get? b = some o) → News h₀ L h' nw → True → IsRangeIter h' I (a + (i : Nat) * c) ((n : Int) - (i : Nat)) c :=
  fun i h h' o nw st e e' _ _ _ => by
    have q : some o = _ := e.symm.trans st
    exact e'.trans q
theorem newsBut {h h' : Heap} {C : Addr} {D : Addr} {oD : Obj} {news : List (Addr × Obj)} (N : News h₀ L h ((D, oD) :: news)) (hs : Heap.SameBut C h h') (h1 : D ≠ C) (h2 : ∀ p ∈ news, p.1 ≠ C) : News h₀ L h' ((D, oD) :: news) := fun p hp =>
  ⟨hs.extBut _ _ (by
    rcases List.mem_cons.mp hp with rfl | hp
    · exact h1
    · exact h2 p hp) (N p hp).1, (N p hp).2⟩
theorem listComp_S {elt iter : PySem.Expr} {x : Str} {px : Pos} {scope : Scope} {cl : List (Str × Addr)} {pos : Pos} {Q : Value → Shared → Prop} (F₀ : Fr h₀ L s.heap m)
    (hclos : closureFor scope env = pure cl) (hcell : ∀ y ∈ scope.names, y.2 ≠ .cell) (hkind : scope.kind = .function)
    (hnames : ∀ y ∈ scope.names, y.2 = .local → scope.names.lookup y.1 = some .local) (hx : scope.names.lookup x = some .local)
    (h : wpAny (model pw w) A (eval iter env) (SrcS w A h₀ L m env elt x scope cl (fun s₂ => LCg.FinE h₀ L m s₂ Q)) E s)
    (hs : ∀ x, foldedSetIterable iter env x = pure x := by intro _; rfl) :
    wpAny (model pw w) A (eval (.ListComp elt [⟨.Name x px, iter, [], 0⟩] scope pos) env) Q E s := by
  rw [eval_ListComp]
  refine wpAny_comprehension_free (use := none) rfl hs hclos hkind hnames (wpAny_mono h ?_ fun _ _ e => e)
  intro xv s₁ hJz
  refine Classical.byContradiction fun hng => ?_
  obtain ⟨r, a, b, c, t, u, v, n, news, rfl, hh, F, N, hr, hsm, hn, hsz, R⟩ := hJz
  refine hng ?_
  clear hng
  have up : ∀ o b x, s₁.heap.get? b = some x → (s₁.heap.push o).get? b = some x := fun _ _ _ e => Heap.get?_push_of_some _ e
  refine wpAny_pyIter_range hr hsm (LCg.block_U (stepWalks hh a c n) hsz (fun i h st => ⟨_, st⟩) iterStays hcell hkind hx ?_ ?_ (F.keeps (up _)) (N.grown (up _)) (Nat.ne_of_lt F.ns.lt) (next_is_new F) (fun p hp => Nat.ne_of_lt (Heap.lt_size (N p hp).1)) trivial (R _ ⟨_, rfl⟩) ?_)
  · show IsRangeIter _ _ _ _ _
    rw [hn]
    simpa using Heap.get?_push_size _ rfl
  · intro b hb
    rw [List.mem_singleton.mp hb]
    show s₁.heap.objs.size < (s₁.heap.push _).objs.size
    rw [Heap.size_push]; exact Nat.lt_succ_self _
  · intro D C h tk m' ys news' F' N' o1 hn' hC₀ _ hCL _ hCD offC fin
    exact ⟨m', hn', fun h'' hs'' => fin D h'' tk (F'.change hs'' hCL hC₀) (newsBut N' hs'' (Ne.symm hCD) offC) o1⟩
theorem assignComp_S {elt iter : PySem.Expr} {x y : Str} {px py : Pos} {scope : Scope} {cl : List (Str × Addr)} {pos spos : Pos} {Q : Flow → Shared → Prop} (F₀ : Fr h₀ L s.heap m) (hLe : env.locals = L)
    (hsw : swapsWith (.ListComp elt [⟨.Name x px, iter, [], 0⟩] scope pos) (some (.Name y py)) spos.line env = pure true)
    (hclos : closureFor scope env = pure cl) (hcell : ∀ z ∈ scope.names, z.2 ≠ .cell) (hkind : scope.kind = .function)
    (hnames : ∀ z ∈ scope.names, z.2 = .local → scope.names.lookup z.1 = some .local) (hx : scope.names.lookup x = some .local)
    (hy : env.kindOf y = some .local) (hp : (env.scope.kind == .class || (env.scope.kind == .module && env.locals != env.globals)) = false)
    (h : wpAny (model pw w) A (eval iter env) (SrcS w A h₀ L m env elt x scope cl (fun s₂ => LCg.FinA h₀ L m s₂ y Q)) E s)
    (hs : ∀ x, foldedSetIterable iter env x = pure x := by intro _; rfl) :
    wpAny (model pw w) A (exec (.Assign [.Name y py] (.ListComp elt [⟨.Name x px, iter, [], 0⟩] scope pos) spos) env) Q E s := by
  subst hLe
  rw [exec_Assign_Name_used _ _ _ _ hsw]
  refine wpAny_bind (wpAny_standAt (wpAny_bind ?_))
  show wpAny _ A (do let _ ← comprehension (.ListComp elt [⟨.Name x px, iter, [], 0⟩] scope pos) scope env _ (newList []) false (eval iter env) (some (assign (.Name y py) env))) _ _ s
  refine wpAny_bind (wpAny_mono (wpAny_comprehension_free (use := some (assign (.Name y py) env)) (Q := fun _ s' => Q .next s') rfl hs hclos hkind hnames
    (wpAny_mono h ?_ fun _ _ e => e)) (fun _ s' hq => wpAny_pure (wpAny_pure hq)) fun _ _ e => e)
  intro xv s₁ hJz
  refine Classical.byContradiction fun hng => ?_
  obtain ⟨r, a, b, c, t, u, v, n, news, rfl, hh, F, N, hr, hsm, hn, hsz, R⟩ := hJz
  refine hng ?_
  clear hng
  have up : ∀ o b x, s₁.heap.get? b = some x → (s₁.heap.push o).get? b = some x := fun _ _ _ e => Heap.get?_push_of_some _ e
  refine wpAny_pyIter_range hr hsm (LCg.block_U (stepWalks hh a c n) hsz (fun i h st => ⟨_, st⟩) iterStays hcell hkind hx ?_ ?_ (F.keeps (up _)) (N.grown (up _)) (Nat.ne_of_lt F.ns.lt) (next_is_new F) (fun p hp => Nat.ne_of_lt (Heap.lt_size (N p hp).1)) trivial (R _ ⟨_, rfl⟩) ?_)
  · show IsRangeIter _ _ _ _ _
    rw [hn]
    simpa using Heap.get?_push_size _ rfl
  · intro b hb
    rw [List.mem_singleton.mp hb]
    show s₁.heap.objs.size < (s₁.heap.push _).objs.size
    rw [Heap.size_push]; exact Nat.lt_succ_self _
  · intro D C h' tk m' ys news' F' N' o1 hn' hC₀ _ hCL _ hCD offC fin
    show wpAny _ A (assign (.Name y py) env (.ref D)) _ _ _
    refine wpAny_assign_Name (wpAny_storeName_local hy F'.ns (fun h₂ hn₂ hs₂ => ?_) hp)
    exact ⟨m', hn'.sameBut hs₂ hCL, fun h'' hs'' => fin D h'' _ ((F'.set hn₂ hs₂).change hs'' hCL hC₀) (newsBut (N'.set hs₂) hs'' (Ne.symm hCD) offC) o1⟩
end
end
theorem rs17 : True ∧ True := by
  w_top off
  first | (walk1; fail) | exact ⟨trivial, trivial⟩
section
section
variable {w : World} {M : Model} {A : Around} {E : Value → Shared → Prop} {s : Shared} {h₀ : Heap} {L : Addr} {m : Str → Option Value} {news : List (Addr × Obj)}
theorem keeps_bound {u : Addr} (h : Heap) (X : KFB.StandsAt u h) : ∃ k, (k = Keeper.frame ∨ k = Keeper.machine ∨ k = Keeper.boundFrame) ∧ Looks M h (keeperOf (.ref u)) k :=
  ⟨.machine, .inr (.inl rfl), (Looks.ld (part := none) X).andThen .now⟩
theorem callWith_boundKW {env : Env} {pos : Pos} {u : Addr} {first : List Value} {Q : Value → Shared → Prop} {e : PySem.Expr} {rest : List PySem.Expr} {kws : List Keyword} (_N : News h₀ L s.heap news) (_hm : (u, KFB.bound) ∈ news) (hall : (backToKw pos (keywordEach kws env)).all (·.1.isSome) = true)
    (h : wpAny M A (spliced (backTo pos (starEach (e :: rest) env))) (fun vs s₁ => wpAny M A (evalAll ((backToKw pos (keywordEach kws env)).map (·.2)))
      (fun ks s₂ => KFB.StandsAt u s₂.heap ∧ wpAny M A (call (.ref u) (first ++ vs) (((backToKw pos (keywordEach kws env)).filterMap (·.1)).zip ks)) Q E s₂) E s₁) E s)
    (hplain : ((backTo pos (starEach (e :: rest) env)).any (·.1) || (backToKw pos (keywordEach kws env)).any (·.1.isNone)) = false := by rfl) (he : starEach (e :: rest) env = (false, eval e env) :: starEach rest env := by rfl) :
    wpAny M A (callWith pos (.ref u) first (backTo pos (starEach (e :: rest) env)) (backToKw pos (keywordEach kws env))) Q E s :=
  callWith_of hplain keeps_bound (evalArgs_kw2 hall h he)
/-- four octets as a signed word -/
noncomputable def sword (ks : List Int) : Int := if 128 ≤ ks.getD 0 0 then KFB.value ks - 256 ^ ks.length else KFB.value ks
theorem grownZ {n : Int} {Q : Value → Shared → Prop} (hn : n.natAbs < 2 ^ 64) (h : Q (.int n s.toks) { s with toks := s.toks + 1 }) : wpAny M A (mkIntGrown n) Q E s := by
  unfold mkIntGrown
  have hb : bitsLine = 134217728 := by first | rfl | decide
  have hl : ¬ (n.natAbs.log2 ≥ bitsLine) := by
    rw [hb]
    by_cases hz : n.natAbs = 0
    · rw [hz]; decide
    · have h1 := (Nat.log2_lt hz).mpr hn
      omega
  rw [if_neg hl]
  exact wpAny_mkInt h
theorem tree_bigS {b : Array UInt8} {t u : Tok} {P : Fin → Shared → Prop} (hl : b.size = 4) (h : P (.done (.ret (.int (sword (KBw.bInts b)) s.toks))) { s with toks := s.toks + 1 }) :
    wpAny M A (Builtin.«int.from_bytes» ⟨[.type "int", .bytes b t, .str (PySem.Str.ofString "big") u], [(PySem.Str.ofString "signed", .bool true)]⟩) P E s := by
  have hv : ((b.toList.foldl (fun (acc : Nat) (b : UInt8) => acc * 256 + b.toNat) 0 : Nat) : Int) = KFB.value (KBw.bInts b) := KFB.fold_cast b.toList 0
  have hn : b.toList.foldl (fun (acc : Nat) (b : UInt8) => acc * 256 + b.toNat) 0 < 2 ^ 32 := by
    have h1 := KFB.fold_lt b.toList 0
    rw [Nat.zero_add, Nat.one_mul, Array.length_toList, hl] at h1
    have h2 : (256 : Nat) ^ 4 = 2 ^ 32 := by decide
    omega
  have hs : (if (b.toList.head?.any (· ≥ 128)) = true then KFB.value (KBw.bInts b) - 256 ^ b.toList.length else KFB.value (KBw.bInts b)) = sword (KBw.bInts b) := by
    unfold sword
    rw [KBw.ints_length, Array.length_toList]
    match e : b.toList with
    | [] => rw [← Array.length_toList, e] at hl; cases hl
    | c :: r =>
      have e1 : (KBw.bInts b).getD 0 0 = (c.toNat : Int) := by unfold KBw.bInts; rw [e]; rfl
      rw [e1]
      have e2 : ((c :: r).head?.any (· ≥ 128)) = decide (c ≥ 128) := rfl
      rw [e2]
      by_cases hc : c ≥ 128
      · have hc' : (128 : Int) ≤ (c.toNat : Int) := by have := UInt8.le_iff_toNat_le.mp hc; have e128 : (128 : UInt8).toNat = 128 := rfl; omega
        rw [if_pos (decide_eq_true hc), if_pos hc']
      · have hc' : ¬ (128 : Int) ≤ (c.toNat : Int) := fun q => hc (UInt8.le_iff_toNat_le.mpr (by have e128 : (128 : UInt8).toNat = 128 := rfl; omega))
        rw [if_neg (by rw [decide_eq_false hc]; exact Bool.false_ne_true), if_neg hc']
  have hz : (sword (KBw.bInts b)).natAbs < 2 ^ 64 := by
    rw [← hs, ← hv, Array.length_toList, hl]
    have h2 : (256 : Int) ^ 4 = 4294967296 := by decide
    split <;> omega
  unfold Builtin.«int.from_bytes»
  refine wpAny_bind (wpAny_of_eq (a := true) KFB.type_int ?_)
  refine KFB.if_not rfl ?_
  refine wpAny_bind (wpAny_of_eq (a := true) F.conv_sub_int ?_)
  refine KFB.if_not rfl ?_
  refine wpAny_bind (wpAny_of_eq (a := [some (.bytes b t), some (.str (PySem.Str.ofString "big") u), some (.bool true)]) (by kernel_rfl) ?_)
  refine wpAny_bind (wpAny_of_eq (a := PySem.Str.ofString "big") (by kernel_rfl) ?_)
  refine wpAny_bind (wpAny_of_eq (a := true) rfl ?_)
  refine wpAny_bind (wpAny_of_eq (a := false) (by kernel_rfl) ?_)
  refine wpAny_bind (wpAny_of_eq (a := b) rfl ?_)
  show wpAny _ _ (mkIntGrown (if (b.toList.head?.any (· ≥ 128)) = true then b.toList.foldl (fun (acc : Int) (b : UInt8) => acc * 256 + (b.toNat : Int)) ((0 : Nat) : Int) - 256 ^ b.toList.length else b.toList.foldl (fun (acc : Int) (b : UInt8) => acc * 256 + (b.toNat : Int)) ((0 : Nat) : Int)) >>= fun v => _) _ _ _
  rw [KFB.foldI_eq, hv, hs]
  refine wpAny_bind (grownZ hz ?_)
  refine KFB.if_so (by decide +kernel) ?_
  exact wpAny_bind (wpAny_pure (wpAny_pure h))
theorem check_fbS {b : Array UInt8} {t u : Tok} : checkBoundCall "int.from_bytes" ⟨[.type "int", .bytes b t, .str (PySem.Str.ofString "big") u], [(PySem.Str.ofString "signed", .bool true)]⟩ = pure () := by first | kernel_rfl | rfl
theorem call_bigS {x : Addr} {b : Array UInt8} {t u : Tok} {ks : List Int} {Q : Value → Shared → Prop} (N : News h₀ L s.heap news) (hm : (x, KFB.bound) ∈ news) (hb : KBw.bInts b = ks) (hl : ks.length = 4)
    (h : ∀ t' k, Q (.int (sword ks) t') { s with toks := k }) : wpAny (model pw w) A (call (.ref x) [.bytes b t, .str (PySem.Str.ofString "big") u] [(PySem.Str.ofString "signed", .bool true)]) Q E s := by
  subst hb
  have ho : KFB.StandsAt x s.heap := KFB.at_of N hm
  refine wpAny_call (codeAny_of_tree ?_)
  show wpAny _ A.in1 (callAny (.ref x) ⟨[.bytes b t, .str (PySem.Str.ofString "big") u], [(PySem.Str.ofString "signed", .bool true)]⟩) _ _ s
  simp only [callAny]
  refine wpAny_bind (wpAny_load ho ?_)
  simp only [KFB.bound, show (Value.type "builtin_function_or_method" == Value.type "method" || Value.type "builtin_function_or_method" == Value.type "builtin_function_or_method" || Value.type "builtin_function_or_method" == Value.type "method-wrapper") = true by decide, if_true]
  refine KFB.if_so (by decide) ?_
  refine wpAny_bind (wpAny_of_eq (a := ()) check_fbS ?_)
  refine wpAny_bind (wpAny_pure (wpAny_pure ?_))
  exact ⟨KFB.quiet_fb, codeAny_builtin KFB.entry_fb (tree_bigS (by rw [← KBw.ints_length]; exact hl) (h _ _))⟩
end
end
theorem rs18 : True ∧ True := by
  w_top off
  first | (walk1; fail) | exact ⟨trivial, trivial⟩
section
local macro_rules | `(tactic| walk_at "exec Assign cons ListComp") => `(tactic| k_extra "y24")
local macro_rules | `(tactic| walk_at "callWith ref") => `(tactic| k_extra "y25")
local macro_rules | `(tactic| walk_at "call ref") => `(tactic| k_extra "y26")
local macro_rules | `(tactic| walk_at "subscriptTail") => `(tactic| k_extra "y20")
theorem name_cb {M : Model} {A : Around} {E : Value → Shared → Prop} {s : Shared} {K : Frag} {h₀ : Heap} {L C : Addr} {m mg mb : Str → Option Value} {scope : Scope} {cl : List (Str × Addr)} {env : Env} {p : Program} {loose : List Str} {x : Str} {pos : Pos} {v : Value} {Q : Value → Shared → Prop}
    (F : Fr h₀ L s.heap m) (X : K.In h₀) (T : TopRead p loose mg mb h₀) (e : nsIn K mainGlobals x = some none) (hv : bootBuiltins x = some v) (hn : x ≠ "__name__") (h : Q v s) (hg : env.globals = mainGlobals := by rfl) (hb : env.builtins = builtinsNs := by rfl)
    (hk : (compEnvC scope cl C env).scope.kind = .function := by rfl) (hx : (compEnvC scope cl C env).kindOf x = some .globalImplicit := by rfl) (hd : (x == ("__debug__" : Str)) = false := by decide) :
    wpAny M A (eval (.Name x pos) (compEnvC scope cl C env)) Q E s :=
  Name_function_global hk hx (loadGlobal_builtin (env := compEnvC scope cl C env) (show s.heap.Ns env.globals mg from hg ▸ (T.keeps F.keep).g) (mg_none_of X T.g e) (show s.heap.Ns env.builtins mb from hb ▸ (T.keeps F.keep).b) ((T.builtins x hn).trans hv) h) hd
local macro_rules | `(tactic| walk_at "eval Name") => `(tactic| k_extra "y27")
section
variable {w : World} {dp un : Nat} {fr : Option (List Env)} {gd : Option (List Code)} {s : Shared} {mg mb : Str → Option Value} {lo : List Str} {h₀ : Heap}
/-- the key's words -/
noncomputable def tkInit (key : List Int) (n : Nat) : List Int := (List.range n).map fun j => sword (List.take 4 (List.drop (4 * j) key))
theorem ini_B {x L : Addr} {m : Str → Option Value} {ok : Obj} {r kc : Nat} {tr tb : Tok} {bs : Array UInt8} {key : List Int} {news : List (Addr × Obj)} {Q : Flow → Shared → Prop}
    (X : (K w.params).In h₀) (T : TopRead q lo mg mb h₀) (hdp : dp < 700)
    (hi : KBw.bInts bs = key) (hr : r = kc + 6) (hk : key.length = 4 * kc) (hkc : 4 ≤ kc ∧ kc ≤ 8) (hok : ok.data = .cell (some (.bytes bs tb)))
    (F : Fr h₀ L s.heap m) (hm : ∀ p ∈ [(Str.ofString "self", Value.ref x), ("rounds", .int r tr)], m p.1 = some p.2)
    (N : News h₀ L s.heap ((L + 1, ok) :: news))
    (done : ∀ h' tk' m' D ys k1 k2, Fr h₀ L h' m' → m' "self" = some (.ref x) → m' "rounds" = some (.int r tr) → m' "round_key_count" = some (.int ((r + 1) * 4) k1) → m' "KC" = some (.int kc k2) → m' "tk" = some (.ref D) →
      News h₀ L h' ((D, LCg.lst ys) :: (L + 1, ok) :: news) → (∀ p ∈ (L + 1, ok) :: news, p.1 ≠ D) → IntsAre ys (tkInit key kc) →
      wpAny (model pw w) ((Ar dp un fr gd).deeper (envOfC "AES.__init__" iniScope L 103 (.ref 102))) (execs (iniBody.drop 7) (envOfC "AES.__init__" iniScope L 103 (.ref 102))) Q (fun _ _ => False) { s with heap := h', toks := tk' }) :
    wpAny (model pw w) ((Ar dp un fr gd).deeper (envOfC "AES.__init__" iniScope L 103 (.ref 102))) (execs (iniBody.drop 4) (envOfC "AES.__init__" iniScope L 103 (.ref 102))) Q (fun _ _ => False) s := by
  refine with_scope (sc := iniScope) (P := fun sc => wpAny (model pw w) ((Ar dp un fr gd).deeper (envOfC "AES.__init__" sc L 103 (.ref 102))) (execs (iniBody.drop 4) (envOfC "AES.__init__" sc L 103 (.ref 102))) Q (fun _ _ => False) s) rfl ?_
  refine with_list (P := fun l => wpAny (model pw w) _ (execs l _) Q (fun _ _ => False) s) rfl ?_
  have F1 := frFacts _ hm F
  clear F
  dsimp only [kstB] at F1
  iterate 43 (first | (k_unfold; (try dsimp only)) | walk1 | (dsimp only; walk1))
  (rename Fr _ _ _ _ => F2); (rename News _ _ _ _ => N2); (rename IsRange _ _ _ _ _ _ _ _ => hr2)
  refine SrcS.intro (n := kc) rfl F2 N2 hr2 (small_of (by omega) (by omega) (by omega) (by omega) (by omega) (by omega)) ?sz (by rw [sizeLine_eq]; omega) ?_
  case sz =>
    rw [hk]
    unfold Builtin.Range.rangeSize
    rw [if_pos (by decide), if_pos (by omega)]
    omega
  intro g
  refine comp_J (J := fun i ys nw => nw = (L + 1, ok) :: news ∧ IntsAre ys (tkInit key i)) ?h0 ?turn ?fin
  case h0 => exact ⟨rfl, .nil⟩
  case turn =>
    rintro i v ys nw I oI C oC D m₂ h tk E' hi ⟨t, rfl⟩ ⟨rfl, hJ⟩ hC hx1 F5 N5 off ne
    iterate 26 (first | (k_unfold; (try dsimp only)) | walk1 | (dsimp only; walk1))
    k_unfold
    (rename Fr _ _ _ _ => F6); (rename News _ _ _ _ => N6)
    refine LCg.CompEnd.intro F6 N6 ((L + 1, ok) :: news) (fun p hp => .tail _ hp) off True.intro ⟨rfl, ?_⟩
    have e : (0 + (i : Int) * 4).toNat = 4 * i := by omega
    rw [e]
    unfold tkInit
    rw [List.range_succ, List.map_append]
    exact ints_app hJ (.cons _ _ .nil)
  case fin =>
    rintro ys nw ⟨rfl, hJ⟩
    intro D h tk Fd Nd od
    have ek : (key.length : Int).fdiv 4 = (kc : Int) := by rw [hk, Int.fdiv_eq_ediv_of_nonneg _ (by decide)]; omega
    rw [ek] at Fd
    dsimp only
    exact done _ _ _ D ys _ _ Fd rfl rfl rfl rfl rfl Nd (LCgOff1.mem od) hJ
end
end
theorem rs19 : True ∧ True := by
  w_top off
  first | (walk1; fail) | exact ⟨trivial, trivial⟩
section
theorem Upd.mid {d : Addr} {o o' : Obj} : ∀ {pre post : List (Addr × Obj)}, (∀ p ∈ pre, p.1 ≠ d) → (∀ p ∈ post, p.1 ≠ d) → Upd d o o' (pre ++ (d, o) :: post) (pre ++ (d, o') :: post)
  | [], _, _, h => .head h
  | _ :: _, _, h, k => .tail (h _ (.head _)) (Upd.mid (fun p hp => h p (.tail _ hp)) k)
/-- a row's place is set -/
noncomputable def upd (val : Addr → List Int) (r : Addr) (c : Nat) (x : Int) : Addr → List Int := fun a => if a = r then (val r).set c x else val a
theorem upd_same {val : Addr → List Int} {r : Addr} {c : Nat} {x : Int} : upd val r c x r = (val r).set c x := if_pos rfl
theorem upd_ne {val : Addr → List Int} {r a : Addr} {c : Nat} {x : Int} (h : a ≠ r) : upd val r c x a = val a := if_neg h
section
variable {w : World} {A : Around} {E : Value → Shared → Prop} {s : Shared} {h₀ : Heap} {L : Addr} {m : Str → Option Value}
theorem mat_split {r : Addr} {led : List (Addr × Obj)} (nd : (led.map (·.1)).Nodup) (hr : r ∈ led.map (·.1)) : ∃ l1 o l2, led = l1 ++ (r, o) :: l2 ∧ (∀ p ∈ l1, p.1 ≠ r) ∧ (∀ p ∈ l2, p.1 ≠ r) := by
  obtain ⟨p, hp, rfl⟩ := List.mem_map.mp hr
  obtain ⟨l1, l2, rfl⟩ := List.append_of_mem hp
  rw [List.map_append, List.map_cons, List.nodup_append, List.nodup_cons] at nd
  refine ⟨l1, p.2, l2, rfl, fun q hq e => ?_, fun q hq e => ?_⟩
  · exact nd.2.2 _ (List.mem_map_of_mem hq) _ (.head _) e
  · exact nd.2.1.1 (e ▸ List.mem_map_of_mem hq)
theorem mat_set {led : List (Addr × Obj)} {val : Addr → List Int} {r : Addr} {c x : Int} {t u : Tok} {news pre : List (Addr × Obj)} {Q : Unit → Shared → Prop} (F : Fr h₀ L s.heap m) (N : News h₀ L s.heap news) (hs : ∀ p ∈ pre ++ led, p ∈ news) (M : Mat val led) (hr : r ∈ led.map (·.1)) (hpre : ∀ p ∈ pre, p.1 ≠ r) (h0 : 0 ≤ c) (h1 : c < 4)
    (h : ∀ h' led', Fr h₀ L h' m → News h₀ L h' (pre ++ led') → led'.map (·.1) = led.map (·.1) → Mat (upd val r c.toNat x) led' → Q () { s with heap := h' }) :
    wpAny (model pw w) A (setItem (.ref r) (.int c t) (.int x u)) Q E s := by
  have N' : News h₀ L s.heap (pre ++ led) := fun p hp => N p (hs p hp)
  refine Classical.byContradiction fun hng => ?_
  obtain ⟨l1, o, l2, rfl, a1, a2⟩ := mat_split M.nd hr
  refine hng ?_
  clear hng
  refine Classical.byContradiction fun hng => ?_
  obtain ⟨vs, n, e, hi, hl⟩ := M.row (r, o) (by simp)
  refine hng ?_
  clear hng
  dsimp only at e hi hl
  subst e
  have e1 : pre ++ (l1 ++ (r, listOf vs.toArray n) :: l2) = (pre ++ l1) ++ (r, listOf vs.toArray n) :: l2 := by rw [List.append_assoc]
  rw [e1] at N'
  refine ksa_set F N' (Upd.mid (fun p hp => ?_) a2) hi h0 (by omega) (by omega) fun h' F' N' hi' hl' _ => ?_
  · rcases List.mem_append.mp hp with hp | hp
    · exact hpre p hp
    · exact a1 p hp
  · rw [List.append_assoc] at N'
    refine h h' _ F' N' (by simp) ⟨?_, fun p hp => ?_⟩
    · have := M.nd
      simpa using this
    · rcases List.mem_append.mp hp with hp | hp
      · refine Classical.byContradiction fun hng => ?_
        obtain ⟨vs', n', e2, i2, l2'⟩ := M.row p (by simp [hp])
        refine hng ?_
        clear hng
        exact ⟨vs', n', e2, by rw [upd_ne (a1 p hp)]; exact i2, by rw [upd_ne (a1 p hp)]; exact l2'⟩
      · rcases List.mem_cons.mp hp with rfl | hp
        · exact ⟨_, n, rfl, by rw [upd_same]; exact hi', by rw [upd_same]; exact hl'.trans hl⟩
        · refine Classical.byContradiction fun hng => ?_
          obtain ⟨vs', n', e2, i2, l2'⟩ := M.row p (by simp [hp])
          refine hng ?_
          clear hng
          exact ⟨vs', n', e2, by rw [upd_ne (a2 p hp)]; exact i2, by rw [upd_ne (a2 p hp)]; exact l2'⟩
theorem mat_row {value slice : PySem.Expr} {a : Addr} {rs : List Addr} {k : Int} {u : Tok} {news : List (Addr × Obj)} {Q : Value → Shared → Prop} (N : News h₀ L s.heap news) (hm : (a, LCg.lst (rs.map Value.ref)) ∈ news) (h0 : 0 ≤ k) (h1 : k < rs.length) (hz : rs.length ≤ 1000)
    (h : Q (.ref (rs.getD k.toNat 0)) s)
    (hs : subscripted slice false (.ref a) (.int k u) = operate [.ref a, .int k u] (getItem (.ref a) (.int k u)) := by with_unfolding_all rfl) :
    wpAny (model pw w) A (subscriptTail value slice (.ref a) (.int k u)) Q E s := by
  have hl : s.heap.IsList a (rs.map Value.ref).toArray := IsL.isList (n := (rs.map Value.ref).length) (N _ hm).1
  have hk : k.toNat < rs.length := by omega
  exact tail_any hl.typeIs slot_list_getitem.lookup (wpAny_getItem_list (x := .ref (rs.getD k.toNat 0)) hl h0 (by omega) (by simp [List.getD, hk]) h) hs
theorem mat_item {value slice : PySem.Expr} {led : List (Addr × Obj)} {val : Addr → List Int} {r : Addr} {c : Int} {t : Tok} {news : List (Addr × Obj)} {Q : Value → Shared → Prop} (N : News h₀ L s.heap news) (hs : ∀ p ∈ led, p ∈ news) (M : Mat val led) (hr : r ∈ led.map (·.1)) (h0 : 0 ≤ c) (h1 : c < 4)
    (h : ∀ t', Q (.int ((val r).getD c.toNat 0) t') s)
    (hs' : subscripted slice false (.ref r) (.int c t) = operate [.ref r, .int c t] (getItem (.ref r) (.int c t)) := by with_unfolding_all rfl) :
    wpAny (model pw w) A (subscriptTail value slice (.ref r) (.int c t)) Q E s := by
  obtain ⟨p, hp, rfl⟩ := List.mem_map.mp hr
  refine Classical.byContradiction fun hng => ?_
  obtain ⟨vs, n, e, hi, hl⟩ := M.row p hp
  refine hng ?_
  clear hng
  have hl' : s.heap.IsList p.1 vs.toArray := IsL.isList (n := n) (by have z := (N _ (hs p hp)).1; rw [e] at z; exact z)
  exact item_anyK hl' hi h0 (by omega) (by omega) h hs'
end
/-- what the written part of the first half is -/
noncomputable def Upto (val : Addr → List Int) (rs : List Addr) (flat : Nat → Int) (t : Nat) : Prop := ∀ u, u < t → (val (rs.getD (u / 4) 0)).getD (u % 4) 0 = flat u
theorem getD_get {α : Type} {l : List α} {i : Nat} {d : α} (h : i < l.length) : l.getD i d = l[i] := by simp [List.getD, h]
theorem getD_mem {α : Type} {l : List α} {i : Nat} {d : α} (h : i < l.length) : l.getD i d ∈ l := by
  rw [getD_get h]
  exact List.getElem_mem h
theorem getD_inj {l : List Addr} (nd : l.Nodup) {i j : Nat} (hi : i < l.length) (hj : j < l.length) (e : l.getD i 0 = l.getD j 0) : i = j := by
  rw [getD_get hi, getD_get hj] at e
  rcases Nat.lt_trichotomy i j with h | h | h
  · exact absurd e (List.pairwise_iff_getElem.mp nd i j hi hj h)
  · exact h
  · exact absurd e.symm (List.pairwise_iff_getElem.mp nd j i hj hi h)
theorem Upto.step {val : Addr → List Int} {rs : List Addr} {flat : Nat → Int} {t c' : Nat} {rD : Addr} {x v' : Int} (U : Upto val rs flat t) (nd : rs.Nodup) (ht : t / 4 < rs.length) (hl : (val (rs.getD (t / 4) 0)).length = 4) (hD : rD ∉ rs) (hx : flat t = x) :
    Upto (upd (upd val (rs.getD (t / 4) 0) (t % 4) x) rD c' v') rs flat (t + 1) := by
  intro u hu
  have hq : u / 4 < rs.length := by omega
  have hne : rs.getD (u / 4) 0 ≠ rD := fun e => hD (by rw [← e]; exact getD_mem hq)
  rw [upd_ne hne]
  by_cases e : u / 4 = t / 4
  · rw [e, upd_same]
    by_cases e2 : u = t
    · subst e2
      rw [List.getD_eq_getElem?_getD, List.getElem?_set_self (by omega), hx]
      rfl
    · rw [List.getD_eq_getElem?_getD, List.getElem?_set_ne (by omega), ← List.getD_eq_getElem?_getD, ← e]
      exact U u (by omega)
  · rw [upd_ne (fun q => e (getD_inj nd hq ht q))]
    exact U u (by omega)
end
theorem rs20 : True ∧ True := by
  w_top off
  first | (walk1; fail) | exact ⟨trivial, trivial⟩
section
section
variable {w : World} {A : Around} {E : Value → Shared → Prop} {s : Shared} {h₀ : Heap} {L : Addr} {m : Str → Option Value}
theorem Mat.len {led : List (Addr × Obj)} {ad : List Addr} {val : Addr → List Int} {r : Addr} (M : Mat val led) (hl : led.map (·.1) = ad) (hr : r ∈ ad) : (val r).length = 4 := by
  subst hl
  obtain ⟨p, hp, rfl⟩ := List.mem_map.mp hr
  refine Classical.byContradiction fun hng => ?_
  obtain ⟨_, _, _, _, h4⟩ := M.row p hp
  refine hng ?_
  clear hng
  exact h4
theorem mat_set6 {led : List (Addr × Obj)} {e1 e2 e3 e4 e5 e6 : Addr × Obj} {ad : List Addr} {val : Addr → List Int} {r : Addr} {c x : Int} {t u : Tok} {Q : Unit → Shared → Prop} (F : Fr h₀ L s.heap m) (N : News h₀ L s.heap (e1 :: e2 :: e3 :: e4 :: e5 :: e6 :: led)) (hl : led.map (·.1) = ad) (M : Mat val led) (hr : r ∈ ad)
    (ho : ∀ y ∈ ad, e1.1 ≠ y ∧ e2.1 ≠ y ∧ e3.1 ≠ y ∧ e4.1 ≠ y ∧ e5.1 ≠ y ∧ e6.1 ≠ y) (h0 : 0 ≤ c) (h1 : c < 4)
    (h : ∀ h' led', Fr h₀ L h' m → News h₀ L h' (e1 :: e2 :: e3 :: e4 :: e5 :: e6 :: led') → led'.map (·.1) = ad → Mat (upd val r c.toNat x) led' → Q () { s with heap := h' }) :
    wpAny (model pw w) A (setItem (.ref r) (.int c t) (.int x u)) Q E s := by
  refine mat_set (pre := [e1, e2, e3, e4, e5, e6]) F N (fun p hp => hp) M (by rw [hl]; exact hr) (fun p hp => ?_) h0 h1 fun h' led' F' N' e M' => h h' led' F' N' (e.trans hl) M'
  refine Classical.byContradiction fun hng => ?_
  obtain ⟨o1, o2, o3, o4, o5, o6⟩ := ho r hr
  refine hng ?_
  clear hng
  simp only [List.mem_cons, List.not_mem_nil, or_false] at hp
  rcases hp with rfl | rfl | rfl | rfl | rfl | rfl <;> assumption
theorem mat_item6 {value slice : PySem.Expr} {led : List (Addr × Obj)} {e1 e2 e3 e4 e5 e6 : Addr × Obj} {ad : List Addr} {val : Addr → List Int} {r : Addr} {c : Int} {t : Tok} {Q : Value → Shared → Prop} (N : News h₀ L s.heap (e1 :: e2 :: e3 :: e4 :: e5 :: e6 :: led)) (hl : led.map (·.1) = ad) (M : Mat val led) (hr : r ∈ ad) (h0 : 0 ≤ c) (h1 : c < 4)
    (h : ∀ t', Q (.int ((val r).getD c.toNat 0) t') s)
    (hs' : subscripted slice false (.ref r) (.int c t) = operate [.ref r, .int c t] (getItem (.ref r) (.int c t)) := by with_unfolding_all rfl) :
    wpAny (model pw w) A (subscriptTail value slice (.ref r) (.int c t)) Q E s :=
  mat_item N (fun p hp => .tail _ (.tail _ (.tail _ (.tail _ (.tail _ (.tail _ hp)))))) M (by rw [hl]; exact hr) h0 h1 h hs'
theorem led_item {value slice : PySem.Expr} {a : Addr} {vs : List Value} {ns : List Int} {n : Nat} {k : Int} {u : Tok} {news : List (Addr × Obj)} {Q : Value → Shared → Prop} (N : News h₀ L s.heap news) (hm : (a, listOf vs.toArray n) ∈ news) (hi : IntsAre vs ns) (h0 : 0 ≤ k) (h1 : k < ns.length) (hz : ns.length ≤ 100000)
    (h : ∀ t, Q (.int (ns.getD k.toNat 0) t) s)
    (hs : subscripted slice false (.ref a) (.int k u) = operate [.ref a, .int k u] (getItem (.ref a) (.int k u)) := by with_unfolding_all rfl) :
    wpAny (model pw w) A (subscriptTail value slice (.ref a) (.int k u)) Q E s := item_anyK (IsL.isList (n := n) (N _ hm).1) hi h0 h1 (by omega) h hs
end
local macro_rules | `(tactic| walk_at "subscriptTail") => `(tactic| k_extra "y59")
local macro_rules | `(tactic| walk_at "setItem ref int") => `(tactic| k_extra "y31")
section
variable {w : World} {dp un : Nat} {fr : Option (List Env)} {gd : Option (List Code)} {s : Shared} {mg mb : Str → Option Value} {lo : List Str} {h₀ : Heap}
theorem ini_C {x d a b D L : Addr} {m : Str → Option Value} {ok : Obj} {r kc nt : Nat} {tr k1 k2 tE tD : Tok} {hE hD : Int} {ad : List Addr} {led : List (Addr × Obj)} {val : Addr → List Int} {ys : List Value} {tks : List Int} {flat : Nat → Int} {Q : Flow → Shared → Prop}
    (X : (K w.params).In h₀) (T : TopRead q lo mg mb h₀) (hdp : dp < 700) (hx : h₀.get? x = some (instObj 116 d))
    (hr : r = kc + 6) (hkc : 4 ≤ kc ∧ kc ≤ 8) (hal : ad.length = 2 * (r + 1)) (hnd : ad.Nodup) (hout : ∀ y ∈ ad, D ≠ y ∧ L + 1 ≠ y ∧ b ≠ y ∧ a ≠ y ∧ d ≠ y)
    (hi : IntsAre ys tks) (htl : tks.length = kc) (hfl : ∀ u, u < kc → flat u = tks.getD u 0)
    (F : Fr h₀ L s.heap m) (hm : ∀ p ∈ [(Str.ofString "self", Value.ref x), ("rounds", .int r tr), ("round_key_count", .int ((r + 1) * 4) k1), ("KC", .int kc k2), ("tk", .ref D)], m p.1 = some p.2)
    (N : News h₀ L s.heap ((D, listOf ys.toArray nt) :: (L + 1, ok) :: (b, LCg.lst ((ad.drop (r + 1)).map Value.ref)) :: (a, LCg.lst ((ad.take (r + 1)).map Value.ref)) :: (d, dictOf [⟨hE, .str "_Ke" tE, .ref a⟩, ⟨hD, .str "_Kd" tD, .ref b⟩] 2) :: led))
    (hled : led.map (·.1) = ad) (M : Mat val led)
    (done : ∀ h' tk' m' led' val', Fr h₀ L h' m' → (∀ p ∈ [(Str.ofString "self", Value.ref x), ("rounds", .int r tr), ("round_key_count", .int ((r + 1) * 4) k1), ("KC", .int kc k2), ("tk", .ref D)], m' p.1 = some p.2) →
      News h₀ L h' ((D, listOf ys.toArray nt) :: (L + 1, ok) :: (b, LCg.lst ((ad.drop (r + 1)).map Value.ref)) :: (a, LCg.lst ((ad.take (r + 1)).map Value.ref)) :: (d, dictOf [⟨hE, .str "_Ke" tE, .ref a⟩, ⟨hD, .str "_Kd" tD, .ref b⟩] 2) :: led') →
      led'.map (·.1) = ad → Mat val' led' → Upto val' (ad.take (r + 1)) flat kc →
      wpAny (model pw w) ((Ar dp un fr gd).deeper (envOfC "AES.__init__" iniScope L 103 (.ref 102))) (execs (iniBody.drop 8) (envOfC "AES.__init__" iniScope L 103 (.ref 102))) Q (fun _ _ => False) { s with heap := h', toks := tk' }) :
    wpAny (model pw w) ((Ar dp un fr gd).deeper (envOfC "AES.__init__" iniScope L 103 (.ref 102))) (execs (iniBody.drop 7) (envOfC "AES.__init__" iniScope L 103 (.ref 102))) Q (fun _ _ => False) s := by
  refine with_scope (sc := iniScope) (P := fun sc => wpAny (model pw w) ((Ar dp un fr gd).deeper (envOfC "AES.__init__" sc L 103 (.ref 102))) (execs (iniBody.drop 7) (envOfC "AES.__init__" sc L 103 (.ref 102))) Q (fun _ _ => False) s) rfl ?_
  refine with_list (P := fun l => wpAny (model pw w) _ (execs l _) Q (fun _ _ => False) s) rfl ?_
  have F1 := frFacts _ hm F
  clear F
  dsimp only [kstB] at F1
  iterate 11 (first | (k_unfold; (try dsimp only)) | walk1 | (dsimp only; walk1))
  (rename Fr _ _ _ _ => F2); (rename News _ _ _ _ => N2); (rename IsRange _ _ _ _ _ _ _ _ => hr2)
  have hlt : (ad.take (r + 1)).length = r + 1 := by rw [List.length_take]; omega
  have hld : (ad.drop (r + 1)).length = r + 1 := by rw [List.length_drop]; omega
  refine range_J (n := kc) (J := fun i m' nx => ∃ led val, nx = (D, listOf ys.toArray nt) :: (L + 1, ok) :: (b, LCg.lst ((ad.drop (r + 1)).map Value.ref)) :: (a, LCg.lst ((ad.take (r + 1)).map Value.ref)) :: (d, dictOf [⟨hE, .str "_Ke" tE, .ref a⟩, ⟨hD, .str "_Kd" tD, .ref b⟩] 2) :: led ∧
    (∀ p ∈ [(Str.ofString "self", Value.ref x), ("rounds", .int r tr), ("round_key_count", .int ((r + 1) * 4) k1), ("KC", .int kc k2), ("tk", .ref D)], m' p.1 = some p.2) ∧ led.map (·.1) = ad ∧ Mat val led ∧ Upto val (ad.take (r + 1)) flat i) rfl hr2 ?sm ?sz F2 N2 ?h0 ?turn ?done
  case sm => exact small_of (by omega) (by omega) (by omega) (by omega) (by omega) (by omega)
  case sz => exact rsize_up (by omega)
  case h0 =>
    refine ⟨_, _, rfl, fun p hp => ?_, hled, M, fun u hu => absurd hu (Nat.not_lt_zero _)⟩
    simp only [List.mem_cons, List.not_mem_nil, or_false] at hp
    rcases hp with rfl | rfl | rfl | rfl | rfl <;> rfl
  case turn =>
    intro i t m₁ nx h tk I io hi' hJz hI F5 N5
    refine Classical.byContradiction fun hng => ?_
    obtain ⟨led1, val1, rfl, hm', hl1, M1, U1⟩ := hJz
    refine hng ?_
    clear hng
    have F6 : Fr h₀ L h (fun y => if y = "i" then some (.int (0 + (i : Int)) t) else kstB m₁ [("self", Value.ref x), ("rounds", .int r tr), ("round_key_count", .int ((r + 1) * 4) k1), ("KC", .int kc k2), ("tk", .ref D)] y) := by
      have e : kstB m₁ [(Str.ofString "self", Value.ref x), ("rounds", .int r tr), ("round_key_count", .int ((r + 1) * 4) k1), ("KC", .int kc k2), ("tk", .ref D)] = m₁ := funext fun z => kstB_eq hm' fun _ => rfl
      rw [e]
      exact F5
    dsimp only [kstB] at F6
    have N6 : News h₀ L h ((I, io) :: (D, listOf ys.toArray nt) :: (L + 1, ok) :: (b, LCg.lst ((ad.drop (r + 1)).map Value.ref)) :: (a, LCg.lst ((ad.take (r + 1)).map Value.ref)) :: (d, dictOf [⟨hE, .str "_Ke" tE, .ref a⟩, ⟨hD, .str "_Kd" tD, .ref b⟩] 2) :: led1) := fun p hp => by
      rcases List.mem_cons.mp hp with rfl | hp
      · exact N5 _ (List.mem_append.mpr (.inr (.head _)))
      · exact N5 _ (List.mem_append.mpr (.inl hp))
    have ho6 : ∀ y ∈ ad, I ≠ y ∧ D ≠ y ∧ L + 1 ≠ y ∧ b ≠ y ∧ a ≠ y ∧ d ≠ y := fun y hy => ⟨fun e => by
      rw [← hl1] at hy
      obtain ⟨p, hp, rfl⟩ := List.mem_map.mp hy
      exact hI p (.tail _ (.tail _ (.tail _ (.tail _ (.tail _ hp))))) e.symm, hout y hy⟩
    have e1 : (0 + (i : Int)).fdiv 4 = ((i / 4 : Nat) : Int) := by rw [Int.fdiv_eq_ediv_of_nonneg _ (by decide)]; omega
    have e2 : (0 + (i : Int)).fmod 4 = ((i % 4 : Nat) : Int) := by rw [Int.fmod_eq_emod_of_nonneg _ (by decide)]; omega
    clear N5 F5
    repeat (first | (k_unfold; (try dsimp only)) | walk1 | (dsimp only; walk1))
    (rename Fr _ _ _ _ => F3); (rename News _ _ _ _ => N3); (rename Mat _ _ => M3); (rename List.map _ _ = _ => hl3)
    rw [e1, e2] at M3
    simp only [Int.toNat_natCast, Int.zero_add] at M3
    refine TurnEnd.intro (nx := (D, listOf ys.toArray nt) :: (L + 1, ok) :: (b, LCg.lst ((ad.drop (r + 1)).map Value.ref)) :: (a, LCg.lst ((ad.take (r + 1)).map Value.ref)) :: (d, dictOf [⟨hE, .str "_Ke" tE, .ref a⟩, ⟨hD, .str "_Kd" tD, .ref b⟩] 2) :: _) F3 N3 (fun p hp => ?_) (fun p hp => ?_) ⟨_, _, rfl, fun p hp => ?_, hl3, M3, ?_⟩
    · rcases List.mem_append.mp hp with hp | hp
      · exact .tail _ hp
      · rw [List.mem_singleton.mp hp]; exact .head _
    · rcases List.mem_cons.mp hp with rfl | hp
      · exact hI _ (.head _)
      rcases List.mem_cons.mp hp with rfl | hp
      · exact hI _ (.tail _ (.head _))
      rcases List.mem_cons.mp hp with rfl | hp
      · exact hI _ (.tail _ (.tail _ (.head _)))
      rcases List.mem_cons.mp hp with rfl | hp
      · exact hI _ (.tail _ (.tail _ (.tail _ (.head _))))
      rcases List.mem_cons.mp hp with rfl | hp
      · exact hI _ (.tail _ (.tail _ (.tail _ (.tail _ (.head _)))))
      · exact fun e => (ho6 p.1 (by rw [← hl3]; exact List.mem_map_of_mem hp)).1 e.symm
    · simp only [List.mem_cons, List.not_mem_nil, or_false] at hp
      rcases hp with rfl | rfl | rfl | rfl | rfl <;> rfl
    · refine Upto.step U1 (hnd.sublist (List.take_sublist _ _)) (by omega) ?_ (fun hm9 => ?_) (hfl i hi')
      · exact M1.len hl1 (List.mem_of_mem_take (getD_mem (by omega)))
      · have hq := getD_mem (l := ad.drop (r + 1)) (d := 0) (i := (r - ((i / 4 : Nat) : Int)).toNat) (by omega)
        rw [← List.take_append_drop (r + 1) ad, List.nodup_append] at hnd
        exact hnd.2.2 _ hm9 _ hq rfl
  case done =>
    intro m9 nx h9 tk hJz F5 N5
    refine Classical.byContradiction fun hng => ?_
    obtain ⟨led1, val1, rfl, hm', hl1, M1, U1⟩ := hJz
    refine hng ?_
    clear hng
    dsimp only
    exact done _ _ _ _ _ F5 hm' N5 hl1 M1 U1
end
end
theorem rs21 : True ∧ True := by
  w_top off
  first | (walk1; fail) | exact ⟨trivial, trivial⟩
section

theorem list_bound {l : List Int} {c : Int} (h : l.all (fun n => decide (0 ≤ n) && decide (n < c)) = true) (hc : 0 < c) (i : Nat) : 0 ≤ l.getD i 0 ∧ l.getD i 0 < c := by
  by_cases hi : i < l.length
  · have := List.all_eq_true.mp h _ (getD_mem (d := 0) hi)
    simpa using this
  · have e : l.getD i 0 = 0 := by simp [List.getD, Nat.not_lt.mp hi]
    rw [e]
    exact ⟨by decide, hc⟩
theorem tabS_in (i : Nat) : 0 ≤ tabS.getD i 0 ∧ tabS.getD i 0 < 256 := list_bound (by decide +kernel) (by decide) i
theorem tabS_fit (i : Nat) : (tabS.getD i 0).natAbs < 2 ^ 64 := by have := tabS_in i; omega
noncomputable def rconL : List Int := [1, 2, 4, 8, 16, 32, 64, 128, 27, 54, 108, 216, 171, 77, 154, 47, 94, 188, 99, 198, 151, 53, 106, 212, 179, 125, 250, 239, 197, 145]
theorem rcon_fit (i : Nat) : (rconL.getD i 0).natAbs < 2 ^ 64 := by have := list_bound (l := rconL) (c := 256) (by decide +kernel) (by decide) i; omega
theorem ints_of {vs : List Value} (h : vs = rconL.zipIdx.map fun p => .int p.1 (248 + p.2)) : IntsAre vs rconL := by
  subst h
  repeat (first | exact .nil | refine .cons _ _ ?_)
theorem is56 (P : Params) : IsTab P 56 rconL := ⟨_, _, rfl, ints_of rfl⟩
section
variable {w : World} {A : Around} {E : Value → Shared → Prop} {s : Shared} {h₀ : Heap} {L : Addr} {m : Str → Option Value}
theorem tab_at {value slice : PySem.Expr} {a : Addr} {ns : List Int} {k : Int} {u : Tok} {Q : Value → Shared → Prop} (F : Fr h₀ L s.heap m) (X : (K w.params).In h₀) (ht : IsTab w.params a ns) (h0 : 0 ≤ k) (h1 : k < ns.length) (hz : ns.length ≤ 10000)
    (h : ∀ t, Q (.int (ns.getD k.toNat 0) t) s)
    (hs : subscripted slice false (.ref a) (.int k u) = operate [.ref a, .int k u] (getItem (.ref a) (.int k u)) := by with_unfolding_all rfl) :
    wpAny (model pw w) A (subscriptTail value slice (.ref a) (.int k u)) Q E s := by
  refine Classical.byContradiction fun hng => ?_
  obtain ⟨vs, n, e, hi⟩ := ht
  refine hng ?_
  clear hng
  exact item_anyK (IsL.isList (n := n) ((X.keeps F.keep) _ _ e)) hi h0 h1 (by omega) h hs
theorem led_get {a : Addr} {vs : List Value} {ns : List Int} {n : Nat} {k : Int} {u : Tok} {news : List (Addr × Obj)} {Q : Value → Shared → Prop} (N : News h₀ L s.heap news) (hm : (a, listOf vs.toArray n) ∈ news) (hi : IntsAre vs ns) (h0 : 0 ≤ k) (h1 : k < ns.length) (hz : ns.length ≤ 100000)
    (h : ∀ t, Q (.int (ns.getD k.toNat 0) t) s) : wpAny (model pw w) A (getItem (.ref a) (.int k u)) Q E s := ksa_get N hm hi h0 h1 (by omega) h
theorem led_set {D : Addr} {vs : List Value} {ns : List Int} {n : Nat} {k y : Int} {t u : Tok} {news news' : List (Addr × Obj)} {Q : Unit → Shared → Prop} (F : Fr h₀ L s.heap m) (N : News h₀ L s.heap news) (U : Upd D (listOf vs.toArray n) (listOf (vs.set k.toNat (.int y u)).toArray n) news news') (hi : IntsAre vs ns) (h0 : 0 ≤ k) (h1 : k < ns.length) (hz : ns.length ≤ 100000)
    (h : ∀ h', Fr h₀ L h' m → News h₀ L h' news' → IntsAre (vs.set k.toNat (.int y u)) (ns.set k.toNat y) → (ns.set k.toNat y).length = ns.length → Q () { s with heap := h' }) :
    wpAny (model pw w) A (setItem (.ref D) (.int k t) (.int y u)) Q E s := ksa_set F N U hi h0 h1 (by omega) fun h' F' N' i' l' _ => h h' F' N' i' l'
end
noncomputable def whBody : List Stmt := match iniBody.drop 10 with | .While _ b _ _ :: _ => b | _ => []
end
theorem rs22 : True ∧ True := by
  w_top off
  first | (walk1; fail) | exact ⟨trivial, trivial⟩
section
local macro_rules | `(tactic| walk_at "subscriptTail") => `(tactic| k_extra "y59")
local macro_rules | `(tactic| walk_at "setItem ref int") => `(tactic| k_extra "y31")
local macro_rules | `(tactic| walk_at "binaryOp LShift int int") => `(tactic| k_extra "y32")
local macro_rules | `(tactic| walk_at "subscriptTail") => `(tactic| k_extra "y33")
local macro_rules | `(tactic| walk_at "getItem ref int") => `(tactic| k_extra "y34")
section
/-- an object that stands apart from six and the rows -/
theorem apart6 {I : Addr} {e2 e3 e4 e5 e6 : Addr × Obj} {led : List (Addr × Obj)} {ad : List Addr} (hl : led.map (·.1) = ad) (hI : ∀ p ∈ e2 :: e3 :: e4 :: e5 :: e6 :: led, p.1 ≠ I) (ho : ∀ y ∈ ad, e2.1 ≠ y ∧ e3.1 ≠ y ∧ e4.1 ≠ y ∧ e5.1 ≠ y ∧ e6.1 ≠ y) : ∀ y ∈ ad, I ≠ y ∧ e2.1 ≠ y ∧ e3.1 ≠ y ∧ e4.1 ≠ y ∧ e5.1 ≠ y ∧ e6.1 ≠ y := fun y hy => ⟨fun e => by
    rw [← hl] at hy
    obtain ⟨p, hp, rfl⟩ := List.mem_map.mp hy
    exact hI p (.tail _ (.tail _ (.tail _ (.tail _ (.tail _ hp))))) e.symm, ho y hy⟩
section
variable {w : World} {A : Around} {E : Value → Shared → Prop} {s : Shared} {h₀ : Heap} {L : Addr} {m : Str → Option Value}
theorem mat_set5 {led : List (Addr × Obj)} {e1 e2 e3 e4 e5 : Addr × Obj} {ad : List Addr} {val : Addr → List Int} {r : Addr} {c x : Int} {t u : Tok} {Q : Unit → Shared → Prop} (F : Fr h₀ L s.heap m) (N : News h₀ L s.heap (e1 :: e2 :: e3 :: e4 :: e5 :: led)) (hl : led.map (·.1) = ad) (M : Mat val led) (hr : r ∈ ad)
    (ho : ∀ y ∈ ad, e1.1 ≠ y ∧ e2.1 ≠ y ∧ e3.1 ≠ y ∧ e4.1 ≠ y ∧ e5.1 ≠ y) (h0 : 0 ≤ c) (h1 : c < 4)
    (h : ∀ h' led', Fr h₀ L h' m → News h₀ L h' (e1 :: e2 :: e3 :: e4 :: e5 :: led') → led'.map (·.1) = ad → Mat (upd val r c.toNat x) led' → Q () { s with heap := h' }) :
    wpAny (model pw w) A (setItem (.ref r) (.int c t) (.int x u)) Q E s := by
  refine mat_set (pre := [e1, e2, e3, e4, e5]) F N (fun p hp => hp) M (by rw [hl]; exact hr) (fun p hp => ?_) h0 h1 fun h' led' F' N' e M' => h h' led' F' N' (e.trans hl) M'
  refine Classical.byContradiction fun hng => ?_
  obtain ⟨o1, o2, o3, o4, o5⟩ := ho r hr
  refine hng ?_
  clear hng
  simp only [List.mem_cons, List.not_mem_nil, or_false] at hp
  rcases hp with rfl | rfl | rfl | rfl | rfl <;> assumption
end
local macro_rules | `(tactic| walk_at "setItem ref int") => `(tactic| k_extra "y35")
section
variable {w : World} {dp un : Nat} {fr : Option (List Env)} {gd : Option (List Code)} {s : Shared} {mg mb : Str → Option Value} {lo : List Str} {h₀ : Heap}
theorem ini_W2 {x a b D d L : Addr} {m : Str → Option Value} {ok : Obj} {r kc nt : Nat} {tr k1 k2 tE tD : Tok} {hE hD : Int} {ad : List Addr} {led : List (Addr × Obj)} {val : Addr → List Int} {tv : List Value} {tks : List Int} {Q : Flow → Shared → Prop} {k t : Nat} {k3 k4 : Tok} {flat : Nat → Int}
    (X : (K w.params).In h₀) (T : TopRead q lo mg mb h₀) (hdp : dp < 700) (hx : h₀.get? x = some (instObj 116 d))
    (hr : r = kc + 6) (hkc : 4 ≤ kc ∧ kc ≤ 8) (hal : ad.length = 2 * (r + 1)) (hnd : ad.Nodup) (hout : ∀ y ∈ ad, D ≠ y ∧ L + 1 ≠ y ∧ b ≠ y ∧ a ≠ y ∧ d ≠ y) (hne : @Ne Nat D (L + 1) ∧ @Ne Nat D b ∧ @Ne Nat D a ∧ @Ne Nat D d)
    (hi : IntsAre tv tks) (htl : tks.length = kc) (ht : t < 4 * (r + 1)) (hfl : ∀ j, j < kc → flat (t + j) = tks.getD j 0)
    (F : Fr h₀ L s.heap m) (hm : ∀ p ∈ [(Str.ofString "t", Value.int t k4), ("rconpointer", .int k k3), (Str.ofString "self", Value.ref x), ("rounds", .int r tr), ("round_key_count", .int ((r + 1) * 4) k1), ("KC", .int kc k2), ("tk", .ref D)], m p.1 = some p.2)
    (N : News h₀ L s.heap ((D, listOf tv.toArray nt) :: (L + 1, ok) :: (b, LCg.lst ((ad.drop (r + 1)).map Value.ref)) :: (a, LCg.lst ((ad.take (r + 1)).map Value.ref)) :: (d, dictOf [⟨hE, .str "_Ke" tE, .ref a⟩, ⟨hD, .str "_Kd" tD, .ref b⟩] 2) :: led)) (hled : led.map (·.1) = ad) (M : Mat val led) (U : Upto val (ad.take (r + 1)) flat t)
    (done : ∀ h' tk' m' j k5 led' val', Fr h₀ L h' m' → (∀ p ∈ [(Str.ofString "t", Value.int (t + j : Nat) k5), ("rconpointer", .int k k3), (Str.ofString "self", Value.ref x), ("rounds", .int r tr), ("round_key_count", .int ((r + 1) * 4) k1), ("KC", .int kc k2), ("tk", .ref D)], m' p.1 = some p.2) → News h₀ L h' ((D, listOf tv.toArray nt) :: (L + 1, ok) :: (b, LCg.lst ((ad.drop (r + 1)).map Value.ref)) :: (a, LCg.lst ((ad.take (r + 1)).map Value.ref)) :: (d, dictOf [⟨hE, .str "_Ke" tE, .ref a⟩, ⟨hD, .str "_Kd" tD, .ref b⟩] 2) :: led') → led'.map (·.1) = ad → Mat val' led' → Upto val' (ad.take (r + 1)) flat (t + j) → j ≤ kc → t + j ≤ 4 * (r + 1) → (j = kc ∨ t + j = 4 * (r + 1)) → Q .next { s with heap := h', toks := tk' }) :
    wpAny (model pw w) ((Ar dp un fr gd).deeper (envOfC "AES.__init__" iniScope L 103 (.ref 102))) (execs (whBody.drop 4) (envOfC "AES.__init__" iniScope L 103 (.ref 102))) Q (fun _ _ => False) s := by
  refine with_scope (sc := iniScope) (P := fun sc => wpAny (model pw w) ((Ar dp un fr gd).deeper (envOfC "AES.__init__" sc L 103 (.ref 102))) (execs (whBody.drop 4) (envOfC "AES.__init__" sc L 103 (.ref 102))) Q (fun _ _ => False) s) rfl ?_
  refine with_list (P := fun l => wpAny (model pw w) _ (execs l _) Q (fun _ _ => False) s) rfl ?_
  have F1 := frFacts _ hm F
  clear F
  dsimp only [kstB] at F1
  iterate 5 (first | (k_unfold; (try dsimp only)) | walk1 | (dsimp only; walk1))
  (rename Fr _ _ _ _ => F2); (rename News _ _ _ _ => N2)
  have hlt : (ad.take (r + 1)).length = r + 1 := by rw [List.length_take]; omega
  have hld : (ad.drop (r + 1)).length = r + 1 := by rw [List.length_drop]; omega
  refine While_inv2 (fun n m nx => ∃ j k5 k6 led val, n = kc - j ∧ j ≤ kc ∧ t + j ≤ 4 * (r + 1) ∧ nx = (D, listOf tv.toArray nt) :: (L + 1, ok) :: (b, LCg.lst ((ad.drop (r + 1)).map Value.ref)) :: (a, LCg.lst ((ad.take (r + 1)).map Value.ref)) :: (d, dictOf [⟨hE, .str "_Ke" tE, .ref a⟩, ⟨hD, .str "_Kd" tD, .ref b⟩] 2) :: led ∧ m "j" = some (.int (j : Nat) k6) ∧ m "t" = some (.int (t + j : Nat) k5) ∧ m "rconpointer" = some (.int k k3) ∧ (∀ p ∈ [(Str.ofString "self", Value.ref x), ("rounds", .int r tr), ("round_key_count", .int ((r + 1) * 4) k1), ("KC", .int kc k2), ("tk", .ref D)], m p.1 = some p.2) ∧ led.map (·.1) = ad ∧ Mat val led ∧ Upto val (ad.take (r + 1)) flat (t + j)) F2 N2 (n₀ := kc - 0) ?h0 ?turn
  case h0 =>
    exact ⟨0, _, _, led, val, rfl, Nat.zero_le _, by omega, rfl, rfl, rfl, rfl, fun p hp => (by simp only [List.mem_cons, List.not_mem_nil, or_false] at hp; rcases hp with rfl | rfl | rfl | rfl | rfl <;> rfl), hled, M, U⟩
  case turn =>
    intro n m₁ nx h tk F5 N5 hJz
    refine Classical.byContradiction fun hng => ?_
    obtain ⟨j, k5, k6, led1, val1, rfl, hj1, hj2, rfl, mj, mt, mr, hm1, hl1, M1, U1⟩ := hJz
    refine hng ?_
    clear hng
    have F6 := frFacts _ (fcons mj (fcons mt (fcons mr hm1))) F5
    dsimp only [kstB] at F6
    have e1 : ((t + j : Nat) : Int).fdiv 4 = (((t + j) / 4 : Nat) : Int) := by rw [Int.fdiv_eq_ediv_of_nonneg _ (by decide)]; omega
    have e2 : ((t + j : Nat) : Int).fmod 4 = (((t + j) % 4 : Nat) : Int) := by rw [Int.fmod_eq_emod_of_nonneg _ (by decide)]; omega
    by_cases hj : j < kc
    · by_cases htt : t + j < 4 * (r + 1)
      · repeat (first | (k_unfold; (try dsimp only)) | walk1 | (dsimp only; walk1))
        (rename Fr _ _ _ _ => F3); (rename News _ _ _ _ => N3); (rename Mat _ _ => M3); (rename List.map _ _ = _ => hl3)
        rw [e1, e2] at M3
        simp only [Int.toNat_natCast] at M3
        refine ⟨_, _, _, _, kc - (j + 1), rfl, F3, N3, by omega, j + 1, _, _, _, _, rfl, by omega, by omega, rfl, rfl, rfl, rfl, fun p hp => (by simp only [List.mem_cons, List.not_mem_nil, or_false] at hp; rcases hp with rfl | rfl | rfl | rfl | rfl <;> rfl), hl3, M3, ?_⟩
        refine Upto.step U1 (hnd.sublist (List.take_sublist _ _)) (by omega) ?_ (fun hm9 => ?_) (hfl j hj)
        · exact M1.len hl1 (List.mem_of_mem_take (getD_mem (by omega)))
        · have hq := getD_mem (l := ad.drop (r + 1)) (d := 0) (i := (r - (((t + j) / 4 : Nat) : Int)).toNat) (by omega)
          rw [← List.take_append_drop (r + 1) ad, List.nodup_append] at hnd
          exact hnd.2.2 _ hm9 _ hq rfl
      · repeat (first | (k_unfold; (try dsimp only)) | walk1 | (dsimp only; walk1))
        exact done _ _ m₁ j k5 led1 val1 F5 (fcons mt (fcons mr hm1)) N5 hl1 M1 U1 hj1 hj2 (by omega)
    · repeat (first | (k_unfold; (try dsimp only)) | walk1 | (dsimp only; walk1))
      exact done _ _ m₁ j k5 led1 val1 F5 (fcons mt (fcons mr hm1)) N5 hl1 M1 U1 hj1 hj2 (by omega)
end
end
theorem rs23 : True ∧ True := by
  w_top off
  first | (walk1; fail) | exact ⟨trivial, trivial⟩
section
local macro_rules | `(tactic| walk_at "setItem ref int") => `(tactic| k_extra "y36")
theorem TurnEnd.intro1 {h₀ : Heap} {L I : Addr} {s : Shared} {Q : Flow → Shared → Prop} {Jn : (Str → Option Value) → List (Addr × Obj) → Prop} {io : Obj} {h' : Heap} {tk' : Nat} {m' : Str → Option Value} {nx : List (Addr × Obj)} (F : Fr h₀ L h' m') (N : News h₀ L h' ((I, io) :: nx)) (hI : ∀ p ∈ nx, p.1 ≠ I) (hJ : Jn m' nx) :
    TurnEnd h₀ L Jn I io s Q .next { s with heap := h', toks := tk' } := TurnEnd.intro F N (fun p hp => by
    rcases List.mem_append.mp hp with hp | hp
    · exact .tail _ hp
    · rw [List.mem_singleton.mp hp]; exact .head _) hI hJ
/-- places from a on are mixed with the one ahead -/
noncomputable def chain (l : List Int) (a : Nat) : Nat → List Int
  | 0 => l
  | i + 1 => (chain l a i).set (a + i) (Builtin.bitXor ((chain l a i).getD (a + i) 0) ((chain l a i).getD (a + i - 1) 0))
theorem chain_len {l : List Int} {a : Nat} : ∀ i, (chain l a i).length = l.length
  | 0 => rfl
  | i + 1 => by rw [chain, List.length_set, chain_len i]
noncomputable def keyHead (tt rc : Int) : Int := Builtin.bitXor (Builtin.bitXor (Builtin.bitXor (Builtin.bitXor (tabS.getD (Builtin.bitAnd (tt.fdiv (2 ^ 16)) 255).toNat 0 * 2 ^ 24) (tabS.getD (Builtin.bitAnd (tt.fdiv (2 ^ 8)) 255).toNat 0 * 2 ^ 16)) (tabS.getD (Builtin.bitAnd tt 255).toNat 0 * 2 ^ 8)) (tabS.getD (Builtin.bitAnd (tt.fdiv (2 ^ 24)) 255).toNat 0)) (rc * 2 ^ 24)
noncomputable def step0 (kc : Nat) (tks : List Int) (k : Nat) : List Int := tks.set 0 (Builtin.bitXor (tks.getD 0 0) (keyHead (tks.getD (kc - 1) 0) (rconL.getD k 0)))
theorem step0_len {kc k : Nat} {tks : List Int} : (step0 kc tks k).length = tks.length := List.length_set ..
noncomputable def keyMid (tt : Int) : Int := Builtin.bitXor (Builtin.bitXor (Builtin.bitXor (tabS.getD (Builtin.bitAnd tt 255).toNat 0) (tabS.getD (Builtin.bitAnd (tt.fdiv (2 ^ 8)) 255).toNat 0 * 2 ^ 8)) (tabS.getD (Builtin.bitAnd (tt.fdiv (2 ^ 16)) 255).toNat 0 * 2 ^ 16)) (tabS.getD (Builtin.bitAnd (tt.fdiv (2 ^ 24)) 255).toNat 0 * 2 ^ 24)
noncomputable def step4 (l : List Int) : List Int := l.set 4 (Builtin.bitXor (l.getD 4 0) (keyMid (l.getD 3 0)))
theorem step4_len {l : List Int} : (step4 l).length = l.length := List.length_set ..
noncomputable def stepKey (kc : Nat) (tks : List Int) (k : Nat) : List Int :=
  if kc = 8 then chain (step4 (chain (step0 kc tks k) 1 3)) 5 3 else chain (step0 kc tks k) 1 (kc - 1)
theorem stepKey_len {kc k : Nat} {tks : List Int} : (stepKey kc tks k).length = tks.length := by
  unfold stepKey
  split
  · rw [chain_len, step4_len, chain_len, step0_len]
  · rw [chain_len, step0_len]
section
variable {w : World} {dp un : Nat} {fr : Option (List Env)} {gd : Option (List Code)} {s : Shared} {mg mb : Str → Option Value} {lo : List Str} {h₀ : Heap}
theorem ini_W1 {x a b D d L : Addr} {m : Str → Option Value} {ok : Obj} {r kc nt : Nat} {tr k1 k2 tE tD : Tok} {hE hD : Int} {ad : List Addr} {led : List (Addr × Obj)} {val : Addr → List Int} {tv : List Value} {tks : List Int} {Q : Flow → Shared → Prop} {k t : Nat} {k3 k4 : Tok} {flat : Nat → Int}
    (X : (K w.params).In h₀) (T : TopRead q lo mg mb h₀) (hdp : dp < 700) (hx : h₀.get? x = some (instObj 116 d))
    (hr : r = kc + 6) (hkc : 4 ≤ kc ∧ kc ≤ 8) (hal : ad.length = 2 * (r + 1)) (hnd : ad.Nodup) (hout : ∀ y ∈ ad, D ≠ y ∧ L + 1 ≠ y ∧ b ≠ y ∧ a ≠ y ∧ d ≠ y) (hne : @Ne Nat D (L + 1) ∧ @Ne Nat D b ∧ @Ne Nat D a ∧ @Ne Nat D d)
    (hi : IntsAre tv tks) (htl : tks.length = kc) (hk : k < 30) (ht : t < 4 * (r + 1)) (hfl : ∀ j, j < kc → flat (t + j) = (stepKey kc tks k).getD j 0)
    (F : Fr h₀ L s.heap m) (hm : ∀ p ∈ [(Str.ofString "t", Value.int t k4), ("rconpointer", .int k k3), (Str.ofString "self", Value.ref x), ("rounds", .int r tr), ("round_key_count", .int ((r + 1) * 4) k1), ("KC", .int kc k2), ("tk", .ref D)], m p.1 = some p.2)
    (N : News h₀ L s.heap ((D, listOf tv.toArray nt) :: (L + 1, ok) :: (b, LCg.lst ((ad.drop (r + 1)).map Value.ref)) :: (a, LCg.lst ((ad.take (r + 1)).map Value.ref)) :: (d, dictOf [⟨hE, .str "_Ke" tE, .ref a⟩, ⟨hD, .str "_Kd" tD, .ref b⟩] 2) :: led)) (hled : led.map (·.1) = ad) (M : Mat val led) (U : Upto val (ad.take (r + 1)) flat t)
    (done : ∀ h' tk' m' j k5 kR tv' led' val', Fr h₀ L h' m' → (∀ p ∈ [(Str.ofString "t", Value.int (t + j : Nat) k5), ("rconpointer", .int (k + 1 : Nat) kR), (Str.ofString "self", Value.ref x), ("rounds", .int r tr), ("round_key_count", .int ((r + 1) * 4) k1), ("KC", .int kc k2), ("tk", .ref D)], m' p.1 = some p.2) → News h₀ L h' ((D, listOf tv'.toArray nt) :: (L + 1, ok) :: (b, LCg.lst ((ad.drop (r + 1)).map Value.ref)) :: (a, LCg.lst ((ad.take (r + 1)).map Value.ref)) :: (d, dictOf [⟨hE, .str "_Ke" tE, .ref a⟩, ⟨hD, .str "_Kd" tD, .ref b⟩] 2) :: led') → IntsAre tv' (stepKey kc tks k) → led'.map (·.1) = ad → Mat val' led' → Upto val' (ad.take (r + 1)) flat (t + j) → j ≤ kc → t + j ≤ 4 * (r + 1) → (j = kc ∨ t + j = 4 * (r + 1)) → Q .next { s with heap := h', toks := tk' }) :
    wpAny (model pw w) ((Ar dp un fr gd).deeper (envOfC "AES.__init__" iniScope L 103 (.ref 102))) (execs (whBody) (envOfC "AES.__init__" iniScope L 103 (.ref 102))) Q (fun _ _ => False) s := by
  refine with_scope (sc := iniScope) (P := fun sc => wpAny (model pw w) ((Ar dp un fr gd).deeper (envOfC "AES.__init__" sc L 103 (.ref 102))) (execs (whBody) (envOfC "AES.__init__" sc L 103 (.ref 102))) Q (fun _ _ => False) s) rfl ?_
  refine with_list (P := fun l => wpAny (model pw w) _ (execs l _) Q (fun _ _ => False) s) rfl ?_
  have F1 := frFacts _ hm F
  clear F
  dsimp only [kstB] at F1
  have hDl : ∀ p ∈ led, p.1 ≠ D := fun p hp e => (hout p.1 (by rw [← hled]; exact List.mem_map_of_mem hp)).1 e.symm
  iterate 101 (first | (k_unfold; (try dsimp only)) | walk1 | (dsimp only; walk1))
  (rename IntsAre _ _ => hI0)
  have e1 : (kc - 1 : Int).toNat = kc - 1 := toNat_pred kc
  have hI1 : IntsAre _ (step0 kc tks k) := ints_eq hI0 (by rw [e1]; rfl)
  have hs0 : (step0 kc tks k).length = kc := step0_len.trans htl
  clear hI0
  by_cases h8 : kc = 8
  · have e8 : (kc : Int).fdiv 2 = 4 := by rw [h8]; rfl
    repeat ((fail_if_success (with_reducible show wpAny _ _ (pyIter _) _ _ _)); (first | (k_unfold; (try dsimp only)) | walk1 | (dsimp only; walk1)))
    (rename IsRange _ _ _ _ _ _ _ _ => hrr)
    rw [e8] at hrr
    (rename Fr _ _ _ _ => F2); (rename News _ _ _ _ => N2); (rename IsRange _ _ _ _ _ _ _ _ => hr2); (rename IntsAre _ _ => hI2)
    refine range_J (n := 3) (a₀ := 1) (b₀ := 4) (J := fun i m' nx => ∃ tv' kR, nx = (D, listOf tv'.toArray nt) :: (L + 1, ok) :: (b, LCg.lst ((ad.drop (r + 1)).map Value.ref)) :: (a, LCg.lst ((ad.take (r + 1)).map Value.ref)) :: (d, dictOf [⟨hE, .str "_Ke" tE, .ref a⟩, ⟨hD, .str "_Kd" tD, .ref b⟩] 2) :: led ∧ m' "t" = some (.int t k4) ∧ m' "rconpointer" = some (.int (k + 1 : Nat) kR) ∧ (∀ p ∈ [(Str.ofString "self", Value.ref x), ("rounds", .int r tr), ("round_key_count", .int ((r + 1) * 4) k1), ("KC", .int kc k2), ("tk", .ref D)], m' p.1 = some p.2) ∧ IntsAre tv' (chain (step0 kc tks k) 1 i)) rfl hr2 ?sm ?sz F2 N2 ?h0 ?turn ?done
    case sm => exact small_of (by omega) (by omega) (by omega) (by omega) (by omega) (by omega)
    case sz => exact rsize_up (by omega)
    case h0 => exact ⟨_, _, rfl, rfl, rfl, fun p hp => (by simp only [List.mem_cons, List.not_mem_nil, or_false] at hp; rcases hp with rfl | rfl | rfl | rfl | rfl <;> rfl), hI2⟩
    case turn =>
      intro i ti m₁ nx h tk I io hi' hJz hI F5 N5
      refine Classical.byContradiction fun hng => ?_
      obtain ⟨tv1, kR, rfl, mt1, mr1, hmp1, hJ⟩ := hJz
      refine hng ?_
      clear hng
      have hm1 := fcons mt1 (fcons mr1 hmp1)
      have em : kstB m₁ [(Str.ofString "t", Value.int t k4), ("rconpointer", .int (k + 1 : Nat) kR), (Str.ofString "self", Value.ref x), ("rounds", .int r tr), ("round_key_count", .int ((r + 1) * 4) k1), ("KC", .int kc k2), ("tk", .ref D)] = m₁ := funext fun z => kstB_eq hm1 fun _ => rfl
      rw [← em] at F5
      dsimp only [kstB] at F5
      have N6 : News h₀ L h ((I, io) :: (D, listOf tv1.toArray nt) :: (L + 1, ok) :: (b, LCg.lst ((ad.drop (r + 1)).map Value.ref)) :: (a, LCg.lst ((ad.take (r + 1)).map Value.ref)) :: (d, dictOf [⟨hE, .str "_Ke" tE, .ref a⟩, ⟨hD, .str "_Kd" tD, .ref b⟩] 2) :: led) := fun p hp => by
        rcases List.mem_cons.mp hp with rfl | hp
        · exact N5 _ (List.mem_append.mpr (.inr (.head _)))
        · exact N5 _ (List.mem_append.mpr (.inl hp))
      have hID : @Ne Nat I D := fun e => hI _ (.head _) e.symm
      have hcl : (chain (step0 kc tks k) 1 i).length = kc := by rw [chain_len]; assumption
      clear N5
      repeat (first | (k_unfold; (try dsimp only)) | walk1 | (dsimp only; walk1))
      (rename Fr _ _ _ _ => F3); (rename News _ _ _ _ => N3); (rename IntsAre _ _ => hI3)
      refine TurnEnd.intro1 F3 N3 (fun p hp => ?_) ⟨_, kR, rfl, rfl, rfl, fun p hp => (by simp only [List.mem_cons, List.not_mem_nil, or_false] at hp; rcases hp with rfl | rfl | rfl | rfl | rfl <;> rfl), ?_⟩
      · rcases List.mem_cons.mp hp with rfl | hp
        · exact (show D ≠ I from hI (D, listOf tv1.toArray nt) (.head _))
        · exact hI _ (.tail _ hp)
      · refine ints_eq hI3 ?_
        show _ = (chain (step0 kc tks k) 1 i).set (1 + i) (Builtin.bitXor ((chain (step0 kc tks k) 1 i).getD (1 + i) 0) ((chain (step0 kc tks k) 1 i).getD (1 + i - 1) 0))
        have q1 : (1 + (i : Int)).toNat = 1 + i := by omega
        have q2 : (1 + (i : Int) - 1).toNat = 1 + i - 1 := toNat_sub1 1 i
        rw [q1, q2]
    case done =>
      intro m9 nx h9 tk hJz F5 N5
      refine Classical.byContradiction fun hng => ?_
      obtain ⟨tv1, kR, rfl, mt9, mr9, hmp9, hJ⟩ := hJz
      refine hng ?_
      clear hng
      have hm9 := fcons mt9 (fcons mr9 hmp9)
      have F6 := frFacts _ hm9 F5
      dsimp only [kstB] at F6
      clear F5 F2 N2 hr2
      have hcl : (chain (step0 kc tks k) 1 3).length = kc := by rw [chain_len]; assumption
      dsimp only
      repeat ((fail_if_success (with_reducible show wpAny _ _ (pyIter _) _ _ _)); (first | (k_unfold; (try dsimp only)) | walk1 | (dsimp only; walk1)))
      (rename IntsAre _ _ => hI4); (rename IsRange _ _ _ _ _ _ _ _ => hrr)
      rw [e8] at hrr
      have hI5 : IntsAre _ (step4 (chain (step0 kc tks k) 1 3)) := ints_eq hI4 (by rw [e8]; rfl)
      have hs4 : (step4 (chain (step0 kc tks k) 1 3)).length = kc := step4_len.trans hcl
      clear hI4
      (rename Fr _ _ _ _ => F2); (rename News _ _ _ _ => N2); (rename IsRange _ _ _ _ _ _ _ _ => hr2); (rename IntsAre _ _ => hI2)
      refine range_J (n := 3) (a₀ := 5) (b₀ := (kc : Int)) (J := fun i m' nx => ∃ tv' kR, nx = (D, listOf tv'.toArray nt) :: (L + 1, ok) :: (b, LCg.lst ((ad.drop (r + 1)).map Value.ref)) :: (a, LCg.lst ((ad.take (r + 1)).map Value.ref)) :: (d, dictOf [⟨hE, .str "_Ke" tE, .ref a⟩, ⟨hD, .str "_Kd" tD, .ref b⟩] 2) :: led ∧ m' "t" = some (.int t k4) ∧ m' "rconpointer" = some (.int (k + 1 : Nat) kR) ∧ (∀ p ∈ [(Str.ofString "self", Value.ref x), ("rounds", .int r tr), ("round_key_count", .int ((r + 1) * 4) k1), ("KC", .int kc k2), ("tk", .ref D)], m' p.1 = some p.2) ∧ IntsAre tv' (chain (step4 (chain (step0 kc tks k) 1 3)) 5 i)) rfl hr2 ?sm ?sz F2 N2 ?h0 ?turn ?done
      case sm => exact small_of (by omega) (by omega) (by omega) (by omega) (by omega) (by omega)
      case sz => exact rsize_up (by omega)
      case h0 => exact ⟨_, _, rfl, rfl, rfl, fun p hp => (by simp only [List.mem_cons, List.not_mem_nil, or_false] at hp; rcases hp with rfl | rfl | rfl | rfl | rfl <;> rfl), hI2⟩
      case turn =>
        intro i ti m₁ nx h tk I io hi' hJz hI F5 N5
        refine Classical.byContradiction fun hng => ?_
        obtain ⟨tv1, kR, rfl, mt1, mr1, hmp1, hJ⟩ := hJz
        refine hng ?_
        clear hng
        have hm1 := fcons mt1 (fcons mr1 hmp1)
        have em : kstB m₁ [(Str.ofString "t", Value.int t k4), ("rconpointer", .int (k + 1 : Nat) kR), (Str.ofString "self", Value.ref x), ("rounds", .int r tr), ("round_key_count", .int ((r + 1) * 4) k1), ("KC", .int kc k2), ("tk", .ref D)] = m₁ := funext fun z => kstB_eq hm1 fun _ => rfl
        rw [← em] at F5
        dsimp only [kstB] at F5
        have N6 : News h₀ L h ((I, io) :: (D, listOf tv1.toArray nt) :: (L + 1, ok) :: (b, LCg.lst ((ad.drop (r + 1)).map Value.ref)) :: (a, LCg.lst ((ad.take (r + 1)).map Value.ref)) :: (d, dictOf [⟨hE, .str "_Ke" tE, .ref a⟩, ⟨hD, .str "_Kd" tD, .ref b⟩] 2) :: led) := fun p hp => by
          rcases List.mem_cons.mp hp with rfl | hp
          · exact N5 _ (List.mem_append.mpr (.inr (.head _)))
          · exact N5 _ (List.mem_append.mpr (.inl hp))
        have hID : @Ne Nat I D := fun e => hI _ (.head _) e.symm
        have hcl : (chain (step4 (chain (step0 kc tks k) 1 3)) 5 i).length = kc := by rw [chain_len]; assumption
        clear N5
        repeat (first | (k_unfold; (try dsimp only)) | walk1 | (dsimp only; walk1))
        (rename Fr _ _ _ _ => F3); (rename News _ _ _ _ => N3); (rename IntsAre _ _ => hI3)
        refine TurnEnd.intro1 F3 N3 (fun p hp => ?_) ⟨_, kR, rfl, rfl, rfl, fun p hp => (by simp only [List.mem_cons, List.not_mem_nil, or_false] at hp; rcases hp with rfl | rfl | rfl | rfl | rfl <;> rfl), ?_⟩
        · rcases List.mem_cons.mp hp with rfl | hp
          · exact (show D ≠ I from hI (D, listOf tv1.toArray nt) (.head _))
          · exact hI _ (.tail _ hp)
        · refine ints_eq hI3 ?_
          show _ = (chain (step4 (chain (step0 kc tks k) 1 3)) 5 i).set (5 + i) (Builtin.bitXor ((chain (step4 (chain (step0 kc tks k) 1 3)) 5 i).getD (5 + i) 0) ((chain (step4 (chain (step0 kc tks k) 1 3)) 5 i).getD (5 + i - 1) 0))
          have q1 : (5 + (i : Int)).toNat = 5 + i := by omega
          have q2 : (5 + (i : Int) - 1).toNat = 5 + i - 1 := toNat_sub1 5 i
          rw [q1, q2]
      case done =>
        intro m9 nx h9 tk hJz F5 N5
        refine Classical.byContradiction fun hng => ?_
        obtain ⟨tv1, kR, rfl, mt9, mr9, hmp9, hJ⟩ := hJz
        refine hng ?_
        clear hng
        have hm9 := fcons mt9 (fcons mr9 hmp9)
        dsimp only
        iterate 1 (first | (k_unfold; (try dsimp only)) | walk1 | (dsimp only; walk1))
        have hsk : IntsAre tv1 (stepKey kc tks k) := ints_eq hJ (by unfold stepKey; rw [if_pos h8])
        refine ini_W2 (tks := stepKey kc tks k) (k := k + 1) X T hdp hx hr hkc hal hnd hout hne hsk (stepKey_len.trans htl) ht hfl F5 hm9 N5 hled M U ?_
        intro h' tk' m' j k5 led' val' G1 G2 G3 G4 G5 G6 G7 G8 G9
        exact done _ _ _ j k5 _ _ _ _ G1 G2 G3 hsk G4 G5 G6 G7 G8 G9
      
  · repeat ((fail_if_success (with_reducible show wpAny _ _ (pyIter _) _ _ _)); (first | (k_unfold; (try dsimp only)) | walk1 | (dsimp only; walk1)))
    (rename Fr _ _ _ _ => F2); (rename News _ _ _ _ => N2); (rename IsRange _ _ _ _ _ _ _ _ => hr2); (rename IntsAre _ _ => hI2)
    refine range_J (n := kc - 1) (a₀ := 1) (b₀ := (kc : Int)) (J := fun i m' nx => ∃ tv' kR, nx = (D, listOf tv'.toArray nt) :: (L + 1, ok) :: (b, LCg.lst ((ad.drop (r + 1)).map Value.ref)) :: (a, LCg.lst ((ad.take (r + 1)).map Value.ref)) :: (d, dictOf [⟨hE, .str "_Ke" tE, .ref a⟩, ⟨hD, .str "_Kd" tD, .ref b⟩] 2) :: led ∧ m' "t" = some (.int t k4) ∧ m' "rconpointer" = some (.int (k + 1 : Nat) kR) ∧ (∀ p ∈ [(Str.ofString "self", Value.ref x), ("rounds", .int r tr), ("round_key_count", .int ((r + 1) * 4) k1), ("KC", .int kc k2), ("tk", .ref D)], m' p.1 = some p.2) ∧ IntsAre tv' (chain (step0 kc tks k) 1 i)) rfl hr2 ?sm ?sz F2 N2 ?h0 ?turn ?done
    case sm => exact small_of (by omega) (by omega) (by omega) (by omega) (by omega) (by omega)
    case sz => exact rsize_up (by omega)
    case h0 => exact ⟨_, _, rfl, rfl, rfl, fun p hp => (by simp only [List.mem_cons, List.not_mem_nil, or_false] at hp; rcases hp with rfl | rfl | rfl | rfl | rfl <;> rfl), hI2⟩
    case turn =>
      intro i ti m₁ nx h tk I io hi' hJz hI F5 N5
      refine Classical.byContradiction fun hng => ?_
      obtain ⟨tv1, kR, rfl, mt1, mr1, hmp1, hJ⟩ := hJz
      refine hng ?_
      clear hng
      have hm1 := fcons mt1 (fcons mr1 hmp1)
      have em : kstB m₁ [(Str.ofString "t", Value.int t k4), ("rconpointer", .int (k + 1 : Nat) kR), (Str.ofString "self", Value.ref x), ("rounds", .int r tr), ("round_key_count", .int ((r + 1) * 4) k1), ("KC", .int kc k2), ("tk", .ref D)] = m₁ := funext fun z => kstB_eq hm1 fun _ => rfl
      rw [← em] at F5
      dsimp only [kstB] at F5
      have N6 : News h₀ L h ((I, io) :: (D, listOf tv1.toArray nt) :: (L + 1, ok) :: (b, LCg.lst ((ad.drop (r + 1)).map Value.ref)) :: (a, LCg.lst ((ad.take (r + 1)).map Value.ref)) :: (d, dictOf [⟨hE, .str "_Ke" tE, .ref a⟩, ⟨hD, .str "_Kd" tD, .ref b⟩] 2) :: led) := fun p hp => by
        rcases List.mem_cons.mp hp with rfl | hp
        · exact N5 _ (List.mem_append.mpr (.inr (.head _)))
        · exact N5 _ (List.mem_append.mpr (.inl hp))
      have hID : @Ne Nat I D := fun e => hI _ (.head _) e.symm
      have hcl : (chain (step0 kc tks k) 1 i).length = kc := by rw [chain_len]; assumption
      clear N5
      repeat (first | (k_unfold; (try dsimp only)) | walk1 | (dsimp only; walk1))
      (rename Fr _ _ _ _ => F3); (rename News _ _ _ _ => N3); (rename IntsAre _ _ => hI3)
      refine TurnEnd.intro1 F3 N3 (fun p hp => ?_) ⟨_, kR, rfl, rfl, rfl, fun p hp => (by simp only [List.mem_cons, List.not_mem_nil, or_false] at hp; rcases hp with rfl | rfl | rfl | rfl | rfl <;> rfl), ?_⟩
      · rcases List.mem_cons.mp hp with rfl | hp
        · exact (show D ≠ I from hI (D, listOf tv1.toArray nt) (.head _))
        · exact hI _ (.tail _ hp)
      · refine ints_eq hI3 ?_
        show _ = (chain (step0 kc tks k) 1 i).set (1 + i) (Builtin.bitXor ((chain (step0 kc tks k) 1 i).getD (1 + i) 0) ((chain (step0 kc tks k) 1 i).getD (1 + i - 1) 0))
        have q1 : (1 + (i : Int)).toNat = 1 + i := by omega
        have q2 : (1 + (i : Int) - 1).toNat = 1 + i - 1 := toNat_sub1 1 i
        rw [q1, q2]
    case done =>
      intro m9 nx h9 tk hJz F5 N5
      refine Classical.byContradiction fun hng => ?_
      obtain ⟨tv1, kR, rfl, mt9, mr9, hmp9, hJ⟩ := hJz
      refine hng ?_
      clear hng
      have hm9 := fcons mt9 (fcons mr9 hmp9)
      dsimp only
      iterate 1 (first | (k_unfold; (try dsimp only)) | walk1 | (dsimp only; walk1))
      have hsk : IntsAre tv1 (stepKey kc tks k) := ints_eq hJ (by unfold stepKey; rw [if_neg h8])
      refine ini_W2 (tks := stepKey kc tks k) (k := k + 1) X T hdp hx hr hkc hal hnd hout hne hsk (stepKey_len.trans htl) ht hfl F5 hm9 N5 hled M U ?_
      intro h' tk' m' j k5 led' val' G1 G2 G3 G4 G5 G6 G7 G8 G9
      exact done _ _ _ j k5 _ _ _ _ G1 G2 G3 hsk G4 G5 G6 G7 G8 G9
end
end
theorem rs24 : True ∧ True := by
  w_top off
  first | (walk1; fail) | exact ⟨trivial, trivial⟩
section
theorem Upto.other {val : Addr → List Int} {rs : List Addr} {flat : Nat → Int} {t c : Nat} {rD : Addr} {x : Int} (U : Upto val rs flat t) (ht : t ≤ 4 * rs.length) (hD : rD ∉ rs) : Upto (upd val rD c x) rs flat t := fun u hu => by
  have hq : u / 4 < rs.length := by omega
  have hne : rs.getD (u / 4) 0 ≠ rD := fun e => hD (by rw [← e]; exact getD_mem hq)
  rw [upd_ne hne]
  exact U u hu
section
variable {w : World} {A : Around} {E : Value → Shared → Prop} {s : Shared} {h₀ : Heap} {L : Addr} {m : Str → Option Value}
theorem mat_set7 {led : List (Addr × Obj)} {e1 e2 e3 e4 e5 e6 e7 : Addr × Obj} {ad : List Addr} {val : Addr → List Int} {r : Addr} {c x : Int} {t u : Tok} {Q : Unit → Shared → Prop} (F : Fr h₀ L s.heap m) (N : News h₀ L s.heap (e1 :: e2 :: e3 :: e4 :: e5 :: e6 :: e7 :: led)) (hl : led.map (·.1) = ad) (M : Mat val led) (hr : r ∈ ad)
    (ho1 : ∀ y ∈ ad, e1.1 ≠ y) (ho : ∀ y ∈ ad, e2.1 ≠ y ∧ e3.1 ≠ y ∧ e4.1 ≠ y ∧ e5.1 ≠ y ∧ e6.1 ≠ y ∧ e7.1 ≠ y) (h0 : 0 ≤ c) (h1 : c < 4)
    (h : ∀ h' led', Fr h₀ L h' m → News h₀ L h' (e1 :: e2 :: e3 :: e4 :: e5 :: e6 :: e7 :: led') → led'.map (·.1) = ad → Mat (upd val r c.toNat x) led' → Q () { s with heap := h' }) :
    wpAny (model pw w) A (setItem (.ref r) (.int c t) (.int x u)) Q E s := by
  refine mat_set (pre := [e1, e2, e3, e4, e5, e6, e7]) F N (fun p hp => hp) M (by rw [hl]; exact hr) (fun p hp => ?_) h0 h1 fun h' led' F' N' e M' => h h' led' F' N' (e.trans hl) M'
  refine Classical.byContradiction fun hng => ?_
  obtain ⟨o1, o2, o3, o4, o5, o6⟩ := ho r hr
  refine hng ?_
  clear hng
  have o0 := ho1 r hr
  simp only [List.mem_cons, List.not_mem_nil, or_false] at hp
  rcases hp with rfl | rfl | rfl | rfl | rfl | rfl | rfl <;> assumption
theorem mat_item7 {value slice : PySem.Expr} {led : List (Addr × Obj)} {e1 e2 e3 e4 e5 e6 e7 : Addr × Obj} {ad : List Addr} {val : Addr → List Int} {r : Addr} {c : Int} {t : Tok} {Q : Value → Shared → Prop} (N : News h₀ L s.heap (e1 :: e2 :: e3 :: e4 :: e5 :: e6 :: e7 :: led)) (hl : led.map (·.1) = ad) (M : Mat val led) (hr : r ∈ ad) (h0 : 0 ≤ c) (h1 : c < 4)
    (h : ∀ t', Q (.int ((val r).getD c.toNat 0) t') s)
    (hs' : subscripted slice false (.ref r) (.int c t) = operate [.ref r, .int c t] (getItem (.ref r) (.int c t)) := by with_unfolding_all rfl) :
    wpAny (model pw w) A (subscriptTail value slice (.ref r) (.int c t)) Q E s :=
  mat_item N (fun p hp => .tail _ (.tail _ (.tail _ (.tail _ (.tail _ (.tail _ (.tail _ hp))))))) M (by rw [hl]; exact hr) h0 h1 h hs'
end
local macro_rules | `(tactic| walk_at "subscriptTail") => `(tactic| k_extra "y37")
local macro_rules | `(tactic| walk_at "setItem ref int") => `(tactic| k_extra "y38")
section
variable {w : World} {dp un : Nat} {fr : Option (List Env)} {gd : Option (List Code)} {s : Shared} {mg mb : Str → Option Value} {lo : List Str} {h₀ : Heap}
theorem ini_D {x a b D d L : Addr} {m : Str → Option Value} {ok : Obj} {r kc nt : Nat} {tr k1 k2 tE tD : Tok} {hE hD : Int} {ad : List Addr} {led : List (Addr × Obj)} {val : Addr → List Int} {tv : List Value} {tks : List Int} {Q : Flow → Shared → Prop} {flat : Nat → Int}
    (X : (K w.params).In h₀) (T : TopRead q lo mg mb h₀) (hdp : dp < 700) (hx : h₀.get? x = some (instObj 116 d))
    (hr : r = kc + 6) (hkc : 4 ≤ kc ∧ kc ≤ 8) (hal : ad.length = 2 * (r + 1)) (hnd : ad.Nodup) (hout : ∀ y ∈ ad, D ≠ y ∧ L + 1 ≠ y ∧ b ≠ y ∧ a ≠ y ∧ d ≠ y) (hne : @Ne Nat D (L + 1) ∧ @Ne Nat D b ∧ @Ne Nat D a ∧ @Ne Nat D d)
    (F : Fr h₀ L s.heap m) (hm : ∀ p ∈ [(Str.ofString "self", Value.ref x), ("rounds", .int r tr), ("round_key_count", .int ((r + 1) * 4) k1), ("KC", .int kc k2), ("tk", .ref D)], m p.1 = some p.2)
    (N : News h₀ L s.heap ((D, listOf tv.toArray nt) :: (L + 1, ok) :: (b, LCg.lst ((ad.drop (r + 1)).map Value.ref)) :: (a, LCg.lst ((ad.take (r + 1)).map Value.ref)) :: (d, dictOf [⟨hE, .str "_Ke" tE, .ref a⟩, ⟨hD, .str "_Kd" tD, .ref b⟩] 2) :: led)) (hled : led.map (·.1) = ad) (M : Mat val led) (U : Upto val (ad.take (r + 1)) flat (4 * (r + 1)))
    (done : ∀ h' tk' m' led' val', Fr h₀ L h' m' → News h₀ L h' ((D, listOf tv.toArray nt) :: (L + 1, ok) :: (b, LCg.lst ((ad.drop (r + 1)).map Value.ref)) :: (a, LCg.lst ((ad.take (r + 1)).map Value.ref)) :: (d, dictOf [⟨hE, .str "_Ke" tE, .ref a⟩, ⟨hD, .str "_Kd" tD, .ref b⟩] 2) :: led') → led'.map (·.1) = ad → Mat val' led' → Upto val' (ad.take (r + 1)) flat (4 * (r + 1)) → Q .next { s with heap := h', toks := tk' }) :
    wpAny (model pw w) ((Ar dp un fr gd).deeper (envOfC "AES.__init__" iniScope L 103 (.ref 102))) (execs (iniBody.drop 11) (envOfC "AES.__init__" iniScope L 103 (.ref 102))) Q (fun _ _ => False) s := by
  refine with_scope (sc := iniScope) (P := fun sc => wpAny (model pw w) ((Ar dp un fr gd).deeper (envOfC "AES.__init__" sc L 103 (.ref 102))) (execs (iniBody.drop 11) (envOfC "AES.__init__" sc L 103 (.ref 102))) Q (fun _ _ => False) s) rfl ?_
  refine with_list (P := fun l => wpAny (model pw w) _ (execs l _) Q (fun _ _ => False) s) rfl ?_
  have F1 := frFacts _ hm F
  clear F
  dsimp only [kstB] at F1
  repeat ((fail_if_success (with_reducible show wpAny _ _ (pyIter _) _ _ _)); (first | (k_unfold; (try dsimp only)) | walk1 | (dsimp only; walk1)))
  (rename Fr _ _ _ _ => F2); (rename News _ _ _ _ => N2); (rename IsRange _ _ _ _ _ _ _ _ => hr2)
  have hlt : (ad.take (r + 1)).length = r + 1 := by rw [List.length_take]; omega
  have hld : (ad.drop (r + 1)).length = r + 1 := by rw [List.length_drop]; omega
  refine range_J (n := r - 1) (J := fun i m nx => ∃ led val, nx = (D, listOf tv.toArray nt) :: (L + 1, ok) :: (b, LCg.lst ((ad.drop (r + 1)).map Value.ref)) :: (a, LCg.lst ((ad.take (r + 1)).map Value.ref)) :: (d, dictOf [⟨hE, .str "_Ke" tE, .ref a⟩, ⟨hD, .str "_Kd" tD, .ref b⟩] 2) :: led ∧ (∀ p ∈ [(Str.ofString "self", Value.ref x), ("rounds", .int r tr), ("round_key_count", .int ((r + 1) * 4) k1), ("KC", .int kc k2), ("tk", .ref D)], m p.1 = some p.2) ∧ led.map (·.1) = ad ∧ Mat val led ∧ Upto val (ad.take (r + 1)) flat (4 * (r + 1))) rfl hr2 ?sm ?sz F2 N2 ?h0 ?turn ?done
  case sm => exact small_of (by omega) (by omega) (by omega) (by omega) (by omega) (by omega)
  case sz => exact rsize_up (by omega)
  case h0 => exact ⟨led, val, rfl, fun p hp => (by simp only [List.mem_cons, List.not_mem_nil, or_false] at hp; rcases hp with rfl | rfl | rfl | rfl | rfl <;> rfl), hled, M, U⟩
  case turn =>
    intro i ti m₁ nx h tk I io hi' hJz hI F5 N5
    refine Classical.byContradiction fun hng => ?_
    obtain ⟨led1, val1, rfl, hm1, hl1, M1, U1⟩ := hJz
    refine hng ?_
    clear hng
    have em : kstB m₁ [(Str.ofString "self", Value.ref x), ("rounds", .int r tr), ("round_key_count", .int ((r + 1) * 4) k1), ("KC", .int kc k2), ("tk", .ref D)] = m₁ := funext fun z => kstB_eq hm1 fun _ => rfl
    rw [← em] at F5
    dsimp only [kstB] at F5
    have ho6 := apart6 (I := I) hl1 hI hout
    have N6 : News h₀ L h ((I, io) :: (D, listOf tv.toArray nt) :: (L + 1, ok) :: (b, LCg.lst ((ad.drop (r + 1)).map Value.ref)) :: (a, LCg.lst ((ad.take (r + 1)).map Value.ref)) :: (d, dictOf [⟨hE, .str "_Ke" tE, .ref a⟩, ⟨hD, .str "_Kd" tD, .ref b⟩] 2) :: led1) := fun p hp => by
      rcases List.mem_cons.mp hp with rfl | hp
      · exact N5 _ (List.mem_append.mpr (.inr (.head _)))
      · exact N5 _ (List.mem_append.mpr (.inl hp))
    clear N5 F2 N2 hr2
    repeat ((fail_if_success (with_reducible show wpAny _ _ (pyIter _) _ _ _)); (first | (k_unfold; (try dsimp only)) | walk1 | (dsimp only; walk1)))
    (rename Fr _ _ _ _ => F2); (rename News _ _ _ _ => N2); (rename IsRange _ _ _ _ _ _ _ _ => hr2)
    refine range_J (n := 4) (J := fun _ m nx => ∃ led val, nx = (I, io) :: (D, listOf tv.toArray nt) :: (L + 1, ok) :: (b, LCg.lst ((ad.drop (r + 1)).map Value.ref)) :: (a, LCg.lst ((ad.take (r + 1)).map Value.ref)) :: (d, dictOf [⟨hE, .str "_Ke" tE, .ref a⟩, ⟨hD, .str "_Kd" tD, .ref b⟩] 2) :: led ∧ m "r" = some (.int (1 + (i : Int)) ti) ∧ (∀ p ∈ [(Str.ofString "self", Value.ref x), ("rounds", .int r tr), ("round_key_count", .int ((r + 1) * 4) k1), ("KC", .int kc k2), ("tk", .ref D)], m p.1 = some p.2) ∧ led.map (·.1) = ad ∧ Mat val led ∧ Upto val (ad.take (r + 1)) flat (4 * (r + 1))) rfl hr2 ?sm2 ?sz2 F2 N2 ?h02 ?turn2 ?done2
    case sm2 => exact small_of (by omega) (by omega) (by omega) (by omega) (by omega) (by omega)
    case sz2 => exact rsize_up (by omega)
    case h02 => exact ⟨led1, val1, rfl, rfl, fun p hp => (by simp only [List.mem_cons, List.not_mem_nil, or_false] at hp; rcases hp with rfl | rfl | rfl | rfl | rfl <;> rfl), hl1, M1, U1⟩
    case turn2 =>
      intro j tj m₂ nx h tk I2 io2 hj' hJz hI2 F6 N7
      refine Classical.byContradiction fun hng => ?_
      obtain ⟨led2, val2, rfl, mr2, hm2, hl2, M2, U2⟩ := hJz
      refine hng ?_
      clear hng
      have em : kstB m₂ [(Str.ofString "r", Value.int (1 + (i : Int)) ti), (Str.ofString "self", Value.ref x), ("rounds", .int r tr), ("round_key_count", .int ((r + 1) * 4) k1), ("KC", .int kc k2), ("tk", .ref D)] = m₂ := funext fun z => kstB_eq (fcons mr2 hm2) fun _ => rfl
      rw [← em] at F6
      dsimp only [kstB] at F6
      have ho7 : ∀ y ∈ ad, I2 ≠ y := fun y hy e => by
        rw [← hl2] at hy
        obtain ⟨p, hp, rfl⟩ := List.mem_map.mp hy
        exact hI2 p (.tail _ (.tail _ (.tail _ (.tail _ (.tail _ (.tail _ hp)))))) e.symm
      have N8 : News h₀ L h ((I2, io2) :: (I, io) :: (D, listOf tv.toArray nt) :: (L + 1, ok) :: (b, LCg.lst ((ad.drop (r + 1)).map Value.ref)) :: (a, LCg.lst ((ad.take (r + 1)).map Value.ref)) :: (d, dictOf [⟨hE, .str "_Ke" tE, .ref a⟩, ⟨hD, .str "_Kd" tD, .ref b⟩] 2) :: led2) := fun p hp => by
        rcases List.mem_cons.mp hp with rfl | hp
        · exact N7 _ (List.mem_append.mpr (.inr (.head _)))
        · exact N7 _ (List.mem_append.mpr (.inl hp))
      clear N7
      repeat (first | (k_unfold; (try dsimp only)) | walk1 | (dsimp only; walk1))
      (rename Fr _ _ _ _ => F3); (rename News _ _ _ _ => N3); (rename Mat _ _ => M3); (rename List.map _ _ = _ => hl3)
      refine TurnEnd.intro1 F3 N3 (fun p hp => ?_) ⟨_, _, rfl, rfl, fun p hp => (by simp only [List.mem_cons, List.not_mem_nil, or_false] at hp; rcases hp with rfl | rfl | rfl | rfl | rfl <;> rfl), hl3, M3, ?_⟩
      · rcases List.mem_cons.mp hp with rfl | hp
        · exact hI2 _ (.head _)
        rcases List.mem_cons.mp hp with rfl | hp
        · exact hI2 _ (.tail _ (.head _))
        rcases List.mem_cons.mp hp with rfl | hp
        · exact hI2 _ (.tail _ (.tail _ (.head _)))
        rcases List.mem_cons.mp hp with rfl | hp
        · exact hI2 _ (.tail _ (.tail _ (.tail _ (.head _))))
        rcases List.mem_cons.mp hp with rfl | hp
        · exact hI2 _ (.tail _ (.tail _ (.tail _ (.tail _ (.head _)))))
        rcases List.mem_cons.mp hp with rfl | hp
        · exact hI2 _ (.tail _ (.tail _ (.tail _ (.tail _ (.tail _ (.head _))))))
        · exact fun e => ho7 p.1 (by rw [← hl3]; exact List.mem_map_of_mem hp) e.symm
      · refine U2.other (by omega) fun hm9 => ?_
        have hq := getD_mem (l := ad.drop (r + 1)) (d := 0) (i := (1 + (i : Int)).toNat) (by omega)
        rw [← List.take_append_drop (r + 1) ad, List.nodup_append] at hnd
        exact hnd.2.2 _ hm9 _ hq rfl
    case done2 =>
      intro m9 nx h9 tk hJz F6 N7
      refine Classical.byContradiction fun hng => ?_
      obtain ⟨led2, val2, rfl, mr2, hm2, hl2, M2, U2⟩ := hJz
      refine hng ?_
      clear hng
      dsimp only
      repeat (first | (k_unfold; (try dsimp only)) | walk1 | (dsimp only; walk1))
      refine TurnEnd.intro1 F6 N7 (fun p hp => ?_) ⟨_, _, rfl, hm2, hl2, M2, U2⟩
      rcases List.mem_cons.mp hp with rfl | hp
      · exact hI _ (.head _)
      rcases List.mem_cons.mp hp with rfl | hp
      · exact hI _ (.tail _ (.head _))
      rcases List.mem_cons.mp hp with rfl | hp
      · exact hI _ (.tail _ (.tail _ (.head _)))
      rcases List.mem_cons.mp hp with rfl | hp
      · exact hI _ (.tail _ (.tail _ (.tail _ (.head _))))
      rcases List.mem_cons.mp hp with rfl | hp
      · exact hI _ (.tail _ (.tail _ (.tail _ (.tail _ (.head _)))))
      · exact fun e => (ho6 p.1 (by rw [← hl2]; exact List.mem_map_of_mem hp)).1 e.symm
  case done =>
    intro m9 nx h9 tk hJz F6 N7
    refine Classical.byContradiction fun hng => ?_
    obtain ⟨led2, val2, rfl, hm2, hl2, M2, U2⟩ := hJz
    refine hng ?_
    clear hng
    dsimp only
    repeat (first | (k_unfold; (try dsimp only)) | walk1 | (dsimp only; walk1))
    exact done _ _ _ _ _ F6 N7 hl2 M2 U2
end
end
theorem rs25 : True ∧ True := by
  w_top off
  first | (walk1; fail) | exact ⟨trivial, trivial⟩
section

noncomputable def tkIter (kc : Nat) (key : List Int) : Nat → List Int
  | 0 => tkInit key kc
  | n + 1 => stepKey kc (tkIter kc key n) n
theorem tkIter_len {kc : Nat} {key : List Int} : ∀ n, (tkIter kc key n).length = kc
  | 0 => by show (tkInit key kc).length = kc; unfold tkInit; rw [List.length_map, List.length_range]
  | n + 1 => stepKey_len.trans (tkIter_len n)
noncomputable def flatK (kc : Nat) (key : List Int) (u : Nat) : Int := (tkIter kc key (u / kc)).getD (u % kc) 0
section
variable {w : World} {dp un : Nat} {fr : Option (List Env)} {gd : Option (List Code)} {s : Shared} {mg mb : Str → Option Value} {lo : List Str} {h₀ : Heap}
theorem ini_W {x a b D d L : Addr} {m : Str → Option Value} {ok : Obj} {r kc nt : Nat} {tr k1 k2 tE tD : Tok} {hE hD : Int} {ad : List Addr} {led : List (Addr × Obj)} {val : Addr → List Int} {tv : List Value} {Q : Flow → Shared → Prop} {key : List Int}
    (X : (K w.params).In h₀) (T : TopRead q lo mg mb h₀) (hdp : dp < 700) (hx : h₀.get? x = some (instObj 116 d))
    (hr : r = kc + 6) (hkc : 4 ≤ kc ∧ kc ≤ 8) (hal : ad.length = 2 * (r + 1)) (hnd : ad.Nodup) (hout : ∀ y ∈ ad, D ≠ y ∧ L + 1 ≠ y ∧ b ≠ y ∧ a ≠ y ∧ d ≠ y) (hne : @Ne Nat D (L + 1) ∧ @Ne Nat D b ∧ @Ne Nat D a ∧ @Ne Nat D d)
    (hi : IntsAre tv (tkInit key kc))
    (F : Fr h₀ L s.heap m) (hm : ∀ p ∈ [(Str.ofString "self", Value.ref x), ("rounds", .int r tr), ("round_key_count", .int ((r + 1) * 4) k1), ("KC", .int kc k2), ("tk", .ref D)], m p.1 = some p.2)
    (N : News h₀ L s.heap ((D, listOf tv.toArray nt) :: (L + 1, ok) :: (b, LCg.lst ((ad.drop (r + 1)).map Value.ref)) :: (a, LCg.lst ((ad.take (r + 1)).map Value.ref)) :: (d, dictOf [⟨hE, .str "_Ke" tE, .ref a⟩, ⟨hD, .str "_Kd" tD, .ref b⟩] 2) :: led)) (hled : led.map (·.1) = ad) (M : Mat val led) (U : Upto val (ad.take (r + 1)) (flatK kc key) kc)
    (done : ∀ h' tk' m' led' val' (tv' : List Value), Fr h₀ L h' m' → News h₀ L h' ((D, listOf tv'.toArray nt) :: (L + 1, ok) :: (b, LCg.lst ((ad.drop (r + 1)).map Value.ref)) :: (a, LCg.lst ((ad.take (r + 1)).map Value.ref)) :: (d, dictOf [⟨hE, .str "_Ke" tE, .ref a⟩, ⟨hD, .str "_Kd" tD, .ref b⟩] 2) :: led') → led'.map (·.1) = ad → Mat val' led' → Upto val' (ad.take (r + 1)) (flatK kc key) (4 * (r + 1)) → Q .next { s with heap := h', toks := tk' }) :
    wpAny (model pw w) ((Ar dp un fr gd).deeper (envOfC "AES.__init__" iniScope L 103 (.ref 102))) (execs (iniBody.drop 8) (envOfC "AES.__init__" iniScope L 103 (.ref 102))) Q (fun _ _ => False) s := by
  refine with_scope (sc := iniScope) (P := fun sc => wpAny (model pw w) ((Ar dp un fr gd).deeper (envOfC "AES.__init__" sc L 103 (.ref 102))) (execs (iniBody.drop 8) (envOfC "AES.__init__" sc L 103 (.ref 102))) Q (fun _ _ => False) s) rfl ?_
  refine with_list (P := fun l => wpAny (model pw w) _ (execs l _) Q (fun _ _ => False) s) rfl ?_
  have F1 := frFacts _ hm F
  clear F
  dsimp only [kstB] at F1
  have hk0 : kc < 4 * (r + 1) := by omega
  iterate 9 (first | (k_unfold; (try dsimp only)) | walk1 | (dsimp only; walk1))
  (rename Fr _ _ _ _ => F2); (rename News _ _ _ _ => N2)
  refine While_inv2 (fun n m nx => ∃ t k k3 k4 tv led val, n = 4 * (r + 1) - t ∧ kc ≤ t ∧ t ≤ 4 * (r + 1) ∧ (t < 4 * (r + 1) → t = kc * (k + 1)) ∧ nx = (D, listOf tv.toArray nt) :: (L + 1, ok) :: (b, LCg.lst ((ad.drop (r + 1)).map Value.ref)) :: (a, LCg.lst ((ad.take (r + 1)).map Value.ref)) :: (d, dictOf [⟨hE, .str "_Ke" tE, .ref a⟩, ⟨hD, .str "_Kd" tD, .ref b⟩] 2) :: led ∧ m "t" = some (.int (t : Nat) k4) ∧ m "rconpointer" = some (.int (k : Nat) k3) ∧ (∀ p ∈ [(Str.ofString "self", Value.ref x), ("rounds", .int r tr), ("round_key_count", .int ((r + 1) * 4) k1), ("KC", .int kc k2), ("tk", .ref D)], m p.1 = some p.2) ∧ IntsAre tv (tkIter kc key k) ∧ led.map (·.1) = ad ∧ Mat val led ∧ Upto val (ad.take (r + 1)) (flatK kc key) t) F2 N2 (n₀ := 4 * (r + 1) - kc) ?h0 ?turn
  case h0 =>
    exact ⟨kc, 0, _, _, tv, led, val, rfl, Nat.le_refl _, by omega, fun _ => (Nat.mul_one _).symm, rfl, rfl, rfl, fun p hp => (by simp only [List.mem_cons, List.not_mem_nil, or_false] at hp; rcases hp with rfl | rfl | rfl | rfl | rfl <;> rfl), hi, hled, M, U⟩
  case turn =>
    intro n m₁ nx h tk F5 N5 hJz
    refine Classical.byContradiction fun hng => ?_
    obtain ⟨t, k, k3, k4, tv1, led1, val1, rfl, ht1, ht2, ht3, rfl, mt, mr, hm1, hi1, hl1, M1, U1⟩ := hJz
    refine hng ?_
    clear hng
    have em : kstB m₁ [(Str.ofString "t", Value.int (t : Nat) k4), ("rconpointer", .int (k : Nat) k3), (Str.ofString "self", Value.ref x), ("rounds", .int r tr), ("round_key_count", .int ((r + 1) * 4) k1), ("KC", .int kc k2), ("tk", .ref D)] = m₁ := funext fun z => kstB_eq (fcons mt (fcons mr hm1)) fun _ => rfl
    have F6 := F5
    rw [← em] at F6
    dsimp only [kstB] at F6
    by_cases htt : t < 4 * (r + 1)
    · have hkt := ht3 htt
      have hkk : 4 * (k + 1) ≤ kc * (k + 1) := Nat.mul_le_mul_right _ hkc.1
      iterate 6 (first | (k_unfold; (try dsimp only)) | walk1 | (dsimp only; walk1))
      refine ini_W1 (tks := tkIter kc key k) (k := k) (t := t) (flat := flatK kc key) X T hdp hx hr hkc hal hnd hout hne hi1 (tkIter_len k) (by omega) htt (fun j hj => ?_) F5 (fcons mt (fcons mr hm1)) N5 hl1 M1 U1 ?_
      · unfold flatK
        have e1 : (t + j) / kc = k + 1 := by rw [hkt, Nat.mul_add_div (by omega), Nat.div_eq_of_lt hj, Nat.add_zero]
        have e2 : (t + j) % kc = j := by rw [hkt, Nat.mul_add_mod, Nat.mod_eq_of_lt hj]
        rw [e1, e2]
        rfl
      · intro h' tk' m' j k5 kR tv' led' val' G1 G2 G3 G4 G5 G6 G7 G8 G9 G10
        have gt : m' "t" = some (.int (t + j : Nat) k5) := G2 _ (.head _)
        have gr : m' "rconpointer" = some (.int (k + 1 : Nat) kR) := G2 _ (.tail _ (.head _))
        exact ⟨_, _, _, _, 4 * (r + 1) - (t + j), rfl, G1, G3, by omega, t + j, k + 1, _, _, tv', led', val', rfl, by omega, G9, fun q => (by
          have ej : j = kc := by omega
          rw [ej, hkt, Nat.mul_succ kc (k + 1)]), rfl, gt, gr, fun p hp => G2 p (.tail _ (.tail _ hp)), G4, G5, G6, G7⟩
    · have et : t = 4 * (r + 1) := by omega
      subst et
      iterate 6 (first | (k_unfold; (try dsimp only)) | walk1 | (dsimp only; walk1))
      refine ini_D (tks := []) (flat := flatK kc key) X T hdp hx hr hkc hal hnd hout hne F5 hm1 N5 hl1 M1 U1 ?_
      intro h' tk' m' led' val' G1 G2 G3 G4 G5
      exact done _ _ _ _ _ _ G1 G2 G3 G4 G5
end
end
theorem rs26 : True ∧ True := by
  w_top off
  first | (walk1; fail) | exact ⟨trivial, trivial⟩
end
theorem rs27 : True ∧ True := by
  w_top off
  first | (walk1; fail) | exact ⟨trivial, trivial⟩
section

theorem ite_not {b : Bool} {P R : Prop} (h : b = true) (q : R) : if (!b) = true then P else R := by
  subst h
  exact q
local macro_rules | `(tactic| walk_at "ite") => `(tactic| k_extra "y39")
/-- the round keys of a key -/
noncomputable def keOf (key : List Int) : List (List Int) := (List.range (key.length / 4 + 7)).map fun i => [flatK (key.length / 4) key (4 * i), flatK (key.length / 4) key (4 * i + 1), flatK (key.length / 4) key (4 * i + 2), flatK (key.length / 4) key (4 * i + 3)]
noncomputable def AtH (h : Heap) (rest : List (Addr × Obj)) : Prop := ∀ p ∈ rest, h.get? p.1 = some p.2
/-- a piece of a ledger that bears the rows -/
noncomputable def KeIn (rest : List (Addr × Obj)) (a : Addr) (ke : List (List Int)) : Prop := ∀ h, AtH h rest → RowsAt h a ke
theorem list4 {l : List Int} {a b c d : Int} (h : l.length = 4) (h0 : l.getD 0 0 = a) (h1 : l.getD 1 0 = b) (h2 : l.getD 2 0 = c) (h3 : l.getD 3 0 = d) : l = [a, b, c, d] := by
  match l, h with
  | [_, _, _, _], _ =>
    subst h0 h1 h2 h3
    rfl
theorem rows_of {led : List (Addr × Obj)} {ad : List Addr} {val : Addr → List Int} {a : Addr} {kc r : Nat} {key : List Int} {rest : List (Addr × Obj)} (hk : key.length / 4 = kc) (hr : r = kc + 6) (hal : ad.length = 2 * (r + 1)) (hled : led.map (·.1) = ad) (M : Mat val led) (U : Upto val (ad.take (r + 1)) (flatK kc key) (4 * (r + 1)))
    (ha : (a, LCg.lst ((ad.take (r + 1)).map Value.ref)) ∈ rest) (hl : ∀ p ∈ led, p ∈ rest) : KeIn rest a (keOf key) := by
  intro h hh
  have hlt : (ad.take (r + 1)).length = r + 1 := by rw [List.length_take]; omega
  have hkl : (keOf key).length = r + 1 := by unfold keOf; rw [List.length_map, List.length_range, hk]; omega
  refine ⟨ad.take (r + 1), IsL.isList (n := ((ad.take (r + 1)).map Value.ref).length) (hh _ ha), by rw [hlt, hkl], fun i hi => ?_⟩
  rw [hkl] at hi
  have hm : (ad.take (r + 1)).getD i 0 ∈ ad := List.mem_of_mem_take (getD_mem (by omega))
  have hlen := M.len hled hm
  have hm' := hm
  rw [← hled] at hm'
  obtain ⟨p, hp, e⟩ := List.mem_map.mp hm'
  refine Classical.byContradiction fun hng => ?_
  obtain ⟨vs, n, e2, hi2, hl2⟩ := M.row p hp
  refine hng ?_
  clear hng
  have eg : (keOf key).getD i [] = [flatK kc key (4 * i), flatK kc key (4 * i + 1), flatK kc key (4 * i + 2), flatK kc key (4 * i + 3)] := by
    unfold keOf
    rw [hk]
    simp [List.getD, show i < kc + 7 by omega]
  have ev : val p.1 = [flatK kc key (4 * i), flatK kc key (4 * i + 1), flatK kc key (4 * i + 2), flatK kc key (4 * i + 3)] := by
    rw [hled] at e
    have u : ∀ c, c < 4 → (val p.1).getD c 0 = flatK kc key (4 * i + c) := fun c hc => by
      have := U (4 * i + c) (by omega)
      rw [show (4 * i + c) / 4 = i by omega, show (4 * i + c) % 4 = c by omega, ← e] at this
      exact this
    exact list4 hl2 (u 0 (by decide)) (u 1 (by decide)) (u 2 (by decide)) (u 3 (by decide))
  refine ⟨vs, ?_, by rw [eg, ← ev]; exact hi2, by rw [eg]; rfl⟩
  rw [hled] at e
  rw [← e]
  exact IsL.isList (n := n) (by have z := hh _ (hl p hp); rw [e2] at z; exact z)
section
variable {w : World} {dp un : Nat} {fr : Option (List Env)} {gd : Option (List Code)} {s : Shared} {mg mb : Str → Option Value} {lo : List Str} {h₀ : Heap}
theorem ini_rest {x d L : Addr} {m : Str → Option Value} {ok : Obj} {r kc : Nat} {tr tb : Tok} {bs : Array UInt8} {key : List Int} {Q : Flow → Shared → Prop}
    (X : (K w.params).In h₀) (T : TopRead q lo mg mb h₀) (hdp : dp < 700) (hx : h₀.get? x = some (instObj 116 d))
    (hib : KBw.bInts bs = key) (hr : r = kc + 6) (hk : key.length = 4 * kc) (hkc : 4 ≤ kc ∧ kc ≤ 8) (hok : ok.data = .cell (some (.bytes bs tb)))
    (F : Fr h₀ L s.heap m) (ms : m "self" = some (.ref x)) (mr : m "rounds" = some (.int r tr))
    (N : News h₀ L s.heap [(L + 1, ok), (d, dictOf [] 0)]) (hne : @LT.lt Nat _ d (L + 1))
    (done : ∀ h' tk' a b rest hE hD tE tD, Kp h₀ h' → h'.get? d = some (dictOf [⟨hE, .str "_Ke" tE, .ref a⟩, ⟨hD, .str "_Kd" tD, .ref b⟩] 2) → (∀ p ∈ rest, h'.get? p.1 = some p.2 ∧ h₀.get? p.1 = none ∧ p.1 ≠ d) → KeIn rest a (keOf key) → Q .next { s with heap := h', toks := tk' }) :
    wpAny (model pw w) ((Ar dp un fr gd).deeper (envOfC "AES.__init__" iniScope L 103 (.ref 102))) (execs (iniBody.drop 2) (envOfC "AES.__init__" iniScope L 103 (.ref 102))) Q (fun _ _ => False) s := by
  refine ini_A (r := r) (tr := tr) X T hdp hx (by omega) F (fcons ms (fcons mr fnil)) N hne ?_
  intro h1 tk1 m1 ad led a b hE hD tE tD F1 hm1 N1 hled hal M ho hn
  refine ini_B (kc := kc) X T hdp hib hr hk hkc hok F1 hm1 (news := (b, LCg.lst ((ad.drop (r + 1)).map Value.ref)) :: (a, LCg.lst ((ad.take (r + 1)).map Value.ref)) :: (d, dictOf [⟨hE, .str "_Ke" tE, .ref a⟩, ⟨hD, .str "_Kd" tD, .ref b⟩] 2) :: led) (fun p hp => N1 p ?_) ?_
  · rcases List.mem_cons.mp hp with rfl | hp
    · exact .tail _ (.tail _ (.head _))
    rcases List.mem_cons.mp hp with rfl | hp
    · exact .head _
    rcases List.mem_cons.mp hp with rfl | hp
    · exact .tail _ (.head _)
    · exact .tail _ (.tail _ (.tail _ hp))
  intro h2 tk2 m2 D ys k1 k2 F2 q1 q2 q3 q4 q5 N2 hD2 hi2
  have hout : ∀ y ∈ ad, D ≠ y ∧ L + 1 ≠ y ∧ b ≠ y ∧ a ≠ y ∧ d ≠ y := fun y hy => ⟨fun e => by
    rw [← hled] at hy
    obtain ⟨p, hp, rfl⟩ := List.mem_map.mp hy
    exact hD2 p (.tail _ (.tail _ (.tail _ (.tail _ hp)))) e.symm, fun e => ho.2.2.2 (e ▸ hy), fun e => ho.2.1 (e ▸ hy), fun e => ho.1 (e ▸ hy), fun e => ho.2.2.1 (e ▸ hy)⟩
  have hneD : @Ne Nat D (L + 1) ∧ @Ne Nat D b ∧ @Ne Nat D a ∧ @Ne Nat D d := ⟨fun e => hD2 _ (.head _) e.symm, fun e => hD2 _ (.tail _ (.head _)) e.symm, fun e => hD2 _ (.tail _ (.tail _ (.head _))) e.symm, fun e => hD2 _ (.tail _ (.tail _ (.tail _ (.head _)))) e.symm⟩
  have hnd : ad.Nodup := hled ▸ M.nd
  refine ini_C (nt := ys.length) (flat := flatK kc key) X T hdp hx hr hkc hal hnd hout hi2 (tkIter_len (key := key) 0) (fun u hu => ?_) F2 (fcons q1 (fcons q2 (fcons q3 (fcons q4 (fcons q5 fnil))))) N2 hled M ?_
  · unfold flatK
    rw [Nat.div_eq_of_lt hu, Nat.mod_eq_of_lt hu]
    rfl
  intro h3 tk3 m3 led3 val3 F3 hm3 N3 hl3 M3 U3
  refine ini_W X T hdp hx hr hkc hal hnd hout hneD hi2 F3 hm3 N3 hl3 M3 U3 ?_
  intro h4 tk4 m4 led4 val4 tv4 F4 N4 hl4 M4 U4
  have nr : ∀ p ∈ (b, LCg.lst ((ad.drop (r + 1)).map Value.ref)) :: (a, LCg.lst ((ad.take (r + 1)).map Value.ref)) :: led4, h4.get? p.1 = some p.2 ∧ h₀.get? p.1 = none ∧ p.1 ≠ d := fun p hp => by
    have hp' : p ∈ (D, listOf tv4.toArray ys.length) :: (L + 1, ok) :: (b, LCg.lst ((ad.drop (r + 1)).map Value.ref)) :: (a, LCg.lst ((ad.take (r + 1)).map Value.ref)) :: (d, dictOf [⟨hE, .str "_Ke" tE, .ref a⟩, ⟨hD, .str "_Kd" tD, .ref b⟩] 2) :: led4 := by
      rcases List.mem_cons.mp hp with rfl | hp
      · exact .tail _ (.tail _ (.head _))
      rcases List.mem_cons.mp hp with rfl | hp
      · exact .tail _ (.tail _ (.tail _ (.head _)))
      · exact .tail _ (.tail _ (.tail _ (.tail _ (.tail _ hp))))
    refine ⟨(N4 p hp').1, (N4 p hp').2.2, ?_⟩
    rcases List.mem_cons.mp hp with rfl | hp
    · exact hn.2.2.2.2
    rcases List.mem_cons.mp hp with rfl | hp
    · exact hn.2.2.1
    · exact fun e => (hout p.1 (by rw [← hl4]; exact List.mem_map_of_mem hp)).2.2.2.2 e.symm
  exact done _ _ a b _ hE hD tE tD F4.keep (N4 _ (.tail _ (.tail _ (.tail _ (.tail _ (.head _)))))).1 nr (rows_of (by omega) hr hal hl4 M4 U4 (.tail _ (.head _)) fun p hp => .tail _ (.tail _ hp))
theorem ini_spec {R : Result → Shared → Prop} {x d : Addr} {bs : Array UInt8} {tb : Tok} {key : List Int}
    (KP : Kp h₀ s.heap) (hsz : h₀.objs.size ≤ s.heap.objs.size) (hd : s.heap.get? d = some (dictOf [] 0)) (hd0 : h₀.get? d = none) (hx : h₀.get? x = some (instObj 116 d))
    (X : (K w.params).In h₀) (T : TopRead q lo mg mb h₀) (hdp : dp < 650)
    (hi : KBw.bInts bs = key) (hn : key.length = 16 ∨ key.length = 24 ∨ key.length = 32)
    (hR : ∀ h' tk' a b rest hE hD tE tD, Kp h₀ h' → h'.get? d = some (dictOf [⟨hE, .str "_Ke" tE, .ref a⟩, ⟨hD, .str "_Kd" tD, .ref b⟩] 2) → (∀ p ∈ rest, h'.get? p.1 = some p.2 ∧ h₀.get? p.1 = none ∧ p.1 ≠ d) → KeIn rest a (keOf key) → R (.ok (.ret .none)) { s with heap := h', toks := tk' }) :
    codeAny (model pw w) (Ar dp un fr gd) (.call (.ref 103) ⟨[.ref x, .bytes bs tb], []⟩) R s := by
  refine enterCN (binds := [("self", .ref x), ("key", .bytes bs tb)]) (news := [(d, dictOf [] 0)]) KP hsz (fun p hp => by rw [List.mem_singleton.mp hp]; exact ⟨hd, hd0⟩) X T (by omega) rfl (by kernel_rfl) (BindsTo.of_eq rfl) rfl (by decide +kernel) ?_
  intro L h₁ tk cells F N Y l1
  k_cells Y
  simp only [List.cons_append, List.nil_append] at N
  have hdL : @LT.lt Nat _ d (L + 1) := Nat.lt_succ_of_lt (l1 (d, dictOf [] 0) (.head _))
  have hany : ([16, 24, 32].any fun x => x == (key.length : Int)) = true := by
    rcases hn with h | h | h <;> rw [h] <;> rfl
  iterate 43 (first | (k_unfold; (try dsimp only)) | walk1 | (dsimp only; walk1))
  · (rename Fr _ _ _ _ => F4); (rename News _ _ _ _ => N4)
    refine ini_rest (r := 10) (kc := 4) (tb := tb) X T (by omega) hx hi rfl (by omega) (by omega) ?hok1 F4 rfl rfl (fun p hp => N4 p (.tail _ hp)) hdL ?_
    case hok1 => assumption
    intro h' tk' a b rest hE hD tE tD q1 q2 q3 q4
    exact hR _ _ a b rest hE hD tE tD q1 q2 q3 q4
  iterate 4 (first | (k_unfold; (try dsimp only)) | walk1 | (dsimp only; walk1))
  · (rename Fr _ _ _ _ => F4); (rename News _ _ _ _ => N4)
    refine ini_rest (r := 12) (kc := 6) (tb := tb) X T (by omega) hx hi rfl (by omega) (by omega) ?hok2 F4 rfl rfl (fun p hp => N4 p (.tail _ hp)) hdL ?_
    case hok2 => assumption
    intro h' tk' a b rest hE hD tE tD q1 q2 q3 q4
    exact hR _ _ a b rest hE hD tE tD q1 q2 q3 q4
  iterate 4 (first | (k_unfold; (try dsimp only)) | walk1 | (dsimp only; walk1))
  · (rename Fr _ _ _ _ => F4); (rename News _ _ _ _ => N4)
    refine ini_rest (r := 14) (kc := 8) (tb := tb) X T (by omega) hx hi rfl (by omega) (by omega) ?hok3 F4 rfl rfl (fun p hp => N4 p (.tail _ hp)) hdL ?_
    case hok3 => assumption
    intro h' tk' a b rest hE hD tE tD q1 q2 q3 q4
    exact hR _ _ a b rest hE hD tE tD q1 q2 q3 q4
end
end
theorem rs28 : True ∧ True := by
  w_top off
  first | (walk1; fail) | exact ⟨trivial, trivial⟩
section

theorem div256 {w : World} {A : Around} {E : Value → Shared → Prop} {s : Shared} {a n : Int} {t u : Tok} {Q : Value → Shared → Prop} (hn : n ≤ 100) (h : ∀ t' k', Q (.int (a.fdiv (256 ^ n.toNat)) t') { s with toks := k' }) :
    wpAny (model pw w) A (binaryOp .FloorDiv (.int a t) (.int (256 ^ n.toNat) u)) Q E s := by
  have e : ((256 : Int) ^ n.toNat) = ((256 ^ n.toNat : Nat) : Int) := by push_cast; rfl
  have hp : (256 : Nat) ^ n.toNat ≠ 0 := Nat.ne_of_gt (Nat.pow_pos (by decide))
  refine floordiv_int (by rw [e]; exact Int.ofNat_ne_zero.mpr hp) (h _ _) (.inl (PyProof.noPylong_of_log2 ?_))
  rw [e, Int.natAbs_natCast]
  refine (Nat.log2_lt hp).mpr ?_
  rw [show (256 : Nat) = 2 ^ 8 from rfl, ← Nat.pow_mul]
  exact Nat.pow_lt_pow_right (by decide) (by omega)
local macro_rules | `(tactic| walk_at "binaryOp FloorDiv int int") => `(tactic| k_extra "y40")
theorem sum_eq (as bs : List Int) : List.map (fun k' : Int => Builtin.bitXor (as.getD k'.toNat 0) (bs.getD k'.toNat 0)) (rangeKs 0 ((if (bs.length : Int) < as.length then (bs.length : Int) else as.length) - 0).toNat) = List.zipWith Builtin.bitXor as bs := by
  have hl : ((if (bs.length : Int) < as.length then (bs.length : Int) else as.length) - 0).toNat = min as.length bs.length := by split <;> omega
  rw [hl]
  refine List.ext_getElem (by simp [rangeKs_length]) fun i h1 h2 => ?_
  have hi : i < min as.length bs.length := by simpa [rangeKs_length] using h1
  have e : (rangeKs 0 (min as.length bs.length))[i]'(by rw [rangeKs_length]; exact hi) = (i : Int) := by simp [rangeKs]
  rw [List.getElem_map, List.getElem_zipWith, e, Int.toNat_natCast, getD_get (by omega), getD_get (by omega)]
/-- sixteen octets of a number, the high one ahead -/
noncomputable def cnt (n : Int) : List Int := (List.range 16).map fun k => (n % 2 ^ 128) / 256 ^ (15 - k) % 256
theorem count_eq (n : Int) : List.map (fun k' : Int => ((n.fmod (2 ^ Int.toNat 128)).fdiv (256 ^ (15 - k').toNat)).fmod 256) (rangeKs 0 (16 - 0 : Int).toNat) = cnt n := by
  have e : ∀ k : Nat, k < 16 → ((n.fmod (2 ^ Int.toNat 128)).fdiv (256 ^ (15 - (k : Int)).toNat)).fmod 256 = (n % 2 ^ 128) / 256 ^ (15 - k) % 256 := fun k hk => by
    have q : (15 - (k : Int)).toNat = 15 - k := by omega
    have p : (0 : Int) ≤ 256 ^ (15 - k) := Int.le_of_lt (Int.pow_pos (by decide))
    rw [q, Int.fmod_eq_emod_of_nonneg _ (by decide), Int.fmod_eq_emod_of_nonneg _ (by decide), Int.fdiv_eq_ediv_of_nonneg _ p]
    rfl
  show List.map _ (rangeKs 0 16) = _
  unfold cnt rangeKs
  rw [List.map_map]
  refine List.map_congr_left fun k hk => ?_
  have := e k (List.mem_range.mp hk)
  simpa using this
section
variable {w : World} {dp un : Nat} {fr : Option (List Env)} {gd : Option (List Code)} {s : Shared} {mg mb : Str → Option Value} {lo : List Str} {h₀ : Heap}
theorem sb_spec {R : Result → Shared → Prop} {bs : Array UInt8} {tb : Tok} (X : (K w.params).In s.heap) (T : TopRead q lo mg mb s.heap) (hd : dp < 900)
    (hR : ∀ h' tk, Kp s.heap h' → R (.ok (.ret (.bytes bs tb))) { s with heap := h', toks := tk }) :
    codeAny (model pw w) (Ar dp un fr gd) (.call (.ref 33) ⟨[.bytes bs tb], []⟩) R s := by
  refine enter (binds := [("text", .bytes bs tb)]) X T hd rfl (by kernel_rfl) (BindsTo.of_eq rfl) (by decide) rfl ?_
  intro L h₁ tk F N
  repeat (first | (k_unfold; (try dsimp only)) | walk1 | (dsimp only; walk1))
  exact hR _ _ F.keep
theorem bs_spec {R : Result → Shared → Prop} {l : Addr} {vs : List Value} {ns : List Int} (X : (K w.params).In s.heap) (T : TopRead q lo mg mb s.heap) (hd : dp < 900)
    (hl : s.heap.IsList l vs.toArray) (hi : IntsAre vs ns) (hb : Bytes ns) (hz : ns.length ≤ 1000)
    (hR : ∀ h' tk bs t, Kp s.heap h' → KBw.bInts bs = ns → R (.ok (.ret (.bytes bs t))) { s with heap := h', toks := tk }) :
    codeAny (model pw w) (Ar dp un fr gd) (.call (.ref 40) ⟨[.ref l], []⟩) R s := by
  refine enter (binds := [("binary", .ref l)]) X T hd rfl (by kernel_rfl) (BindsTo.of_eq rfl) (by decide) rfl ?_
  intro L h₁ tk F N
  have hin : KBa.In ns := hb.mem
  repeat (first | (k_unfold; (try dsimp only)) | walk1 | (dsimp only; walk1))
  (rename Fr _ _ _ _ => F3)
  exact hR _ _ _ _ F3.keep (KBa.ints_make hin)
theorem sum_spec {R : Result → Shared → Prop} {a b : Addr} {va vb : List Value} {as bs : List Int} (X : (K w.params).In s.heap) (T : TopRead q lo mg mb s.heap) (hd : dp < 900)
    (ha : s.heap.IsList a va.toArray) (hia : IntsAre va as) (hb : s.heap.IsList b vb.toArray) (hib : IntsAre vb bs) (hza : as.length ≤ 1000) (hzb : bs.length ≤ 1000)
    (hR : ∀ h' tk D vs n, Kp s.heap h' → s.heap.get? D = none → h'.get? D = some (listOf vs.toArray n) → IntsAre vs (List.zipWith Builtin.bitXor as bs) → R (.ok (.ret (.ref D))) { s with heap := h', toks := tk }) :
    codeAny (model pw w) (Ar dp un fr gd) (.call (.ref 462) ⟨[.ref a, .ref b], []⟩) R s := by
  refine enterC (binds := [("one", .ref a), ("two", .ref b)]) X T (by omega) rfl (by kernel_rfl) (BindsTo.of_eq rfl) rfl (by decide +kernel) ?_
  intro L h₁ tk cells F N Y
  k_cells Y
  repeat (first | (k_unfold; (try dsimp only)) | walk1 | (dsimp only; walk1))
  (rename Fr _ _ _ _ => F3); (rename News _ _ _ _ => N3); (rename IntsAre _ _ => hI)
  obtain ⟨g1, g2, g3⟩ := N3 _ (.head _)
  rw [sum_eq] at hI
  exact hR _ _ _ _ _ F3.keep g3 g1 hI
theorem count_spec {R : Result → Shared → Prop} {n : Int} {t0 : Tok} (X : (K w.params).In s.heap) (T : TopRead q lo mg mb s.heap) (hd : dp < 900)
    (hR : ∀ h' tk D (vs : List Value) k, Kp s.heap h' → s.heap.get? D = none → h'.get? D = some (listOf vs.toArray k) → IntsAre vs (cnt n) → R (.ok (.ret (.ref D))) { s with heap := h', toks := tk }) :
    codeAny (model pw w) (Ar dp un fr gd) (.call (.ref 467) ⟨[.int n t0], []⟩) R s := by
  refine enterC (binds := [("number", .int n t0)]) X T (by omega) rfl (by kernel_rfl) (BindsTo.of_eq rfl) rfl (by decide +kernel) ?_
  intro L h₁ tk cells F N Y
  k_cells Y
  repeat (first | (k_unfold; (try dsimp only)) | walk1 | (dsimp only; walk1))
  (rename Fr _ _ _ _ => F3); (rename News _ _ _ _ => N3); (rename IntsAre _ _ => hI)
  obtain ⟨g1, g2, g3⟩ := N3 _ (.head _)
  rw [count_eq] at hI
  exact hR _ _ _ _ _ F3.keep g3 g1 hI
end
end
theorem rs29 : True ∧ True := by
  w_top off
  first | (walk1; fail) | exact ⟨trivial, trivial⟩
section

local macro_rules | `(tactic| walk_at "eval ListComp") => `(tactic| k_extra "y41")
local macro_rules | `(tactic| walk_at "binaryOp RShift int int") => `(tactic| k_extra "y42")
noncomputable def cpart (n : Int) (i : Nat) : List Int := (List.range i).map fun k => (n.fdiv (2 ^ (120 - 8 * k))).fmod 256
theorem mod_part (n b : Int) (a : Nat) : (n % (256 ^ a * (256 * b))) / 256 ^ a % 256 = n / 256 ^ a % 256 := by
  have hc : (0 : Int) < 256 ^ a := Int.pow_pos (by decide)
  have e : n % (256 ^ a * (256 * b)) = n + 256 ^ a * (256 * (-b * (n / (256 ^ a * (256 * b))))) := by
    rw [Int.emod_def]
    generalize n / _ = q
    rw [Int.sub_eq_add_neg, Int.neg_mul, Int.mul_neg, Int.mul_neg, Int.mul_assoc, Int.mul_assoc]
  rw [e, Int.add_mul_ediv_left _ _ (Int.ne_of_gt hc), Int.add_mul_emod_self_left]
theorem two128 {k : Nat} (h : k < 16) : (2 : Int) ^ 128 = 256 ^ (15 - k) * (256 * 256 ^ k) := by
  rw [Int.mul_comm 256, ← Int.pow_succ, ← Int.pow_add, show 15 - k + (k + 1) = 16 by omega]
  rfl
theorem cnt_part (n : Int) {k : Nat} (h : k < 16) : (n % 2 ^ 128) / 256 ^ (15 - k) % 256 = n / 256 ^ (15 - k) % 256 := by
  rw [two128 h, mod_part]
theorem two_part {k : Nat} : (2 : Int) ^ (8 * k) = 256 ^ k := by
  rw [Int.pow_mul]; rfl
theorem cpart_eq (n : Int) : cpart n 16 = cnt n := by
  unfold cpart cnt
  refine List.map_congr_left fun k hk => ?_
  have hk := List.mem_range.mp hk
  have p : (0 : Int) ≤ 256 ^ (15 - k) := Int.le_of_lt (Int.pow_pos (by decide))
  rw [cnt_part n hk, show 120 - 8 * k = 8 * (15 - k) from (Nat.mul_sub 8 15 k).symm, two_part, Int.fmod_eq_emod_of_nonneg _ (by decide), Int.fdiv_eq_ediv_of_nonneg _ p]
section
variable {w : World} {dp un : Nat} {fr : Option (List Env)} {gd : Option (List Code)} {s : Shared} {mg mb : Str → Option Value} {lo : List Str} {h₀ : Heap}
theorem cinit_spec {R : Result → Shared → Prop} {c d : Addr} {n : Int} {t0 : Tok}
    (KP : Kp h₀ s.heap) (hsz : h₀.objs.size ≤ s.heap.objs.size) (hd : s.heap.get? d = some (dictOf [] 0)) (hd0 : h₀.get? d = none) (hx : h₀.get? c = some (instObj 151 d))
    (X : (K w.params).In h₀) (T : TopRead q lo mg mb h₀) (hdp : dp < 650)
    (hR : ∀ h' tk' l vs k hE tE, Kp h₀ h' → h'.get? d = some (dictOf [⟨hE, .str "_counter" tE, .ref l⟩] 1) → h'.get? l = some (listOf vs.toArray k) → h₀.get? l = none → l ≠ d → IntsAre vs (cnt n) → R (.ok (.ret .none)) { s with heap := h', toks := tk' }) :
    codeAny (model pw w) (Ar dp un fr gd) (.call (.ref 133) ⟨[.ref c, .int n t0], []⟩) R s := by
  refine enterCN (binds := [("self", .ref c), ("initial_value", .int n t0)]) (news := [(d, dictOf [] 0)]) KP hsz (fun p hp => by rw [List.mem_singleton.mp hp]; exact ⟨hd, hd0⟩) X T (by omega) rfl (by kernel_rfl) (binds_K (X.keeps KP) rfl (by k_is) rfl rfl rfl) rfl (by decide +kernel) ?_
  intro L h₁ tk cells F N Y l1
  k_cells Y
  simp only [List.cons_append, List.nil_append] at N
  rename Obj => ok
  have hdL : @LT.lt Nat _ d (L + 1) := Nat.lt_succ_of_lt (l1 (d, dictOf [] 0) (.head _))
  repeat (first | (k_unfold; (try dsimp only)) | walk1 | (dsimp only; walk1))
  (rename Fr _ _ _ _ => F2); (rename News _ _ _ _ => N2); (rename IsRange _ _ _ _ _ _ _ _ => hr2)
  refine SrcS.intro (n := 16) rfl F2 N2 hr2 (small_of (by omega) (by omega) (by omega) (by omega) (by omega) (by omega)) rfl (by rw [sizeLine_eq]; omega) ?_
  intro g
  refine comp_J (J := fun i ys nw => nw = [(L + 1, ok), (d, dictOf [] 0)] ∧ IntsAre ys (cpart n i)) ?h0 ?turn ?fin
  case h0 => exact ⟨rfl, .nil⟩
  case turn =>
    rintro i v ys nw I oI C oC D m₂ h tk E' hi ⟨t, rfl⟩ ⟨rfl, hJ⟩ hC hx1 F5 N5 off ne
    repeat (first | (k_unfold; (try dsimp only)) | walk1 | (dsimp only; walk1))
    refine LCg.CompEnd.intro F5 N5 [(L + 1, ok), (d, dictOf [] 0)] (fun p hp => hp) off True.intro ⟨rfl, ?_⟩
    have e : (128 - 8 + (i : Int) * -8).toNat = 120 - 8 * i := by omega
    rw [e]
    unfold cpart
    rw [List.range_succ, List.map_append]
    exact ints_app hJ (.cons _ _ .nil)
  case fin =>
    rintro ys nw ⟨rfl, hJ⟩
    intro l h tk Fl Nl ol
    simp only [LCg.Off1] at ol
    repeat (first | (k_unfold; (try dsimp only)) | walk1 | (dsimp only; walk1))
    (rename Fr _ _ _ _ => F3); (rename News _ _ _ _ => N3)
    exact hR _ _ l ys _ _ _ F3.keep (N3 _ (.tail _ (.tail _ (.head _)))).1 (N3 _ (.head _)).1 (N3 _ (.head _)).2.2 (fun e => ol.2.1 e.symm) (ints_eq hJ (cpart_eq n))
end
end
theorem rs30 : True ∧ True := by
  w_top off
  first | (walk1; fail) | exact ⟨trivial, trivial⟩
section

section
variable {w : World} {A : Around} {s : Shared} {env : Env} {h₀ : Heap} {x : Str} {px : Pos} {body orelse : List Stmt} {Q : Flow → Shared → Prop}
/-- a for over a range of any step, with an else part -/
theorem rangeElse {r : Addr} {a₀ b₀ c₀ : Int} {t₀ u₀ v₀ : Tok} {n : Nat} {m₀ : Str → Option Value} {news : List (Addr × Obj)} (J : Nat → (Str → Option Value) → List (Addr × Obj) → Prop)
    (hh : A.handled = none) (hr : IsRange s.heap r a₀ b₀ c₀ t₀ u₀ v₀) (hsmall : Builtin.Range.small a₀ b₀ c₀ = true) (hn : Builtin.Range.rangeSize a₀ b₀ c₀ = (n : Int)) (hx : env.kindOf x = some .local)
    (hp : (env.scope.kind == .class || (env.scope.kind == .module && env.locals != env.globals)) = false)
    (F : Fr h₀ env.locals s.heap m₀) (N : News h₀ env.locals s.heap news) (h0 : J 0 m₀ news)
    (turn : ∀ i t m₁ nx h tk I io, i < n → J i m₁ nx → (∀ p ∈ nx, p.1 ≠ I) → Fr h₀ env.locals h (fun y => if y = x then some (.int (a₀ + (i : Int) * c₀) t) else m₁ y) → News h₀ env.locals h (nx ++ [(I, io)]) →
      wpAny (model pw w) A (execs body env) (TurnEnd h₀ env.locals (J (i + 1)) I io s Q) (fun _ _ => False) { s with heap := h, toks := tk })
    (fin : ∀ m' nx h' tk, J n m' nx → Fr h₀ env.locals h' m' → News h₀ env.locals h' nx → wpAny (model pw w) A (execs orelse env) Q (fun _ _ => False) { s with heap := h', toks := tk }) :
    wpAny (model pw w) A (pyIter (.ref r)) (fun it s₂ => codeAny (model pw w) A (.forLoop (.Name x px) it body orelse env) (fun r s' => match r with | .ok f => Q f s' | .error e => cameBackBy (model pw w) A env (fun _ _ => False) e s') s₂) (fun _ _ => False) s := by
  refine wpAny_pyIter_range hr hsmall ?_
  have W := stepWalks (w := w) (I := s.heap.objs.size) hh a₀ c₀ n
  have hI0 : h₀.get? s.heap.objs.size = none := by
    cases e : h₀.get? s.heap.objs.size with
    | none => rfl
    | some o => exact absurd (Heap.lt_size (F.keep _ _ e)) (Nat.lt_irrefl _)
  have hLI : env.locals ≠ s.heap.objs.size := Nat.ne_of_lt F.ns.lt
  have up : ∀ b o, s.heap.get? b = some o → (s.heap.push { cls := .type "range_iterator", data := .fields #[rawInt a₀, rawInt (Builtin.Range.rangeSize a₀ b₀ c₀), rawInt c₀] }).get? b = some o := fun _ _ e => Heap.get?_push_of_some _ e
  refine codeAny_forLoop (fun k s' => ∃ h' tk m' nx i, s' = { s with heap := h', toks := tk } ∧ IsRangeIter h' s.heap.objs.size (a₀ + (i : Nat) * c₀) ((n : Int) - (i : Nat)) c₀ ∧ Fr h₀ env.locals h' m' ∧ News h₀ env.locals h' nx ∧ (∀ p ∈ nx, p.1 ≠ s.heap.objs.size) ∧ J i m' nx ∧ i ≤ n ∧ k = n + 1 - i) ?_ (n + 1)
    ⟨_, s.toks, m₀, news, 0, rfl, ?_, F.keeps up, N.grown up, fun p hp => Nat.ne_of_lt (Heap.lt_size (N p hp).1), h0, Nat.zero_le _, rfl⟩
  · intro k s' hJz
    refine Classical.byContradiction fun hng => ?_
    obtain ⟨h', tk, m', nx, i, rfl, hst, F', N', hne, hJ, hi, rfl⟩ := hJz
    refine hng ?_
    clear hng
    have next : ∀ h₁ : Heap, (∀ b o, b ∉ [s.heap.objs.size] → h'.get? b = some o → h₁.get? b = some o) → Fr h₀ env.locals h₁ m' ∧ News h₀ env.locals h₁ nx := fun h₁ hk => ⟨LCg.fr_but F' hk hLI hI0, LCg.news_but N' hk hne⟩
    by_cases hlt : i < n
    · refine W.item i _ _ _ hlt hst fun v h₁ tk₁ hP hst₁ hk₁ => ?_
      obtain ⟨t, rfl⟩ := hP
      obtain ⟨F₁, N₁⟩ := next h₁ hk₁
      refine wpAny_assign_Name (wpAny_storeName_local hx F₁.ns (fun h₂ hn₂ hs₂ => ?_) hp)
      have hst₂ : h₂.get? s.heap.objs.size = some _ := hs₂.extBut _ _ (Ne.symm hLI) hst₁
      refine wpAny_mono (turn i t m' nx h₂ _ s.heap.objs.size { cls := .type "range_iterator", dict := none, data := .fields #[rawInt (a₀ + ((i + 1 : Nat) : Int) * c₀), rawInt ((n : Int) - ((i + 1 : Nat) : Int)), rawInt c₀], slots := #[] } hlt hJ hne (F₁.set hn₂ hs₂) (fun p hp => ?_)) (fun f s₃ h₃ => ?_) fun _ _ e => e.elim
      · rcases List.mem_append.mp hp with hp | hp
        · exact (N₁.set hs₂) p hp
        · rw [List.mem_singleton.mp hp]; exact ⟨hst₂, Ne.symm hLI, hI0⟩
      · cases f with
        | ret v => exact h₃
        | brk => exact h₃
        | cont =>
          refine Classical.byContradiction fun hng => ?_
          obtain ⟨h₄, tk₄, m₄, nx₄, rfl, F₄, N₄, hI₄, hJ₄⟩ := h₃
          refine hng ?_
          clear hng
          exact ⟨n + 1 - (i + 1), by omega, h₄, tk₄, m₄, nx₄, i + 1, rfl, (N₄ _ (List.mem_append.mpr (.inr (.head _)))).1, F₄, fun p hp => N₄ p (List.mem_append.mpr (.inl hp)), hI₄, hJ₄, hlt, rfl⟩
        | next =>
          refine Classical.byContradiction fun hng => ?_
          obtain ⟨h₄, tk₄, m₄, nx₄, rfl, F₄, N₄, hI₄, hJ₄⟩ := h₃
          refine hng ?_
          clear hng
          exact ⟨n + 1 - (i + 1), by omega, h₄, tk₄, m₄, nx₄, i + 1, rfl, (N₄ _ (List.mem_append.mpr (.inr (.head _)))).1, F₄, fun p hp => N₄ p (List.mem_append.mpr (.inl hp)), hI₄, hJ₄, hlt, rfl⟩
    · obtain rfl : i = n := Nat.le_antisymm hi (Nat.not_lt.mp hlt)
      refine W.done _ _ _ hst fun h₁ tk₁ hk₁ => ?_
      obtain ⟨F₁, N₁⟩ := next h₁ hk₁
      exact wpAny_mono (fin m' nx h₁ tk₁ hJ F₁ N₁) (fun f s' q => q) fun _ _ e => e.elim
  · show IsRangeIter _ _ _ _ _
    rw [hn]
    simpa using Heap.get?_push_size _ rfl
end
section
variable {w : World} {dp un : Nat} {fr : Option (List Env)} {gd : Option (List Code)} {s : Shared} {mg mb : Str → Option Value} {lo : List Str} {h₀ : Heap}
theorem enterE {R : Result → Shared → Prop} {f : Addr} {oc dV kV doc pm cdv ct : Value} {od an : Option Addr} {osl : Array (Option Value)} {name qual : Str} {params : Arguments} {body : PySem.Expr} {kd : ScopeKind} {names : List (Str × NameKind)} {g c : Bool} {more : List (Str × Const)}
    {args : Args} {binds : List (Str × Value)}
    (X : (K w.params).In s.heap) (T : TopRead q lo mg mb s.heap) (hd : dp < 900)
    (ho : (K w.params).lookup f = some ⟨oc, od, .func ⟨name, qual, params, .expr body, ⟨kd, names, g, c, more⟩, mainGlobals, [], dV, kV, doc, pm, an, cdv, ct, builtinsNs⟩, osl⟩)
    (hcd : codeIn (K w.params) cdv qual = true)
    (hbind : bindArgs ⟨name, qual, params, .expr body, ⟨kd, names, g, c, more⟩, mainGlobals, [], dV, kV, doc, pm, an, cdv, ct, builtinsNs⟩ args = pure binds)
    (hcell : ∀ x ∈ names, x.2 ≠ .cell) (hloc : (binds.all fun x => decide (names.lookup x.1 = some .local)) = true)
    (h : ∀ L h₁ tk, Fr s.heap L h₁ (fun y => binds.reverse.lookup y) → News s.heap L h₁ [] →
      wpAny (model pw w) ((Ar dp un fr gd).deeper (envOf qual ⟨kd, names, g, c, more⟩ L f cdv)) (eval body (envOf qual ⟨kd, names, g, c, more⟩ L f cdv))
        (fun v s' => R (.ok (.ret v)) s') (fun _ _ => False) { s with heap := h₁, toks := tk })
    (hco : c = false := by rfl) (hgen : g = false := by rfl) (hk : kd = .function := by rfl) : codeAny (model pw w) (Ar dp un fr gd) (.call (.ref f) args) R s := by
  subst hco hgen hk
  refine kla_callFunE (by show dp < 1000; omega) (X _ _ ho) rfl rfl rfl rfl (codeRec_of X hcd) ?_
  rw [hbind]
  refine wpAny_pure (wpAny_newFunctionEnv hcell (fun x hx => of_decide_eq_true (List.all_eq_true.mp hloc x hx)) (fun h₁ hns hsb => ⟨T.nolimit.fresh _ hsb, ?_⟩) rfl)
  have hk₁ : ∀ b o, s.heap.get? b = some o → h₁.get? b = some o := fun b o e => hsb.extBut b o (Nat.ne_of_lt (Heap.lt_size e)) (Heap.get?_push_of_some _ e)
  exact kla_codeExpr (wpAny_mono (h s.heap.objs.size h₁ _ ⟨hns, hk₁, Nat.le_refl _⟩ News.nil) (fun v s' hl => hl) fun _ _ x => x.elim)
theorem lam_spec {R : Result → Shared → Prop} {c d l : Addr} {hE : Int} {tE : Tok} (X : (K w.params).In s.heap) (T : TopRead q lo mg mb s.heap) (hd : dp < 900)
    (hx : s.heap.get? c = some (instObj 151 d)) (hxd : s.heap.get? d = some (dictOf [⟨hE, .str "_counter" tE, .ref l⟩] 1))
    (hR : ∀ h' tk, Kp s.heap h' → R (.ok (.ret (.ref l))) { s with heap := h', toks := tk }) :
    codeAny (model pw w) (Ar dp un fr gd) (.call (.ref 140) ⟨[.ref c], []⟩) R s := by
  refine enterE (binds := [("s", .ref c)]) X T hd rfl (by kernel_rfl) rfl (by decide) rfl ?_
  intro L h₁ tk F N
  repeat (first | (k_unfold; (try dsimp only)) | walk1 | (dsimp only; walk1))
  exact hR _ _ F.keep
end
end
theorem rs31 : True ∧ True := by
  w_top off
  first | (walk1; fail) | exact ⟨trivial, trivial⟩
section
/-- the octet at place m of a number, the low one at 0 -/
noncomputable def dg (m : Nat) (n : Int) : Int := n / 256 ^ m % 256
noncomputable def cst (n : Int) (i : Nat) : List Int := (List.range 16).map fun k => if k + i < 16 then dg (15 - k) n else 0
theorem cst_len (n : Int) (i : Nat) : (cst n i).length = 16 := by unfold cst; rw [List.length_map, List.length_range]
theorem cnt_len (n : Int) : (cnt n).length = 16 := by unfold cnt; rw [List.length_map, List.length_range]
theorem cnt_dg (n : Int) : cnt n = (List.range 16).map fun k => dg (15 - k) n := by
  unfold cnt dg
  exact List.map_congr_left fun k hk => cnt_part n (List.mem_range.mp hk)
theorem cst_zero (n : Int) : cst n 0 = cnt n := by
  rw [cnt_dg]
  unfold cst
  refine List.map_congr_left fun k hk => ?_
  have hk := List.mem_range.mp hk
  rw [if_pos (by omega)]
theorem carry (n : Int) : ∀ i, (∀ m, m < i → dg m n = 255) → (n + 1) / 256 ^ i = n / 256 ^ i + 1 ∧ ∀ m, m < i → dg m (n + 1) = 0
  | 0, _ => ⟨by simp, fun m h => absurd h (Nat.not_lt_zero m)⟩
  | i + 1, h => by
    obtain ⟨e, z⟩ := carry n i fun m hm => h m (Nat.lt_succ_of_lt hm)
    have hi := h i (Nat.lt_succ_self i)
    unfold dg at hi
    have p : ∀ a : Int, a / 256 ^ (i + 1) = a / 256 ^ i / 256 := fun a => by
      rw [Int.pow_succ, Int.ediv_ediv_of_nonneg (Int.le_of_lt (Int.pow_pos (by decide)))]
    refine ⟨by rw [p, p, e]; omega, fun m hm => ?_⟩
    rcases Nat.lt_or_ge m i with q | q
    · exact z m q
    · have : m = i := by omega
      subst this
      unfold dg
      rw [e]
      omega
theorem above (n : Int) (i : Nat) (h : ∀ m, m < i → dg m n = 255) (hb : dg i n + 1 < 256) : dg i (n + 1) = dg i n + 1 ∧ ∀ m, i < m → dg m (n + 1) = dg m n := by
  obtain ⟨e, _⟩ := carry n i h
  unfold dg at hb ⊢
  refine ⟨by rw [e]; omega, fun m hm => ?_⟩
  obtain ⟨j, rfl⟩ : ∃ j, m = i + 1 + j := ⟨m - i - 1, by omega⟩
  have p : ∀ a : Int, a / 256 ^ (i + 1 + j) = a / 256 ^ i / 256 / 256 ^ j := fun a => by
    rw [Int.pow_add, Int.pow_succ, Int.ediv_ediv_of_nonneg (Int.le_of_lt (Int.pow_pos (by decide))), Int.ediv_ediv_of_nonneg (Int.mul_nonneg (Int.le_of_lt (Int.pow_pos (by decide))) (by decide))]
  rw [p, p, e]
  have : (n / 256 ^ i + 1) / 256 = n / 256 ^ i / 256 := by omega
  rw [this]
theorem set_range {m j : Nat} {f : Nat → Int} {v : Int} : ((List.range m).map f).set j v = (List.range m).map fun k => if k = j then v else f k := by
  refine List.ext_getElem (by simp) fun k h1 h2 => ?_
  rw [List.getElem_set]
  by_cases e : j = k
  · subst e; simp
  · rw [if_neg e]; simp [Ne.symm e]
theorem cst_get (n : Int) {i : Nat} (hi : i < 16) : (cst n i).getD (15 - i) 0 = dg i n := by
  rw [getD_get (by rw [cst_len]; omega)]
  unfold cst
  rw [List.getElem_map, List.getElem_range, if_pos (by omega), show 15 - (15 - i) = i by omega]
theorem cst_break (n : Int) {i : Nat} (hi : i < 16) (h : ∀ m, m < i → dg m n = 255) (hb : dg i n + 1 < 256) : (cst n i).set (15 - i) (dg i n + 1) = cnt (n + 1) := by
  obtain ⟨a, b⟩ := above n i h hb
  obtain ⟨_, z⟩ := carry n i h
  rw [cnt_dg]
  unfold cst
  rw [set_range]
  refine List.map_congr_left fun k hk => ?_
  have hk := List.mem_range.mp hk
  by_cases e : k = 15 - i
  · rw [if_pos e, ← a, e, show 15 - (15 - i) = i by omega]
  · rw [if_neg e]
    by_cases q : k + i < 16
    · rw [if_pos q, b _ (by omega)]
    · rw [if_neg q, z _ (by omega)]
theorem cst_step (n : Int) {i : Nat} (hi : i < 16) : (cst n i).set (15 - i) 0 = cst n (i + 1) := by
  unfold cst
  rw [set_range]
  refine List.map_congr_left fun k hk => ?_
  have hk := List.mem_range.mp hk
  by_cases e : k = 15 - i
  · rw [if_pos e, if_neg (by omega)]
  · rw [if_neg e]
    by_cases q : k + i < 16
    · rw [if_pos q, if_pos (by omega)]
    · rw [if_neg q, if_neg (by omega)]
theorem cst_full (n : Int) (h : ∀ m, m < 16 → dg m n = 255) : List.replicate 16 0 = cnt (n + 1) := by
  obtain ⟨_, z⟩ := carry n 16 h
  rw [cnt_dg]
  refine List.ext_getElem (by simp) fun k h1 h2 => ?_
  have hk : k < 16 := by simpa using h1
  simp only [List.getElem_replicate, List.getElem_map, List.getElem_range]
  exact (z _ (by omega)).symm
theorem dg_in (m : Nat) (n : Int) : 0 ≤ dg m n ∧ dg m n < 256 := by
  unfold dg
  omega
theorem cnt_bytes (n : Int) : Bytes (cnt n) := Bytes.of_mem fun x hx => by
  rw [cnt_dg] at hx
  obtain ⟨k, _, rfl⟩ := List.mem_map.mp hx
  exact dg_in _ _
end
theorem rs32 : True ∧ True := by
  w_top off
  first | (walk1; fail) | exact ⟨trivial, trivial⟩
section
local macro_rules | `(tactic| walk_at "subscriptTail") => `(tactic| k_extra "y28")
local macro_rules | `(tactic| walk_at "getItem ref int") => `(tactic| k_extra "y34")
local macro_rules | `(tactic| walk_at "setItem ref int") => `(tactic| k_extra "y36")
section
variable {w : World} {dp un : Nat} {fr : Option (List Env)} {gd : Option (List Code)} {s : Shared} {mg mb : Str → Option Value} {lo : List Str} {h₀ : Heap}
theorem inc_spec {R : Result → Shared → Prop} {c d l : Addr} {hE : Int} {tE : Tok} {vs : List Value} {kz : Nat} {n : Int}
    (KP : Kp h₀ s.heap) (hsz : h₀.objs.size ≤ s.heap.objs.size) (hd : s.heap.get? d = some (dictOf [⟨hE, .str "_counter" tE, .ref l⟩] 1)) (hd0 : h₀.get? d = none) (hl : s.heap.get? l = some (listOf vs.toArray kz)) (hl0 : h₀.get? l = none) (hld : @Ne Nat l d) (hx : h₀.get? c = some (instObj 151 d))
    (hi : IntsAre vs (cnt n)) (X : (K w.params).In h₀) (T : TopRead q lo mg mb h₀) (hdp : dp < 650)
    (hR : ∀ h' tk' l' vs' k hE' tE', Kp h₀ h' → h'.get? d = some (dictOf [⟨hE', .str "_counter" tE', .ref l'⟩] 1) → h'.get? l' = some (listOf vs'.toArray k) → h₀.get? l' = none → l' ≠ d → IntsAre vs' (cnt (n + 1)) → R (.ok (.ret .none)) { s with heap := h', toks := tk' }) :
    codeAny (model pw w) (Ar dp un fr gd) (.call (.ref 148) ⟨[.ref c], []⟩) R s := by
  refine enterN (binds := [("self", .ref c)]) (news := [(l, listOf vs.toArray kz), (d, dictOf [⟨hE, .str "_counter" tE, .ref l⟩] 1)]) KP hsz (fun p hp => by
    rcases List.mem_cons.mp hp with rfl | hp
    · exact ⟨hl, hl0⟩
    · rw [List.mem_singleton.mp hp]; exact ⟨hd, hd0⟩) X T (by omega) rfl (by kernel_rfl) (BindsTo.of_eq rfl) (by decide) rfl ?_
  intro L h₁ tk F N l1
  have hcl := cnt_len n
  iterate 1 (first | (k_unfold; (try dsimp only)) | walk1 | (dsimp only; walk1))
  refine wpAny_For ?_
  repeat ((fail_if_success (with_reducible show wpAny _ _ (pyIter _) _ _ _)); (first | (k_unfold; (try dsimp only)) | walk1 | (dsimp only; walk1)))
  (rename Fr _ _ _ _ => F2); (rename News _ _ _ _ => N2); (rename IsRange _ _ _ _ _ _ _ _ => hr2)
  refine rangeElse (n := 16) (J := fun i m nx => ∃ vs, nx = [(l, listOf vs.toArray kz), (d, dictOf [⟨hE, .str "_counter" tE, .ref l⟩] 1)] ∧ m "self" = some (.ref c) ∧ IntsAre vs (cst n i) ∧ ∀ m, m < i → dg m n = 255) rfl hr2 (small_of (by omega) (by omega) (by omega) (by omega) (by omega) (by omega)) (by rw [hcl]; rfl) rfl rfl F2 N2 ?h0 ?turn ?fin
  case h0 => exact ⟨vs, rfl, rfl, by rw [cst_zero]; exact hi, fun m h => absurd h (Nat.not_lt_zero m)⟩
  case turn =>
    intro i t m₁ nx h tk I io hi' hJz hI F5 N5
    refine Classical.byContradiction fun hng => ?_
    obtain ⟨vs1, rfl, ms, hi1, hall⟩ := hJz
    refine hng ?_
    clear hng
    have em : kstB m₁ [("self", .ref c)] = m₁ := funext fun z => kstB_eq (fcons ms fnil) fun _ => rfl
    rw [← em] at F5
    dsimp only [kstB] at F5
    have N6 : News h₀ L h [(I, io), (l, listOf vs1.toArray kz), (d, dictOf [⟨hE, .str "_counter" tE, .ref l⟩] 1)] := fun p hp => by
      rcases List.mem_cons.mp hp with rfl | hp
      · exact N5 _ (List.mem_append.mpr (.inr (.head _)))
      · exact N5 _ (List.mem_append.mpr (.inl hp))
    have hIl : @Ne Nat I l := fun e => hI _ (.head _) e.symm
    have hId : @Ne Nat I d := fun e => hI _ (.tail _ (.head _)) e.symm
    have hc1 := cst_len n i
    have hq : (((cnt n).length : Int) - 1 + (i : Int) * -1).toNat = 15 - i := by omega
    have hg : (cst n i).getD (((cnt n).length : Int) - 1 + (i : Int) * -1).toNat 0 = dg i n := by rw [hq]; exact cst_get n hi'
    have hg2 : ∀ v, ((cst n i).set (((cnt n).length : Int) - 1 + (i : Int) * -1).toNat v).getD (((cnt n).length : Int) - 1 + (i : Int) * -1).toNat 0 = v := fun v => by
      rw [List.getD_eq_getElem?_getD, List.getElem?_set_self (by omega)]
      rfl
    clear N5 F2 N2 hr2
    repeat (first | (k_unfold; (try dsimp only)) | walk1 | (dsimp only; walk1))
    · (rename _ < (256 : Int) => hb); (rename IntsAre _ _ => hI3)
      rw [hg2, hg] at hb
      dsimp only [TurnEnd]
      repeat (first | (k_unfold; (try dsimp only)) | walk1 | (dsimp only; walk1))
      (rename Fr _ _ _ _ => F3); (rename News _ _ _ _ => N3)
      exact hR _ _ l _ kz hE tE F3.keep (N3 _ (.tail _ (.tail _ (.head _)))).1 (N3 _ (.tail _ (.head _))).1 hl0 hld (ints_eq hI3 (by rw [hg, hq, cst_break n hi' hall hb]))
    · (rename ¬ _ < (256 : Int) => hb)
      rw [hg2, hg] at hb
      repeat (first | (k_unfold; (try dsimp only)) | walk1 | (dsimp only; walk1))
      (rename Fr _ _ _ _ => F3); (rename News _ _ _ _ => N3); (rename IntsAre _ _ => hI3)
      have hdg := dg_in i n
      refine TurnEnd.intro1 F3 N3 (fun p hp => ?_) ⟨_, rfl, rfl, ints_eq hI3 (by rw [hq, List.set_set, cst_step n hi']), fun m hm => ?_⟩
      · rcases List.mem_cons.mp hp with rfl | hp
        · exact fun e => hIl e.symm
        · rw [List.mem_singleton.mp hp]; exact fun e => hId e.symm
      · rcases Nat.lt_or_ge m i with q | q
        · exact hall m q
        · have e9 : m = i := by omega
          rw [e9]
          omega
  case fin =>
    intro m9 nx h9 tk hJz F5 N5
    refine Classical.byContradiction fun hng => ?_
    obtain ⟨vs1, rfl, ms, hi1, hall⟩ := hJz
    refine hng ?_
    clear hng
    have em : kstB m9 [("self", .ref c)] = m9 := funext fun z => kstB_eq (fcons ms fnil) fun _ => rfl
    rw [← em] at F5
    dsimp only [kstB] at F5
    have hc1 := cst_len n 16
    clear F2 N2 hr2
    repeat (first | (k_unfold; (try dsimp only)) | walk1 | (dsimp only; walk1))
    (rename Fr _ _ _ _ => F3); (rename News _ _ _ _ => N3); (rename IntsAre _ _ => hI3)
    have e9 : (List.replicate ((cst n 16).length : Int).toNat [(0 : Int)]).flatten = cnt (n + 1) := by
      rw [hc1, ← cst_full n hall]
      rfl
    exact hR _ _ _ _ _ hE tE F3.keep (N3 _ (.tail _ (.tail _ (.tail _ (.head _))))).1 (N3 _ (.head _)).1 (N3 _ (.head _)).2.2 (by (rename (_ < _ ∧ _ < _ ∧ _ < _) => lz); exact Nat.ne_of_gt lz.2.2) (ints_eq hI3 e9)
end
end
theorem rs33 : True ∧ True := by
  w_top off
  first | (walk1; fail) | exact ⟨trivial, trivial⟩
section

/-! objects that a callee may change are hidden from its base -/
theorem hide_kp {h : Heap} {as : List Addr} : Kp (hideAll h as) h := fun _ _ e => of_hideAll as e
theorem hide_base {h₀ h : Heap} {as : List Addr} (k : Kp h₀ h) (ha : ∀ a ∈ as, h₀.get? a = none) : Kp h₀ (hideAll h as) := fun b o e => hideAll_get as (k b o e) fun hm => by rw [ha b hm] at e; cases e
theorem hide_fr {h₀ h h' : Heap} {L : Addr} {m : Str → Option Value} {as : List Addr} (F : Fr h₀ L h m) (ha : ∀ a ∈ as, h₀.get? a = none) (hL : L ∉ as) (k : Kp (hideAll h as) h') : Fr h₀ L h' m :=
  ⟨F.ns.at' fun o e => k L o (hideAll_get as e hL), fun b o e => k b o (hide_base F.keep ha b o e), F.above⟩
theorem hide_news {h₀ h h' : Heap} {L : Addr} {as : List Addr} {news : List (Addr × Obj)} (N : News h₀ L h news) (hn : ∀ p ∈ news, p.1 ∉ as) (k : Kp (hideAll h as) h') : News h₀ L h' news :=
  fun p hp => ⟨k p.1 p.2 (hideAll_get as (N p hp).1 (hn p hp)), (N p hp).2⟩
theorem hide_fresh {h₀ h h' : Heap} {L : Addr} {m : Str → Option Value} {as : List Addr} {p : Addr × Obj} (F : Fr h₀ L h m) (ha : ∀ a ∈ as, h₀.get? a = none) (hL : L ∉ as) (e : h'.get? p.1 = some p.2) (e0 : (hideAll h as).get? p.1 = none) : h'.get? p.1 = some p.2 ∧ p.1 ≠ L ∧ h₀.get? p.1 = none := by
  refine ⟨e, fun q => ?_, ?_⟩
  · refine Classical.byContradiction fun hng => ?_
    obtain ⟨oL, _, _, hL', _⟩ := F.ns
    refine hng ?_
    clear hng
    rw [q, hideAll_get as hL' hL] at e0
    cases e0
  · cases q : h₀.get? p.1 with
    | none => rfl
    | some o => rw [hide_base F.keep ha _ _ q] at e0; cases e0
/-- an AES object -/
inductive AesAt (h : Heap) (x : Addr) (ke : List (List Int)) : Prop
  | mk : ∀ d a b h1 h2 t1 t2 n, (h.get? x = some (instObj 116 d)) → (h.get? d = some (dictOf [⟨h1, .str "_Ke" t1, .ref a⟩, ⟨h2, .str "_Kd" t2, .ref b⟩] n)) → (RowsAt h a ke) → AesAt h x ke
noncomputable def AesIn (rest : List (Addr × Obj)) (x : Addr) (ke : List (List Int)) : Prop := ∀ h, AtH h rest → AesAt h x ke
theorem RowsAt.keeps {h h' : Heap} {a : Addr} {ke : List (List Int)} (r : RowsAt h a ke) (k : Kp h h') : RowsAt h' a ke := by
  refine Classical.byContradiction fun hng => ?_
  obtain ⟨rs, hl, hn, hi⟩ := r
  refine hng ?_
  clear hng
  refine ⟨rs, hl.at fun o e => k _ _ e, hn, fun i h => ?_⟩
  obtain ⟨vs, h2, h3⟩ := hi i h
  exact ⟨vs, h2.at fun o e => k _ _ e, h3⟩
theorem AesAt.keeps {h h' : Heap} {x : Addr} {ke : List (List Int)} (r : AesAt h x ke) (k : Kp h h') : AesAt h' x ke := by
  refine Classical.byContradiction fun hng => ?_
  obtain ⟨d, a, b, h1, h2, t1, t2, n, e1, e2, e3⟩ := r
  refine hng ?_
  clear hng
  exact ⟨d, a, b, h1, h2, t1, t2, n, k _ _ e1, k _ _ e2, e3.keeps k⟩
theorem keOf_len {key : List Int} (hn : key.length = 16 ∨ key.length = 24 ∨ key.length = 32) : 2 ≤ (keOf key).length ∧ (keOf key).length ≤ 20 := by
  unfold keOf
  rw [List.length_map, List.length_range]
  rcases hn with h | h | h <;> rw [h] <;> decide
theorem call_clsX {w : World} {A : Around} {s : Shared} {pos : List Value} {C fI : Addr} {Q : Value → Shared → Prop} (X : (K w.params).In s.heap) (hm : makesIn (K w.params) C = true) (hi : findIn (K w.params) (.ref C) "__init__" = some (some (.ref fI))) (hf : isFn (K w.params) (.ref fI) = true)
    (h : ∀ h', Kp s.heap h' → h'.get? (s.heap.objs.size + 1) = some (instObj C s.heap.objs.size) → h'.get? s.heap.objs.size = some (dictOf [] 0) → s.heap.get? (s.heap.objs.size + 1) = none → s.heap.get? s.heap.objs.size = none →
      codeAny (model pw w) (A.under (.builtin "type.__call__" ⟨.ref C :: pos, []⟩)) (.call (.ref fI) ⟨.ref (s.heap.objs.size + 1) :: pos, []⟩) (InitBack (s.heap.objs.size + 1) fun r s' => match r with | .ok (.ret v) => Q v s' | .ok _ => False | .error e => False) { s with heap := h' }) :
    wpAny (model pw w) A (call (.ref C) pos []) Q (fun _ _ => False) s := by
  refine Classical.byContradiction fun hng => ?_
  obtain ⟨hh, g, d, t, os⟩ := s
  refine hng ?_
  clear hng
  have none_at : ∀ a, hh.objs.size ≤ a → hh.get? a = none := fun a ha => by
    cases e : hh.get? a with
    | none => rfl
    | some o' => exact absurd (Heap.lt_size e) (Nat.not_lt.mpr ha)
  have e1 : ((hh.push (dictOf [] 0)).push (instObj C hh.objs.size)).get? (hh.objs.size + 1) = some (instObj C hh.objs.size) := by
    have := Heap.get?_push_size (hh.push (dictOf [] 0)) (o := instObj C hh.objs.size) rfl
    rwa [Heap.size_push] at this
  refine wpAny_call (make_core (makes_of X hm) (looks_findIn X hi) (fun self => bind_fn X self (beq_iff_eq.mp hf)) (.inl rfl) ?_)
  exact h _ (fun _ _ e => Heap.get?_push_of_some _ (Heap.get?_push_of_some _ e)) e1 (Heap.get?_push_of_some _ (Heap.get?_push_size _ rfl)) (none_at _ (Nat.le_succ _)) (none_at _ (Nat.le_refl _))
section
variable {w : World} {dp un : Nat} {fr : Option (List Env)} {gd : Option (List Code)} {s : Shared} {mg mb : Str → Option Value} {lo : List Str} {h₀ : Heap}
theorem mkAES {L : Addr} {m : Str → Option Value} {news : List (Addr × Obj)} {bs : Array UInt8} {tb : Tok} {key : List Int} {Q : Value → Shared → Prop} {A : Around}
    (F : Fr h₀ L s.heap m) (N : News h₀ L s.heap news) (X : (K w.params).In h₀) (T : TopRead q lo mg mb h₀) (hd : A.depth < 600) (hA : A.handled = none)
    (hi : KBw.bInts bs = key) (hn : key.length = 16 ∨ key.length = 24 ∨ key.length = 32)
    (h : ∀ h' tk' x rest, Fr h₀ L h' m → News h₀ L h' (news ++ rest) → Kp s.heap h' → (∀ p ∈ rest, s.heap.get? p.1 = none) → AesIn rest x (keOf key) → Q (.ref x) { s with heap := h', toks := tk' }) :
    wpAny (model pw w) A (call (.ref 116) [.bytes bs tb]) Q (fun _ _ => False) s := by
  refine call_clsX (X.keeps F.keep) (by k_is) (by k_is) (by k_is) ?_
  intro h1 k1 nx nd fx fd
  refine Classical.byContradiction fun hng => ?_
  obtain ⟨hnd, dp, fr, gd, un⟩ := A
  refine hng ?_
  clear hng
  dsimp only at hA hd
  subst hA
  generalize s.heap.objs.size = d at nx nd fx fd
  have hxd : d + 1 ≠ d := Nat.succ_ne_self d
  have ha : ∀ a ∈ [d], s.heap.get? a = none := fun a h => by rw [List.mem_singleton.mp h]; exact fd
  have kb := hide_base k1 ha
  refine ini_spec (h₀ := hideAll h1 [d]) hide_kp (Nat.le_of_eq (hideAll_size _ _)) nd (hideAll_none _ (.head _)) (hideAll_get _ nx (by simpa using hxd)) ((X.keeps F.keep).keeps kb) ((T.keeps F.keep).keeps kb) (by show dp + 1 < 650; omega) hi hn ?_
  intro h' tk' a b rest hE hD tE tD kp e1 e2 ke
  refine ⟨rfl, ?_⟩
  dsimp only
  have kk : Kp s.heap h' := fun b o e => kp b o (kb b o e)
  have ex : h'.get? (d + 1) = some (instObj 116 d) := kp _ _ (hideAll_get _ nx (by simpa using hxd))
  have fresh : ∀ p ∈ (d + 1, instObj 116 d) :: (d, dictOf [⟨hE, .str "_Ke" tE, .ref a⟩, ⟨hD, .str "_Kd" tD, .ref b⟩] 2) :: rest, h'.get? p.1 = some p.2 ∧ s.heap.get? p.1 = none := fun p hp => by
    rcases List.mem_cons.mp hp with rfl | hp
    · exact ⟨ex, fx⟩
    rcases List.mem_cons.mp hp with rfl | hp
    · exact ⟨e1, fd⟩
    · refine ⟨(e2 p hp).1, ?_⟩
      cases q : s.heap.get? p.1 with
      | none => rfl
      | some o => have := (e2 p hp).2.1; rw [kb _ _ q] at this; cases this
  refine h h' tk' (d + 1) ((d + 1, instObj 116 d) :: (d, dictOf [⟨hE, .str "_Ke" tE, .ref a⟩, ⟨hD, .str "_Kd" tD, .ref b⟩] 2) :: rest) (frKp F kk) (fun p hp => (List.mem_append.mp hp).elim (newsKp N kk p) fun hp => ⟨(fresh p hp).1, fun e => ?_, ?_⟩) kk (fun p hp => (fresh p hp).2) ?_
  · refine Classical.byContradiction fun hng => ?_
    obtain ⟨oL, _, _, hL', _⟩ := F.ns
    refine hng ?_
    clear hng
    have := (fresh p hp).2
    rw [e, hL'] at this
    cases this
  · cases q : h₀.get? p.1 with
    | none => rfl
    | some o => have := (fresh p hp).2; rw [F.keep _ _ q] at this; cases this
  · intro g hg
    exact ⟨d, a, b, hE, hD, tE, tD, 2, hg _ (.head _), hg _ (.tail _ (.head _)), ke g fun p hp => hg p (.tail _ (.tail _ hp))⟩
end
end
theorem rs34 : True ∧ True := by
  w_top off
  first | (walk1; fail) | exact ⟨trivial, trivial⟩
section

section
variable {w : World} {dp un : Nat} {fr : Option (List Env)} {gd : Option (List Code)} {s : Shared} {mg mb : Str → Option Value} {lo : List Str} {h₀ : Heap}
theorem blk_ofb {R : Result → Shared → Prop} {x d : Addr} {bs : Array UInt8} {tb : Tok} {key : List Int} {hA hB : Int} {tA tB : Tok} {v : Value} {rm : Addr}
    (KP : Kp h₀ s.heap) (hsz : h₀.objs.size ≤ s.heap.objs.size) (hd : s.heap.get? d = some (dictOf [⟨hA, .str "_last_precipherblock" tA, v⟩, ⟨hB, .str "_remaining_block" tB, .ref rm⟩] 2)) (hd0 : h₀.get? d = none) (hx : h₀.get? x = some (instObj 409 d))
    (X : (K w.params).In h₀) (T : TopRead q lo mg mb h₀) (hdp : dp < 500) (hi : KBw.bInts bs = key) (hn : key.length = 16 ∨ key.length = 24 ∨ key.length = 32)
    (hR : ∀ h' tk' hC tC xa rest, Kp h₀ h' → h'.get? d = some (dictOf [⟨hA, .str "_last_precipherblock" tA, v⟩, ⟨hB, .str "_remaining_block" tB, .ref rm⟩, ⟨hC, .str "_aes" tC, .ref xa⟩] 3) → (∀ p ∈ rest, h'.get? p.1 = some p.2 ∧ h₀.get? p.1 = none ∧ p.1 ≠ d) → AesIn rest xa (keOf key) → R (.ok (.ret .none)) { s with heap := h', toks := tk' }) :
    codeAny (model pw w) (Ar dp un fr gd) (.call (.ref 169) ⟨[.ref x, .bytes bs tb], []⟩) R s := by
  refine enterN (binds := [("self", .ref x), ("key", .bytes bs tb)]) (news := [(d, dictOf [⟨hA, .str "_last_precipherblock" tA, v⟩, ⟨hB, .str "_remaining_block" tB, .ref rm⟩] 2)]) KP hsz (fun p hp => by
    rw [List.mem_singleton.mp hp]; exact ⟨hd, hd0⟩) X T (by omega) rfl (by kernel_rfl) (BindsTo.of_eq rfl) (by decide) rfl ?_
  intro L h₁ tk F N l1
  repeat (first | (k_unfold; (try dsimp only)) | walk1 | (dsimp only; walk1))
  refine mkAES (by k_asm) (by k_asm) X T (by show dp + 1 < 600; omega) rfl hi hn ?_
  intro h2 tk2 xa rest F2 N2 k2 fr2 ai
  have ap : ∀ p ∈ rest, p.1 ≠ d := fun p hp e => by
    have := fr2 p hp
    rw [e, (N _ (.head _)).1] at this
    cases this
  simp only [List.cons_append, List.nil_append] at N2
  repeat (first | (k_unfold; (try dsimp only)) | walk1 | (dsimp only; walk1))
  (rename Fr _ _ _ _ => F3); (rename News _ _ _ _ => N3)
  exact hR _ _ _ _ xa rest F3.keep (N3 _ (.head _)).1 (fun p hp => ⟨(N3 p (.tail _ hp)).1, (N3 p (.tail _ hp)).2.2, ap p hp⟩) ai
theorem blk_ctr {R : Result → Shared → Prop} {x d : Addr} {bs : Array UInt8} {tb : Tok} {key : List Int} 
    (KP : Kp h₀ s.heap) (hsz : h₀.objs.size ≤ s.heap.objs.size) (hd : s.heap.get? d = some (dictOf [] 0)) (hd0 : h₀.get? d = none) (hx : h₀.get? x = some (instObj 441 d))
    (X : (K w.params).In h₀) (T : TopRead q lo mg mb h₀) (hdp : dp < 500) (hi : KBw.bInts bs = key) (hn : key.length = 16 ∨ key.length = 24 ∨ key.length = 32)
    (hR : ∀ h' tk' hC tC xa rest, Kp h₀ h' → h'.get? d = some (dictOf [⟨hC, .str "_aes" tC, .ref xa⟩] 1) → (∀ p ∈ rest, h'.get? p.1 = some p.2 ∧ h₀.get? p.1 = none ∧ p.1 ≠ d) → AesIn rest xa (keOf key) → R (.ok (.ret .none)) { s with heap := h', toks := tk' }) :
    codeAny (model pw w) (Ar dp un fr gd) (.call (.ref 169) ⟨[.ref x, .bytes bs tb], []⟩) R s := by
  refine enterN (binds := [("self", .ref x), ("key", .bytes bs tb)]) (news := [(d, dictOf [] 0)]) KP hsz (fun p hp => by
    rw [List.mem_singleton.mp hp]; exact ⟨hd, hd0⟩) X T (by omega) rfl (by kernel_rfl) (BindsTo.of_eq rfl) (by decide) rfl ?_
  intro L h₁ tk F N l1
  repeat (first | (k_unfold; (try dsimp only)) | walk1 | (dsimp only; walk1))
  refine mkAES (by k_asm) (by k_asm) X T (by show dp + 1 < 600; omega) rfl hi hn ?_
  intro h2 tk2 xa rest F2 N2 k2 fr2 ai
  have ap : ∀ p ∈ rest, p.1 ≠ d := fun p hp e => by
    have := fr2 p hp
    rw [e, (N _ (.head _)).1] at this
    cases this
  simp only [List.cons_append, List.nil_append] at N2
  repeat (first | (k_unfold; (try dsimp only)) | walk1 | (dsimp only; walk1))
  (rename Fr _ _ _ _ => F3); (rename News _ _ _ _ => N3)
  exact hR _ _ _ _ xa rest F3.keep (N3 _ (.head _)).1 (fun p hp => ⟨(N3 p (.tail _ hp)).1, (N3 p (.tail _ hp)).2.2, ap p hp⟩) ai
theorem blk_call_ofb {L x d : Addr} {m : Str → Option Value} {news : List (Addr × Obj)} {bs : Array UInt8} {tb : Tok} {key : List Int} {Q : Value → Shared → Prop} {E : Value → Shared → Prop} {hA hB : Int} {tA tB : Tok} {v : Value} {rm : Addr}
    (F : Fr h₀ L s.heap m) (N : News h₀ L s.heap ((d, dictOf [⟨hA, .str "_last_precipherblock" tA, v⟩, ⟨hB, .str "_remaining_block" tB, .ref rm⟩] 2) :: news)) (hx : h₀.get? x = some (instObj 409 d)) (hne : ∀ p ∈ news, p.1 ≠ d)
    (X : (K w.params).In h₀) (T : TopRead q lo mg mb h₀) (hdp : dp < 500) (hi : KBw.bInts bs = key) (hn : key.length = 16 ∨ key.length = 24 ∨ key.length = 32)
    (h : ∀ h' tk' hC tC xa rest, Fr h₀ L h' m → News h₀ L h' ((d, dictOf [⟨hA, .str "_last_precipherblock" tA, v⟩, ⟨hB, .str "_remaining_block" tB, .ref rm⟩, ⟨hC, .str "_aes" tC, .ref xa⟩] 3) :: (news ++ rest)) → (∀ p ∈ rest, p.1 ≠ d ∧ ∀ p' ∈ news, p.1 ≠ p'.1) → AesIn rest xa (keOf key) → Q .none { s with heap := h', toks := tk' }) :
    wpAny (model pw w) (Ar dp un fr gd) (call (.ref 169) [.ref x, .bytes bs tb]) Q E s := by
  have nd := N _ (.head _)
  have ha : ∀ a ∈ [d], h₀.get? a = none := fun a h => by rw [List.mem_singleton.mp h]; exact nd.2.2
  have hLd : L ∉ [d] := fun h => nd.2.1 (List.mem_singleton.mp h).symm
  have kb := hide_base F.keep ha
  have hnews : ∀ p ∈ news, p.1 ∉ [d] := fun p hp => by simpa using hne p hp
  refine wpAny_call (blk_ofb (h₀ := hideAll s.heap [d]) hide_kp (Nat.le_of_eq (hideAll_size _ _)) nd.1 (hideAll_none _ (.head _)) (kb _ _ hx) (X.keeps kb) (T.keeps kb) hdp hi hn ?_)
  intro h' tk' hC tC xa rest kp e1 e2 ai
  refine h h' tk' hC tC xa rest (hide_fr F ha hLd kp) (fun p hp => ?_) (fun p hp => ⟨(e2 p hp).2.2, fun p' hp' e => ?_⟩) ai
  · rcases List.mem_cons.mp hp with rfl | hp
    · exact ⟨e1, nd.2⟩
    rcases List.mem_append.mp hp with hp | hp
    · exact hide_news (fun p hp => N p (.tail _ hp)) hnews kp p hp
    · exact hide_fresh F ha hLd (e2 p hp).1 (e2 p hp).2.1
  · have z := hideAll_get [d] (N p' (.tail _ hp')).1 (hnews p' hp')
    rw [← e, (e2 p hp).2.1] at z
    cases z
theorem blk_call_ctr {L x d : Addr} {m : Str → Option Value} {news : List (Addr × Obj)} {bs : Array UInt8} {tb : Tok} {key : List Int} {Q : Value → Shared → Prop} {E : Value → Shared → Prop} 
    (F : Fr h₀ L s.heap m) (N : News h₀ L s.heap ((d, dictOf [] 0) :: news)) (hx : h₀.get? x = some (instObj 441 d)) (hne : ∀ p ∈ news, p.1 ≠ d)
    (X : (K w.params).In h₀) (T : TopRead q lo mg mb h₀) (hdp : dp < 500) (hi : KBw.bInts bs = key) (hn : key.length = 16 ∨ key.length = 24 ∨ key.length = 32)
    (h : ∀ h' tk' hC tC xa rest, Fr h₀ L h' m → News h₀ L h' ((d, dictOf [⟨hC, .str "_aes" tC, .ref xa⟩] 1) :: (news ++ rest)) → (∀ p ∈ rest, p.1 ≠ d ∧ ∀ p' ∈ news, p.1 ≠ p'.1) → AesIn rest xa (keOf key) → Q .none { s with heap := h', toks := tk' }) :
    wpAny (model pw w) (Ar dp un fr gd) (call (.ref 169) [.ref x, .bytes bs tb]) Q E s := by
  have nd := N _ (.head _)
  have ha : ∀ a ∈ [d], h₀.get? a = none := fun a h => by rw [List.mem_singleton.mp h]; exact nd.2.2
  have hLd : L ∉ [d] := fun h => nd.2.1 (List.mem_singleton.mp h).symm
  have kb := hide_base F.keep ha
  have hnews : ∀ p ∈ news, p.1 ∉ [d] := fun p hp => by simpa using hne p hp
  refine wpAny_call (blk_ctr (h₀ := hideAll s.heap [d]) hide_kp (Nat.le_of_eq (hideAll_size _ _)) nd.1 (hideAll_none _ (.head _)) (kb _ _ hx) (X.keeps kb) (T.keeps kb) hdp hi hn ?_)
  intro h' tk' hC tC xa rest kp e1 e2 ai
  refine h h' tk' hC tC xa rest (hide_fr F ha hLd kp) (fun p hp => ?_) (fun p hp => ⟨(e2 p hp).2.2, fun p' hp' e => ?_⟩) ai
  · rcases List.mem_cons.mp hp with rfl | hp
    · exact ⟨e1, nd.2⟩
    rcases List.mem_append.mp hp with hp | hp
    · exact hide_news (fun p hp => N p (.tail _ hp)) hnews kp p hp
    · exact hide_fresh F ha hLd (e2 p hp).1 (e2 p hp).2.1
  · have z := hideAll_get [d] (N p' (.tail _ hp')).1 (hnews p' hp')
    rw [← e, (e2 p hp).2.1] at z
    cases z
theorem news_swap {h₀ h : Heap} {L : Addr} {a b : Addr × Obj} {r : List (Addr × Obj)} (N : News h₀ L h (a :: b :: r)) : News h₀ L h (b :: a :: r) := fun p hp => by
  rcases List.mem_cons.mp hp with rfl | hp
  · exact N _ (.tail _ (.head _))
  rcases List.mem_cons.mp hp with rfl | hp
  · exact N _ (.head _)
  · exact N _ (.tail _ (.tail _ hp))
theorem sb_call {L : Addr} {m : Str → Option Value} {news : List (Addr × Obj)} {bs : Array UInt8} {tb : Tok} {Q : Value → Shared → Prop} {E : Value → Shared → Prop}
    (F : Fr h₀ L s.heap m) (N : News h₀ L s.heap news) (X : (K w.params).In h₀) (T : TopRead q lo mg mb h₀) (hd : dp < 900)
    (h : ∀ h' tk', Fr h₀ L h' m → News h₀ L h' news → Q (.bytes bs tb) { s with heap := h', toks := tk' }) :
    wpAny (model pw w) (Ar dp un fr gd) (call (.ref 33) [.bytes bs tb]) Q E s :=
  wpAny_call (sb_spec (X.keeps F.keep) (T.keeps F.keep) hd fun h' tk' kp => h h' tk' (frKp F kp) (newsKp N kp))
end
local macro_rules | `(tactic| walk_at "call ref") => `(tactic| k_extra "y43")
section
variable {w : World} {dp un : Nat} {fr : Option (List Env)} {gd : Option (List Code)} {s : Shared} {mg mb : Str → Option Value} {lo : List Str} {h₀ : Heap}
theorem ofb_init {R : Result → Shared → Prop} {x d : Addr} {bs bf : Array UInt8} {tb tf : Tok} {key first : List Int}
    (KP : Kp h₀ s.heap) (hsz : h₀.objs.size ≤ s.heap.objs.size) (hd : s.heap.get? d = some (dictOf [] 0)) (hd0 : h₀.get? d = none) (hx : h₀.get? x = some (instObj 409 d))
    (X : (K w.params).In h₀) (T : TopRead q lo mg mb h₀) (hdp : dp < 450) (hi : KBw.bInts bs = key) (hn : key.length = 16 ∨ key.length = 24 ∨ key.length = 32) (hif : KBw.bInts bf = first) (hfl : first.length = 16)
    (hR : ∀ h' tk' hA hB hC tA tB tC rm k xa rest, Kp h₀ h' → h'.get? d = some (dictOf [⟨hA, .str "_last_precipherblock" tA, .bytes bf tf⟩, ⟨hB, .str "_remaining_block" tB, .ref rm⟩, ⟨hC, .str "_aes" tC, .ref xa⟩] 3) → h'.get? rm = some (listOf [].toArray k) → h₀.get? rm = none → rm ≠ d →
      (∀ p ∈ rest, h'.get? p.1 = some p.2 ∧ h₀.get? p.1 = none ∧ p.1 ≠ d ∧ p.1 ≠ rm) → AesIn rest xa (keOf key) → R (.ok (.ret .none)) { s with heap := h', toks := tk' }) :
    codeAny (model pw w) (Ar dp un fr gd) (.call (.ref 392) ⟨[.ref x, .bytes bs tb, .bytes bf tf], []⟩) R s := by
  refine enterN (binds := [("self", .ref x), ("key", .bytes bs tb), ("iv", .bytes bf tf)]) (news := [(d, dictOf [] 0)]) KP hsz (fun p hp => by
    rw [List.mem_singleton.mp hp]; exact ⟨hd, hd0⟩) X T (by omega) rfl (by kernel_rfl) (binds_K (X.keeps KP) rfl (by k_is) rfl rfl rfl) (by decide) rfl ?_
  intro L h₁ tk F N l1
  repeat (first | (k_unfold; (try dsimp only)) | walk1 | (dsimp only; walk1))
  (rename Fr _ _ _ _ => F3); (rename News _ _ _ _ => N3); (rename @LT.lt Nat _ d _ => l9)
  have hrd := Nat.ne_of_gt l9
  refine blk_call_ofb F3 (news_swap N3) hx (fun p hp => by rw [List.mem_singleton.mp hp]; exact hrd) X T (by show dp + 1 < 500; omega) hi hn ?_
  intro h2 tk2 hC tC xa rest F4 N4 ap ai
  repeat (first | (k_unfold; (try dsimp only)) | walk1 | (dsimp only; walk1))
  refine hR _ _ _ _ hC _ _ tC _ 0 xa rest F4.keep (N4 _ (.head _)).1 (N4 _ (.tail _ (.head _))).1 (N4 _ (.tail _ (.head _))).2.2 hrd (fun p hp => ?_) ai
  have z := N4 p (.tail _ (.tail _ hp))
  exact ⟨z.1, z.2.2, (ap p hp).1, (ap p hp).2 _ (.head _)⟩
theorem ctr_init {R : Result → Shared → Prop} {x d c : Addr} {bs : Array UInt8} {tb : Tok} {key : List Int}
    (KP : Kp h₀ s.heap) (hsz : h₀.objs.size ≤ s.heap.objs.size) (hd : s.heap.get? d = some (dictOf [] 0)) (hd0 : h₀.get? d = none) (hx : h₀.get? x = some (instObj 441 d))
    (X : (K w.params).In h₀) (T : TopRead q lo mg mb h₀) (hdp : dp < 450) (hi : KBw.bInts bs = key) (hn : key.length = 16 ∨ key.length = 24 ∨ key.length = 32)
    (hR : ∀ h' tk' hA hB hC tA tB tC rm k xa rest, Kp h₀ h' → h'.get? d = some (dictOf [⟨hA, .str "_aes" tA, .ref xa⟩, ⟨hB, .str "_counter" tB, .ref c⟩, ⟨hC, .str "_remaining_counter" tC, .ref rm⟩] 3) → h'.get? rm = some (listOf [].toArray k) → h₀.get? rm = none → rm ≠ d →
      (∀ p ∈ rest, h'.get? p.1 = some p.2 ∧ h₀.get? p.1 = none ∧ p.1 ≠ d ∧ p.1 ≠ rm) → AesIn rest xa (keOf key) → R (.ok (.ret .none)) { s with heap := h', toks := tk' }) :
    codeAny (model pw w) (Ar dp un fr gd) (.call (.ref 426) ⟨[.ref x, .bytes bs tb, .ref c], []⟩) R s := by
  refine enterN (binds := [("self", .ref x), ("key", .bytes bs tb), ("counter", .ref c)]) (news := [(d, dictOf [] 0)]) KP hsz (fun p hp => by
    rw [List.mem_singleton.mp hp]; exact ⟨hd, hd0⟩) X T (by omega) rfl (by kernel_rfl) (binds_K (X.keeps KP) rfl (by k_is) rfl rfl rfl) (by decide) rfl ?_
  intro L h₁ tk F N l1
  repeat (first | (k_unfold; (try dsimp only)) | walk1 | (dsimp only; walk1))
  refine blk_call_ctr F (news := []) N hx (fun p hp => nomatch hp) X T (by show dp + 1 < 500; omega) hi hn ?_
  intro h2 tk2 hC tC xa rest F4 N4 ap ai
  simp only [List.nil_append] at N4
  have apd : ∀ p ∈ rest, p.1 ≠ d := fun p hp => (ap p hp).1
  repeat (first | (k_unfold; (try dsimp only)) | walk1 | (dsimp only; walk1))
  (rename Fr _ _ _ _ => F3); (rename News _ _ _ _ => N3); (rename _ ∧ AllLt _ _ => l9)
  have hrd : _ ≠ d := Nat.ne_of_gt l9.1
  have hrr := allLt_mem l9.2
  refine hR _ _ hC _ _ tC _ _ _ 0 xa rest F3.keep (N3 _ (.tail _ (.head _))).1 (N3 _ (.head _)).1 (N3 _ (.head _)).2.2 hrd (fun p hp => ?_) ai
  have z := N3 p (.tail _ (.tail _ hp))
  exact ⟨z.1, z.2.2, apd p hp, Nat.ne_of_lt (hrr p hp)⟩
end
end
theorem rs35 : True ∧ True := by
  w_top off
  first | (walk1; fail) | exact ⟨trivial, trivial⟩
section
theorem and_in (x : Int) : 0 ≤ Builtin.bitAnd x 255 ∧ Builtin.bitAnd x 255 < 256 := by
  have := and255 x
  omega
theorem outs_in {ts kr : List Int} : ∀ i, ∀ x ∈ encOuts ts kr i, 0 ≤ x ∧ x < 256
  | 0, x, h => nomatch h
  | i + 1, x, h => by
    rcases List.mem_append.mp h with h | h
    · exact outs_in i x h
    · unfold outCol at h
      simp only [List.mem_cons, List.not_mem_nil, or_false] at h
      rcases h with rfl | rfl | rfl | rfl <;> exact and_in _
theorem enc_len {ke : List (List Int)} {ns : List Int} : (enc ke ns).length = 16 := encOuts_len 4
theorem enc_in {ke : List (List Int)} {ns : List Int} : Bytes (enc ke ns) := Bytes.of_mem (outs_in 4)
/-- a block handed on: bytes, or a list of the ledger -/
noncomputable def BlkV (news : List (Addr × Obj)) (v : Value) (ns : List Int) : Prop := (∃ b t, v = .bytes b t ∧ KBw.bInts b = ns) ∨ ∃ l vs n, v = .ref l ∧ (l, listOf vs.toArray n) ∈ news ∧ IntsAre vs ns
section
variable {w : World} {dp un : Nat} {fr : Option (List Env)} {gd : Option (List Code)} {s : Shared} {mg mb : Str → Option Value} {lo : List Str} {h₀ : Heap} {L : Addr} {m : Str → Option Value} {news : List (Addr × Obj)} {E : Value → Shared → Prop}
theorem enc_call {xa : Addr} {v : Value} {ke : List (List Int)} {ns : List Int} {Q : Value → Shared → Prop}
    (F : Fr h₀ L s.heap m) (N : News h₀ L s.heap news) (X : (K w.params).In h₀) (T : TopRead q lo mg mb h₀) (hd : dp < 650) (ha : AesAt h₀ xa ke) (hk1 : 2 ≤ ke.length) (hk2 : ke.length ≤ 20) (hv : BlkV news v ns) (hn : ns.length = 16) (hb : Bytes ns)
    (h : ∀ h' tk' D rv er, Fr h₀ L h' m → News h₀ L h' ((D, listOf rv.toArray er) :: news) → (∀ p ∈ news, p.1 ≠ D) → IntsAre rv (enc ke ns) → Q (.ref D) { s with heap := h', toks := tk' }) :
    wpAny (model pw w) (Ar dp un fr gd) (call (.ref 108) [.ref xa, v]) Q E s := by
  refine Classical.byContradiction fun hng => ?_
  obtain ⟨d, a, b, h1, h2, t1, t2, n, e1, e2, e3⟩ := ha
  refine hng ?_
  clear hng
  have fin : ∀ h' tk' res rv er, Kp s.heap h' → s.heap.get? res = none → h'.get? res = some (listOf rv.toArray er) → IntsAre rv (enc ke ns) → Q (.ref res) { s with heap := h', toks := tk' } := fun h' tk' res rv er kp q1 q2 q3 => by
    refine h h' tk' res rv er (frKp F kp) (fun p hp => ?_) (fun p hp e => ?_) q3
    · rcases List.mem_cons.mp hp with rfl | hp
      · refine ⟨q2, fun e => ?_, ?_⟩
        · refine Classical.byContradiction fun hng => ?_
          obtain ⟨oL, _, _, hL, _⟩ := F.ns
          refine hng ?_
          clear hng
          have e' : res = L := e
          rw [e', hL] at q1
          cases q1
        · cases q : h₀.get? res with
          | none => rfl
          | some o => rw [F.keep _ _ q] at q1; cases q1
      · exact newsKp N kp p hp
    · rw [← e, (N p hp).1] at q1
      cases q1
  rcases hv with ⟨b, t, rfl, hi⟩ | ⟨l, vs, z, rfl, hm, hi⟩
  · exact wpAny_call (enc_bytes (X.keeps F.keep) (T.keeps F.keep) (by omega) (F.keep _ _ e1) (F.keep _ _ e2) (e3.keeps F.keep) hk1 hk2 hi hn hb fun h' tk' res rv er kp q1 q2 q3 => fin h' tk' res rv er kp q1 q2 q3)
  · exact wpAny_call (enc_list (X.keeps F.keep) (T.keeps F.keep) (by omega) (F.keep _ _ e1) (F.keep _ _ e2) (e3.keeps F.keep) hk1 hk2 (IsL.isList (n := z) (N _ hm).1) hi hn hb fun h' tk' res rv er kp q1 q2 q3 => fin h' tk' res rv er kp q1 q2 q3)
theorem pop0 {A : Around} {D : Addr} {rv : List Value} {ns : List Int} {n : Nat} {u : Tok} {news' : List (Addr × Obj)} {Q : Value → Shared → Prop} (F : Fr h₀ L s.heap m) (N : News h₀ L s.heap news) (U : Upd D (listOf rv.toArray n) (listOf rv.tail.toArray (n + 1)) news news') (hi : IntsAre rv ns) (hne : 0 < ns.length) (hz : ns.length ≤ 1000)
    (h : ∀ h' t, Fr h₀ L h' m → News h₀ L h' news' → IntsAre rv.tail ns.tail → Q (.int (ns.getD 0 0) t) { s with heap := h' }) : wpAny (model pw w) A (call (.builtin "list.pop") [.ref D, .int 0 u]) Q E s := by
  cases hi with
  | nil => exact absurd hne (Nat.lt_irrefl _)
  | cons i t hr =>
    rename_i vs ms
    have hl := hr.length
    refine kl_popAt (k := 0) (p := []) (y := .int i t) (q := vs) F N rfl ?_ rfl U ?_ fun h' F' N' => h h' t F' N' hr
    · rw [List.size_toArray, List.length_cons]
      unfold seqIndex?
      simp
    · rw [sizeLine_eq]
      simp only [List.toList_toArray, List.length_cons] at hz ⊢
      omega
end
section
variable {w : World} {A : Around} {E : Value → Shared → Prop} {s : Shared} {env : Env} {h₀ : Heap} {x : Str} {body : List Stmt} {Q : Flow → Shared → Prop}
/-- a loop over bytes by an invariant of its turns -/
theorem bytes_J {b : Array UInt8} {tb : Tok} {ks : List Int} {m₀ : Str → Option Value} {news : List (Addr × Obj)} (J : Nat → (Str → Option Value) → List (Addr × Obj) → Prop)
    (hk : KBw.bInts b = ks) (hh : A.handled = none) (F : Fr h₀ env.locals s.heap m₀) (N : News h₀ env.locals s.heap news) (h0 : J 0 m₀ news)
    (turn : ∀ i k t m₁ nx h tk I io, ks[i]? = some k → 0 ≤ k → k < 256 → J i m₁ nx → (∀ p ∈ nx, p.1 ≠ I) → Fr h₀ env.locals h (fun y => if y = x then some (.int k t) else m₁ y) → News h₀ env.locals h (nx ++ [(I, io)]) →
      wpAny (model pw w) A (execs body env) (TurnEnd h₀ env.locals (J (i + 1)) I io s Q) E { s with heap := h, toks := tk })
    (done : ∀ m' nx h' tk, J ks.length m' nx → Fr h₀ env.locals h' m' → News h₀ env.locals h' nx → Q .next { s with heap := h', toks := tk }) :
    wpAny (model pw w) A (pyIter (.bytes b tb)) (fun it s₂ => LoopAtV pw w A h₀ env x body Q E it s₂) E s := by
  refine KBw.pyIter_bytes ?_
  have W := KBw.walks (prog := pw) (w := w) hh s.heap.objs.size b tb
  have hn : b.size = ks.length := by rw [← hk, KBw.ints_length]
  refine walk_J (Q := Q) J W (Nat.ne_of_lt F.ns.lt) ?_ (fun p hp => Nat.ne_of_lt (Heap.lt_size (N p hp).1)) ?_ ⟨_, Heap.get?_push_size _ rfl, rfl, rfl⟩ (F.push _) (fun p hp => ⟨Heap.get?_push_of_some _ (N p hp).1, (N p hp).2⟩) h0 ?_ ?_
  · cases e : h₀.get? s.heap.objs.size with
    | none => rfl
    | some o => exact absurd (Heap.lt_size (F.keep _ _ e)) (Nat.lt_irrefl _)
  · rintro i h ⟨o, e, _⟩
    exact ⟨o, e⟩
  · intro i v m₁ nx h tk io hi hJz hJ hI F₁ N₁
    refine Classical.byContradiction fun hng => ?_
    obtain ⟨c, u, hc, rfl⟩ := hJz
    refine hng ?_
    clear hng
    have hg : ks[i]? = some (c.toNat : Int) := by rw [← hk]; exact KBw.ints_get hc
    have hin := KBw.ints_in (b := b) (k := (c.toNat : Int)) (by rw [hk]; exact List.mem_of_getElem? hg)
    exact turn i _ u m₁ nx h tk _ io hg hin.1 hin.2 hJ hI F₁ N₁
  · intro m' nx h' tk hJ F' N'
    rw [hn] at hJ
    exact done m' nx h' tk hJ F' N'
end
end
theorem rs36 : True ∧ True := by
  w_top off
  first | (walk1; fail) | exact ⟨trivial, trivial⟩
section
/-- data mixed with a stream from a place on -/
noncomputable def strm (ks : Nat → Int) : Nat → List Int → List Int
  | _, [] => []
  | p, d :: r => Builtin.bitXor d (ks p) :: strm ks (p + 1) r
theorem strm_len {ks : Nat → Int} : ∀ (l : List Int) (p : Nat), (strm ks p l).length = l.length
  | [], _ => rfl
  | _ :: r, p => by rw [strm, List.length_cons, List.length_cons, strm_len r]
theorem strm_app {ks : Nat → Int} : ∀ (a b : List Int) (p : Nat), strm ks p (a ++ b) = strm ks p a ++ strm ks (p + a.length) b
  | [], b, p => rfl
  | d :: r, b, p => by
    rw [List.cons_append, strm, strm, strm_app r b (p + 1), List.cons_append, List.length_cons]
    congr 3
    omega
theorem strm_take {ks : Nat → Int} {l : List Int} {i p : Nat} {k : Int} (h : l[i]? = some k) : strm ks p (l.take (i + 1)) = strm ks p (l.take i) ++ [Builtin.bitXor k (ks (p + i))] := by
  have hi : i < l.length := (List.getElem?_eq_some_iff.mp h).1
  rw [List.take_add_one, h, strm_app]
  show _ ++ strm ks _ [k] = _
  rw [List.length_take, Nat.min_eq_left (Nat.le_of_lt hi)]
  rfl
/-- the blocks of output feedback -/
noncomputable def Bl (ke : List (List Int)) (first : List Int) : Nat → List Int
  | 0 => first
  | k + 1 => enc ke (Bl ke first k)
theorem Bl_len {ke : List (List Int)} {first : List Int} (h : first.length = 16) : ∀ k, (Bl ke first k).length = 16
  | 0 => h
  | _ + 1 => enc_len
theorem Bl_in {ke : List (List Int)} {first : List Int} (h : Bytes first) : ∀ k, Bytes (Bl ke first k)
  | 0 => h
  | _ + 1 => enc_in
noncomputable def ksO (ke : List (List Int)) (first : List Int) (p : Nat) : Int := (Bl ke first (p / 16 + 1)).getD (p % 16) 0
noncomputable def ksC (ke : List (List Int)) (start : Int) (p : Nat) : Int := (enc ke (cnt (start + (p / 16 : Nat)))).getD (p % 16) 0
theorem ksO_in {ke : List (List Int)} {first : List Int} (p : Nat) : 0 ≤ ksO ke first p ∧ ksO ke first p < 256 := (enc_in (ke := ke) (ns := Bl ke first (p / 16))) (p % 16)
theorem ksC_in {ke : List (List Int)} {start : Int} (p : Nat) : 0 ≤ ksC ke start p ∧ ksC ke start p < 256 := (enc_in (ke := ke)) (p % 16)
theorem nat_bits : ∀ (n a b : Nat), a < 2 ^ n → b < 2 ^ n → a + b = (a ^^^ b) + 2 * (a &&& b)
  | 0, a, b, ha, hb => by
    have : a = 0 := by simpa using ha
    have : b = 0 := by simpa using hb
    subst_vars
    rfl
  | n + 1, a, b, ha, hb => by
    have ih := nat_bits n (a / 2) (b / 2) (by rw [Nat.pow_succ] at ha; omega) (by rw [Nat.pow_succ] at hb; omega)
    rw [← Nat.xor_div_two, ← Nat.and_div_two] at ih
    have h1 : (a ^^^ b) % 2 = (a % 2) ^^^ (b % 2) := Nat.xor_mod_two_pow (n := 1)
    have h2 : (a &&& b) % 2 = (a % 2) &&& (b % 2) := Nat.and_mod_two_pow (n := 1)
    rcases Nat.mod_two_eq_zero_or_one a with ea | ea <;> rcases Nat.mod_two_eq_zero_or_one b with eb | eb <;> rw [ea, eb] at h1 h2 <;> simp only [show (0 : Nat) ^^^ 0 = 0 from rfl, show (0 : Nat) ^^^ 1 = 1 from rfl, show (1 : Nat) ^^^ 0 = 1 from rfl, show (1 : Nat) ^^^ 1 = 0 from rfl, show (0 : Nat) &&& 0 = 0 from rfl, show (0 : Nat) &&& 1 = 0 from rfl, show (1 : Nat) &&& 0 = 0 from rfl, show (1 : Nat) &&& 1 = 1 from rfl] at h1 h2 <;> omega
theorem xor_nat (a b : Nat) : Builtin.bitXor (a : Int) (b : Int) = ((a ^^^ b : Nat) : Int) := by
  rw [bitXor_and]
  have e : Builtin.bitAnd (a : Int) (b : Int) = ((a &&& b : Nat) : Int) := by
    unfold Builtin.bitAnd
    simp
  have h := nat_bits (max a b + 1) a b (Nat.lt_trans (Nat.lt_of_le_of_lt (Nat.le_max_left a b) (Nat.lt_succ_self _)) Nat.lt_two_pow_self) (Nat.lt_trans (Nat.lt_of_le_of_lt (Nat.le_max_right a b) (Nat.lt_succ_self _)) Nat.lt_two_pow_self)
  rw [e]
  omega
/-- mixed twice with one octet: the same -/
theorem xor_back {a k : Int} (ha : 0 ≤ a) (hk : 0 ≤ k) : Builtin.bitXor (Builtin.bitXor a k) k = a := by
  obtain ⟨x, rfl⟩ := Int.eq_ofNat_of_zero_le ha
  obtain ⟨y, rfl⟩ := Int.eq_ofNat_of_zero_le hk
  rw [xor_nat, xor_nat, Nat.xor_assoc, Nat.xor_self, Nat.xor_zero]
theorem xor_pair {a b k : Int} (ha : 0 ≤ a) (hb : 0 ≤ b) (hk : 0 ≤ k) : Builtin.bitXor (Builtin.bitXor a k) (Builtin.bitXor b k) = Builtin.bitXor a b := by
  obtain ⟨x, rfl⟩ := Int.eq_ofNat_of_zero_le ha
  obtain ⟨y, rfl⟩ := Int.eq_ofNat_of_zero_le hb
  obtain ⟨z, rfl⟩ := Int.eq_ofNat_of_zero_le hk
  simp only [xor_nat]
  congr 1
  rw [Nat.xor_comm y z, Nat.xor_assoc, ← Nat.xor_assoc z z y, Nat.xor_self, Nat.zero_xor]
theorem xor_in {a b : Int} (ha : 0 ≤ a ∧ a < 256) (hb : 0 ≤ b ∧ b < 256) : 0 ≤ Builtin.bitXor a b ∧ Builtin.bitXor a b < 256 := by
  obtain ⟨x, rfl⟩ := Int.eq_ofNat_of_zero_le ha.1
  obtain ⟨y, rfl⟩ := Int.eq_ofNat_of_zero_le hb.1
  rw [xor_nat]
  have : x ^^^ y < 2 ^ 8 := Nat.xor_lt_two_pow (by omega) (by omega)
  omega
theorem strm_in {ks : Nat → Int} (hk : ∀ p, 0 ≤ ks p ∧ ks p < 256) : ∀ (l : List Int) (p : Nat), (∀ x ∈ l, 0 ≤ x ∧ x < 256) → ∀ x ∈ strm ks p l, 0 ≤ x ∧ x < 256
  | [], _, _, x, h => nomatch h
  | d :: r, p, hl, x, h => by
    rcases List.mem_cons.mp h with rfl | h
    · exact xor_in (hl d (.head _)) (hk p)
    · exact strm_in hk r (p + 1) (fun y hy => hl y (.tail _ hy)) x h
theorem strm_back {ks : Nat → Int} (hk : ∀ p, 0 ≤ ks p ∧ ks p < 256) : ∀ (l : List Int) (p : Nat), (∀ x ∈ l, 0 ≤ x ∧ x < 256) → strm ks p (strm ks p l) = l
  | [], _, _ => rfl
  | d :: r, p, hl => by
    rw [strm, strm, strm_back hk r (p + 1) fun y hy => hl y (.tail _ hy), xor_back (hl d (.head _)).1 (hk p).1]
theorem strm_pair {ks : Nat → Int} (hk : ∀ p, 0 ≤ ks p ∧ ks p < 256) : ∀ (a b : List Int) (p : Nat), (∀ x ∈ a, 0 ≤ x ∧ x < 256) → (∀ x ∈ b, 0 ≤ x ∧ x < 256) → List.zipWith Builtin.bitXor (strm ks p a) (strm ks p b) = List.zipWith Builtin.bitXor a b
  | [], b, _, _, _ => by simp [strm]
  | x :: r, [], _, _, _ => by simp [strm]
  | x :: r, y :: s, p, ha, hb => by
    rw [strm, strm, List.zipWith_cons_cons, List.zipWith_cons_cons, strm_pair hk r s (p + 1) (fun z hz => ha z (.tail _ hz)) fun z hz => hb z (.tail _ hz), xor_pair (ha x (.head _)).1 (hb y (.head _)).1 (hk p).1]
end
theorem rs37 : True ∧ True := by
  w_top off
  first | (walk1; fail) | exact ⟨trivial, trivial⟩
section
local macro_rules | `(tactic| walk_at "call builtin:list.append") => `(tactic| k_extra "y19")
theorem ite_beq_ne {x c : Int} {P R : Prop} (h : x ≠ c) (q : R) : if (x == c) = true then P else R := by
  simpa [h] using q
theorem ite_beq_eq {x c : Int} {P R : Prop} (h : x = c) (q : P) : if (x == c) = true then P else R := by
  simpa [h] using q
local macro_rules | `(tactic| walk_at "ite") => `(tactic| k_extra "y44")
local macro_rules | `(tactic| k_handed) => `(tactic| assumption)
local macro_rules | `(tactic| walk_at "call builtin:list.pop") => `(tactic| k_extra "y45")
/-- the last block of an OFB object: bytes at the start, a list of the ledger behind it -/
noncomputable def Vst (lp : List (Addr × Obj)) (v : Value) (B : List Int) (j : Nat) : Prop := (∃ b t, v = .bytes b t ∧ KBw.bInts b = B ∧ j = 16 ∧ lp = []) ∨ ∃ l lv el, v = .ref l ∧ lp = [(l, listOf lv.toArray el)] ∧ IntsAre lv (B.take j)
theorem Vst.blk {lp news : List (Addr × Obj)} {v : Value} {B : List Int} (h : Vst lp v B 16) (hB : B.length = 16) (hs : ∀ p ∈ lp, p ∈ news) : BlkV news v B := by
  rcases h with ⟨b, t, e, hb, _, _⟩ | ⟨l, lv, el, e, hl, hi⟩
  · exact .inl ⟨b, t, e, hb⟩
  · rw [List.take_of_length_le (by omega)] at hi
    exact .inr ⟨l, lv, el, e, hs _ (by rw [hl]; exact .head _), hi⟩
theorem Vst.handed {lp : List (Addr × Obj)} {v : Value} {B : List Int} {j : Nat} (h : Vst lp v B j) : handedIn v = true := by
  rcases h with ⟨b, t, rfl, _⟩ | ⟨l, lv, el, rfl, _⟩ <;> rfl
theorem perm6 {h₀ h : Heap} {L : Addr} {a b i c r d : Addr × Obj} (N : News h₀ L h [a, b, i, c, r, d]) : News h₀ L h ([c, b, d, a] ++ [i]) := fun p hp => N p (by
  simp only [List.mem_append, List.mem_cons, List.not_mem_nil, or_false] at hp ⊢
  rcases hp with (h | h | h | h) | h <;> simp [h])
theorem perm5 {h₀ h : Heap} {L : Addr} {i c r d a : Addr × Obj} (N : News h₀ L h [i, c, r, d, a]) : News h₀ L h ([c, r, d, a] ++ [i]) := fun p hp => N p (by
  simp only [List.mem_append, List.mem_cons, List.not_mem_nil, or_false] at hp ⊢
  rcases hp with (h | h | h | h) | h <;> simp [h])
noncomputable def ofbBody : List Stmt := stB (fB (M 15 2))
noncomputable def ofbScope : Scope := fS (M 15 2)
noncomputable def ofbTurn : List Stmt := match ofbBody.drop 1 with | .For _ _ b _ _ :: _ => b | _ => []
section
variable {w : World} {dp un : Nat} {fr : Option (List Env)} {gd : Option (List Code)} {s : Shared} {mg mb : Str → Option Value} {lo : List Str} {h₀ : Heap}
theorem ofb_turn1 {x d xa e rm I L : Addr} {m : Str → Option Value} {hA hB hC : Int} {tA tB tC t : Tok} {v : Value} {ke : List (List Int)} {B : List Int} {ev rv : List Value} {es : List Int} {ee er : Nat} {io : Obj} {lp : List (Addr × Obj)} {k : Int} {Q : Flow → Shared → Prop}
    (X : (K w.params).In h₀) (T : TopRead q lo mg mb h₀) (hdp : dp < 400) (hx : h₀.get? x = some (instObj 409 d)) (ha : AesAt h₀ xa ke) (hk1 : 2 ≤ ke.length) (hk2 : ke.length ≤ 20) (hBl : B.length = 16) (hBb : Bytes B)
    (hv : Vst lp v B 16) (hi : IntsAre ev es) (hir : IntsAre rv []) (hel : es.length ≤ 1000)
    (hne : @Ne Nat I e ∧ @Ne Nat I rm ∧ @Ne Nat I d ∧ @Ne Nat e rm ∧ @Ne Nat e d ∧ @Ne Nat rm d) (hlp : ∀ p ∈ lp, p.1 ≠ d)
    (F : Fr h₀ L s.heap (fun y => if y = "p" then some (.int k t) else kstB m [("self", .ref x), ("encrypted", .ref e)] y))
    (N : News h₀ L s.heap ((I, io) :: (e, listOf ev.toArray ee) :: (rm, listOf rv.toArray er) :: (d, dictOf [⟨hA, .str "_last_precipherblock" tA, v⟩, ⟨hB, .str "_remaining_block" tB, .ref rm⟩, ⟨hC, .str "_aes" tC, .ref xa⟩] 3) :: lp))
    (done : ∀ h' tk' m' rm' rv' er' l' lv' el' y, Fr h₀ L h' m' → m' "self" = some (.ref x) → m' "encrypted" = some (.ref e) → News h₀ L h' ([(e, listOf (ev ++ [y]).toArray (ee + 1)), (rm', listOf rv'.toArray er'), (d, dictOf [⟨hA, .str "_last_precipherblock" tA, .ref l'⟩, ⟨hB, .str "_remaining_block" tB, .ref rm'⟩, ⟨hC, .str "_aes" tC, .ref xa⟩] 3), (l', listOf lv'.toArray el')] ++ [(I, io)]) →
      IntsAre (ev ++ [y]) (es ++ [Builtin.bitXor k ((enc ke B).getD 0 0)]) → IntsAre rv' (enc ke B).tail → IntsAre lv' [(enc ke B).getD 0 0] → (@Ne Nat e rm' ∧ @Ne Nat rm' d ∧ @Ne Nat rm' I) → (@Ne Nat l' e ∧ @Ne Nat l' rm' ∧ @Ne Nat l' d ∧ @Ne Nat l' I) → Q .next { s with heap := h', toks := tk' }) :
    wpAny (model pw w) ((Ar dp un fr gd).deeper (envOf "AESModeOfOperationOFB.encrypt" ofbScope L 399 (.ref 398))) (execs ofbTurn (envOf "AESModeOfOperationOFB.encrypt" ofbScope L 399 (.ref 398))) Q (fun _ _ => False) s := by
  refine with_scope (sc := ofbScope) (P := fun sc => wpAny (model pw w) ((Ar dp un fr gd).deeper (envOf "AESModeOfOperationOFB.encrypt" sc L 399 (.ref 398))) (execs ofbTurn (envOf "AESModeOfOperationOFB.encrypt" sc L 399 (.ref 398))) Q (fun _ _ => False) s) rfl ?_
  refine with_list (P := fun l => wpAny (model pw w) _ (execs l _) Q (fun _ _ => False) s) rfl ?_
  dsimp only [kstB] at F
  have hh := hv.handed
  have hbl := hv.blk (news := (I, io) :: (e, listOf ev.toArray ee) :: (rm, listOf rv.toArray er) :: (d, dictOf [⟨hA, .str "_last_precipherblock" tA, v⟩, ⟨hB, .str "_remaining_block" tB, .ref rm⟩, ⟨hC, .str "_aes" tC, .ref xa⟩] 3) :: lp) hBl fun p hp => .tail _ (.tail _ (.tail _ (.tail _ hp)))
  have ha' := ha
  refine Classical.byContradiction fun hng => ?_
  obtain ⟨da, ka, kb, g1, g2, g3, g4, g5, hxa, hda, hro⟩ := ha
  refine hng ?_
  clear hng
  have hl0 : rv.length = 0 := hir.length
  repeat (first | (k_unfold; (try dsimp only)) | walk1 | (dsimp only; walk1))
  refine enc_call (by k_asm) N X T (by show dp + 1 < 650; omega) ha' hk1 hk2 hbl hBl hBb ?_
  intro h2 tk2 D rvD erD F2 N2 ap hiD
  have nI : @Ne Nat I D := ap (I, io) (.head _)
  have nE : @Ne Nat e D := ap (e, _) (.tail _ (.head _))
  have nR : @Ne Nat rm D := ap (rm, _) (.tail _ (.tail _ (.head _)))
  have nDd : @Ne Nat d D := ap (d, _) (.tail _ (.tail _ (.tail _ (.head _))))
  have N3 : News h₀ L h2 [(D, listOf rvD.toArray erD), (I, io), (e, listOf ev.toArray ee), (rm, listOf rv.toArray er), (d, dictOf [⟨hA, .str "_last_precipherblock" tA, v⟩, ⟨hB, .str "_remaining_block" tB, .ref rm⟩, ⟨hC, .str "_aes" tC, .ref xa⟩] 3)] := fun p hp => N2 p (by
    simp only [List.mem_cons, List.not_mem_nil, or_false] at hp ⊢
    rcases hp with h | h | h | h | h <;> simp [h])
  clear N2 N
  have hD16 : (enc ke B).length = 16 := enc_len
  have hev := hi.length
  repeat (first | (k_unfold; (try dsimp only)) | walk1 | (dsimp only; walk1))
  (rename Fr _ _ _ _ => F9); (rename News _ _ _ _ => N9); (rename (_ < _ ∧ _ < _ ∧ _ < _ ∧ _ < _ ∧ _ < _) => l9); (rename IntsAre _ (List.tail _) => ht)
  exact done _ _ _ D rvD.tail _ _ _ _ _ F9 rfl rfl (perm6 N9) (ints_app hi (.cons _ _ .nil)) ht (.cons _ _ .nil) ⟨nE, nDd.symm, nI.symm⟩ ⟨Nat.ne_of_gt l9.2.2.1, Nat.ne_of_gt l9.1, Nat.ne_of_gt l9.2.2.2.2, Nat.ne_of_gt l9.2.1⟩
theorem ofb_turn2 {x d xa e rm lp I L : Addr} {m : Str → Option Value} {hA hB hC : Int} {tA tB tC t : Tok} {ev rv lv : List Value} {es rs ls : List Int} {ee er el : Nat} {io : Obj} {k : Int} {Q : Flow → Shared → Prop}
    (X : (K w.params).In h₀) (T : TopRead q lo mg mb h₀) (hdp : dp < 400) (hx : h₀.get? x = some (instObj 409 d))
    (hi : IntsAre ev es) (hir : IntsAre rv rs) (hil : IntsAre lv ls) (hrn : 0 < rs.length) (hrz : rs.length ≤ 16) (hel : es.length ≤ 1000) (hll : ls.length ≤ 16)
    (hne : @Ne Nat I e ∧ @Ne Nat I rm ∧ @Ne Nat I d ∧ @Ne Nat e rm ∧ @Ne Nat e d ∧ @Ne Nat rm d) (hlp : @Ne Nat lp I ∧ @Ne Nat lp e ∧ @Ne Nat lp rm ∧ @Ne Nat lp d)
    (F : Fr h₀ L s.heap (fun y => if y = "p" then some (.int k t) else kstB m [("self", .ref x), ("encrypted", .ref e)] y))
    (N : News h₀ L s.heap [(I, io), (e, listOf ev.toArray ee), (rm, listOf rv.toArray er), (d, dictOf [⟨hA, .str "_last_precipherblock" tA, .ref lp⟩, ⟨hB, .str "_remaining_block" tB, .ref rm⟩, ⟨hC, .str "_aes" tC, .ref xa⟩] 3), (lp, listOf lv.toArray el)])
    (done : ∀ h' tk' m' rv' er' lv' el' y, Fr h₀ L h' m' → m' "self" = some (.ref x) → m' "encrypted" = some (.ref e) → News h₀ L h' ([(e, listOf (ev ++ [y]).toArray (ee + 1)), (rm, listOf rv'.toArray er'), (d, dictOf [⟨hA, .str "_last_precipherblock" tA, .ref lp⟩, ⟨hB, .str "_remaining_block" tB, .ref rm⟩, ⟨hC, .str "_aes" tC, .ref xa⟩] 3), (lp, listOf lv'.toArray el')] ++ [(I, io)]) →
      IntsAre (ev ++ [y]) (es ++ [Builtin.bitXor k (rs.getD 0 0)]) → IntsAre rv' rs.tail → IntsAre lv' (ls ++ [rs.getD 0 0]) → Q .next { s with heap := h', toks := tk' }) :
    wpAny (model pw w) ((Ar dp un fr gd).deeper (envOf "AESModeOfOperationOFB.encrypt" ofbScope L 399 (.ref 398))) (execs ofbTurn (envOf "AESModeOfOperationOFB.encrypt" ofbScope L 399 (.ref 398))) Q (fun _ _ => False) s := by
  refine with_scope (sc := ofbScope) (P := fun sc => wpAny (model pw w) ((Ar dp un fr gd).deeper (envOf "AESModeOfOperationOFB.encrypt" sc L 399 (.ref 398))) (execs ofbTurn (envOf "AESModeOfOperationOFB.encrypt" sc L 399 (.ref 398))) Q (fun _ _ => False) s) rfl ?_
  refine with_list (P := fun l => wpAny (model pw w) _ (execs l _) Q (fun _ _ => False) s) rfl ?_
  dsimp only [kstB] at F
  have hev := hi.length
  have hrv := hir.length
  have hlv := hil.length
  repeat (first | (k_unfold; (try dsimp only)) | walk1 | (dsimp only; walk1))
  (rename Fr _ _ _ _ => F9); (rename News _ _ _ _ => N9); (rename IntsAre _ (List.tail _) => ht)
  exact done _ _ _ _ _ _ _ _ F9 rfl rfl (perm5 N9) (ints_app hi (.cons _ _ .nil)) ht (ints_app hil (.cons _ _ .nil))
end
end
theorem rs38 : True ∧ True := by
  w_top off
  first | (walk1; fail) | exact ⟨trivial, trivial⟩
section

section
variable {w : World} {dp un : Nat} {fr : Option (List Env)} {gd : Option (List Code)} {s : Shared} {mg mb : Str → Option Value} {lo : List Str} {h₀ : Heap}
theorem sb_call' {L : Addr} {m : Str → Option Value} {news : List (Addr × Obj)} {bs : Array UInt8} {tb : Tok} {Q : Value → Shared → Prop} {E : Value → Shared → Prop}
    (F : Fr h₀ L s.heap m) (N : News h₀ L s.heap news) (X : (K w.params).In h₀) (T : TopRead q lo mg mb h₀) (hd : dp < 900)
    (h : ∀ h' tk', Fr h₀ L h' m → News h₀ L h' news → Q (.bytes bs tb) { s with heap := h', toks := tk' }) :
    wpAny (model pw w) (Ar dp un fr gd) (call (.ref 33) [.bytes bs tb]) Q E s := sb_call F N X T hd h
theorem bs_call {L l : Addr} {m : Str → Option Value} {news : List (Addr × Obj)} {vs : List Value} {ns : List Int} {n : Nat} {Q : Value → Shared → Prop} {E : Value → Shared → Prop}
    (F : Fr h₀ L s.heap m) (N : News h₀ L s.heap news) (X : (K w.params).In h₀) (T : TopRead q lo mg mb h₀) (hd : dp < 900) (hm : (l, listOf vs.toArray n) ∈ news) (hi : IntsAre vs ns) (hb : Bytes ns) (hz : ns.length ≤ 1000)
    (h : ∀ h' tk' bs t, Fr h₀ L h' m → News h₀ L h' news → Kp s.heap h' → KBw.bInts bs = ns → Q (.bytes bs t) { s with heap := h', toks := tk' }) :
    wpAny (model pw w) (Ar dp un fr gd) (call (.ref 40) [.ref l]) Q E s :=
  wpAny_call (bs_spec (X.keeps F.keep) (T.keeps F.keep) hd (IsL.isList (n := n) (N _ hm).1) hi hb hz fun h' tk' bs t kp e => h h' tk' bs t (frKp F kp) (newsKp N kp) kp e)
end
local macro_rules | `(tactic| walk_at "call ref") => `(tactic| k_extra "y43")
theorem q16 {p i k j : Nat} (h : p + i + 16 = 16 * k + j) (hj : j < 16) : (p + i) / 16 + 1 = k ∧ (p + i) % 16 = j := ⟨by omega, by omega⟩
theorem q16' {p i k : Nat} (h : p + i + 16 = 16 * k + 16) : (p + i) / 16 = k ∧ (p + i) % 16 = 0 := ⟨by omega, by omega⟩
/-- an output feedback object at a place of its stream -/
inductive OfbSt (ke : List (List Int)) (first : List Int) (x : Addr) (mu con : List (Addr × Obj)) (p : Nat) : Prop
  | mk : ∀ d xa rm hA hB hC tA tB tC v rv er lp k j, (mu = (rm, listOf (rv : List Value).toArray er) :: (d, dictOf [⟨hA, .str "_last_precipherblock" tA, v⟩, ⟨hB, .str "_remaining_block" tB, .ref rm⟩, ⟨hC, .str "_aes" tC, .ref xa⟩] 3) :: lp) → ((x, instObj 409 d) ∈ con) → (AesIn con xa ke) → (IntsAre rv ((Bl ke first k).drop j)) → (Vst lp v (Bl ke first k) j) → (p + 16 = 16 * k + j) → (j ≤ 16) → (@Ne Nat rm d) → (∀ z ∈ lp, @Ne Nat z.1 rm ∧ @Ne Nat z.1 d) → OfbSt ke first x mu con p
section
variable {w : World} {dp un : Nat} {fr : Option (List Env)} {gd : Option (List Code)} {s : Shared} {mg mb : Str → Option Value} {lo : List Str} {h₀ : Heap}
theorem ofb_enc {R : Result → Shared → Prop} {ke : List (List Int)} {first data : List Int} {x : Addr} {mu con : List (Addr × Obj)} {p : Nat} {bs : Array UInt8} {tb : Tok}
    (KP : Kp h₀ s.heap) (hsz : h₀.objs.size ≤ s.heap.objs.size) (X : (K w.params).In h₀) (T : TopRead q lo mg mb h₀) (hdp : dp < 390)
    (hc : AtH h₀ con) (hm : ∀ z ∈ mu, s.heap.get? z.1 = some z.2 ∧ h₀.get? z.1 = none) (St : OfbSt ke first x mu con p) (hk1 : 2 ≤ ke.length) (hk2 : ke.length ≤ 20) (hfl : first.length = 16) (hfb : Bytes first)
    (hi : KBw.bInts bs = data) (hz : data.length ≤ 900)
    (hR : ∀ h' tk' mu' bs' t', Kp h₀ h' → (∀ z ∈ mu', h'.get? z.1 = some z.2 ∧ h₀.get? z.1 = none) → OfbSt ke first x mu' con (p + data.length) → KBw.bInts bs' = strm (ksO ke first) p data → R (.ok (.ret (.bytes bs' t'))) { s with heap := h', toks := tk' }) :
    codeAny (model pw w) (Ar dp un fr gd) (.call (.ref 399) ⟨[.ref x, .bytes bs tb], []⟩) R s := by
  refine Classical.byContradiction fun hng => ?_
  obtain ⟨d, xa, rm, hA, hB, hC, tA, tB, tC, v, rv, er, lp, k, j, rfl, hxc, hai, hir, hv, hp, hj, hrd, hlp⟩ := St
  refine hng ?_
  clear hng
  have hx := hc _ hxc
  dsimp only at hx
  have ha := hai h₀ hc
  refine enterN (binds := [("self", .ref x), ("plaintext", .bytes bs tb)]) (news := (rm, listOf rv.toArray er) :: (d, dictOf [⟨hA, .str "_last_precipherblock" tA, v⟩, ⟨hB, .str "_remaining_block" tB, .ref rm⟩, ⟨hC, .str "_aes" tC, .ref xa⟩] 3) :: lp) KP hsz hm X T (by omega) rfl (by kernel_rfl) (BindsTo.of_eq rfl) (by decide) rfl ?_
  intro L h₁ tk F N l1
  repeat ((fail_if_success (with_reducible show wpAny _ _ (pyIter _) _ _ _)); (first | (k_unfold; (try dsimp only)) | walk1 | (dsimp only; walk1)))
  (rename Fr _ _ _ _ => F2); (rename News _ _ _ _ => N2); (rename (_ < _ ∧ _ < _ ∧ AllLt _ _) => l9); rename_i e _ _ _ _
  have hal := allLt_mem l9.2.2
  refine bytes_J (J := fun i m nx => ∃ ev ee v rm rv er lp k j, nx = (e, listOf (ev : List Value).toArray ee) :: (rm, listOf (rv : List Value).toArray er) :: (d, dictOf [⟨hA, .str "_last_precipherblock" tA, v⟩, ⟨hB, .str "_remaining_block" tB, .ref rm⟩, ⟨hC, .str "_aes" tC, .ref xa⟩] 3) :: lp ∧ m "self" = some (.ref x) ∧ m "encrypted" = some (.ref e) ∧ IntsAre ev (strm (ksO ke first) p (data.take i)) ∧ IntsAre rv ((Bl ke first k).drop j) ∧ Vst lp v (Bl ke first k) j ∧ p + i + 16 = 16 * k + j ∧ j ≤ 16 ∧ @Ne Nat e rm ∧ @Ne Nat e d ∧ @Ne Nat rm d ∧ ∀ z ∈ lp, @Ne Nat z.1 e ∧ @Ne Nat z.1 rm ∧ @Ne Nat z.1 d) hi rfl F2 N2 ?h0 ?turn ?done
  case h0 => exact ⟨[], 0, v, rm, rv, er, lp, k, j, rfl, rfl, rfl, .nil, hir, hv, hp, hj, Nat.ne_of_gt l9.1, Nat.ne_of_gt l9.2.1, hrd, fun z hz => ⟨Nat.ne_of_lt (hal z hz), hlp z hz⟩⟩
  case turn =>
    intro i kk t m₁ nx h tk I io hg hk0 hk9 hJz hI F5 N5
    refine Classical.byContradiction fun hng => ?_
    obtain ⟨ev, ee, v, rm, rv, er, lp, k, j, rfl, ms, me, hie, hir, hv, hp, hj, ne1, ne2, ne3, nel⟩ := hJz
    refine hng ?_
    clear hng
    have hi9 : i < data.length := (List.getElem?_eq_some_iff.mp hg).1
    have em : kstB m₁ [(Str.ofString "self", Value.ref x), ("encrypted", .ref e)] = m₁ := funext fun z => kstB_eq (fcons ms (fcons me fnil)) fun _ => rfl
    rw [← em] at F5
    have hBl := Bl_len (ke := ke) hfl k
    have hel : (strm (ksO ke first) p (data.take i)).length ≤ 1000 := by rw [strm_len, List.length_take]; omega
    have iE : @Ne Nat I e := fun q => hI _ (.head _) q.symm
    have iR : @Ne Nat I rm := fun q => hI _ (.tail _ (.head _)) q.symm
    have iD : @Ne Nat I d := fun q => hI _ (.tail _ (.tail _ (.head _))) q.symm
    by_cases h16 : j = 16
    · subst h16
      have N6 : News h₀ L h ((I, io) :: (e, listOf ev.toArray ee) :: (rm, listOf rv.toArray er) :: (d, dictOf [⟨hA, .str "_last_precipherblock" tA, v⟩, ⟨hB, .str "_remaining_block" tB, .ref rm⟩, ⟨hC, .str "_aes" tC, .ref xa⟩] 3) :: lp) := fun z hz => by
        rcases List.mem_cons.mp hz with rfl | hz
        · exact N5 _ (List.mem_append.mpr (.inr (.head _)))
        · exact N5 _ (List.mem_append.mpr (.inl hz))
      refine ofb_turn1 X T (by show dp + 0 < 400; omega) hx ha hk1 hk2 hBl (Bl_in hfb k) hv hie (ints_eq hir (List.drop_of_length_le (by omega))) hel ⟨iE, iR, iD, ne1, ne2, ne3⟩ (fun z hz => (nel z hz).2.2) F5 N6 ?_
      intro h' tk' m' rm' rv' er' l' lv' el' y F9 ms' me' N9 q1 q2 q3 q4 q5
      have e1 : (p + i) / 16 = k := (q16' (by assumption)).1
      have e2 : (p + i) % 16 = 0 := (q16' (by assumption)).2
      have ek : ksO ke first (p + i) = (enc ke (Bl ke first k)).getD 0 0 := by unfold ksO; rw [e1, e2]; rfl
      refine TurnEnd.intro F9 N9 (fun z hz => hz) (fun z hz => ?_) ⟨_, _, _, rm', rv', er', [(l', listOf lv'.toArray el')], k + 1, 1, rfl, ms', me', by rw [strm_take hg, ek]; exact q1, by rw [show Bl ke first (k + 1) = enc ke (Bl ke first k) from rfl, List.drop_one]; exact q2, .inr ⟨l', lv', el', rfl, rfl, ?_⟩, by omega, by omega, q4.1, ne2, q4.2.1, fun z hz => ?_⟩
      · simp only [List.mem_cons, List.not_mem_nil, or_false] at hz
        rcases hz with rfl | rfl | rfl | rfl
        · exact fun q => iE q.symm
        · exact q4.2.2
        · exact fun q => iD q.symm
        · exact q5.2.2.2
      · refine ints_eq q3 ?_
        have hl := enc_len (ke := ke) (ns := Bl ke first k)
        show _ = (enc ke (Bl ke first k)).take 1
        match hh : enc ke (Bl ke first k), hl with
        | a :: r, _ => rfl
      · rw [List.mem_singleton.mp hz]; exact ⟨q5.1, q5.2.1, q5.2.2.1⟩
    · rcases hv with ⟨_, _, _, _, q, _⟩ | ⟨l, lv, el, rfl, rfl, hil⟩
      · exact absurd q h16
      have N6 : News h₀ L h [(I, io), (e, listOf ev.toArray ee), (rm, listOf rv.toArray er), (d, dictOf [⟨hA, .str "_last_precipherblock" tA, .ref l⟩, ⟨hB, .str "_remaining_block" tB, .ref rm⟩, ⟨hC, .str "_aes" tC, .ref xa⟩] 3), (l, listOf lv.toArray el)] := fun z hz => by
        rcases List.mem_cons.mp hz with rfl | hz
        · exact N5 _ (List.mem_append.mpr (.inr (.head _)))
        · exact N5 _ (List.mem_append.mpr (.inl hz))
      have nl := nel _ (.head _)
      have iL : @Ne Nat l I := hI _ (.tail _ (.tail _ (.tail _ (.head _))))
      refine ofb_turn2 X T (by show dp + 0 < 400; omega) hx hie hir hil (by rw [List.length_drop]; omega) (by rw [List.length_drop]; omega) hel (by rw [List.length_take]; omega) ⟨iE, iR, iD, ne1, ne2, ne3⟩ ⟨iL, nl.1, nl.2.1, nl.2.2⟩ F5 N6 ?_
      intro h' tk' m' rv' er' lv' el' y F9 ms' me' N9 q1 q2 q3
      have e1 : (p + i) / 16 + 1 = k := (q16 (by assumption) (Nat.lt_of_le_of_ne (by assumption) (by assumption))).1
      have e2 : (p + i) % 16 = j := (q16 (by assumption) (Nat.lt_of_le_of_ne (by assumption) (by assumption))).2
      have ed : ((Bl ke first k).drop j).getD 0 0 = (Bl ke first k).getD j 0 := by simp [List.getD]
      have ek : ksO ke first (p + i) = ((Bl ke first k).drop j).getD 0 0 := by unfold ksO; rw [e1, e2, ed]
      refine TurnEnd.intro F9 N9 (fun z hz => hz) (fun z hz => ?_) ⟨_, _, _, rm, rv', er', [(l, listOf lv'.toArray el')], k, j + 1, rfl, ms', me', by rw [strm_take hg, ek]; exact q1, ints_eq q2 (List.tail_drop ..), .inr ⟨l, lv', el', rfl, rfl, ints_eq q3 ?_⟩, by omega, by omega, ne1, ne2, ne3, fun z hz => ?_⟩
      · simp only [List.mem_cons, List.not_mem_nil, or_false] at hz
        rcases hz with rfl | rfl | rfl | rfl
        · exact fun q => iE q.symm
        · exact fun q => iR q.symm
        · exact fun q => iD q.symm
        · exact iL
      · rw [ed, getD_get (by omega), List.take_append_getElem]
      · rw [List.mem_singleton.mp hz]; exact nl
  case done =>
    intro m9 nx h9 tk hJz F5 N5
    refine Classical.byContradiction fun hng => ?_
    obtain ⟨ev, ee, v, rm, rv, er, lp, k, j, rfl, ms, me, hie, hir, hv, hp, hj, ne1, ne2, ne3, nel⟩ := hJz
    refine hng ?_
    clear hng
    rw [List.take_length] at hie
    have em : kstB m9 [(Str.ofString "self", Value.ref x), ("encrypted", .ref e)] = m9 := funext fun z => kstB_eq (fcons ms (fcons me fnil)) fun _ => rfl
    rw [← em] at F5
    dsimp only [kstB] at F5
    have hsb : Bytes (strm (ksO ke first) p data) := Bytes.of_mem (strm_in ksO_in data p fun z hz => KBw.ints_in (b := bs) (by rw [hi]; exact hz))
    clear F2 N2
    repeat (first | (k_unfold; (try dsimp only)) | walk1 | (dsimp only; walk1))
    refine bs_call (by k_asm) N5 X T (by show dp + 1 < 900; omega) (.head _) hie hsb (by rw [strm_len]; omega) ?_
    intro h2 tk2 bs2 t2 F6 N6 k6 e6
    exact hR h2 tk2 _ bs2 t2 F6.keep (fun z hz => ⟨(N6 z (.tail _ hz)).1, (N6 z (.tail _ hz)).2.2⟩) ⟨d, xa, rm, hA, hB, hC, tA, tB, tC, v, rv, er, lp, k, j, rfl, hxc, hai, hir, hv, by omega, hj, ne3, fun z hz => (nel z hz).2⟩ e6
end
end
theorem rs39 : True ∧ True := by
  w_top off
  first | (walk1; fail) | exact ⟨trivial, trivial⟩
section
open PySem PySem.W PySem.Calls PyProof.Rows PyProof.Rows.LCg
section
variable {w : World} {A : Around} {E : Value → Shared → Prop} {s : Shared} {b : Array UInt8} {t : Tok}
theorem nextOf_bytes {it : Addr} {i : Nat} {c : UInt8} {Q : Value → Shared → Prop} (hit : KBw.IsBytesIter s.heap it b t i) (hx : b[i]? = some c)
    (hQ : ∀ h', KBw.IsBytesIter h' it b t (i + 1) → Heap.SameBut it s.heap h' → Q (.int (c.toNat : Int) s.toks) { s with heap := h', toks := s.toks + 1 }) : wpAny (model pw w) A (Builtin.SmallTypes.nextOf (.ref it)) Q E s := by
  refine Classical.byContradiction fun hng => ?_
  obtain ⟨o, ho, hc, hd⟩ := id hit
  refine hng ?_
  clear hng
  unfold Builtin.SmallTypes.nextOf
  refine wpAny_bind (wpAny_callSpecial?_slot (name := PySem.Str.ofString "__next__") (KBw.iter_typeIs hit) KBw.slot_next
    (wpAny_call_entry KBw.slot_next (KBw.iter_typeIs hit) KBw.entry_next ?_ (KBw.args_next _)))
  show wpAny _ _ (field (.ref it) 0 >>= _) _ _ s
  refine wpAny_bind (wpAny_field ho hd (x := .bytes b t) rfl ?_)
  show wpAny _ _ (if (Value.bytes b t == Value.none) = true then _ else _) _ _ s
  rw [if_neg (show ¬ ((Value.bytes b t == Value.none) = true) from Bool.false_ne_true)]
  show wpAny _ _ (field (.ref it) 1 >>= _) _ _ s
  refine wpAny_bind (wpAny_field ho hd (x := .int i 0) rfl ?_)
  refine wpAny_bind (wpAny_of_eq (a := b) rfl ?_)
  simp only [Int.toNat_natCast, hx]
  refine wpAny_bind (wpAny_setField ho hd (by simp) (wpAny_bind (wpAny_mkInt (wpAny_pure ⟨_, rfl, wpAny_pure (hQ _ ?_ (Heap.SameBut.update ..))⟩))))
  exact ⟨_, Heap.get?_update_self _ ho (Obj.isFreed_of_fields (Obj.data_mapFields hd _)), (Obj.cls_mapFields ..).trans hc, by
    rw [Obj.data_mapFields hd]; simp [rawInt]⟩
theorem nextOf_bytes_end {it : Addr} {i : Nat} {Q : Value → Shared → Prop} (hh : A.handled = none) (hit : KBw.IsBytesIter s.heap it b t i) (hx : b[i]? = none)
    (hE : ∀ h' e, Heap.ExtBut it s.heap h' → (∃ o, h'.get? e = some o ∧ o.cls = .type "StopIteration") → E (.ref e) { s with heap := h' }) : wpAny (model pw w) A (Builtin.SmallTypes.nextOf (.ref it)) Q E s := by
  refine Classical.byContradiction fun hng => ?_
  obtain ⟨o, ho, hc, hd⟩ := id hit
  refine hng ?_
  clear hng
  unfold Builtin.SmallTypes.nextOf
  refine wpAny_bind (wpAny_callSpecial?_slot (name := PySem.Str.ofString "__next__") (KBw.iter_typeIs hit) KBw.slot_next
    (wpAny_call_entry KBw.slot_next (KBw.iter_typeIs hit) KBw.entry_next ?_ (KBw.args_next _)))
  show wpAny _ _ (field (.ref it) 0 >>= _) _ _ s
  refine wpAny_bind (wpAny_field ho hd (x := .bytes b t) rfl ?_)
  show wpAny _ _ (if (Value.bytes b t == Value.none) = true then _ else _) _ _ s
  rw [if_neg (show ¬ ((Value.bytes b t == Value.none) = true) from Bool.false_ne_true)]
  show wpAny _ _ (field (.ref it) 1 >>= _) _ _ s
  refine wpAny_bind (wpAny_field ho hd (x := .int i 0) rfl ?_)
  refine wpAny_bind (wpAny_of_eq (a := b) rfl ?_)
  simp only [Int.toNat_natCast, hx]
  refine wpAny_bind (wpAny_rule (wpAny_bind (wpAny_setField ho hd (by simp) ?_)))
  show wpAny _ _ (newExc (.type "StopIteration") [] >>= _) _ _ _
  refine wpAny_bind ?_
  simp only [newExc, newTuple]
  refine wpAny_bind (wpAny_newObj_type ?_ (by size_fits))
  refine wpAny_bind (m := firstArgMember _ _) (wpAny_of_eq (a := Value.none) (by first | rfl | (simp only [firstArgMember]; rfl)) ?_)
  refine wpAny_newObj_type ?_ (by size_fits)
  simp only [raiseNew]
  refine wpAny_bind (wpAny_handled ?_)
  first | rw [show A.in1.handled = none from hh] | rw [hh]
  refine wpAny_bind (wpAny_pure (wpAny_throw ?_))
  exact hE _ _ (((Heap.SameBut.update ..).extBut.push _).push _) ⟨_, Heap.get?_push_size _ rfl, rfl⟩
theorem bi_but {h h' : Heap} {it I : Addr} {i : Nat} (x : KBw.IsBytesIter h it b t i) (k : Heap.ExtBut I h h') (ne : it ≠ I) : KBw.IsBytesIter h' it b t i := let ⟨o, e, r⟩ := x; ⟨o, k _ _ ne e, r⟩
theorem bi_at {h h' : Heap} {it : Addr} {i : Nat} (x : KBw.IsBytesIter h it b t i) (k : ∀ o, h.get? it = some o → h'.get? it = some o) : KBw.IsBytesIter h' it b t i := let ⟨o, e, r⟩ := x; ⟨o, k _ e, r⟩
/-- a zip of bytes and a list: its parts lie one after the other from n on -/
structure ZB (h : Heap) (n l : Addr) (b : Array UInt8) (t : Tok) (ys : Array Value) (i : Nat) (f0 : Value) : Prop where
  z : IsZip h (n + 4) (n + 2) (n + 3) f0
  ti : IsPair h (n + 2) (.ref n) (.ref (n + 1))
  to : ∃ a c, IsPair h (n + 3) a c
  i1 : KBw.IsBytesIter h n b t i
  i2 : h.IsListIter (n + 1) l i
  hl : h.IsList l ys
  lt : @LT.lt Nat _ l n
/-- the objects that a turn changes -/
noncomputable abbrev zw (n : Addr) : List Addr := [n + 4, n + 3, n, n + 1]
theorem nw {n b : Addr} (h : b ∉ zw n) : @Ne Nat b (n + 4) ∧ @Ne Nat b (n + 3) ∧ @Ne Nat b n ∧ @Ne Nat b (n + 1) := by simpa [zw] using h
theorem nzw {n b : Addr} (h : @Ne Nat b (n + 4) ∧ @Ne Nat b (n + 3) ∧ @Ne Nat b n ∧ @Ne Nat b (n + 1)) : b ∉ zw n := fun x => by
  simp only [zw, List.mem_cons, List.not_mem_nil, or_false] at x
  rcases x with x | x | x | x
  · exact h.1 x
  · exact h.2.1 x
  · exact h.2.2.1 x
  · exact h.2.2.2 x
theorem zb_item {n l : Addr} {ys : Array Value} {i : Nat} {c : UInt8} {y : Value} {Q : Option Value → Shared → Prop} (Z : ZB s.heap n l b t ys i .none) (hx : b[i]? = some c) (hy : ys[i]? = some y)
    (hQ : ∀ h', ZB h' n l b t ys (i + 1) (rawInt s.heap.objs.size) → h'.IsTuple s.heap.objs.size #[.int (c.toNat : Int) s.toks, y] → (∀ k o, k ∉ zw n → s.heap.get? k = some o → h'.get? k = some o) → Q (some (.ref s.heap.objs.size)) { s with heap := h', toks := s.toks + 1 }) :
    wpAny (model pw w) A (pyNext (.ref (n + 4))) Q E s := by
  refine Classical.byContradiction fun hng => ?_
  obtain ⟨hz, hTI, ⟨a, a', hTO⟩, h1, h2, hl, hlt⟩ := Z
  refine hng ?_
  clear hng
  have hT : s.TypeIs (.ref (n + 4)) "zip" := ⟨_, hz, rfl⟩
  unfold pyNext
  refine wpAny_bind (wpAny_attempt (wpAny_callSpecial?_slot (name := Str.ofString "__next__") hT F.slot_zip_next (wpAny_call_entry F.slot_zip_next hT F.entry_zip_next ?_ (F.args_zip_next_1 _))))
  show wpAny _ _ (field (.ref (n + 4)) 2 >>= _) _ _ _
  refine wpAny_bind (wpAny_field hz rfl (x := .bool false) rfl ?_)
  show wpAny _ _ (field (.ref (n + 4)) 3 >>= _) _ _ _
  refine wpAny_bind (wpAny_field hz rfl (x := .ref (n + 2)) rfl ?_)
  refine wpAny_bind (wpAny_seqItems hTI rfl ?_)
  show wpAny _ _ (Builtin.SmallTypes.ownedTupleIsFree (.ref (n + 4)) >>= _) _ _ _
  refine wpAny_bind ?_
  unfold Builtin.SmallTypes.ownedTupleIsFree
  refine wpAny_bind (wpAny_field hz rfl (x := .none) rfl (wpAny_pure ?_))
  simp only [if_true]
  refine wpAny_bind (wpAny_rule ?_)
  refine wpAny_bind (wpAny_field hz rfl (x := .ref (n + 3)) rfl ?_)
  refine wpAny_bind (wpAny_setField_rec hz (by simp) fun g₁ z₁ s₁ => ?_)
  replace z₁ : IsZip g₁ (n + 4) (n + 2) (n + 3) .ellipsis := z₁
  refine wpAny_bind ?_
  simp only [List.zipIdx_cons, List.zipIdx_nil, List.forIn_cons, List.forIn_nil]
  refine wpAny_bind (wpAny_bind (wpAny_onRaise ?_))
  show wpAny _ _ (Builtin.SmallTypes.nextOf (.ref n) >>= _) _ _ _
  refine wpAny_bind (nextOf_bytes (bi_but h1 s₁.extBut (by show @Ne Nat _ _; omega)) hx fun g₂ b₂ s₂ => wpAny_pure ?_)
  have t₂ : IsPair g₂ (n + 3) a a' := s₂.extBut _ _ (by show @Ne Nat _ _; omega) (s₁.extBut _ _ (by show @Ne Nat _ _; omega) hTO)
  refine wpAny_bind (wpAny_seqItems t₂ rfl ?_)
  refine wpAny_bind (wpAny_updateSeq_pair t₂ fun g₃ t₃ s₃ => ?_)
  replace t₃ : IsPair g₃ (n + 3) (.int (c.toNat : Int) s.toks) a' := t₃
  refine wpAny_bind (wpAny_letGo (wpAny_pure ?_))
  refine wpAny_bind (wpAny_bind (wpAny_onRaise ?_))
  show wpAny _ _ (Builtin.SmallTypes.nextOf (.ref (n + 1)) >>= _) _ _ _
  have k₃ : ∀ k o, @Ne Nat k (n + 4) → @Ne Nat k n → @Ne Nat k (n + 3) → s.heap.get? k = some o → g₃.get? k = some o := fun k o q1 q2 q3 e => s₃.extBut _ _ q3 (s₂.extBut _ _ q2 (s₁.extBut _ _ q1 e))
  refine wpAny_bind (wpAny_nextOf_list_item (h2.at fun o e => k₃ _ o (by show @Ne Nat _ _; omega) (by show @Ne Nat _ _; omega) (by show @Ne Nat _ _; omega) e) (hl.at fun o e => k₃ _ o (by show @Ne Nat _ _; omega) (by show @Ne Nat _ _; omega) (by show @Ne Nat _ _; omega) e) hy fun g₄ i₄ s₄ => wpAny_pure ?_)
  have t₄ : IsPair g₄ (n + 3) (.int (c.toNat : Int) s.toks) a' := s₄.extBut _ _ (by show @Ne Nat _ _; omega) t₃
  refine wpAny_bind (wpAny_seqItems t₄ rfl ?_)
  refine wpAny_bind (wpAny_updateSeq_pair t₄ fun g₅ t₅ s₅ => ?_)
  replace t₅ : IsPair g₅ (n + 3) (.int (c.toNat : Int) s.toks) y := t₅
  refine wpAny_bind (wpAny_letGo (wpAny_pure (wpAny_pure ?_)))
  refine wpAny_bind (wpAny_seqItems t₅ rfl ?_)
  refine wpAny_bind (wpAny_newTuple ?_)
  have hsz : g₅.objs.size = s.heap.objs.size := by rw [s₅.1, s₄.1, s₃.1, s₂.1, s₁.1]
  have hzl : @LT.lt Nat _ (n + 4) s.heap.objs.size := Heap.lt_size hz
  have k₅ : ∀ k o, k ∉ zw n → s.heap.get? k = some o → g₅.get? k = some o := fun k o q e => s₅.extBut _ _ (nw q).2.1 (s₄.extBut _ _ (nw q).2.2.2 (k₃ k o (nw q).1 (nw q).2.2.1 (nw q).2.1 e))
  have z₅ : IsZip g₅ (n + 4) (n + 2) (n + 3) .ellipsis := s₅.extBut _ _ (by show @Ne Nat _ _; omega) (s₄.extBut _ _ (by show @Ne Nat _ _; omega) (s₃.extBut _ _ (by show @Ne Nat _ _; omega) (s₂.extBut _ _ (by show @Ne Nat _ _; omega) z₁)))
  have b₅ : KBw.IsBytesIter g₅ n b t (i + 1) := bi_but (bi_but (bi_but b₂ s₃.extBut (by show @Ne Nat _ _; omega)) s₄.extBut (by show @Ne Nat _ _; omega)) s₅.extBut (by show @Ne Nat _ _; omega)
  have i₅ : g₅.IsListIter (n + 1) l (i + 1) := i₄.extBut s₅.extBut (by show @Ne Nat _ _; omega)
  show wpAny _ _ (Builtin.SmallTypes.ownedTupleHandOut (.ref (n + 4)) (.ref g₅.objs.size) >>= _) _ _ _
  refine wpAny_bind ?_
  unfold Builtin.SmallTypes.ownedTupleHandOut
  have z₆ : IsZip (g₅.push { cls := .type "tuple", data := .seq #[.int (c.toNat : Int) s.toks, y] }) (n + 4) (n + 2) (n + 3) .ellipsis := Heap.get?_push_of_some _ z₅
  refine wpAny_bind (wpAny_setField_rec z₆ (by simp) fun g₇ z₇ s₇ => ?_)
  replace z₇ : IsZip g₇ (n + 4) (n + 2) (n + 3) (rawInt g₅.objs.size) := z₇
  refine wpAny_setField_rec z₇ (by simp) fun g₈ z₈ s₈ => ?_
  replace z₈ : IsZip g₈ (n + 4) (n + 2) (n + 3) (rawInt g₅.objs.size) := z₈
  have up : ∀ k o, @Ne Nat k (n + 4) → g₅.get? k = some o → g₈.get? k = some o := fun k o q e => s₈.extBut _ _ q (s₇.extBut _ _ q (Heap.get?_push_of_some _ e))
  have t₈ : IsPair g₈ g₅.objs.size (.int (c.toNat : Int) s.toks) y := s₈.extBut _ _ (by show @Ne Nat _ _; omega) (s₇.extBut _ _ (by show @Ne Nat _ _; omega) (Heap.get?_push_size _ rfl))
  rw [hsz] at z₈ t₈
  refine wpAny_pure ⟨_, rfl, wpAny_pure ?_⟩
  show Q (some (.ref g₅.objs.size)) _
  rw [hsz]
  refine hQ g₈ ⟨z₈, up _ _ (by show @Ne Nat _ _; omega) (k₅ _ _ (nzw (by omega)) hTI), ⟨_, _, up _ _ (by show @Ne Nat _ _; omega) t₅⟩, bi_at b₅ fun o e => up _ o (by show @Ne Nat _ _; omega) e, i₅.at fun o e => up _ o (by show @Ne Nat _ _; omega) e, hl.at fun o e => up _ o (by show @Ne Nat _ _; omega) (k₅ _ _ (nzw (by omega)) e), hlt⟩ ⟨_, t₈, rfl, _, rfl⟩ fun k o q e => up k o (nw q).1 (k₅ k o q e)
theorem zb_done {n l : Addr} {ys : Array Value} {i : Nat} {Q : Option Value → Shared → Prop} (hh : A.handled = none) (Z : ZB s.heap n l b t ys i .none) (hx : b[i]? = none)
    (hQ : ∀ h', (∀ k o, k ∉ zw n → s.heap.get? k = some o → h'.get? k = some o) → Q none { s with heap := h' }) :
    wpAny (model pw w) A (pyNext (.ref (n + 4))) Q E s := by
  refine Classical.byContradiction fun hng => ?_
  obtain ⟨hz, hTI, ⟨a, a', hTO⟩, h1, h2, hl, hlt⟩ := Z
  refine hng ?_
  clear hng
  have hT : s.TypeIs (.ref (n + 4)) "zip" := ⟨_, hz, rfl⟩
  unfold pyNext
  refine wpAny_bind (wpAny_attempt (wpAny_callSpecial?_slot (name := Str.ofString "__next__") hT F.slot_zip_next (wpAny_call_entry F.slot_zip_next hT F.entry_zip_next ?_ (F.args_zip_next_1 _))))
  show wpAny _ _ (field (.ref (n + 4)) 2 >>= _) _ _ _
  refine wpAny_bind (wpAny_field hz rfl (x := .bool false) rfl ?_)
  show wpAny _ _ (field (.ref (n + 4)) 3 >>= _) _ _ _
  refine wpAny_bind (wpAny_field hz rfl (x := .ref (n + 2)) rfl ?_)
  refine wpAny_bind (wpAny_seqItems hTI rfl ?_)
  show wpAny _ _ (Builtin.SmallTypes.ownedTupleIsFree (.ref (n + 4)) >>= _) _ _ _
  refine wpAny_bind ?_
  unfold Builtin.SmallTypes.ownedTupleIsFree
  refine wpAny_bind (wpAny_field hz rfl (x := .none) rfl (wpAny_pure ?_))
  simp only [if_true]
  refine wpAny_bind (wpAny_rule ?_)
  refine wpAny_bind (wpAny_field hz rfl (x := .ref (n + 3)) rfl ?_)
  refine wpAny_bind (wpAny_setField_rec hz (by simp) fun g₁ z₁ s₁ => ?_)
  replace z₁ : IsZip g₁ (n + 4) (n + 2) (n + 3) .ellipsis := z₁
  refine wpAny_bind ?_
  simp only [List.zipIdx_cons, List.zipIdx_nil, List.forIn_cons, List.forIn_nil]
  refine wpAny_bind (wpAny_bind (wpAny_onRaise ?_))
  show wpAny _ _ (Builtin.SmallTypes.nextOf (.ref n) >>= _) _ _ _
  refine wpAny_bind (nextOf_bytes_end hh (bi_but h1 s₁.extBut (by show @Ne Nat _ _; omega)) hx fun g₂ e s₂ he => ?_)
  obtain ⟨oe, hoe, hce⟩ := he
  have z₂ : IsZip g₂ (n + 4) (n + 2) (n + 3) .ellipsis := s₂ _ _ (by show @Ne Nat _ _; omega) z₁
  have hez : @Ne Nat e (n + 4) := fun x => by rw [x] at hoe; rw [z₂] at hoe; cases hoe; simp at hce
  refine wpAny_setField_rec z₂ (by simp) fun g₃ _ s₃ => ?_
  refine wpAny_bind (wpAny_isInstance (T := "StopIteration") (b := true) ⟨oe, s₃.extBut _ _ hez hoe, hce⟩ isSubtype_stop ?_)
  exact wpAny_pure (hQ _ fun k o q e => s₃.extBut _ _ (nw q).1 (s₂ _ _ (nw q).2.2.1 (s₁.extBut _ _ (nw q).1 e)))
theorem zb_go {elts : List PySem.Expr} {x1} {pos : Pos} {n l : Addr} {T : Addr} {ys : Array Value} {i : Nat} {Q : Unit → Shared → Prop} (Z : ZB s.heap n l b t ys i (rawInt T))
    (hQ : ∀ h', ZB h' n l b t ys i .none → Heap.SameBut (n + 4) s.heap h' → Q () { s with heap := h' }) :
    wpAny (model pw w) A (letOwnedTupleGo (.Tuple elts x1 pos) (.ref (n + 4)) (.ref T)) Q E s := by
  refine Classical.byContradiction fun hng => ?_
  obtain ⟨hz, hTI, ⟨a, a', hTO⟩, h1, h2, hl, hlt⟩ := Z
  refine hng ?_
  clear hng
  refine wpAny_letOwnedTupleGo_zip hz fun h' hz' hs' => hQ h' ⟨hz', hs'.extBut _ _ (by show @Ne Nat _ _; omega) hTI, ⟨_, _, hs'.extBut _ _ (by show @Ne Nat _ _; omega) hTO⟩, bi_but h1 hs'.extBut (by show @Ne Nat _ _; omega), h2.extBut hs'.extBut (by show @Ne Nat _ _; omega), hl.extBut hs'.extBut (by show @Ne Nat _ _; omega), hlt⟩ hs'
theorem ZB.keep {h h' : Heap} {n l : Addr} {ys : Array Value} {i : Nat} {v : Value} (Z : ZB h n l b t ys i v) (k : ∀ c o, @LT.lt Nat _ c (n + 5) → h.get? c = some o → h'.get? c = some o) : ZB h' n l b t ys i v := by
  refine Classical.byContradiction fun hng => ?_
  obtain ⟨hz, hTI, ⟨a, a', hTO⟩, h1, h2, hl, hlt⟩ := Z
  refine hng ?_
  clear hng
  exact ⟨k _ _ (by omega) hz, k _ _ (by omega) hTI, ⟨_, _, k _ _ (by omega) hTO⟩, bi_at h1 fun o e => k _ o (by omega) e, h2.at fun o e => k _ o (by omega) e, hl.at fun o e => k _ o (by omega) e, hlt⟩
/-- the heap after zip(bytes, list) -/
noncomputable abbrev zh2 (h : Heap) (b : Array UInt8) (t : Tok) (l : Addr) : Heap := (h.push { cls := .type "bytes_iterator", data := .fields #[.bytes b t, .int 0 0] }).push { cls := .type "list_iterator", data := .fields #[.ref l, .int 0 0] }
noncomputable abbrev zh3 (h : Heap) (b : Array UInt8) (t : Tok) (l : Addr) : Heap := (zh2 h b t l).push { cls := .type "tuple", data := .seq #[.ref h.objs.size, .ref (h.push { cls := .type "bytes_iterator", data := .fields #[.bytes b t, .int 0 0] }).objs.size] }
noncomputable abbrev zh4 (h : Heap) (b : Array UInt8) (t : Tok) (l : Addr) : Heap := (zh3 h b t l).push { cls := .type "tuple", data := .seq #[.none, .none] }
noncomputable abbrev zh5 (h : Heap) (b : Array UInt8) (t : Tok) (l : Addr) : Heap := (zh4 h b t l).push { cls := .type "zip", data := .fields #[.none, .bool false, .bool false, .ref (zh2 h b t l).objs.size, .ref (zh3 h b t l).objs.size] }
theorem meets_zb (b : Array UInt8) (t : Tok) (l : Addr) (ys : Array Value) :
    Meets (Builtin.«zip.__new__» ⟨[.type "zip", .bytes b t, .ref l], []⟩) (fun _ R s => s.heap.IsList l ys ∧ R (.ok (.ret (.ref (zh4 s.heap b t l).objs.size))) { s with heap := zh5 s.heap b t l }) :=
  .of_wp fun prog w A R s h => by
    refine Classical.byContradiction fun hng => ?_
    obtain ⟨hp, g, d, tk, os⟩ := s; obtain ⟨hl, h⟩ := h
    refine hng ?_
    clear hng
    have hsub := sub_zip
    have hL : Heap.IsList (Shared.heap ⟨hp.push { cls := .type "bytes_iterator", data := .fields #[.bytes b t, .int 0 0] }, g, d, tk, os⟩) l ys := Heap.IsList.push hl _
    wp_walk using KBw.pyIter_bytes, wpAny_pyIter_list hL
    exact ⟨_, rfl, h⟩
theorem call_zb {l : Addr} {ys : Array Value} {Q : Value → Shared → Prop} (hl : s.heap.IsList l ys)
    (h : ∀ h', ZB h' s.heap.objs.size l b t ys 0 .none → (∀ c o, s.heap.get? c = some o → h'.get? c = some o) → h'.objs.size = s.heap.objs.size + 5 → Q (.ref (s.heap.objs.size + 4)) { s with heap := h' }) :
    wpAny (model pw w) A (call (.type "zip") [.bytes b t, .ref l]) Q E s := by
  refine callType_new F.called_zip (by decide) (F.typeCall_zip_2 _ _) (F.newCall_zip_2 _ _) (fun obj => F.args_object_init_3 obj _ _) F.entry_zip_new (meets_zb b t l ys) ⟨hl, ?_⟩
  have e1 : (s.heap.push { cls := .type "bytes_iterator", data := .fields #[.bytes b t, .int 0 0] }).objs.size = s.heap.objs.size + 1 := Heap.size_push ..
  have e2 : (zh2 s.heap b t l).objs.size = s.heap.objs.size + 2 := by rw [Heap.size_push, e1]
  have e3 : (zh3 s.heap b t l).objs.size = s.heap.objs.size + 3 := by rw [Heap.size_push, e2]
  have e4 : (zh4 s.heap b t l).objs.size = s.heap.objs.size + 4 := by rw [Heap.size_push, e3]
  have e5 : (zh5 s.heap b t l).objs.size = s.heap.objs.size + 5 := by rw [Heap.size_push, e4]
  have u : ∀ (h : Heap) (o : Obj) c x, h.get? c = some x → (h.push o).get? c = some x := fun _ _ _ _ e => Heap.get?_push_of_some _ e
  have g5 : (zh5 s.heap b t l).get? (zh4 s.heap b t l).objs.size = some _ := Heap.get?_push_size _ rfl
  have g4 : (zh5 s.heap b t l).get? (zh3 s.heap b t l).objs.size = some _ := u _ _ _ _ (Heap.get?_push_size _ rfl)
  have g3 : (zh5 s.heap b t l).get? (zh2 s.heap b t l).objs.size = some _ := u _ _ _ _ (u _ _ _ _ (Heap.get?_push_size _ rfl))
  have g2 : (zh5 s.heap b t l).get? (s.heap.push { cls := .type "bytes_iterator", data := .fields #[.bytes b t, .int 0 0] }).objs.size = some _ := u _ _ _ _ (u _ _ _ _ (u _ _ _ _ (Heap.get?_push_size _ rfl)))
  have g1 : (zh5 s.heap b t l).get? s.heap.objs.size = some _ := u _ _ _ _ (u _ _ _ _ (u _ _ _ _ (u _ _ _ _ (Heap.get?_push_size _ rfl))))
  have kp : ∀ c o, s.heap.get? c = some o → (zh5 s.heap b t l).get? c = some o := fun c o e => u _ _ _ _ (u _ _ _ _ (u _ _ _ _ (u _ _ _ _ (u _ _ _ _ e))))
  show _ ∧ _
  rw [e2, e3, e4] at g5
  rw [e1, e2] at g3
  rw [e3] at g4
  rw [e1] at g2
  rw [e4]
  have hlt : @LT.lt Nat _ l s.heap.objs.size := by obtain ⟨_, e, _⟩ := hl; exact Heap.lt_size e
  exact ⟨⟨_, g5, rfl⟩, h _ ⟨g5, g3, ⟨_, _, g4⟩, ⟨_, g1, rfl, rfl⟩, ⟨_, g2, rfl, rfl⟩, hl.at fun o e => kp _ o e, hlt⟩ kp e5⟩
end
end
theorem rs40 : True ∧ True := by
  w_top off
  first | (walk1; fail) | exact ⟨trivial, trivial⟩
section
open PySem PySem.W PySem.Calls PyProof.Rows PyProof.Rows.LCg
/-- where the value of a comprehension over zip(bytes, list) stands -/
noncomputable def SrcZ (w : World) (A : Around) (h₀ : Heap) (L : Addr) (m : Str → Option Value) (env : Env) (elt : PySem.Expr) (x x₂ : Str) (scope : Scope) (cl : List (Str × Addr)) (Fin : Shared → List Value → List (Addr × Obj) → Prop) (xv : Value) (s₁ : Shared) : Prop :=
  ∃ (n l : Addr) (b : Array UInt8) (t : Tok) (ys : Array Value) (news : List (Addr × Obj)) (J : Nat → List Value → Prop), xv = .ref (n + 4) ∧ A.handled = none ∧ Fr h₀ L s₁.heap m ∧ News h₀ L s₁.heap news ∧ ZB s₁.heap n l b t ys 0 .none ∧ b.size ≤ ys.size ∧ b.size ≤ sizeLine ∧ (∀ c o, @LE.le Nat _ n c → h₀.get? c = some o → False) ∧ (@LT.lt Nat _ L n) ∧ (∀ p ∈ news, @LT.lt Nat _ p.1 n) ∧ J 0 [] ∧
    (∀ i c u y zs h tk C oC m₂ (E' : Value → Shared → Prop), b[i]? = some c → ys[i]? = some y → J i zs → NsObj oC m₂ → m₂ x = some (.int (c.toNat : Int) u) → m₂ x₂ = some y → Fr h₀ L h m → News h₀ L h [(C, oC)] →
      wpAny (model pw w) A (eval elt (compEnvC scope cl C env)) (fun z s' => ∃ tk', s' = { s₁ with heap := h, toks := tk' } ∧ J (i + 1) (zs ++ [z])) E' { s₁ with heap := h, toks := tk }) ∧
    ∀ zs, J b.size zs → ∀ g, Fin { s₁ with heap := g } zs news
section
variable {w : World} {A : Around} {E : Value → Shared → Prop} {s : Shared} {h₀ : Heap} {L : Addr} {m : Str → Option Value} {env : Env}
theorem fr_zw {h h' : Heap} {n : Addr} (F : Fr h₀ L h m) (hk : ∀ k o, k ∉ zw n → h.get? k = some o → h'.get? k = some o) (hL : @LT.lt Nat _ L n) (h0 : ∀ c o, @LE.le Nat _ n c → h₀.get? c = some o → False) : Fr h₀ L h' m :=
  ⟨F.ns.at' fun o e => hk L o (nzw (by omega)) e, fun b o e => hk b o (fun hm => by
    refine Decidable.byContradiction fun q => ?_
    have hb : ¬ @LE.le Nat _ n b := fun z => h0 b o z e
    exact nzw (b := b) (n := n) (by omega) hm) (F.keep b o e), F.above⟩
theorem news_zw {h h' : Heap} {n : Addr} {news : List (Addr × Obj)} (N : News h₀ L h news) (hk : ∀ k o, k ∉ zw n → h.get? k = some o → h'.get? k = some o) (off : ∀ p ∈ news, (@LT.lt Nat _ p.1 n) ∨ @LT.lt Nat _ (n + 4) p.1) : News h₀ L h' news := fun p hp =>
  ⟨hk _ _ (by have := off p hp; exact nzw (by omega)) (N p hp).1, (N p hp).2⟩
theorem block_Z {elt iter : PySem.Expr} {x x₂ : Str} {px px₂ tp : Pos} {kk : Nat} {scope : Scope} {cl : List (Str × Addr)} {pos : Pos} {s₂ : Shared} {n l : Addr} {b : Array UInt8} {t : Tok} {ys : Array Value} {news : List (Addr × Obj)} {J : Nat → List Value → Prop} {RR : Value → Addr → Result → Shared → Prop}
    (hh : A.handled = none) (hcell : ∀ y ∈ scope.names, y.2 ≠ .cell) (hkind : scope.kind = .function) (hx : scope.names.lookup x = some .local) (hx₂ : scope.names.lookup x₂ = some .local) (hxx : x ≠ x₂)
    (F : Fr h₀ L s₂.heap m) (N : News h₀ L s₂.heap news) (Z : ZB s₂.heap n l b t ys 0 .none) (hbs : b.size ≤ ys.size) (hsz : b.size ≤ sizeLine) (h0 : ∀ c o, @LE.le Nat _ n c → h₀.get? c = some o → False) (hL : @LT.lt Nat _ L n) (off : ∀ p ∈ news, @LT.lt Nat _ p.1 n) (hJ : J 0 [])
    (turn : ∀ i c u y zs h tk C oC m₂ (E' : Value → Shared → Prop), b[i]? = some c → ys[i]? = some y → J i zs → NsObj oC m₂ → m₂ x = some (.int (c.toNat : Int) u) → m₂ x₂ = some y → Fr h₀ L h m → News h₀ L h [(C, oC)] →
      wpAny (model pw w) A (eval elt (compEnvC scope cl C env)) (fun z s' => ∃ tk', s' = { s₂ with heap := h, toks := tk' } ∧ J (i + 1) (zs ++ [z])) E' { s₂ with heap := h, toks := tk })
    (hRR : ∀ (D C : Addr) h tk m' zs, Fr h₀ L h m → News h₀ L h ((D, lst zs) :: news) → Off1 D news → h.Ns C m' → h₀.get? C = none → C ≠ L → C ≠ D → (∀ p ∈ news, p.1 ≠ C) → J b.size zs → RR (.ref D) C (.ok .next) { s₂ with heap := h, toks := tk }) :
    wpAny (model pw w) A (newList []) (fun acc s₃ => wpAny (model pw w) A (newFunctionEnv scope env.globals cl [] env.qual none .none (some env)) (fun cenv s₄ =>
      codeAny (model pw w) A (.compStart (.ListComp elt [⟨.Tuple [.Name x px, .Name x₂ px₂] kk tp, iter, [], 0⟩] scope pos) 0 (.ref (n + 4)) acc { cenv with scope := relabel scope env }) (RR acc cenv.locals) s₄) E s₃) E s₂ := by
  refine wpAny_newObj_type (wpAny_newFunctionEnv hcell (by intro y hy; simp at hy) (fun h₁ hns₁ hsb₁ => ?_) hkind)
  dsimp only at hns₁ hsb₁ ⊢
  generalize hH2 : s₂.heap.push { cls := .type "list", dict := none, data := .seq ([] : List Value).toArray } = H2 at hns₁ hsb₁ ⊢
  have hC : H2.objs.size = s₂.heap.objs.size + 1 := by rw [← hH2, Heap.size_push]
  have old : ∀ b o, s₂.heap.get? b = some o → h₁.get? b = some o := fun b o e => hsb₁.extBut b o (by have q : @LT.lt Nat _ b s₂.heap.objs.size := Heap.lt_size e; show @Ne Nat b H2.objs.size; omega) (Heap.get?_push_of_some _ (hH2 ▸ Heap.get?_push_of_some _ e))
  have hacc : h₁.get? s₂.heap.objs.size = some (lst []) := hsb₁.extBut _ _ (by show @Ne Nat _ _; omega) (Heap.get?_push_of_some _ (hH2 ▸ Heap.get?_push_size _ rfl))
  have hzl : @LT.lt Nat _ (n + 4) s₂.heap.objs.size := Heap.lt_size Z.z
  have fresh₀ : ∀ a, @LE.le Nat _ n a → h₀.get? a = none := fun a ha => by
    cases e : h₀.get? a with
    | none => rfl
    | some o' => exact (h0 a o' ha e).elim
  have hD₀ : h₀.get? s₂.heap.objs.size = none := fresh₀ _ (by omega)
  have hC₀ : h₀.get? H2.objs.size = none := fresh₀ _ (by omega)
  have loop : ∀ s₃ : Shared, s₃ = { s₂ with heap := h₁, toks := s₂.toks + ([] : List (Str × Value)).length } →
      codeAny (model pw w) A (.compLoop (.ListComp elt [⟨.Tuple [.Name x px, .Name x₂ px₂] kk tp, iter, [], 0⟩] scope pos) 0 (.ref (n + 4)) (.ref s₂.heap.objs.size) (compEnvC scope cl H2.objs.size env))
        (RR (.ref s₂.heap.objs.size) H2.objs.size) s₃ := by
    rintro s₃ rfl
    refine kcp_loop
      (fun k s' => ∃ h' tk i zs m', s' = { s₂ with heap := h', toks := tk } ∧ i ≤ b.size ∧ k = b.size + 1 - i ∧ zs.length = i ∧ ZB h' n l b t ys i .none ∧ Fr h₀ L h' m ∧ h'.Ns H2.objs.size m' ∧ News h₀ L h' ((s₂.heap.objs.size, lst zs) :: news) ∧ J i zs ∧ @LT.lt Nat _ H2.objs.size h'.objs.size) ?_ (b.size + 1)
      ⟨h₁, _, 0, [], _, rfl, Nat.zero_le _, rfl, rfl, Z.keep fun c o q e => old c o e, F.keeps old, hns₁, fun p hp => ?_, hJ, hns₁.lt⟩
    · intro k s' hJz
      refine Classical.byContradiction fun hng => ?_
      obtain ⟨h', tk, i, zs, m', rfl, hi, rfl, hyl, Z', F', hn', N', hJ', hlC⟩ := hJz
      refine hng ?_
      clear hng
      by_cases hlt : i < b.size
      · have hx' : b[i]? = some b[i] := Array.getElem?_eq_getElem hlt
        have hy' : ys[i]? = some ys[i] := Array.getElem?_eq_getElem (by omega)
        refine zb_item (s := { s₂ with heap := h', toks := tk }) Z' hx' hy' fun h₂ Z₂ hT k₂ => ?_
        refine zb_go (s := { s₂ with heap := h₂, toks := tk + 1 }) Z₂ fun h₃ Z₃ s₃ => ?_
        have k₃ : ∀ k o, k ∉ zw n → h'.get? k = some o → h₃.get? k = some o := fun k o q e => s₃.extBut _ _ (nw q).1 (k₂ k o q e)
        have hz' : @LT.lt Nat _ (n + 4) h'.objs.size := Heap.lt_size Z'.z
        have hT₃ : h₃.IsTuple h'.objs.size #[.int (b[i].toNat : Int) tk, ys[i]] := hT.at fun o e => s₃.extBut _ _ (by show @Ne Nat h'.objs.size (n + 4); omega) e
        refine kcp_assign (s := { s₂ with heap := h₃, toks := tk + 1 }) (env := compEnvC scope cl H2.objs.size env) hh hT₃ (lookup_relabel_local hx) (lookup_relabel_local hx₂) (by simp [compEnvC, relabel, hkind]) (hn'.at' fun o e => k₃ _ o (nzw (by omega)) e) fun h₄ tk₄ hn₄ hs₄ => ?_
        have k₄ : ∀ k o, k ∉ zw n → k ≠ H2.objs.size → h'.get? k = some o → h₄.get? k = some o := fun k o q q' e => hs₄ k o q' (k₃ k o q e)
        have Z₄ : ZB h₄ n l b t ys (i + 1) .none := Z₃.keep fun c o q e => hs₄ c o (by show @Ne Nat c H2.objs.size; omega) e
        have F₄ : Fr h₀ L h₄ m := by
          have F₃ := fr_zw F' k₃ hL h0
          exact ⟨F₃.ns.at' fun o e => hs₄ _ o (by show @Ne Nat L H2.objs.size; omega) e, fun c o e => hs₄ c o (fun q => by rw [show c = H2.objs.size from q, hC₀] at e; cases e) (F₃.keep c o e), F₃.above⟩
        have N₄ : News h₀ L h₄ ((s₂.heap.objs.size, lst zs) :: news) := fun p hp => by
          refine ⟨k₄ _ _ ?_ ?_ (N' p hp).1, (N' p hp).2⟩
          · rcases List.mem_cons.mp hp with rfl | hp
            · exact nzw (by omega)
            · have := off p hp; exact nzw (by omega)
          · rcases List.mem_cons.mp hp with rfl | hp
            · show @Ne Nat _ _; omega
            · have := off p hp; show @Ne Nat _ _; omega
        obtain ⟨oC, heC, hoC⟩ := ns_obj hn₄
        have NC : News h₀ L h₄ [(H2.objs.size, oC)] := fun p hp => by
          rw [List.mem_singleton.mp hp]
          exact ⟨heC, (by show @Ne Nat H2.objs.size L; omega), hC₀⟩
        refine wpAny_mono (turn i b[i] tk ys[i] zs h₄ tk₄ H2.objs.size oC _ _ hx' hy' hJ' hoC (by simp [hxx]) (by simp) F₄ NC) (fun z s₅ h₅ => ?_) fun _ _ e => e
        obtain ⟨tk₅, rfl, hJ₅⟩ := h₅
        refine append_at (hsz := by show zs.toArray.size ≤ sizeLine; rw [List.size_toArray, hyl]; exact Nat.le_trans hi hsz) (N₄ _ (.head _)).1 fun h₆ hs₆ hD₆ => ?_
        refine ⟨b.size + 1 - (i + 1), by omega, h₆, tk₅, i + 1, zs ++ [z], _, rfl, hlt, rfl, by rw [List.length_append, List.length_singleton, hyl], Z₄.keep fun c o q e => hs₆.extBut _ _ (by show @Ne Nat c s₂.heap.objs.size; omega) e, F₄.change hs₆ (by show @Ne Nat s₂.heap.objs.size L; omega) hD₀, (hoC.ns heC).sameBut hs₆ (by show @Ne Nat H2.objs.size s₂.heap.objs.size; omega), fun p hp => ?_, hJ₅, ?_⟩
        · rcases List.mem_cons.mp hp with rfl | hp
          · exact ⟨hD₆.trans (congrArg some (lst_snoc zs z)), by show @Ne Nat _ _; omega, hD₀⟩
          · exact ⟨hs₆.extBut _ _ (by have := off p hp; show @Ne Nat _ _; omega) (N₄ p (.tail _ hp)).1, (N₄ p (.tail _ hp)).2⟩
        · have q1 : @Eq Nat h₆.objs.size h₄.objs.size := hs₆.1
          have q2 : @LT.lt Nat _ H2.objs.size h₄.objs.size := Heap.lt_size heC
          show @LT.lt Nat _ H2.objs.size h₆.objs.size
          omega
      · obtain rfl : i = b.size := Nat.le_antisymm hi (Nat.not_lt.mp hlt)
        refine zb_done (s := { s₂ with heap := h', toks := tk }) hh Z' (Array.getElem?_eq_none (Nat.le_refl _)) fun h₂ k₂ => ?_
        exact hRR _ _ h₂ tk _ zs (fr_zw F' k₂ hL h0) (news_zw N' k₂ fun p hp => by
          rcases List.mem_cons.mp hp with rfl | hp
          · exact .inr hzl
          · exact .inl (off p hp)) (Off3.one (I := n) (C := H2.objs.size) (Off3.of fun p hp => by have := off p hp; exact ⟨by show @Ne Nat _ _; omega, by show @Ne Nat _ _; omega, by show @Ne Nat _ _; omega⟩)) (hn'.at' fun o e => k₂ _ o (nzw (by omega)) e) hC₀ (by show @Ne Nat _ _; omega) (by show @Ne Nat _ _; omega) (fun p hp => by have := off p hp; show @Ne Nat _ _; omega) hJ'
    · rcases List.mem_cons.mp hp with rfl | hp
      · exact ⟨hacc, by show @Ne Nat _ _; omega, hD₀⟩
      · exact ⟨old _ _ (N p hp).1, (N p hp).2⟩
  exact codeAny_compStart_list (loop _ rfl) (wpAny_pyIter_zip (old _ _ Z.z) (loop _ rfl))
theorem assignComp_Z {elt iter : PySem.Expr} {x x₂ y : Str} {px px₂ tp py : Pos} {kk : Nat} {scope : Scope} {cl : List (Str × Addr)} {pos spos : Pos} {Q : Flow → Shared → Prop} (F₀ : Fr h₀ L s.heap m) (hLe : env.locals = L)
    (hsw : swapsWith (.ListComp elt [⟨.Tuple [.Name x px, .Name x₂ px₂] kk tp, iter, [], 0⟩] scope pos) (some (.Name y py)) spos.line env = pure true)
    (hclos : closureFor scope env = pure cl) (hcell : ∀ z ∈ scope.names, z.2 ≠ .cell) (hkind : scope.kind = .function)
    (hnames : ∀ z ∈ scope.names, z.2 = .local → scope.names.lookup z.1 = some .local) (hx : scope.names.lookup x = some .local) (hx₂ : scope.names.lookup x₂ = some .local) (hxx : x ≠ x₂)
    (hy : env.kindOf y = some .local) (hp : (env.scope.kind == .class || (env.scope.kind == .module && env.locals != env.globals)) = false)
    (h : wpAny (model pw w) A (eval iter env) (SrcZ w A h₀ L m env elt x x₂ scope cl (fun s₂ => FinA h₀ L m s₂ y Q)) E s)
    (hs : ∀ x, foldedSetIterable iter env x = pure x := by intro _; rfl) :
    wpAny (model pw w) A (exec (.Assign [.Name y py] (.ListComp elt [⟨.Tuple [.Name x px, .Name x₂ px₂] kk tp, iter, [], 0⟩] scope pos) spos) env) Q E s := by
  subst hLe
  rw [exec_Assign_Name_used _ _ _ _ hsw]
  refine wpAny_bind (wpAny_standAt (wpAny_bind ?_))
  show wpAny _ A (do let _ ← comprehension (.ListComp elt [⟨.Tuple [.Name x px, .Name x₂ px₂] kk tp, iter, [], 0⟩] scope pos) scope env _ (newList []) false (eval iter env) (some (assign (.Name y py) env))) _ _ s
  refine wpAny_bind (wpAny_mono (wpAny_comprehension_free (use := some (assign (.Name y py) env)) (Q := fun _ s' => Q .next s') rfl hs hclos hkind hnames
    (wpAny_mono h ?_ fun _ _ e => e)) (fun _ s' hq => wpAny_pure (wpAny_pure hq)) fun _ _ e => e)
  intro xv s₁ hJz
  refine Classical.byContradiction fun hng => ?_
  obtain ⟨n, l, b, t, ys, news, J, rfl, hh, F, N, Z, hbs, hsz, h0, hL, off, hJ, turn, fin⟩ := hJz
  refine hng ?_
  clear hng
  refine wpAny_pyIter_zip Z.z (block_Z hh hcell hkind hx hx₂ hxx F N Z hbs hsz h0 hL off hJ turn ?_)
  intro D C h' tk m' zs F' N' o1 hn' hC₀ hCL hCD offC hJ'
  show wpAny _ A (assign (.Name y py) env (.ref D)) _ _ _
  refine wpAny_assign_Name (wpAny_storeName_local hy F'.ns (fun h₂ hn₂ hs₂ => ?_) hp)
  exact ⟨m', hn'.sameBut hs₂ hCL, fun h'' hs'' => fin zs hJ' s₁.heap D h'' _ ((F'.set hn₂ hs₂).change hs'' hCL hC₀) (newsBut (N'.set hs₂) hs'' (Ne.symm hCD) offC) o1⟩
end
end
theorem rs41 : True ∧ True := by
  w_top off
  first | (walk1; fail) | exact ⟨trivial, trivial⟩
section

theorem seq_list_iadd : seqSlot? (.type "list") (dunderI "add") = pure (some (.builtin "list.__iadd__")) := PySem.seqSlot_of F.slot_list_iadd.lookup (by decide +kernel)
theorem noFills_list_iadd : fillsInplaceSlot (.type "list") "add" true = pure false := by
  unfold fillsInplaceSlot
  show (typeLookup (.type "list") (dunderI "add") >>= fun fi => pure (fi.isSome && !isSeqSlot fi)) = pure false
  rw [F.slot_list_iadd.lookup]
  rfl
/-- the values of a key stream from p on -/
noncomputable def seg (ks : Nat → Int) (p n : Nat) : List Int := (List.range n).map fun i => ks (p + i)
theorem seg_len {ks : Nat → Int} {p n : Nat} : (seg ks p n).length = n := by simp [seg]
theorem seg_get {ks : Nat → Int} {p n i : Nat} (h : i < n) : (seg ks p n)[i]? = some (ks (p + i)) := by simp [seg, h]
theorem seg_drop {ks : Nat → Int} {p n d : Nat} (h : d ≤ n) : (seg ks p n).drop d = seg ks (p + d) (n - d) := by
  refine List.ext_getElem? fun i => ?_
  rw [List.getElem?_drop]
  by_cases hi : i < n - d
  · rw [seg_get hi, seg_get (by omega)]
    congr 2
    omega
  · rw [List.getElem?_eq_none (by rw [seg_len]; omega), List.getElem?_eq_none (by rw [seg_len]; omega)]
theorem seg_add {ke : List (List Int)} {n : Int} {p r k : Nat} (h : p + r = 16 * k) : seg (ksC ke n) p r ++ enc ke (cnt (n + (k : Nat))) = seg (ksC ke n) p (r + 16) := by
  have hl : (enc ke (cnt (n + (k : Nat)))).length = 16 := enc_len
  refine List.ext_getElem? fun i => ?_
  by_cases hi : i < r
  · rw [List.getElem?_append_left (by rw [seg_len]; exact hi), seg_get hi, seg_get (by omega)]
  · rw [List.getElem?_append_right (by rw [seg_len]; omega), seg_len]
    by_cases hj : i < r + 16
    · rw [seg_get hj]
      have e1 : (p + i) / 16 = k := by omega
      have e2 : (p + i) % 16 = i - r := by omega
      unfold ksC
      rw [e1, e2, List.getElem?_eq_getElem (by omega)]
      rw [List.getD_eq_getElem?_getD, List.getElem?_eq_getElem (by omega)]
      rfl
    · rw [List.getElem?_eq_none (by omega), List.getElem?_eq_none (by rw [seg_len]; omega)]
section
variable {w : World} {dp un : Nat} {fr : Option (List Env)} {gd : Option (List Code)} {s : Shared} {mg mb : Str → Option Value} {lo : List Str} {h₀ : Heap}
theorem iadd_L {A : Around} {L l b : Addr} {m : Str → Option Value} {news news' : List (Addr × Obj)} {xs ys : List Value} {n n2 : Nat} {Q : Value → Shared → Prop} {E : Value → Shared → Prop}
    (F : Fr h₀ L s.heap m) (N : News h₀ L s.heap news) (hb : (b, listOf ys.toArray n2) ∈ news) (U : Upd l (listOf xs.toArray n) (listOf (xs ++ ys).toArray (n + 1)) news news')
    (hne : 0 < ys.length) (hz : xs.length + ys.length ≤ 2000) (h : ∀ h', Fr h₀ L h' m → News h₀ L h' news' → Q (.ref l) { s with heap := h' }) :
    wpAny (model pw w) A (inplaceOp .Add (.ref l) (.ref b)) Q E s := by
  refine Classical.byContradiction fun hng => ?_
  obtain ⟨pre, post, rfl, rfl, a, c⟩ := U.split
  refine hng ?_
  clear hng
  have z := N (l, listOf xs.toArray n) (List.mem_append.mpr (.inr (.head _)))
  have ha : s.TypeIs (.ref l) "list" := ⟨_, z.1, rfl⟩
  have hb' : s.TypeIs (.ref b) "list" := ⟨_, (N _ hb).1, rfl⟩
  have hd : ¬ (!xs.toArray.isEmpty && Builtin.List.listTooLong (xs.toArray.size + ys.toArray.size)) = true := by
    have : Builtin.List.listTooLong (xs.toArray.size + ys.toArray.size) = false := by
      unfold Builtin.List.listTooLong
      rw [List.size_toArray, List.size_toArray]
      simp
      have := sizeLine_eq
      omega
    rw [this, Bool.and_false]
    decide
  unfold inplaceOp
  refine wpAny_holding ?_
  refine wpAny_bind (wpAny_typeOf ha (wpAny_bind (wpAny_of_eq noFills_list_iadd ?_)))
  show wpAny _ A (if false = true then _ else _) Q E s
  rw [if_neg Bool.false_ne_true]
  refine wpAny_bind (wpAny_binaryOp1_none (nm := "add") ha hb' noFill_list_add ?_)
  refine wpAny_bind (wpAny_of_eq seq_list_iadd ?_)
  refine wpAny_bind (wpAny_rule ?_)
  refine call_meets PySem.F.slot_list_iadd ha PySem.F.entry_list_iadd (PySem.F.args_list_iadd_2 _ _) (PySem.AutoSeq1.list___iadd___list_list_0 l xs.toArray n b ys.toArray n2 hd (by rw [List.size_toArray, sizeLine_eq]; omega) (by rw [List.size_toArray, List.size_toArray, sizeLine_eq]; omega)) ⟨z.1, (N _ hb).1, h _ (F.change (Heap.SameBut.update ..) z.2.1 z.2.2) (kl_turn (fun x => x ++ ys.toArray) N a c ?_ ?_)⟩
  · apply Array.toList_inj.mp
    simp
  · simp
    intro e
    rw [e] at hne
    exact absurd hne (Nat.lt_irrefl _)
theorem value_attr {L c dc l : Addr} {m : Str → Option Value} {news : List (Addr × Obj)} {hE : Int} {tE : Tok} {expr : Bool} {Q : Value → Shared → Prop} {E : Value → Shared → Prop}
    (F : Fr h₀ L s.heap m) (N : News h₀ L s.heap news) (X : (K w.params).In h₀) (T : TopRead q lo mg mb h₀) (hd : dp < 850) (hc : h₀.get? c = some (instObj 151 dc)) (hm : (dc, dictOf [⟨hE, .str "_counter" tE, .ref l⟩] 1) ∈ news)
    (h : ∀ h' tk', Fr h₀ L h' m → News h₀ L h' news → Q (.ref l) { s with heap := h', toks := tk' }) :
    wpAny (model pw w) (Ar dp un fr gd) (getAttr (.ref c) "value" expr) Q E s := by
  refine get_prop F X (inst_mix F N hc hm) (by k_is) (by k_is) (by k_is) (by k_is) (by k_is) (by k_is) ?_
  refine lam_spec (s := { s with toks := s.toks + 1 }) (dp := dp) (un := un + 1) (X.keeps F.keep) (T.keeps F.keep) (by omega) (F.keep _ _ hc) (N _ hm).1 fun h' tk kp => ?_
  exact handed_on rfl (h h' tk (frKp F kp) (newsKp N kp))
theorem inc_call {L c dc l : Addr} {m : Str → Option Value} {news : List (Addr × Obj)} {hE : Int} {tE : Tok} {vs : List Value} {kz : Nat} {n : Int} {Q : Value → Shared → Prop} {E : Value → Shared → Prop}
    (F : Fr h₀ L s.heap m) (N : News h₀ L s.heap ((l, listOf vs.toArray kz) :: (dc, dictOf [⟨hE, .str "_counter" tE, .ref l⟩] 1) :: news)) (X : (K w.params).In h₀) (T : TopRead q lo mg mb h₀) (hdp : dp < 600) (hc : h₀.get? c = some (instObj 151 dc)) (hi : IntsAre vs (cnt n))
    (hld : @Ne Nat l dc) (hn : ∀ p ∈ news, p.1 ≠ l ∧ p.1 ≠ dc)
    (h : ∀ h' tk' l' vs' k hE tE, Fr h₀ L h' m → News h₀ L h' ((l', listOf vs'.toArray k) :: (dc, dictOf [⟨hE, .str "_counter" tE, .ref l'⟩] 1) :: news) → @Ne Nat l' dc → (∀ p ∈ news, p.1 ≠ l') → IntsAre vs' (cnt (n + 1)) → Q .none { s with heap := h', toks := tk' }) :
    wpAny (model pw w) (Ar dp un fr gd) (call (.ref 148) [.ref c]) Q E s := by
  have nl := N _ (.head _)
  have nd := N _ (.tail _ (.head _))
  have ha : ∀ a ∈ [l, dc], h₀.get? a = none := fun a h => by
    simp only [List.mem_cons, List.not_mem_nil, or_false] at h
    rcases h with rfl | rfl
    · exact nl.2.2
    · exact nd.2.2
  have hL : L ∉ [l, dc] := fun h => by
    simp only [List.mem_cons, List.not_mem_nil, or_false] at h
    rcases h with h | h
    · exact nl.2.1 h.symm
    · exact nd.2.1 h.symm
  have kb := hide_base F.keep ha
  have hnews : ∀ p ∈ news, p.1 ∉ [l, dc] := fun p hp h => by
    simp only [List.mem_cons, List.not_mem_nil, or_false] at h
    rcases h with h | h
    · exact (hn p hp).1 h
    · exact (hn p hp).2 h
  refine wpAny_call (inc_spec (h₀ := hideAll s.heap [l, dc]) hide_kp (Nat.le_of_eq (hideAll_size _ _)) nd.1 (hideAll_none _ (.tail _ (.head _))) nl.1 (hideAll_none _ (.head _)) hld (kb _ _ hc) hi (X.keeps kb) (T.keeps kb) (by omega) ?_)
  intro h' tk' l' vs' k hE' tE' kp e1 e2 e3 e4 e5
  refine h h' tk' l' vs' k hE' tE' (hide_fr F ha hL kp) (fun p hp => ?_) e4 (fun p hp e => ?_) e5
  · rcases List.mem_cons.mp hp with rfl | hp
    · exact hide_fresh (p := (l', listOf vs'.toArray k)) F ha hL e2 e3
    rcases List.mem_cons.mp hp with rfl | hp
    · exact ⟨e1, nd.2⟩
    · exact hide_news (fun p hp => N p (.tail _ (.tail _ hp))) hnews kp p hp
  · have z := hideAll_get [l, dc] (N p (.tail _ (.tail _ hp))).1 (hnews p hp)
    rw [e, e3] at z
    cases z
end
end
theorem rs42 : True ∧ True := by
  w_top off
  first | (walk1; fail) | exact ⟨trivial, trivial⟩
section
local macro_rules | `(tactic| walk_at "getAttr ref") => `(tactic| k_extra "y46")
local macro_rules | `(tactic| walk_at "inplaceOp Add ref") => `(tactic| k_extra "y47")
section

noncomputable def ctrBody : List Stmt := stB (fB (M 16 2))
noncomputable def ctrScope : Scope := fS (M 16 2)
noncomputable def ctrTurn : List Stmt := match ctrBody with | .While _ b _ _ :: _ => b | _ => []
noncomputable def ctrRest : List Stmt := ctrBody.drop 1

section
variable {w : World} {dp un : Nat} {fr : Option (List Env)} {gd : Option (List Code)} {s : Shared} {mg mb : Str → Option Value} {lo : List Str} {h₀ : Heap}

theorem ctr_turn {x d xa c l dc rm L : Addr} {m : Str → Option Value} {bs : Array UInt8} {tb : Tok} {hA hB hC hE : Int} {tA tB tC tE : Tok} {ke : List (List Int)} {n : Int} {rv lv : List Value} {rs : List Int} {er el : Nat} {Q : Flow → Shared → Prop}
    (X : (K w.params).In h₀) (T : TopRead q lo mg mb h₀) (hdp : dp < 400) (hx : h₀.get? x = some (instObj 441 d)) (hc : h₀.get? c = some (instObj 151 dc)) (ha : AesAt h₀ xa ke) (hk1 : 2 ≤ ke.length) (hk2 : ke.length ≤ 20)
    (hil : IntsAre lv (cnt n)) (hir : IntsAre rv rs) (hel : rs.length ≤ 1000)
    (n1 : @Ne Nat rm d) (n2 : @Ne Nat rm l) (n3 : @Ne Nat rm dc) (n4 : @Ne Nat d l) (n5 : @Ne Nat d dc) (n6 : @Ne Nat l dc)
    (F : Fr h₀ L s.heap (kstB m [("self", .ref x), ("plaintext", .bytes bs tb)]))
    (N : News h₀ L s.heap [(l, listOf lv.toArray el), (dc, dictOf [⟨hE, .str "_counter" tE, .ref l⟩] 1), (rm, listOf rv.toArray er), (d, dictOf [⟨hA, .str "_aes" tA, .ref xa⟩, ⟨hB, .str "_counter" tB, .ref c⟩, ⟨hC, .str "_remaining_counter" tC, .ref rm⟩] 3)])
    (done : ∀ h' tk' l' lv' el' hE tE rv' er', Fr h₀ L h' (kstB m [("self", .ref x), ("plaintext", .bytes bs tb)]) → News h₀ L h' [(l', listOf lv'.toArray el'), (dc, dictOf [⟨hE, .str "_counter" tE, .ref l'⟩] 1), (rm, listOf rv'.toArray er'), (d, dictOf [⟨hA, .str "_aes" tA, .ref xa⟩, ⟨hB, .str "_counter" tB, .ref c⟩, ⟨hC, .str "_remaining_counter" tC, .ref rm⟩] 3)] → @Ne Nat l' dc → @Ne Nat rm l' → @Ne Nat d l' →
      IntsAre lv' (cnt (n + 1)) → IntsAre rv' (rs ++ enc ke (cnt n)) → Q .next { s with heap := h', toks := tk' }) :
    wpAny (model pw w) ((Ar dp un fr gd).deeper (envOf "AESModeOfOperationCTR.encrypt" ctrScope L 431 (.ref 430))) (execs ctrTurn (envOf "AESModeOfOperationCTR.encrypt" ctrScope L 431 (.ref 430))) Q (fun _ _ => False) s := by
  refine with_scope (sc := ctrScope) (P := fun sc => wpAny (model pw w) ((Ar dp un fr gd).deeper (envOf "AESModeOfOperationCTR.encrypt" sc L 431 (.ref 430))) (execs ctrTurn (envOf "AESModeOfOperationCTR.encrypt" sc L 431 (.ref 430))) Q (fun _ _ => False) s) rfl ?_
  refine with_list (P := fun l => wpAny (model pw w) _ (execs l _) Q (fun _ _ => False) s) rfl ?_
  dsimp only [kstB] at F
  have hl16 := cnt_len n
  have hrl := hir.length
  have ha' := ha
  refine Classical.byContradiction fun hng => ?_
  obtain ⟨da, ka, kb, g1, g2, g3, g4, g5, hxa, hda, hro⟩ := ha
  refine hng ?_
  clear hng
  repeat (first | (k_unfold; (try dsimp only)) | walk1 | (dsimp only; walk1))
  refine enc_call (by k_asm) (by assumption) X T (by show dp + 1 < 650; omega) ha' hk1 hk2 (.inr ⟨l, lv, el, rfl, .head _, hil⟩) hl16 (cnt_bytes n) ?_
  intro h2 tk2 D rvD erD F2 N2 ap hiD
  have nL : @Ne Nat l D := ap (l, _) (.head _)
  have nC : @Ne Nat dc D := ap (dc, _) (.tail _ (.head _))
  have nR : @Ne Nat rm D := ap (rm, _) (.tail _ (.tail _ (.head _)))
  have nDd : @Ne Nat d D := ap (d, _) (.tail _ (.tail _ (.tail _ (.head _))))
  have hD16 : (enc ke (cnt n)).length = 16 := enc_len
  have hDl := hiD.length
  repeat (first | (k_unfold; (try dsimp only)) | walk1 | (dsimp only; walk1))
  (rename Fr _ _ _ _ => F3); (rename News _ _ _ _ => N3)
  refine inc_call (n := n) (vs := lv) (hE := hE) (tE := tE) (l := l) (dc := dc) (kz := el) (news := [(rm, listOf (rv ++ rvD).toArray (er + 1)), (d, dictOf [⟨hA, .str "_aes" tA, .ref xa⟩, ⟨hB, .str "_counter" tB, .ref c⟩, ⟨hC, .str "_remaining_counter" tC, .ref rm⟩] 3)]) F3 (fun p hp => N3 p (by
    simp only [List.mem_cons, List.not_mem_nil, or_false] at hp ⊢
    rcases hp with h | h | h | h <;> simp [h])) X T (by show dp + 1 < 600; omega) hc hil n6 (fun p hp => by
    simp only [List.mem_cons, List.not_mem_nil, or_false] at hp
    rcases hp with rfl | rfl
    · exact ⟨n2, n3⟩
    · exact ⟨n4, n5⟩) ?_
  intro h4 tk4 l' vs' k' hE' tE' F4 N4 q1 q2 q3
  repeat (first | (k_unfold; (try dsimp only)) | walk1 | (dsimp only; walk1))
  exact done _ _ l' vs' k' hE' tE' (rv ++ rvD) (er + 1) F4 N4 q1 (q2 _ (.head _)) (q2 _ (.tail _ (.head _))) q3 (ints_app hir hiD)
end
end
theorem rs43 : True ∧ True := by
  w_top off
  first | (walk1; fail) | exact ⟨trivial, trivial⟩
section

theorem len_L {w : World} {A : Around} {E : Value → Shared → Prop} {s : Shared} {h₀ : Heap} {L : Addr} {news : List (Addr × Obj)} {D : Addr} {vs : List Value} {c n : Nat} {Q : Value → Shared → Prop} (N : News h₀ L s.heap news) (hm : (D, listOf vs.toArray c) ∈ news) (hn : vs.length = n) (hz : n ≤ 16384)
    (h : ∀ t tk, Q (.int (n : Nat) t) { s with toks := tk }) : wpAny (model pw w) A (call (.builtin "len") [.ref D]) Q E s :=
  kun_lenL (News.isList N hm) (by rw [List.size_toArray, hn]) (by omega) (h _ _)
local macro_rules | `(tactic| walk_at "call ref") => `(tactic| k_extra "y43")
local macro_rules | `(tactic| walk_at "call builtin:len") => `(tactic| k_extra "y48")
local macro_rules | `(tactic| walk_at "subscriptTail Name Slice ref ref") => `(tactic| k_extra "y49")
/-- a counter object at a place of its stream -/
inductive CtrSt (ke : List (List Int)) (start : Int) (x : Addr) (mu con : List (Addr × Obj)) (p : Nat) : Prop
  | mk : ∀ d xa c dc l rm hA hB hC hE tA tB tC tE rv er lv el k, (mu = [(l, listOf (lv : List Value).toArray el), (dc, dictOf [⟨hE, .str "_counter" tE, .ref l⟩] 1), (rm, listOf (rv : List Value).toArray er), (d, dictOf [⟨hA, .str "_aes" tA, .ref xa⟩, ⟨hB, .str "_counter" tB, .ref c⟩, ⟨hC, .str "_remaining_counter" tC, .ref rm⟩] 3)]) → ((x, instObj 441 d) ∈ con) → ((c, instObj 151 dc) ∈ con) → (AesIn con xa ke) → (IntsAre lv (cnt (start + (k : Nat)))) → (IntsAre rv (seg (ksC ke start) p (16 * k - p))) → (p ≤ 16 * k) → (16 * k ≤ p + 16) → (@Ne Nat rm d) → (@Ne Nat rm l) → (@Ne Nat rm dc) → (@Ne Nat d l) → (@Ne Nat d dc) → (@Ne Nat l dc) → CtrSt ke start x mu con p
theorem permC {h₀ h : Heap} {L : Addr} {a b c e f g : Addr × Obj} (N : News h₀ L h [a, b, c, e, f, g]) : News h₀ L h [c, e, a, g] := fun p hp => N p (by
  simp only [List.mem_cons, List.not_mem_nil, or_false] at hp ⊢
  rcases hp with h | h | h | h <;> simp [h])
noncomputable def ctrEnd : List Stmt := ctrBody.drop 3
section
variable {w : World} {dp un : Nat} {fr : Option (List Env)} {gd : Option (List Code)} {s : Shared} {mg mb : Str → Option Value} {lo : List Str} {h₀ : Heap}

theorem ctr_rest {x d xa c l dc rm L D : Addr} {m : Str → Option Value} {hA hB hC hE : Int} {tA tB tC tE : Tok} {rv lv zs : List Value} {rs es : List Int} {er el : Nat} {Q : Flow → Shared → Prop}
    (X : (K w.params).In h₀) (T : TopRead q lo mg mb h₀) (hdp : dp < 400) (hx : h₀.get? x = some (instObj 441 d))
    (hiz : IntsAre zs es) (hir : IntsAre rv rs) (hez : es.length ≤ 1000) (hrz : rs.length ≤ 1000) (heb : ∀ z ∈ es, 0 ≤ z ∧ z < 256)
    (n1 : @Ne Nat rm d) (n2 : @Ne Nat rm l) (n3 : @Ne Nat rm dc) (n4 : @Ne Nat d l) (n5 : @Ne Nat d dc) (n6 : @Ne Nat l dc) (o1 : @Ne Nat l D) (o2 : @Ne Nat dc D) (o3 : @Ne Nat rm D) (o4 : @Ne Nat d D)
    (F0 : Fr h₀ L s.heap m) (me : m "encrypted" = some (.ref D)) (ms : m "self" = some (.ref x))
    (N : News h₀ L s.heap [(D, LCg.lst zs), (l, listOf lv.toArray el), (dc, dictOf [⟨hE, .str "_counter" tE, .ref l⟩] 1), (rm, listOf rv.toArray er), (d, dictOf [⟨hA, .str "_aes" tA, .ref xa⟩, ⟨hB, .str "_counter" tB, .ref c⟩, ⟨hC, .str "_remaining_counter" tC, .ref rm⟩] 3)])
    (done : ∀ h' tk' rm' rv' er' bs' t', Fr h₀ L h' m → News h₀ L h' [(l, listOf lv.toArray el), (dc, dictOf [⟨hE, .str "_counter" tE, .ref l⟩] 1), (rm', listOf (rv' : List Value).toArray er'), (d, dictOf [⟨hA, .str "_aes" tA, .ref xa⟩, ⟨hB, .str "_counter" tB, .ref c⟩, ⟨hC, .str "_remaining_counter" tC, .ref rm'⟩] 3)] → KBw.bInts bs' = es → IntsAre rv' (rs.drop es.length) → @Ne Nat rm' d → @Ne Nat rm' l → @Ne Nat rm' dc → Q (.ret (.bytes bs' t')) { s with heap := h', toks := tk' }) :
    wpAny (model pw w) ((Ar dp un fr gd).deeper (envOf "AESModeOfOperationCTR.encrypt" ctrScope L 431 (.ref 430))) (execs ctrEnd (envOf "AESModeOfOperationCTR.encrypt" ctrScope L 431 (.ref 430))) Q (fun _ _ => False) s := by
  refine with_scope (sc := ctrScope) (P := fun sc => wpAny (model pw w) ((Ar dp un fr gd).deeper (envOf "AESModeOfOperationCTR.encrypt" sc L 431 (.ref 430))) (execs ctrEnd (envOf "AESModeOfOperationCTR.encrypt" sc L 431 (.ref 430))) Q (fun _ _ => False) s) rfl ?_
  refine with_list (P := fun l => wpAny (model pw w) _ (execs l _) Q (fun _ _ => False) s) rfl ?_
  have em : kstB m [(Str.ofString "encrypted", Value.ref D), ("self", .ref x)] = m := funext fun z => kstB_eq (fcons me (fcons ms fnil)) fun _ => rfl
  have F := F0
  rw [← em] at F
  dsimp only [kstB] at F
  clear F0
  have hzl := hiz.length
  have hrl := hir.length
  repeat (first | (k_unfold; (try dsimp only)) | walk1 | (dsimp only; walk1))
  (rename Fr _ _ _ _ => F9); (rename News _ _ _ _ => N9); (rename (_ < _ ∧ _ < _ ∧ _ < _ ∧ _ < _ ∧ _ < _) => l9); (rename IntsAre _ (List.drop _ _) => hI9)
  refine bs_call F9 N9 X T (by show dp + 1 < 900; omega) (.tail _ (.head _)) hiz (Bytes.of_mem heb) hez ?_
  intro h2 tk2 bs2 t2 F6 N6 k6 e6
  refine done h2 tk2 _ _ _ bs2 t2 (em ▸ F6) (permC N6) e6 (ints_eq hI9 (by rw [Int.toNat_natCast])) (Nat.ne_of_gt l9.2.2.2.2) (Nat.ne_of_gt l9.2.1) (Nat.ne_of_gt l9.2.2.1)
end
section
variable {w : World} {dp un : Nat} {fr : Option (List Env)} {gd : Option (List Code)} {s : Shared} {mg mb : Str → Option Value} {lo : List Str} {h₀ : Heap}

theorem ctr_enc {R : Result → Shared → Prop} {ke : List (List Int)} {start : Int} {data : List Int} {x : Addr} {mu con : List (Addr × Obj)} {p : Nat} {bs : Array UInt8} {tb : Tok}
    (KP : Kp h₀ s.heap) (hsz : h₀.objs.size ≤ s.heap.objs.size) (X : (K w.params).In h₀) (T : TopRead q lo mg mb h₀) (hdp : dp < 390)
    (hc : AtH h₀ con) (hm : ∀ z ∈ mu, s.heap.get? z.1 = some z.2 ∧ h₀.get? z.1 = none) (St : CtrSt ke start x mu con p) (hk1 : 2 ≤ ke.length) (hk2 : ke.length ≤ 20)
    (hi : KBw.bInts bs = data) (hz : data.length ≤ 900)
    (hR : ∀ h' tk' mu' bs' t', Kp h₀ h' → (∀ z ∈ mu', h'.get? z.1 = some z.2 ∧ h₀.get? z.1 = none) → CtrSt ke start x mu' con (p + data.length) → KBw.bInts bs' = strm (ksC ke start) p data → R (.ok (.ret (.bytes bs' t'))) { s with heap := h', toks := tk' }) :
    codeAny (model pw w) (Ar dp un fr gd) (.call (.ref 431) ⟨[.ref x, .bytes bs tb], []⟩) R s := by
  refine Classical.byContradiction fun hng => ?_
  obtain ⟨d, xa, c, dc, l, rm, hA, hB, hC, hE, tA, tB, tC, tE, rv, er, lv, el, k, rfl, hxc, hcc, hai, hil, hir, hp, hp2, n1, n2, n3, n4, n5, n6⟩ := St
  refine hng ?_
  clear hng
  have hx := hc _ hxc
  have hcx := hc _ hcc
  dsimp only at hx hcx
  have ha := hai h₀ hc
  refine enterN (binds := [("self", .ref x), ("plaintext", .bytes bs tb)]) (news := [(l, listOf (lv : List Value).toArray el), (dc, dictOf [⟨hE, .str "_counter" tE, .ref l⟩] 1), (rm, listOf (rv : List Value).toArray er), (d, dictOf [⟨hA, .str "_aes" tA, .ref xa⟩, ⟨hB, .str "_counter" tB, .ref c⟩, ⟨hC, .str "_remaining_counter" tC, .ref rm⟩] 3)]) KP hsz hm X T (by omega) rfl (by kernel_rfl) (BindsTo.of_eq rfl) (by decide) rfl ?_
  intro L h₁ tk F N l1
  have hbz : bs.size = data.length := by rw [← hi, KBw.ints_length]
  clear l1
  repeat ((fail_if_success (with_reducible show wpAny _ _ (exec (.While _ _ _ _) _) _ _ _)); (first | (k_unfold; (try dsimp only)) | walk1 | (dsimp only; walk1)))
  refine While_inv2 (fun n m nx => ∃ l hE tE rv er lv el k, n = data.length - (16 * k - p) ∧ nx = [(l, listOf (lv : List Value).toArray el), (dc, dictOf [⟨hE, .str "_counter" tE, .ref l⟩] 1), (rm, listOf (rv : List Value).toArray er), (d, dictOf [⟨hA, .str "_aes" tA, .ref xa⟩, ⟨hB, .str "_counter" tB, .ref c⟩, ⟨hC, .str "_remaining_counter" tC, .ref rm⟩] 3)] ∧ m "self" = some (.ref x) ∧ m "plaintext" = some (.bytes bs tb) ∧ IntsAre lv (cnt (start + (k : Nat))) ∧ IntsAre rv (seg (ksC ke start) p (16 * k - p)) ∧ p ≤ 16 * k ∧ (16 * k ≤ p + 16 ∨ 16 * k ≤ p + data.length + 16) ∧ @Ne Nat rm l ∧ @Ne Nat d l ∧ @Ne Nat l dc) F N (n₀ := data.length - (16 * k - p)) ⟨l, hE, tE, rv, er, lv, el, k, rfl, rfl, rfl, rfl, hil, hir, hp, .inl hp2, n2, n4, n6⟩ ?turn
  clear F N
  intro n m₁ nx h tk F N hJz
  refine Classical.byContradiction fun hng => ?_
  obtain ⟨l, hE, tE, rv, er, lv, el, k, rfl, rfl, ms, mp, hil, hir, hp, hp3, n2, n4, n6⟩ := hJz
  refine hng ?_
  clear hng
  have em : kstB m₁ [(Str.ofString "self", Value.ref x), ("plaintext", .bytes bs tb)] = m₁ := funext fun z => kstB_eq (fcons ms (fcons mp fnil)) fun _ => rfl
  rw [← em] at F
  have hrl : rv.length = 16 * k - p := by rw [hir.length, seg_len]
  have hrz : rv.length ≤ 1000 := by omega
  have F' := F
  dsimp only [kstB] at F'
  by_cases hlt : 16 * k - p < data.length
  · repeat ((fail_if_success (with_reducible show wpAny _ _ (execs _ _) _ _ _)); (first | (k_unfold; (try dsimp only)) | walk1 | (dsimp only; walk1)))
    refine ctr_turn X T (by show dp + 0 < 400; omega) hx hcx ha hk1 hk2 hil hir (by rw [seg_len]; omega) n1 n2 n3 n4 n5 n6 F N ?_
    intro h' tk' l' lv' el' hE' tE' rv' er' F2 N2 q1 q2 q3 hil' hir'
    refine ⟨h', tk', _, _, data.length - (16 * (k + 1) - p), rfl, F2, N2, by omega, l', hE', tE', rv', er', lv', el', k + 1, rfl, rfl, rfl, rfl, ?_, ?_, by omega, by omega, q2, q3, q1⟩
    · exact ints_eq hil' (by rw [show (start + (k : Nat) : Int) + 1 = start + ((k + 1 : Nat) : Int) by omega])
    · exact ints_eq hir' (by rw [seg_add (by omega)]; congr 1; omega)
  · repeat ((fail_if_success (with_reducible show wpAny _ _ (exec (.Assign [.Name "encrypted" _] _ _) _) _ _ _)); (first | (k_unfold; (try dsimp only)) | walk1 | (dsimp only; walk1)))
    refine assignComp_Z (F₀ := by k_asm) (by rfl) (by with_unfolding_all rfl) (by with_unfolding_all rfl) (by decide) (by rfl) (by decide) (by rfl) (by rfl) (by decide) (by rfl) (by rfl) ?_
    repeat (first | (k_unfold; (try dsimp only)) | walk1 | (dsimp only; walk1))
    (rename Fr _ _ _ _ => F3); (rename News _ _ _ _ => N3)
    have hlrm : Heap.IsList _ rm rv.toArray := News.isList N3 (.tail _ (.tail _ (.head _)))
    refine call_zb hlrm ?_
    intro h6 Z6 k6 e6
    have F6 := frKp F3 k6
    have N6 := newsKp N3 k6
    refine ⟨_, rm, bs, tb, rv.toArray, _, fun i zs => IntsAre zs (strm (ksC ke start) p (data.take i)), rfl, rfl, F6, N6, Z6, ?_, ?_, ?_, ?_, ?_, ?_, ?_, ?_⟩
    · have q : rv.toArray.size = rv.length := List.size_toArray ..
      rw [q, hrl, hbz]; exact Nat.not_lt.mp hlt
    · rw [sizeLine_eq]; omega
    · intro c o hle e
      exact absurd (Heap.lt_size (F3.keep _ _ e)) (Nat.not_lt.mpr hle)
    · exact F3.ns.lt
    · exact fun z hz => Heap.lt_size (N3 z hz).1
    · exact .nil
    · intro i cc u y zs h tk C oC m₂ E' hb hy hJ hoC m1 m2 F7 N7
      have hi9 : i < data.length := by rw [← hbz]; exact (Array.getElem?_eq_some_iff.mp hb).1
      have hg : data[i]? = some (cc.toNat : Int) := by rw [← hi]; exact KBw.ints_get hb
      obtain ⟨t9, rfl⟩ := hir.int_at i y (by simpa using hy)
      have ek : (seg (ksC ke start) p (16 * k - p)).getD i 0 = ksC ke start (p + i) := by
        rw [List.getD_eq_getElem?_getD, seg_get (by omega)]
        rfl
      rw [ek] at m2
      clear F3 F6 N3 N6
      repeat (first | (k_unfold; (try dsimp only)) | walk1 | (dsimp only; walk1))
      exact ints_eq (ints_app hJ (.cons _ _ .nil)) (strm_take hg).symm
    · intro zs hJ g D h7 tk7 F7 N7 off
      rw [hbz, List.take_length] at hJ
      clear F3 F6 N3 N6
      simp only [LCg.Off1, and_true] at off
      refine ctr_rest X T (by show dp + 0 < 400; omega) hx hJ hir (by rw [strm_len]; omega) (by rw [seg_len]; omega) (strm_in (ksC_in) data p fun z hz => KBw.ints_in (b := bs) (by rw [hi]; exact hz)) n1 n2 n3 n4 n5 n6 off.1 off.2.1 off.2.2.1 off.2.2.2 F7 rfl rfl N7 ?_
      intro h' tk' rm' rv' er' bs' t' F8 N8 e8 hir' q1 q2 q3
      rw [strm_len, seg_drop (by omega)] at hir'
      exact hR h' tk' _ bs' t' F8.keep (fun z hz => ⟨(N8 z hz).1, (N8 z hz).2.2⟩) ⟨d, xa, c, dc, l, rm', hA, hB, hC, hE, tA, tB, tC, tE, rv', er', lv, el, k, rfl, hxc, hcc, hai, hil, ints_eq hir' (by congr 1; omega), by omega, by omega, q1, q2, q3, n4, n5, n6⟩ e8
end
end
theorem rs44 : True ∧ True := by
  w_top off
  first | (walk1; fail) | exact ⟨trivial, trivial⟩
end
theorem rs45 : True ∧ True := by
  w_top off
  first | (walk1; fail) | exact ⟨trivial, trivial⟩
section
local macro_rules | `(tactic| walk_at "call ref") => `(tactic| k_extra "y3")
local macro_rules | `(tactic| walk_at "call builtin:len") => `(tactic| k_extra "y48")
local macro_rules | `(tactic| walk_at "subscriptTail Name Slice ref ref") => `(tactic| k_extra "y60")
section

section
variable {w : World} {dp un : Nat} {fr : Option (List Env)} {gd : Option (List Code)} {s : Shared} {mg mb : Str → Option Value} {lo : List Str} {h₀ : Heap}

theorem ofb_dec {R : Result → Shared → Prop} {ke : List (List Int)} {first data : List Int} {x : Addr} {mu con : List (Addr × Obj)} {p : Nat} {bs : Array UInt8} {tb : Tok}
    (KP : Kp h₀ s.heap) (hsz : h₀.objs.size ≤ s.heap.objs.size) (X : (K w.params).In h₀) (T : TopRead q lo mg mb h₀) (hdp : dp < 380)
    (hc : AtH h₀ con) (hm : ∀ z ∈ mu, s.heap.get? z.1 = some z.2 ∧ h₀.get? z.1 = none) (St : OfbSt ke first x mu con p) (hk1 : 2 ≤ ke.length) (hk2 : ke.length ≤ 20) (hfl : first.length = 16) (hfb : Bytes first)
    (hi : KBw.bInts bs = data) (hz : data.length ≤ 900)
    (hR : ∀ h' tk' mu' bs' t', Kp h₀ h' → (∀ z ∈ mu', h'.get? z.1 = some z.2 ∧ h₀.get? z.1 = none) → OfbSt ke first x mu' con (p + data.length) → KBw.bInts bs' = strm (ksO ke first) p data → R (.ok (.ret (.bytes bs' t'))) { s with heap := h', toks := tk' }) :
    codeAny (model pw w) (Ar dp un fr gd) (.call (.ref 406) ⟨[.ref x, .bytes bs tb], []⟩) R s := by
  have St' := St
  refine Classical.byContradiction fun hng => ?_
  obtain ⟨d, xa, rm, hA, hB, hC, tA, tB, tC, v, rv, er, lp, k, j, rfl, hxc, _⟩ := St
  refine hng ?_
  clear hng
  have hx := hc _ hxc
  dsimp only at hx
  refine enterN (binds := [("self", .ref x), ("ciphertext", .bytes bs tb)]) (news := (rm, listOf rv.toArray er) :: (d, dictOf [⟨hA, .str "_last_precipherblock" tA, v⟩, ⟨hB, .str "_remaining_block" tB, .ref rm⟩, ⟨hC, .str "_aes" tC, .ref xa⟩] 3) :: lp) KP hsz hm X T (by omega) rfl (by kernel_rfl) (BindsTo.of_eq rfl) (by decide) rfl ?_
  intro L h₁ tk F N l1
  clear l1
  repeat (first | (k_unfold; (try dsimp only)) | walk1 | (dsimp only; walk1))
  (rename Fr _ _ _ _ => F2); (rename News _ _ _ _ => N2)
  refine wpAny_call (ofb_enc F2.keep (Nat.le_of_lt (Nat.lt_of_le_of_lt F2.above F2.ns.lt)) X T (by show dp + 1 < 390; omega) hc (fun z hz => ⟨(N2 z hz).1, (N2 z hz).2.2⟩) St' hk1 hk2 hfl hfb hi hz ?_)
  intro h' tk' mu' bs' t' kp hm' S' e
  exact hR h' tk' mu' bs' t' kp hm' S' e
theorem ctr_dec {R : Result → Shared → Prop} {ke : List (List Int)} {start : Int} {data : List Int} {x : Addr} {mu con : List (Addr × Obj)} {p : Nat} {bs : Array UInt8} {tb : Tok}
    (KP : Kp h₀ s.heap) (hsz : h₀.objs.size ≤ s.heap.objs.size) (X : (K w.params).In h₀) (T : TopRead q lo mg mb h₀) (hdp : dp < 380)
    (hc : AtH h₀ con) (hm : ∀ z ∈ mu, s.heap.get? z.1 = some z.2 ∧ h₀.get? z.1 = none) (St : CtrSt ke start x mu con p) (hk1 : 2 ≤ ke.length) (hk2 : ke.length ≤ 20)
    (hi : KBw.bInts bs = data) (hz : data.length ≤ 900)
    (hR : ∀ h' tk' mu' bs' t', Kp h₀ h' → (∀ z ∈ mu', h'.get? z.1 = some z.2 ∧ h₀.get? z.1 = none) → CtrSt ke start x mu' con (p + data.length) → KBw.bInts bs' = strm (ksC ke start) p data → R (.ok (.ret (.bytes bs' t'))) { s with heap := h', toks := tk' }) :
    codeAny (model pw w) (Ar dp un fr gd) (.call (.ref 438) ⟨[.ref x, .bytes bs tb], []⟩) R s := by
  have St' := St
  refine Classical.byContradiction fun hng => ?_
  obtain ⟨d, xa, c, dc, l, rm, hA, hB, hC, hE, tA, tB, tC, tE, rv, er, lv, el, k, rfl, hxc, _⟩ := St
  refine hng ?_
  clear hng
  have hx := hc _ hxc
  dsimp only at hx
  refine enterN (binds := [("self", .ref x), ("crypttext", .bytes bs tb)]) (news := [(l, listOf (lv : List Value).toArray el), (dc, dictOf [⟨hE, .str "_counter" tE, .ref l⟩] 1), (rm, listOf (rv : List Value).toArray er), (d, dictOf [⟨hA, .str "_aes" tA, .ref xa⟩, ⟨hB, .str "_counter" tB, .ref c⟩, ⟨hC, .str "_remaining_counter" tC, .ref rm⟩] 3)]) KP hsz hm X T (by omega) rfl (by kernel_rfl) (BindsTo.of_eq rfl) (by decide) rfl ?_
  intro L h₁ tk F N l1
  clear l1
  repeat (first | (k_unfold; (try dsimp only)) | walk1 | (dsimp only; walk1))
  (rename Fr _ _ _ _ => F2); (rename News _ _ _ _ => N2)
  refine wpAny_call (ctr_enc F2.keep (Nat.le_of_lt (Nat.lt_of_le_of_lt F2.above F2.ns.lt)) X T (by show dp + 1 < 390; omega) hc (fun z hz => ⟨(N2 z hz).1, (N2 z hz).2.2⟩) St' hk1 hk2 hi hz ?_)
  intro h' tk' mu' bs' t' kp hm' S' e
  exact hR h' tk' mu' bs' t' kp hm' S' e
end
end
theorem rs46 : True ∧ True := by
  w_top off
  first | (walk1; fail) | exact ⟨trivial, trivial⟩
section
section
variable {prog : Program} {w : World} {A : Around} {E : Value → Shared → Prop} {s : Shared} {env : Env} {h₀ : Heap} {x : Str} {body : List Stmt} {Q : Flow → Shared → Prop}
/-- a loop over a range of any step by an invariant of its turns -/
theorem range_JS {r : Addr} {a₀ b₀ c₀ : Int} {t₀ u₀ v₀ : Tok} {n : Nat} {m₀ : Str → Option Value} {news : List (Addr × Obj)} (J : Nat → (Str → Option Value) → List (Addr × Obj) → Prop)
    (hh : A.handled = none) (hr : IsRange s.heap r a₀ b₀ c₀ t₀ u₀ v₀) (hsmall : Builtin.Range.small a₀ b₀ c₀ = true) (hn : Builtin.Range.rangeSize a₀ b₀ c₀ = (n : Int)) (F : Fr h₀ env.locals s.heap m₀) (N : News h₀ env.locals s.heap news) (h0 : J 0 m₀ news)
    (turn : ∀ i t m₁ nx h tk I io, i < n → J i m₁ nx → (∀ p ∈ nx, p.1 ≠ I) → Fr h₀ env.locals h (fun y => if y = x then some (.int (a₀ + (i : Int) * c₀) t) else m₁ y) → News h₀ env.locals h (nx ++ [(I, io)]) →
      wpAny (model prog w) A (execs body env) (TurnEnd h₀ env.locals (J (i + 1)) I io s Q) E { s with heap := h, toks := tk })
    (done : ∀ m' nx h' tk, J n m' nx → Fr h₀ env.locals h' m' → News h₀ env.locals h' nx → Q .next { s with heap := h', toks := tk }) :
    wpAny (model prog w) A (pyIter (.ref r)) (fun it s₂ => LoopAtV prog w A h₀ env x body Q E it s₂) E s := by
  refine wpAny_pyIter_range hr hsmall ?_
  have W : Walks prog w A s.heap.objs.size [s.heap.objs.size] [s.heap.objs.size] n (fun i v => i < n ∧ ∃ t, v = .int (a₀ + i * c₀) t)
      (fun i h => IsRangeIter h s.heap.objs.size (a₀ + (i : Nat) * c₀) ((n : Int) - (i : Nat)) c₀) := (Walks.range hh _ a₀ c₀ n).bound
  refine walk_J (Q := Q) J W (Nat.ne_of_lt F.ns.lt) ?_ (fun p hp => Nat.ne_of_lt (Heap.lt_size (N p hp).1)) ?_ (by show IsRangeIter _ _ _ _ _; rw [hn]; simpa using Heap.get?_push_size _ rfl) (F.push _) (fun p hp => ⟨Heap.get?_push_of_some _ (N p hp).1, (N p hp).2⟩) h0 ?_ ?_
  · cases e : h₀.get? s.heap.objs.size with
    | none => rfl
    | some o => exact absurd (Heap.lt_size (F.keep _ _ e)) (Nat.lt_irrefl _)
  · intro i h hst
    exact ⟨_, hst⟩
  · rintro i v m₁ nx h tk io hi ⟨_, t, rfl⟩ hJ hI F₁ N₁
    exact turn i t m₁ nx h tk _ io hi hJ hI F₁ N₁
  · intro m' nx h' tk hJ F' N'
    exact done m' nx h' tk hJ F' N'
end
theorem led_new {h₀ h h' : Heap} {L D : Addr} {o : Obj} {m : Str → Option Value} {news : List (Addr × Obj)} (F : Fr h₀ L h m) (N : News h₀ L h news) (kp : Kp h h') (e0 : h.get? D = none) (e1 : h'.get? D = some o) : News h₀ L h' ((D, o) :: news) ∧ ∀ p ∈ news, p.1 ≠ D := by
  refine ⟨fun p hp => ?_, fun p hp e => ?_⟩
  · rcases List.mem_cons.mp hp with rfl | hp
    · refine ⟨e1, fun e => ?_, ?_⟩
      · refine Classical.byContradiction fun hng => ?_
        obtain ⟨oL, _, _, hL, _⟩ := F.ns
        refine hng ?_
        clear hng
        have e' : D = L := e
        rw [e', hL] at e0
        cases e0
      · cases q : h₀.get? D with
        | none => rfl
        | some o => rw [F.keep _ _ q] at e0; cases e0
    · exact newsKp N kp p hp
  · rw [← e, (N p hp).1] at e0
    cases e0
section
variable {w : World} {dp un : Nat} {fr : Option (List Env)} {gd : Option (List Code)} {s : Shared} {mg mb : Str → Option Value} {lo : List Str} {h₀ : Heap}

theorem sum_call {L a b : Addr} {m : Str → Option Value} {news : List (Addr × Obj)} {va vb : List Value} {as bs : List Int} {Q : Value → Shared → Prop} {E : Value → Shared → Prop}
    (F : Fr h₀ L s.heap m) (N : News h₀ L s.heap news) (X : (K w.params).In h₀) (T : TopRead q lo mg mb h₀) (hd : dp < 900) (ha : s.heap.IsList a va.toArray) (hia : IntsAre va as) (hb : s.heap.IsList b vb.toArray) (hib : IntsAre vb bs) (hza : as.length ≤ 1000) (hzb : bs.length ≤ 1000)
    (h : ∀ h' tk' D vs n, Fr h₀ L h' m → News h₀ L h' ((D, listOf vs.toArray n) :: news) → (∀ p ∈ news, p.1 ≠ D) → IntsAre vs (List.zipWith Builtin.bitXor as bs) → Q (.ref D) { s with heap := h', toks := tk' }) :
    wpAny (model pw w) (Ar dp un fr gd) (call (.ref 462) [.ref a, .ref b]) Q E s :=
  wpAny_call (sum_spec (X.keeps F.keep) (T.keeps F.keep) hd ha hia hb hib hza hzb fun h' tk' D vs n kp e0 e1 hi => h h' tk' D vs n (frKp F kp) (led_new F N kp e0 e1).1 (led_new F N kp e0 e1).2 hi)
theorem count_call {L : Addr} {m : Str → Option Value} {news : List (Addr × Obj)} {n : Int} {t0 : Tok} {Q : Value → Shared → Prop} {E : Value → Shared → Prop}
    (F : Fr h₀ L s.heap m) (N : News h₀ L s.heap news) (X : (K w.params).In h₀) (T : TopRead q lo mg mb h₀) (hd : dp < 900)
    (h : ∀ h' tk' D vs k, Fr h₀ L h' m → News h₀ L h' ((D, listOf (vs : List Value).toArray k) :: news) → (∀ p ∈ news, p.1 ≠ D) → IntsAre vs (cnt n) → Q (.ref D) { s with heap := h', toks := tk' }) :
    wpAny (model pw w) (Ar dp un fr gd) (call (.ref 467) [.int n t0]) Q E s :=
  wpAny_call (count_spec (X.keeps F.keep) (T.keeps F.keep) hd fun h' tk' D vs k kp e0 e1 hi => h h' tk' D vs k (frKp F kp) (led_new F N kp e0 e1).1 (led_new F N kp e0 e1).2 hi)
end
end
theorem rs47 : True ∧ True := by
  w_top off
  first | (walk1; fail) | exact ⟨trivial, trivial⟩
section

theorem ite_lit {x c : Int} {P R : Prop} (h : (x == c) = false) (q : R) : if (x == c) = true then P else R := by
  rw [h]; exact q
theorem ite_litT {x c : Int} {P R : Prop} (h : (x == c) = true) (q : P) : if (x == c) = true then P else R := by
  rw [h]; exact q
local macro_rules | `(tactic| walk_at "ite") => `(tactic| k_extra "y52")
theorem part_eq {α : Type} {data : List α} {i : Nat} : List.take (min (0 + (i : Int) * 16 + 16).toNat data.length - (0 + (i : Int) * 16).toNat) (List.drop (0 + (i : Int) * 16).toNat data) = (data.drop (16 * i)).take 16 := by
  have e1 : (0 + (i : Int) * 16).toNat = 16 * i := by omega
  have e2 : (0 + (i : Int) * 16 + 16).toNat = 16 * i + 16 := by omega
  rw [e1, e2]
  by_cases h : 16 * i + 16 ≤ data.length
  · congr 1
    omega
  · rw [List.take_of_length_le (by rw [List.length_drop]; omega), List.take_of_length_le (by rw [List.length_drop]; omega)]
theorem place_eq {start : Int} {i : Nat} : cnt (start + (0 + (i : Int) * 16).fdiv 16) = cnt (start + (i : Nat)) := by
  rw [Int.zero_add, Int.fdiv_eq_ediv_of_nonneg _ (by decide), Int.mul_ediv_cancel _ (by decide)]
theorem perm83 {h₀ h : Heap} {L : Addr} {a b c e f g i j : Addr × Obj} (N : News h₀ L h [a, b, c, e, f, g, i, j]) : News h₀ L h ([a, e] ++ [g]) := fun p hp => N p (by
  simp only [List.mem_append, List.mem_cons, List.not_mem_nil, or_false] at hp ⊢
  rcases hp with (h | h) | h <;> simp [h])
theorem perm93 {h₀ h : Heap} {L : Addr} {a b c e f g i j k : Addr × Obj} (N : News h₀ L h [a, b, c, e, f, g, i, j, k]) : News h₀ L h ([a, k] ++ [i]) := fun p hp => N p (by
  simp only [List.mem_append, List.mem_cons, List.not_mem_nil, or_false] at hp ⊢
  rcases hp with (h | h) | h <;> simp [h])
noncomputable def ruleBody : List Stmt := stB (fB (T 23))
noncomputable def ruleScope : Scope := fS (T 23)
noncomputable def ruleTurn : List Stmt := match ruleBody.drop 3 with | .For _ _ b _ _ :: _ => b | _ => []
section
variable {w : World} {dp un : Nat} {fr : Option (List Env)} {gd : Option (List Code)} {s : Shared} {mg mb : Str → Option Value} {lo : List Str} {h₀ : Heap}

theorem rule_turn3 {I o la dl xa L : Addr} {m : Str → Option Value} {io : Obj} {ke : List (List Int)} {i : Nat} {t tm tst ts : Tok} {dv ov lv : List Value} {data os B : List Int} {oe le : Nat} {start : Int} {Q : Flow → Shared → Prop}
    (X : (K w.params).In h₀) (T : TopRead q lo mg mb h₀) (hdp : dp < 400) (ha : AesAt h₀ xa ke) (hk1 : 2 ≤ ke.length) (hk2 : ke.length ≤ 20)
    (hdl : h₀.IsList dl dv.toArray) (hid : IntsAre dv data) (hz : data.length ≤ 900) (hi : IntsAre ov os) (hoz : os.length ≤ 1000) (hil : IntsAre lv B) (hB : B.length = 16) (hBb : Bytes B) (hi16 : i < 100)
    (n1 : @Ne Nat I o) (n2 : @Ne Nat I la) (n3 : @Ne Nat o la)
    (F : Fr h₀ L s.heap (fun y => if y = "place" then some (.int (0 + (i : Int) * 16) t) else kstB m [("mode", .int 3 tm), ("aes", .ref xa), ("data", .ref dl), ("step", .int 16 tst), ("start", .int start ts), ("out", .ref o), ("last", .ref la)] y))
    (N : News h₀ L s.heap [(I, io), (o, listOf ov.toArray oe), (la, listOf lv.toArray le)])
    (done : ∀ h' tk' m' o' ov' oe' la' lv' le', Fr h₀ L h' m' → (m' "mode" = some (.int 3 tm) ∧ m' "aes" = some (.ref xa) ∧ m' "data" = some (.ref dl) ∧ m' "step" = some (.int 16 tst) ∧ m' "start" = some (.int start ts)) → m' "out" = some (.ref o') → m' "last" = some (.ref la') → News h₀ L h' ([(o', listOf (ov' : List Value).toArray oe'), (la', listOf (lv' : List Value).toArray le')] ++ [(I, io)]) →
      IntsAre ov' (os ++ List.zipWith Builtin.bitXor ((data.drop (16 * i)).take 16) (enc ke B)) → IntsAre lv' (enc ke B) → @Ne Nat o' la' → @Ne Nat o' I → @Ne Nat la' I → Q .next { s with heap := h', toks := tk' }) :
    wpAny (model pw w) ((Ar dp un fr gd).deeper (envOf "_law_rule" ruleScope L 481 (.ref 480))) (execs ruleTurn (envOf "_law_rule" ruleScope L 481 (.ref 480))) Q (fun _ _ => False) s := by
  refine with_scope (sc := ruleScope) (P := fun sc => wpAny (model pw w) ((Ar dp un fr gd).deeper (envOf "_law_rule" sc L 481 (.ref 480))) (execs ruleTurn (envOf "_law_rule" sc L 481 (.ref 480))) Q (fun _ _ => False) s) rfl ?_
  refine with_list (P := fun l => wpAny (model pw w) _ (execs l _) Q (fun _ _ => False) s) rfl ?_
  dsimp only [kstB] at F
  have ha' := ha
  refine Classical.byContradiction fun hng => ?_
  obtain ⟨da, ka, kb, g1, g2, g3, g4, g5, hxa, hda, hro⟩ := ha
  refine hng ?_
  clear hng
  have hdz := hid.length
  have hovz := hi.length
  have hlvz := hil.length
  repeat (first | (k_unfold; (try dsimp only)) | walk1 | (dsimp only; walk1))
  (rename Fr _ _ _ _ => F1); (rename News _ _ _ _ => N1); (rename IntsAre _ (List.take _ _) => h1P); (rename @LE.le Nat _ (List.length (List.take _ _)) _ => hPz)
  generalize hPT : List.take _ _ = PT at h1P hPz
  refine enc_call F1 N1 X T (by show dp + 1 < 650; omega) ha' hk1 hk2 (.inr ⟨la, lv, le, rfl, .tail _ (.tail _ (.tail _ (.head _))), hil⟩) hB hBb ?_
  intro h2 tk2 E rvE erE F2 N2 ap hiE
  have eP : @Ne Nat _ E := ap _ (.head _)
  dsimp only at eP
  have eI : @Ne Nat I E := ap (I, io) (.tail _ (.head _))
  have eO : @Ne Nat o E := ap (o, _) (.tail _ (.tail _ (.head _)))
  have hE16 : (enc ke B).length = 16 := enc_len
  clear F1 N1
  repeat (first | (k_unfold; (try dsimp only)) | walk1 | (dsimp only; walk1))
  (rename Fr _ _ _ _ => F3); (rename News _ _ _ _ => N3)
  refine sum_call F3 N3 X T (by show dp + 1 < 900; omega) (News.isList N3 (.tail _ (.head _))) h1P (News.isList N3 (.head _)) hiE (by omega) (by omega) ?_
  intro h4 tk4 S svS seS F4 N4 aS hiS
  have sI : @Ne Nat I S := aS (I, io) (.tail _ (.tail _ (.head _)))
  have sO : @Ne Nat o S := aS (o, _) (.tail _ (.tail _ (.tail _ (.head _))))
  have sE : @Ne Nat E S := aS (E, _) (.head _)
  have hsz : (List.zipWith Builtin.bitXor PT (enc ke B)).length ≤ 16 := by rw [List.length_zipWith]; omega
  have hsl := hiS.length
  clear F3 N3
  repeat (first | (k_unfold; (try dsimp only)) | walk1 | (dsimp only; walk1))
  (rename Fr _ _ _ _ => F9); (rename News _ _ _ _ => N9); (rename (_ < _ ∧ _ < _ ∧ _ < _ ∧ _ < _ ∧ _ < _ ∧ _ < _ ∧ _ < _) => l9); (rename IntsAre _ (os ++ _) => hI9)
  subst hPT
  rw [part_eq] at hI9
  exact done _ _ _ _ _ _ E rvE erE F9 ⟨rfl, rfl, rfl, rfl, rfl⟩ rfl rfl (perm83 N9) hI9 hiE (Nat.ne_of_gt l9.2.2.1) (Nat.ne_of_gt l9.2.2.2.2.1) eI.symm
theorem rule_turn4 {I o la dl xa L : Addr} {m : Str → Option Value} {io : Obj} {ke : List (List Int)} {i : Nat} {t tm tst ts : Tok} {dv ov lv : List Value} {data os B : List Int} {oe le : Nat} {start : Int} {Q : Flow → Shared → Prop}
    (X : (K w.params).In h₀) (T : TopRead q lo mg mb h₀) (hdp : dp < 400) (ha : AesAt h₀ xa ke) (hk1 : 2 ≤ ke.length) (hk2 : ke.length ≤ 20)
    (hdl : h₀.IsList dl dv.toArray) (hid : IntsAre dv data) (hz : data.length ≤ 900) (hi : IntsAre ov os) (hoz : os.length ≤ 1000) (hil : IntsAre lv B) (hB : B.length = 16) (hBb : Bytes B) (hi16 : i < 100)
    (n1 : @Ne Nat I o) (n2 : @Ne Nat I la) (n3 : @Ne Nat o la)
    (F : Fr h₀ L s.heap (fun y => if y = "place" then some (.int (0 + (i : Int) * 16) t) else kstB m [("mode", .int 4 tm), ("aes", .ref xa), ("data", .ref dl), ("step", .int 16 tst), ("start", .int start ts), ("out", .ref o), ("last", .ref la)] y))
    (N : News h₀ L s.heap [(I, io), (o, listOf ov.toArray oe), (la, listOf lv.toArray le)])
    (done : ∀ h' tk' m' o' ov' oe' la' lv' le', Fr h₀ L h' m' → (m' "mode" = some (.int 4 tm) ∧ m' "aes" = some (.ref xa) ∧ m' "data" = some (.ref dl) ∧ m' "step" = some (.int 16 tst) ∧ m' "start" = some (.int start ts)) → m' "out" = some (.ref o') → m' "last" = some (.ref la') → News h₀ L h' ([(o', listOf (ov' : List Value).toArray oe'), (la', listOf (lv' : List Value).toArray le')] ++ [(I, io)]) →
      IntsAre ov' (os ++ List.zipWith Builtin.bitXor ((data.drop (16 * i)).take 16) (enc ke (cnt (start + (i : Nat))))) → IntsAre lv' (B) → @Ne Nat o' la' → @Ne Nat o' I → @Ne Nat la' I → Q .next { s with heap := h', toks := tk' }) :
    wpAny (model pw w) ((Ar dp un fr gd).deeper (envOf "_law_rule" ruleScope L 481 (.ref 480))) (execs ruleTurn (envOf "_law_rule" ruleScope L 481 (.ref 480))) Q (fun _ _ => False) s := by
  refine with_scope (sc := ruleScope) (P := fun sc => wpAny (model pw w) ((Ar dp un fr gd).deeper (envOf "_law_rule" sc L 481 (.ref 480))) (execs ruleTurn (envOf "_law_rule" sc L 481 (.ref 480))) Q (fun _ _ => False) s) rfl ?_
  refine with_list (P := fun l => wpAny (model pw w) _ (execs l _) Q (fun _ _ => False) s) rfl ?_
  dsimp only [kstB] at F
  have ha' := ha
  refine Classical.byContradiction fun hng => ?_
  obtain ⟨da, ka, kb, g1, g2, g3, g4, g5, hxa, hda, hro⟩ := ha
  refine hng ?_
  clear hng
  have hdz := hid.length
  have hovz := hi.length
  have hlvz := hil.length
  repeat (first | (k_unfold; (try dsimp only)) | walk1 | (dsimp only; walk1))
  (rename Fr _ _ _ _ => F1); (rename News _ _ _ _ => N1); (rename IntsAre _ (List.take _ _) => h1P); (rename @LE.le Nat _ (List.length (List.take _ _)) _ => hPz)
  generalize hPT : List.take _ _ = PT at h1P hPz
  refine count_call F1 N1 X T (by show dp + 1 < 900; omega) ?_
  intro h2 tk2 C cv cn F2 N2 aC hiC
  have cI : @Ne Nat I C := aC (I, io) (.tail _ (.head _))
  have cO : @Ne Nat o C := aC (o, _) (.tail _ (.tail _ (.head _)))
  have cL : @Ne Nat la C := aC (la, _) (.tail _ (.tail _ (.tail _ (.head _))))
  have cP : @Ne Nat _ C := aC _ (.head _)
  dsimp only at cP
  rw [place_eq] at hiC
  have hC16 := cnt_len (start + (i : Nat))
  clear F1 N1
  repeat (first | (k_unfold; (try dsimp only)) | walk1 | (dsimp only; walk1))
  (rename Fr _ _ _ _ => F3); (rename News _ _ _ _ => N3)
  refine enc_call F3 N3 X T (by show dp + 1 < 650; omega) ha' hk1 hk2 (.inr ⟨C, cv, cn, rfl, (.head _), hiC⟩) hC16 (cnt_bytes _) ?_
  intro h3 tk3 E rvE erE F4 N4 ap hiE
  have eP : @Ne Nat _ E := ap _ (.tail _ (.head _))
  dsimp only at eP
  have eC : @Ne Nat C E := ap (C, _) (.head _)
  have eI : @Ne Nat I E := ap (I, io) (.tail _ (.tail _ (.head _)))
  have eO : @Ne Nat o E := ap (o, _) (.tail _ (.tail _ (.tail _ (.head _))))
  have hE16 : (enc ke (cnt (start + (i : Nat)))).length = 16 := enc_len
  clear F3 N3
  repeat (first | (k_unfold; (try dsimp only)) | walk1 | (dsimp only; walk1))
  (rename Fr _ _ _ _ => F5); (rename News _ _ _ _ => N5)
  refine sum_call F5 N5 X T (by show dp + 1 < 900; omega) (News.isList N5 (.tail _ (.tail _ (.head _)))) h1P (News.isList N5 (.head _)) hiE (by omega) (by omega) ?_
  intro h4 tk4 S svS seS F6 N6 aS hiS
  have sI : @Ne Nat I S := aS (I, io) (.tail _ (.tail _ (.tail _ (.head _))))
  have sO : @Ne Nat o S := aS (o, _) (.tail _ (.tail _ (.tail _ (.tail _ (.head _)))))
  have hsz : (List.zipWith Builtin.bitXor PT (enc ke (cnt (start + (i : Nat))))).length ≤ 16 := by rw [List.length_zipWith]; omega
  have hsl := hiS.length
  clear F5 N5
  repeat (first | (k_unfold; (try dsimp only)) | walk1 | (dsimp only; walk1))
  (rename Fr _ _ _ _ => F9); (rename News _ _ _ _ => N9); (rename (_ < _ ∧ _ < _ ∧ _ < _ ∧ _ < _ ∧ _ < _ ∧ _ < _ ∧ _ < _ ∧ _ < _) => l9); (rename IntsAre _ (os ++ _) => hI9)
  subst hPT
  rw [part_eq] at hI9
  exact done _ _ _ _ _ _ la lv le F9 ⟨rfl, rfl, rfl, rfl, rfl⟩ rfl rfl (perm93 N9) hI9 hil (Nat.ne_of_gt l9.2.2.2.2.2.2.2) (Nat.ne_of_gt l9.2.2.2.2.2.1) n2.symm
end
end
theorem rs48 : True ∧ True := by
  w_top off
  first | (walk1; fail) | exact ⟨trivial, trivial⟩
section

theorem strm_zip {ks : Nat → Int} : ∀ (part B : List Int) (p : Nat), part.length ≤ B.length → (∀ j, j < part.length → ks (p + j) = B.getD j 0) → strm ks p part = List.zipWith Builtin.bitXor part B
  | [], B, p, _, _ => by simp [strm]
  | x :: r, [], p, h, _ => absurd h (by simp)
  | x :: r, y :: B, p, h, e => by
    rw [strm, List.zipWith_cons_cons, strm_zip r B (p + 1) (by simpa using h) fun j hj => ?_, show ks p = y from e 0 (by simp)]
    have := e (j + 1) (by simpa using hj)
    rw [show p + 1 + j = p + (j + 1) by omega, this]
    rfl
theorem strm_blk {ks : Nat → Int} {data B : List Int} {i : Nat} (h : 16 * i < data.length) (hB : B.length = 16) (e : ∀ j, j < 16 → ks (16 * i + j) = B.getD j 0) :
    strm ks 0 (data.take (16 * (i + 1))) = strm ks 0 (data.take (16 * i)) ++ List.zipWith Builtin.bitXor ((data.drop (16 * i)).take 16) B := by
  rw [show 16 * (i + 1) = 16 * i + 16 by omega, List.take_add, strm_app, List.length_take, Nat.min_eq_left (Nat.le_of_lt h), Nat.zero_add]
  rw [strm_zip _ B (16 * i) (by rw [List.length_take]; omega) fun j hj => e j (by rw [List.length_take] at hj; omega)]
theorem sub31 {h₀ h : Heap} {L : Addr} {a b c : Addr × Obj} (N : News h₀ L h [a, b, c]) : News h₀ L h [c, b] := fun p hp => N p (by
  simp only [List.mem_cons, List.not_mem_nil, or_false] at hp ⊢
  rcases hp with h | h <;> simp [h])
theorem swap21 {h₀ h : Heap} {L : Addr} {a b c : Addr × Obj} (N : News h₀ L h ([a, b] ++ [c])) : News h₀ L h [c, a, b] := fun p hp => N p (by
  simp only [List.mem_append, List.mem_cons, List.not_mem_nil, or_false] at hp ⊢
  rcases hp with h | h | h <;> simp [h])
section
variable {w : World} {dp un : Nat} {fr : Option (List Env)} {gd : Option (List Code)} {s : Shared} {mg mb : Str → Option Value} {lo : List Str} {h₀ : Heap}

theorem rule_ofb {R : Result → Shared → Prop} {ke : List (List Int)} {first data : List Int} {fv dv : List Value} {start : Int} {xa fl dl : Addr} {tm tz ts : Tok}
    (X : (K w.params).In s.heap) (T : TopRead q lo mg mb s.heap) (hdp : dp < 390) (ha : AesAt s.heap xa ke) (hk1 : 2 ≤ ke.length) (hk2 : ke.length ≤ 20)
    (hf : s.heap.IsList fl fv.toArray) (hif : IntsAre fv first) (hfl : first.length = 16) (hfb : Bytes first) (hdl : s.heap.IsList dl dv.toArray) (hid : IntsAre dv data) (hz : data.length ≤ 900)
    (hR : ∀ h' tk' D ov oe, Kp s.heap h' → s.heap.get? D = none → h'.get? D = some (listOf (ov : List Value).toArray oe) → IntsAre ov (strm (ksO ke first) 0 data) → R (.ok (.ret (.ref D))) { s with heap := h', toks := tk' }) :
    codeAny (model pw w) (Ar dp un fr gd) (.call (.ref 481) ⟨[.int 3 tm, .ref xa, .ref fl, .int 1 tz, .int start ts, .ref dl], []⟩) R s := by
  refine enter (binds := [("mode", .int 3 tm), ("aes", .ref xa), ("first", .ref fl), ("size", .int 1 tz), ("start", .int start ts), ("data", .ref dl)]) X T (by omega) rfl (by kernel_rfl) (BindsTo.of_eq rfl) (by decide) rfl ?_
  intro L h₁ tk F N
  have ha' := ha
  refine Classical.byContradiction fun hng => ?_
  obtain ⟨da, ka, kb, g1, g2, g3, g4, g5, hxa, hda, hro⟩ := ha
  refine hng ?_
  clear hng
  have hfz := hif.length
  have hdz := hid.length
  repeat ((fail_if_success (with_reducible show wpAny _ _ (pyIter _) _ _ _)); (first | (k_unfold; (try dsimp only)) | walk1 | (dsimp only; walk1)))
  rename_i t1 t2 t3 hrg F2 N2 kp2
  refine range_JS (n := (data.length + 15) / 16) (J := fun i m nx => ∃ o ov oe la lv le tst, nx = [(o, listOf (ov : List Value).toArray oe), (la, listOf (lv : List Value).toArray le)] ∧ (m "mode" = some (.int 3 tm) ∧ m "aes" = some (.ref xa) ∧ m "data" = some (.ref dl) ∧ m "step" = some (.int 16 tst) ∧ m "start" = some (.int start ts)) ∧ m "out" = some (.ref o) ∧ m "last" = some (.ref la) ∧ IntsAre ov (strm (ksO ke first) 0 (data.take (16 * i))) ∧ IntsAre lv (Bl ke first i) ∧ @Ne Nat o la) rfl hrg ?sm ?sz F2 (sub31 N2) ?h0 ?turn ?done
  case sm => exact small_of (by omega) (by omega) (by omega) (by omega) (by omega) (by omega)
  case sz =>
    unfold Builtin.Range.rangeSize
    simp only [show ((16 : Int) > 0) by decide, if_true]
    split <;> omega
  case h0 =>
    refine ⟨_, [], 0, _, fv, _, _, rfl, ⟨rfl, rfl, rfl, rfl, rfl⟩, rfl, rfl, .nil, hif, ?_⟩
    omega
  case turn =>
    intro i t m₁ nx h tk I io hi hJz hI F3 N3
    refine Classical.byContradiction fun hng => ?_
    obtain ⟨o, ov, oe, la, lv, le, tst, rfl, ⟨f1, f2, f3, f4, f5⟩, f6, f7, hio, hil, ne⟩ := hJz
    refine hng ?_
    clear hng
    have em : kstB m₁ [(Str.ofString "mode", Value.int 3 tm), ("aes", .ref xa), ("data", .ref dl), ("step", .int 16 tst), ("start", .int start ts), ("out", .ref o), ("last", .ref la)] = m₁ := funext fun z => kstB_eq (fcons f1 (fcons f2 (fcons f3 (fcons f4 (fcons f5 (fcons f6 (fcons f7 fnil))))))) fun _ => rfl
    rw [← em] at F3
    have hi6 : 16 * i < data.length := by omega
    refine rule_turn3 X T (by show dp + 0 < 400; omega) ha' hk1 hk2 hdl hid hz hio (by rw [strm_len, List.length_take]; omega) hil (Bl_len hfl i) (Bl_in hfb i) (by omega) (fun e => hI _ (.head _) e.symm) (fun e => hI _ (.tail _ (.head _)) e.symm) ne F3 (swap21 N3) ?_
    intro h' tk' m' o' ov' oe' la' lv' le' F4 g g6 g7 N4 hio' hil' q1 q2 q3
    refine TurnEnd.intro F4 N4 (fun z hz => hz) (fun z hz => ?_) ⟨o', ov', oe', la', lv', le', tst, rfl, g, g6, g7, ints_eq hio' ?_, hil', q1⟩
    · simp only [List.mem_cons, List.not_mem_nil, or_false] at hz
      rcases hz with rfl | rfl
      · exact q2
      · exact q3
    · refine (strm_blk hi6 enc_len fun j hj => ?_).symm
      unfold ksO
      rw [show (16 * i + j) / 16 = i by omega, show (16 * i + j) % 16 = j by omega]
      rfl
  case done =>
    intro m9 nx h9 tk hJz F3 N3
    refine Classical.byContradiction fun hng => ?_
    obtain ⟨o, ov, oe, la, lv, le, tst, rfl, _, f6, _, hio, _, ne⟩ := hJz
    refine hng ?_
    clear hng
    have em : kstB m9 [(Str.ofString "out", Value.ref o)] = m9 := funext fun z => kstB_eq (fcons f6 fnil) fun _ => rfl
    rw [← em] at F3
    dsimp only [kstB] at F3
    rw [List.take_of_length_le (by omega)] at hio
    clear F2 N2
    repeat (first | (k_unfold; (try dsimp only)) | walk1 | (dsimp only; walk1))
    exact hR _ _ o ov oe F3.keep (N3 _ (.head _)).2.2 (N3 _ (.head _)).1 hio

theorem rule_ctr {R : Result → Shared → Prop} {ke : List (List Int)} {first data : List Int} {fv dv : List Value} {start : Int} {xa fl dl : Addr} {tm tz ts : Tok}
    (X : (K w.params).In s.heap) (T : TopRead q lo mg mb s.heap) (hdp : dp < 390) (ha : AesAt s.heap xa ke) (hk1 : 2 ≤ ke.length) (hk2 : ke.length ≤ 20)
    (hf : s.heap.IsList fl fv.toArray) (hif : IntsAre fv first) (hfl : first.length = 16) (hfb : Bytes first) (hdl : s.heap.IsList dl dv.toArray) (hid : IntsAre dv data) (hz : data.length ≤ 900)
    (hR : ∀ h' tk' D ov oe, Kp s.heap h' → s.heap.get? D = none → h'.get? D = some (listOf (ov : List Value).toArray oe) → IntsAre ov (strm (ksC ke start) 0 data) → R (.ok (.ret (.ref D))) { s with heap := h', toks := tk' }) :
    codeAny (model pw w) (Ar dp un fr gd) (.call (.ref 481) ⟨[.int 4 tm, .ref xa, .ref fl, .int 1 tz, .int start ts, .ref dl], []⟩) R s := by
  refine enter (binds := [("mode", .int 4 tm), ("aes", .ref xa), ("first", .ref fl), ("size", .int 1 tz), ("start", .int start ts), ("data", .ref dl)]) X T (by omega) rfl (by kernel_rfl) (BindsTo.of_eq rfl) (by decide) rfl ?_
  intro L h₁ tk F N
  have ha' := ha
  refine Classical.byContradiction fun hng => ?_
  obtain ⟨da, ka, kb, g1, g2, g3, g4, g5, hxa, hda, hro⟩ := ha
  refine hng ?_
  clear hng
  have hfz := hif.length
  have hdz := hid.length
  repeat ((fail_if_success (with_reducible show wpAny _ _ (pyIter _) _ _ _)); (first | (k_unfold; (try dsimp only)) | walk1 | (dsimp only; walk1)))
  rename_i t1 t2 t3 hrg F2 N2 kp2
  refine range_JS (n := (data.length + 15) / 16) (J := fun i m nx => ∃ o ov oe la lv le tst, nx = [(o, listOf (ov : List Value).toArray oe), (la, listOf (lv : List Value).toArray le)] ∧ (m "mode" = some (.int 4 tm) ∧ m "aes" = some (.ref xa) ∧ m "data" = some (.ref dl) ∧ m "step" = some (.int 16 tst) ∧ m "start" = some (.int start ts)) ∧ m "out" = some (.ref o) ∧ m "last" = some (.ref la) ∧ IntsAre ov (strm (ksC ke start) 0 (data.take (16 * i))) ∧ IntsAre lv (first) ∧ @Ne Nat o la) rfl hrg ?sm ?sz F2 (sub31 N2) ?h0 ?turn ?done
  case sm => exact small_of (by omega) (by omega) (by omega) (by omega) (by omega) (by omega)
  case sz =>
    unfold Builtin.Range.rangeSize
    simp only [show ((16 : Int) > 0) by decide, if_true]
    split <;> omega
  case h0 =>
    refine ⟨_, [], 0, _, fv, _, _, rfl, ⟨rfl, rfl, rfl, rfl, rfl⟩, rfl, rfl, .nil, hif, ?_⟩
    omega
  case turn =>
    intro i t m₁ nx h tk I io hi hJz hI F3 N3
    refine Classical.byContradiction fun hng => ?_
    obtain ⟨o, ov, oe, la, lv, le, tst, rfl, ⟨f1, f2, f3, f4, f5⟩, f6, f7, hio, hil, ne⟩ := hJz
    refine hng ?_
    clear hng
    have em : kstB m₁ [(Str.ofString "mode", Value.int 4 tm), ("aes", .ref xa), ("data", .ref dl), ("step", .int 16 tst), ("start", .int start ts), ("out", .ref o), ("last", .ref la)] = m₁ := funext fun z => kstB_eq (fcons f1 (fcons f2 (fcons f3 (fcons f4 (fcons f5 (fcons f6 (fcons f7 fnil))))))) fun _ => rfl
    rw [← em] at F3
    have hi6 : 16 * i < data.length := by omega
    refine rule_turn4 X T (by show dp + 0 < 400; omega) ha' hk1 hk2 hdl hid hz hio (by rw [strm_len, List.length_take]; omega) hil hfl hfb (by omega) (fun e => hI _ (.head _) e.symm) (fun e => hI _ (.tail _ (.head _)) e.symm) ne F3 (swap21 N3) ?_
    intro h' tk' m' o' ov' oe' la' lv' le' F4 g g6 g7 N4 hio' hil' q1 q2 q3
    refine TurnEnd.intro F4 N4 (fun z hz => hz) (fun z hz => ?_) ⟨o', ov', oe', la', lv', le', tst, rfl, g, g6, g7, ints_eq hio' ?_, hil', q1⟩
    · simp only [List.mem_cons, List.not_mem_nil, or_false] at hz
      rcases hz with rfl | rfl
      · exact q2
      · exact q3
    · refine (strm_blk hi6 enc_len fun j hj => ?_).symm
      unfold ksC
      rw [show (16 * i + j) / 16 = i by omega, show (16 * i + j) % 16 = j by omega]
      skip
  case done =>
    intro m9 nx h9 tk hJz F3 N3
    refine Classical.byContradiction fun hng => ?_
    obtain ⟨o, ov, oe, la, lv, le, tst, rfl, _, f6, _, hio, _, ne⟩ := hJz
    refine hng ?_
    clear hng
    have em : kstB m9 [(Str.ofString "out", Value.ref o)] = m9 := funext fun z => kstB_eq (fcons f6 fnil) fun _ => rfl
    rw [← em] at F3
    dsimp only [kstB] at F3
    rw [List.take_of_length_le (by omega)] at hio
    clear F2 N2
    repeat (first | (k_unfold; (try dsimp only)) | walk1 | (dsimp only; walk1))
    exact hR _ _ o ov oe F3.keep (N3 _ (.head _)).2.2 (N3 _ (.head _)).1 hio

end
end
theorem rs49 : True ∧ True := by
  w_top off
  first | (walk1; fail) | exact ⟨trivial, trivial⟩
section

theorem fresh_back {h h1 h' : Heap} {a : Addr} {d : Addr} (kb : Kp h (hideAll h1 [d])) (e : (hideAll h1 [d]).get? a = none) : h.get? a = none := by
  cases q : h.get? a with
  | none => rfl
  | some o => rw [kb _ _ q] at e; cases e
section
variable {w : World} {s : Shared} {mg mb : Str → Option Value} {lo : List Str}
theorem mkOFB {bs bf : Array UInt8} {tb tf : Tok} {key first : List Int} {Q : Value → Shared → Prop} {A : Around}
    (X : (K w.params).In s.heap) (T : TopRead q lo mg mb s.heap) (hd : A.depth < 400) (hA : A.handled = none)
    (hi : KBw.bInts bs = key) (hn : key.length = 16 ∨ key.length = 24 ∨ key.length = 32) (hif : KBw.bInts bf = first) (hfl : first.length = 16)
    (h : ∀ h' tk' x mu con, Kp s.heap h' → (∀ p ∈ mu, h'.get? p.1 = some p.2 ∧ s.heap.get? p.1 = none) → (∀ p ∈ con, h'.get? p.1 = some p.2 ∧ s.heap.get? p.1 = none) → (∀ p ∈ con, ∀ z ∈ mu, @Ne Nat p.1 z.1) → OfbSt (keOf key) first x mu con 0 → Q (.ref x) { s with heap := h', toks := tk' }) :
    wpAny (model pw w) A (call (.ref 409) [.bytes bs tb, .bytes bf tf]) Q (fun _ _ => False) s := by
  refine call_clsX X (by k_is) (by k_is) (by k_is) ?_
  intro h1 k1 nx nd fx fd
  refine Classical.byContradiction fun hng => ?_
  obtain ⟨hnd, dp, fr, gd, un⟩ := A
  refine hng ?_
  clear hng
  dsimp only at hA hd
  subst hA
  generalize s.heap.objs.size = d at nx nd fx fd
  have hxd : @Ne Nat (d + 1) d := Nat.succ_ne_self d
  have ha : ∀ a ∈ [d], s.heap.get? a = none := fun a h => by rw [List.mem_singleton.mp h]; exact fd
  have kb := hide_base k1 ha
  have hx1 := hideAll_get [d] nx (by simpa using hxd)
  refine ofb_init (h₀ := hideAll h1 [d]) hide_kp (Nat.le_of_eq (hideAll_size _ _)) nd (hideAll_none _ (.head _)) hx1 (X.keeps kb) (T.keeps kb) (by show dp + 1 < 450; omega) hi hn hif hfl ?_
  intro h' tk' hA hB hC tA tB tC rm k xa rest kp e1 e2 e3 e4 er ai
  refine ⟨rfl, ?_⟩
  dsimp only
  have kk : Kp s.heap h' := fun b o e => kp b o (kb b o e)
  have ex := kp _ _ hx1
  have erm := fresh_back (h' := h') kb e3
  have hxr : @Ne Nat (d + 1) rm := fun e => by rw [← e, hx1] at e3; cases e3
  refine h h' tk' (d + 1) [(rm, listOf (List.toArray ([] : List Value)) k), (d, dictOf [⟨hA, .str "_last_precipherblock" tA, .bytes bf tf⟩, ⟨hB, .str "_remaining_block" tB, .ref rm⟩, ⟨hC, .str "_aes" tC, .ref xa⟩] 3)] ((d + 1, instObj 409 d) :: rest) kk (fun p hp => ?_) (fun p hp => ?_) (fun p hp z hz => ?_) ?_
  · simp only [List.mem_cons, List.not_mem_nil, or_false] at hp
    rcases hp with rfl | rfl
    · exact ⟨e2, erm⟩
    · exact ⟨e1, fd⟩
  · rcases List.mem_cons.mp hp with rfl | hp
    · exact ⟨ex, fx⟩
    · exact ⟨(er p hp).1, fresh_back (h' := h') kb (er p hp).2.1⟩
  · simp only [List.mem_cons, List.not_mem_nil, or_false] at hz
    rcases List.mem_cons.mp hp with rfl | hp
    · rcases hz with rfl | rfl
      · exact hxr
      · exact hxd
    · rcases hz with rfl | rfl
      · exact (er p hp).2.2.2
      · exact (er p hp).2.2.1
  · exact ⟨d, xa, rm, hA, hB, hC, tA, tB, tC, .bytes bf tf, [], k, [], 0, 16, rfl, .head _, fun h9 hc => ai h9 fun p hp => hc p (.tail _ hp), by show IntsAre [] (first.drop 16); rw [List.drop_of_length_le (by omega)]; exact .nil, .inl ⟨bf, tf, rfl, hif, rfl, rfl⟩, rfl, Nat.le_refl _, e4, fun z hz => nomatch hz⟩
theorem mkCounter {n : Int} {t0 : Tok} {Q : Value → Shared → Prop} {A : Around}
    (X : (K w.params).In s.heap) (T : TopRead q lo mg mb s.heap) (hd : A.depth < 400) (hA : A.handled = none)
    (h : ∀ h' tk' c dc l lv k hE tE, Kp s.heap h' → h'.get? c = some (instObj 151 dc) → h'.get? dc = some (dictOf [⟨hE, .str "_counter" tE, .ref l⟩] 1) → h'.get? l = some (listOf (lv : List Value).toArray k) → s.heap.get? c = none → s.heap.get? dc = none → s.heap.get? l = none → @Ne Nat c dc → @Ne Nat c l → @Ne Nat l dc → IntsAre lv (cnt n) → Q (.ref c) { s with heap := h', toks := tk' }) :
    wpAny (model pw w) A (call (.ref 151) [.int n t0]) Q (fun _ _ => False) s := by
  refine call_clsX X (by k_is) (by k_is) (by k_is) ?_
  intro h1 k1 nx nd fx fd
  refine Classical.byContradiction fun hng => ?_
  obtain ⟨hnd, dp, fr, gd, un⟩ := A
  refine hng ?_
  clear hng
  dsimp only at hA hd
  subst hA
  generalize s.heap.objs.size = d at nx nd fx fd
  have hxd : @Ne Nat (d + 1) d := Nat.succ_ne_self d
  have ha : ∀ a ∈ [d], s.heap.get? a = none := fun a h => by rw [List.mem_singleton.mp h]; exact fd
  have kb := hide_base k1 ha
  have hx1 := hideAll_get [d] nx (by simpa using hxd)
  refine cinit_spec (h₀ := hideAll h1 [d]) hide_kp (Nat.le_of_eq (hideAll_size _ _)) nd (hideAll_none _ (.head _)) hx1 (X.keeps kb) (T.keeps kb) (by show dp + 1 < 650; omega) ?_
  intro h' tk' l vs k hE tE kp e1 e2 e3 e4 ei
  refine ⟨rfl, ?_⟩
  dsimp only
  have kk : Kp s.heap h' := fun b o e => kp b o (kb b o e)
  have ex := kp _ _ hx1
  exact h h' tk' (d + 1) d l vs k hE tE kk ex e1 e2 fx fd (fresh_back (h' := h') kb e3) hxd (fun e => by rw [← e, hx1] at e3; cases e3) e4 ei
theorem mkCTR {bs : Array UInt8} {tb : Tok} {lv : List Value} {keyI : List Int} {start : Int} {c dc l : Addr} {el : Nat} {hE : Int} {tE : Tok} {Q : Value → Shared → Prop} {A : Around}
    (X : (K w.params).In s.heap) (T : TopRead q lo mg mb s.heap) (hd : A.depth < 400) (hA : A.handled = none)
    (hi : KBw.bInts bs = keyI) (hn : keyI.length = 16 ∨ keyI.length = 24 ∨ keyI.length = 32)
    (hc : s.heap.get? c = some (instObj 151 dc)) (hdc : s.heap.get? dc = some (dictOf [⟨hE, .str "_counter" tE, .ref l⟩] 1)) (hl : s.heap.get? l = some (listOf lv.toArray el)) (n1 : @Ne Nat c dc) (n2 : @Ne Nat c l) (n3 : @Ne Nat l dc) (hil : IntsAre lv (cnt start))
    (h : ∀ h' tk' x mu con, Kp s.heap h' → (∀ p ∈ mu, h'.get? p.1 = some p.2 ∧ (s.heap.get? p.1 = none ∨ p.1 = l ∨ p.1 = dc)) → (∀ p ∈ con, h'.get? p.1 = some p.2 ∧ (s.heap.get? p.1 = none ∨ p.1 = c)) → (∀ p ∈ con, ∀ z ∈ mu, @Ne Nat p.1 z.1) → CtrSt (keOf keyI) start x mu con 0 → Q (.ref x) { s with heap := h', toks := tk' }) :
    wpAny (model pw w) A (call (.ref 441) [.bytes bs tb, .ref c]) Q (fun _ _ => False) s := by
  refine call_clsX X (by k_is) (by k_is) (by k_is) ?_
  intro h1 k1 nx nd fx fd
  refine Classical.byContradiction fun hng => ?_
  obtain ⟨hnd, dp, fr, gd, un⟩ := A
  refine hng ?_
  clear hng
  dsimp only at hA hd
  subst hA
  generalize s.heap.objs.size = d at nx nd fx fd
  have hxd : @Ne Nat (d + 1) d := Nat.succ_ne_self d
  have ha : ∀ a ∈ [d], s.heap.get? a = none := fun a h => by rw [List.mem_singleton.mp h]; exact fd
  have kb := hide_base k1 ha
  have hx1 := hideAll_get [d] nx (by simpa using hxd)
  refine ctr_init (h₀ := hideAll h1 [d]) hide_kp (Nat.le_of_eq (hideAll_size _ _)) nd (hideAll_none _ (.head _)) hx1 (X.keeps kb) (T.keeps kb) (by show dp + 1 < 450; omega) hi hn ?_
  intro h' tk' hA hB hC tA tB tC rm k xa rest kp e1 e2 e3 e4 er ai
  refine ⟨rfl, ?_⟩
  dsimp only
  have kk : Kp s.heap h' := fun b o e => kp b o (kb b o e)
  have ex := kp _ _ hx1
  have erm := fresh_back (h' := h') kb e3
  have hxr : @Ne Nat (d + 1) rm := fun e => by rw [← e, hx1] at e3; cases e3
  have off : ∀ a b o, s.heap.get? a = some o → s.heap.get? b = none → @Ne Nat a b := fun a b o p r e => by rw [e, r] at p; cases p
  have erest : ∀ p ∈ rest, s.heap.get? p.1 = none := fun p hp => fresh_back (h' := h') kb (er p hp).2.1
  refine h h' tk' (d + 1) [(l, listOf lv.toArray el), (dc, dictOf [⟨hE, .str "_counter" tE, .ref l⟩] 1), (rm, listOf (List.toArray ([] : List Value)) k), (d, dictOf [⟨hA, .str "_aes" tA, .ref xa⟩, ⟨hB, .str "_counter" tB, .ref c⟩, ⟨hC, .str "_remaining_counter" tC, .ref rm⟩] 3)] ((d + 1, instObj 441 d) :: (c, instObj 151 dc) :: rest) kk (fun p hp => ?_) (fun p hp => ?_) (fun p hp z hz => ?_) ?_
  · simp only [List.mem_cons, List.not_mem_nil, or_false] at hp
    rcases hp with rfl | rfl | rfl | rfl
    · exact ⟨kk _ _ hl, .inr (.inl rfl)⟩
    · exact ⟨kk _ _ hdc, .inr (.inr rfl)⟩
    · exact ⟨e2, .inl erm⟩
    · exact ⟨e1, .inl fd⟩
  · rcases List.mem_cons.mp hp with rfl | hp
    · exact ⟨ex, .inl fx⟩
    rcases List.mem_cons.mp hp with rfl | hp
    · exact ⟨kk _ _ hc, .inr rfl⟩
    · exact ⟨(er p hp).1, .inl (erest p hp)⟩
  · simp only [List.mem_cons, List.not_mem_nil, or_false] at hz
    rcases List.mem_cons.mp hp with rfl | hp
    · rcases hz with rfl | rfl | rfl | rfl
      · exact (off _ _ _ hl fx).symm
      · exact (off _ _ _ hdc fx).symm
      · exact hxr
      · exact hxd
    rcases List.mem_cons.mp hp with rfl | hp
    · rcases hz with rfl | rfl | rfl | rfl
      · exact n2
      · exact n1
      · exact off _ _ _ hc erm
      · exact off _ _ _ hc fd
    · rcases hz with rfl | rfl | rfl | rfl
      · exact (off _ _ _ hl (erest p hp)).symm
      · exact (off _ _ _ hdc (erest p hp)).symm
      · exact (er p hp).2.2.2
      · exact (er p hp).2.2.1
  · exact ⟨d, xa, c, dc, l, rm, hA, hB, hC, hE, tA, tB, tC, tE, [], k, lv, el, 0, rfl, .head _, .tail _ (.head _), fun h9 hc => ai h9 fun p hp => hc p (.tail _ (.tail _ hp)), ints_eq hil (by rw [show start + ((0 : Nat) : Int) = start by omega]), .nil, Nat.le_refl _, by omega, e4, (off _ _ _ hl erm).symm, (off _ _ _ hdc erm).symm, (off _ _ _ hl fd).symm, (off _ _ _ hdc fd).symm, n3⟩
end
end
theorem rs50 : True ∧ True := by
  w_top off
  first | (walk1; fail) | exact ⟨trivial, trivial⟩
section

local macro_rules | `(tactic| walk_at "ite") => `(tactic| k_extra "y52")
theorem kp_none {h h' : Heap} {a : Addr} (k : Kp h h') (e : h'.get? a = none) : h.get? a = none := by
  cases q : h.get? a with
  | none => rfl
  | some o => rw [k _ _ q] at e; cases e
section
variable {w : World} {dp un : Nat} {fr : Option (List Env)} {gd : Option (List Code)} {s : Shared} {mg mb : Str → Option Value} {lo : List Str} {h₀ : Heap}

theorem mode_ofb {R : Result → Shared → Prop} {key first : List Int} {kv fv : List Value} {start : Int} {kl fl : Addr} {tm tz ts : Tok}
    (X : (K w.params).In s.heap) (T : TopRead q lo mg mb s.heap) (hdp : dp < 390)
    (hk : s.heap.IsList kl kv.toArray) (hik : IntsAre kv key) (hkb : Bytes key) (hn : key.length = 16 ∨ key.length = 24 ∨ key.length = 32)
    (hf : s.heap.IsList fl fv.toArray) (hif : IntsAre fv first) (hfl : first.length = 16) (hfb : Bytes first)
    (hR : ∀ h' tk' x mu con, Kp s.heap h' → (∀ p ∈ mu, h'.get? p.1 = some p.2 ∧ s.heap.get? p.1 = none) → (∀ p ∈ con, h'.get? p.1 = some p.2 ∧ s.heap.get? p.1 = none) → (∀ p ∈ con, ∀ z ∈ mu, @Ne Nat p.1 z.1) → OfbSt (keOf key) first x mu con 0 → R (.ok (.ret (.ref x))) { s with heap := h', toks := tk' }) :
    codeAny (model pw w) (Ar dp un fr gd) (.call (.ref 488) ⟨[.int 3 tm, .ref kl, .ref fl, .int 1 tz, .int start ts], []⟩) R s := by
  refine enter (binds := [("mode", .int 3 tm), ("key", .ref kl), ("first", .ref fl), ("size", .int 1 tz), ("start", .int start ts)]) X T (by omega) rfl (by kernel_rfl) (BindsTo.of_eq rfl) (by decide) rfl ?_
  intro L h₁ tk F N
  have hkz := hik.length
  have hfz := hif.length
  have hin1 : KBa.In key := hkb.mem
  have hin2 : KBa.In first := hfb.mem
  have hk32 : key.length ≤ 32 := by omega
  repeat (first | (k_unfold; (try dsimp only)) | walk1 | (dsimp only; walk1))
  (rename Fr _ _ _ _ => F3)
  refine mkOFB (X.keeps F3.keep) (T.keeps F3.keep) (by show dp + 1 < 400; omega) rfl (KBa.ints_make hin1) hn (KBa.ints_make hin2) hfl ?_
  intro h' tk' x mu con kp em ec ne St
  exact hR h' tk' x mu con (fun b o e => kp b o (F3.keep b o e)) (fun p hp => ⟨(em p hp).1, kp_none F3.keep (em p hp).2⟩) (fun p hp => ⟨(ec p hp).1, kp_none F3.keep (ec p hp).2⟩) ne St
theorem mode_ctr {R : Result → Shared → Prop} {key first : List Int} {kv fv : List Value} {start : Int} {kl fl : Addr} {tm tz ts : Tok}
    (X : (K w.params).In s.heap) (T : TopRead q lo mg mb s.heap) (hdp : dp < 390)
    (hk : s.heap.IsList kl kv.toArray) (hik : IntsAre kv key) (hkb : Bytes key) (hn : key.length = 16 ∨ key.length = 24 ∨ key.length = 32)
    (hf : s.heap.IsList fl fv.toArray) (hif : IntsAre fv first) (hfl : first.length = 16) (hfb : Bytes first)
    (hR : ∀ h' tk' x mu con, Kp s.heap h' → (∀ p ∈ mu, h'.get? p.1 = some p.2 ∧ s.heap.get? p.1 = none) → (∀ p ∈ con, h'.get? p.1 = some p.2 ∧ s.heap.get? p.1 = none) → (∀ p ∈ con, ∀ z ∈ mu, @Ne Nat p.1 z.1) → CtrSt (keOf key) start x mu con 0 → R (.ok (.ret (.ref x))) { s with heap := h', toks := tk' }) :
    codeAny (model pw w) (Ar dp un fr gd) (.call (.ref 488) ⟨[.int 4 tm, .ref kl, .ref fl, .int 1 tz, .int start ts], []⟩) R s := by
  refine enter (binds := [("mode", .int 4 tm), ("key", .ref kl), ("first", .ref fl), ("size", .int 1 tz), ("start", .int start ts)]) X T (by omega) rfl (by kernel_rfl) (BindsTo.of_eq rfl) (by decide) rfl ?_
  intro L h₁ tk F N
  have hkz := hik.length
  have hfz := hif.length
  have hin1 : KBa.In key := hkb.mem
  have hin2 : KBa.In first := hfb.mem
  have hk32 : key.length ≤ 32 := by omega
  repeat (first | (k_unfold; (try dsimp only)) | walk1 | (dsimp only; walk1))
  (rename Fr _ _ _ _ => F3); (rename News _ _ _ _ => N3)
  refine mkCounter (X.keeps F3.keep) (T.keeps F3.keep) (by show dp + 1 < 400; omega) rfl ?_
  intro h2 tk2 c dc l lv el hE tE kp2 e1 e2 e3 z1 z2 z3 n1 n2 n3 eil
  have F4 := frKp F3 kp2
  have N4 := newsKp N3 kp2
  have b1 := kp_none F3.keep z1
  have b2 := kp_none F3.keep z2
  have b3 := kp_none F3.keep z3
  clear F3 N3
  repeat (first | (k_unfold; (try dsimp only)) | walk1 | (dsimp only; walk1))
  refine mkCTR (X.keeps F4.keep) (T.keeps F4.keep) (by show dp + 1 < 400; omega) rfl (KBa.ints_make hin1) hn e1 e2 e3 n1 n2 n3 eil ?_
  intro h' tk' x mu con kp em ec ne St
  refine hR h' tk' x mu con (fun b o e => kp b o (F4.keep b o e)) (fun p hp => ⟨(em p hp).1, ?_⟩) (fun p hp => ⟨(ec p hp).1, ?_⟩) ne St
  · rcases (em p hp).2 with e | e | e
    · exact kp_none F4.keep e
    · rw [e]; exact b3
    · rw [e]; exact b2
  · rcases (ec p hp).2 with e | e
    · exact kp_none F4.keep e
    · rw [e]; exact b1
end
end
theorem rs51 : True ∧ True := by
  w_top off
  first | (walk1; fail) | exact ⟨trivial, trivial⟩
section
theorem bytes_len : typeLookup (.type "bytes") "__len__" = pure (some (.builtin "bytes.__len__")) := by rw [typeLookup_type, builtinLookup_eq_fast]; kernel_rfl
/-- what stands at a place of a list made of bytes -/
noncomputable def ByteAt (b : Array UInt8) (i : Nat) (v : Value) : Prop := ∃ c u, b[i]? = some c ∧ v = .int (c.toNat : Int) u
theorem ints_at : ∀ {vs : List Value} {ns : List Int}, vs.length = ns.length → (∀ (i : Nat) (v : Value), vs[i]? = some v → ∃ (t : Tok) (n : Int), v = Value.int n t ∧ ns[i]? = some n) → IntsAre vs ns
  | [], [], _, _ => .nil
  | [], _ :: _, h, _ => by simp at h
  | _ :: _, [], h, _ => by simp at h
  | v :: r, n :: s, h, e => by
    refine Classical.byContradiction fun hng => ?_
    obtain ⟨t, n', rfl, hn⟩ := e 0 v (by simp)
    refine hng ?_
    clear hng
    obtain rfl : n = n' := by simpa using hn
    exact .cons _ _ (ints_at (by simpa using h) fun i v hv => by simpa using e (i + 1) v (by simpa using hv))
section
variable {w : World} {A : Around} {E : Value → Shared → Prop} {s : Shared}
theorem extend_bytes {R : Result → Shared → Prop} (hh : A.handled = none) (b : Array UInt8) (t : Tok) (S : Addr) (res : Value) (c₀ : Nat) (hS : s.heap.get? S = some { cls := .type "list", data := .seq #[] c₀ }) (hn : b.size ≤ sizeLine)
    (hR : ∀ h' tk acc' c', (∀ a o, a ≠ S → s.heap.get? a = some o → h'.get? a = some o) → h'.get? S = some { cls := .type "list", dict := none, data := .seq acc' c', slots := #[] } → ItemsOf (ByteAt b) acc' b.size → R (.ok (.ret res)) { s with heap := h', toks := tk }) :
    wpAny (model pw w) A.in1 (Builtin.List.listExtendWith (.ref S) (.bytes b t) res)
      (fun fin s' => match fin with | .done f => R (.ok f) s' | .again c' => c'.quiet = true ∧ codeAny (model pw w) A c' R s') (fun e s' => R (.error e) s') s := by
  have hSI : S ≠ s.heap.objs.size := Nat.ne_of_lt (Heap.lt_size hS)
  have hSf : S ∉ [s.heap.objs.size] := fun hm => hSI (List.mem_singleton.mp hm)
  unfold Builtin.List.listExtendWith
  refine wpAny_bind (wpAny_typeOf (typeIs_bytes s b t) ?_)
  have h1 : Builtin.List.listSameRef (.ref S) (.bytes b t) = false := rfl
  have h2 : (Value.type "bytes" == Value.type "list") = false := by decide
  have h3 : (Value.type "bytes" == Value.type "tuple") = false := by decide
  simp only [h1, h2, h3, Bool.or_false, Bool.false_eq_true, if_false]
  refine wpAny_bind (KBw.pyIter_bytes ?_)
  refine wpAny_bind (wpAny_holding ?_)
  unfold Builtin.List.listLengthHint
  refine wpAny_bind (wpAny_specialOf (T := "bytes") (v := .bytes b t) rfl bytes_len ?_)
  wp_delta
  refine wpAny_bind (wpAny_isInstance (T := "bytes") (v := .bytes b t) (b := true) rfl (by rw [isSubtype_type]; kernel_rfl) ?_)
  show wpAny _ _ (typeOf (Value.bytes b t) >>= _) _ _ _
  refine wpAny_bind (wpAny_typeOf (T := "bytes") (v := .bytes b t) rfl ?_)
  refine wpAny_pure ?_
  rw [if_neg (by decide)]
  refine wpAny_pure ⟨plainId_quiet F.plain_extend_loop _, codeAny_extend_loopS (KBw.walks (A := A.in1) hh s.heap.objs.size b t).toS hn _ hSf _ b.size 0 _ _ _ rfl (Nat.zero_le _) ⟨_, Heap.get?_push_size _ rfl, rfl, rfl⟩ (Heap.get?_push_of_some _ hS) (ItemsOf.nil _) fun s' acc' c' hm hS' hacc => ?_⟩
  rw [Moved.eq_with hm]
  refine hR s'.heap s'.toks acc' c' (fun a ob hb e => hm.heap a ob (fun hmem => ?_) (Heap.get?_push_of_some _ e)) hS' hacc
  rcases List.mem_cons.mp hmem with e' | hmem
  · exact hb e'
  · exact absurd (Heap.lt_size e) (by rw [List.mem_singleton.mp hmem]; exact Nat.lt_irrefl _)
theorem init_bytes {R : Result → Shared → Prop} (hh : A.handled = none) (b : Array UInt8) (t : Tok) (S : Addr) (hS : s.heap.get? S = some { cls := .type "list", data := .seq #[] }) (hn : b.size ≤ sizeLine)
    (hR : ∀ h' tk acc' c', (∀ a o, a ≠ S → s.heap.get? a = some o → h'.get? a = some o) → h'.get? S = some { cls := .type "list", dict := none, data := .seq acc' c', slots := #[] } → ItemsOf (ByteAt b) acc' b.size → R (.ok (.ret .none)) { s with heap := h', toks := tk }) :
    wpAny (model pw w) A.in1 (Builtin.«list.__init__» ⟨[.ref S, .bytes b t], []⟩)
      (fun fin s' => match fin with | .done f => R (.ok f) s' | .again c' => c'.quiet = true ∧ codeAny (model pw w) A c' R s') (fun e s' => R (.error e) s') s := by
  show wpAny _ _ (do let old ← Builtin.List.listItems (.ref S); Builtin.List.listUpdate (.ref S) (fun _ => #[]); letGo old.toList.reverse; Builtin.List.listExtendWith (.ref S) (.bytes b t) .none) _ _ s
  refine wpAny_bind ?_
  unfold Builtin.List.listItems
  refine wpAny_bind (wpAny_seqItems hS rfl (wpAny_pure ?_))
  show wpAny _ _ (updateSeq S (fun _ => #[]) >>= fun _ => letGo (#[] : Array Value).toList.reverse >>= fun _ => Builtin.List.listExtendWith (.ref S) (.bytes b t) .none) _ _ s
  refine wpAny_bind (wpAny_updateSeq hS rfl ?_)
  have hS₂ := Heap.get?_update_self (Obj.mapSeq (fun _ => (#[] : Array Value))) hS rfl
  have oth : ∀ a o, a ≠ S → s.heap.get? a = some o → (s.heap.update S (Obj.mapSeq (fun _ => (#[] : Array Value)))).get? a = some o := fun a o hb e => (Heap.get?_update_other _ _ (Ne.symm hb)).trans e
  refine wpAny_bind (wpAny_letGo ?_)
  refine extend_bytes hh b t S .none _ hS₂ hn fun h' tk acc' c' hk hS' hacc => ?_
  exact hR h' tk acc' c' (fun a o hb e => hk a o hb (oth a o hb e)) hS' hacc
theorem list_bytes {h₀ : Heap} {L : Addr} {m : Str → Option Value} {news : List (Addr × Obj)} {b : Array UInt8} {t : Tok} {ns : List Int} {Q : Value → Shared → Prop} (hh : A.handled = none) (F₀ : Fr h₀ L s.heap m) (N : News h₀ L s.heap news) (hi : KBw.bInts b = ns) (hz : ns.length ≤ 1000)
    (hQ : ∀ h' tk D vs c, Fr h₀ L h' m → News h₀ L h' ((D, listOf (vs : List Value).toArray c) :: news) → (∀ p ∈ news, p.1 < D) → IntsAre vs ns → Q (.ref D) { s with heap := h', toks := tk }) :
    wpAny (model pw w) A (call (.type "list") [.bytes b t]) Q E s := by
  have hbz : b.size = ns.length := by rw [← hi, KBw.ints_length]
  refine callType_codes (Q₁ := fun obj s₁ => obj = .ref s.heap.objs.size ∧ s₁ = { s with heap := s.heap.push { cls := .type "list", data := .seq #[] } }) F.called_list (F.typeCall_list_1 _) F.entry_list_init (code_list_new _ ⟨rfl, rfl⟩) fun obj s₁ h₁ => ?_
  obtain ⟨rfl, rfl⟩ := h₁
  have hS : (s.heap.push { cls := .type "list", data := .seq #[] }).get? s.heap.objs.size = some { cls := .type "list", data := .seq #[] } := Heap.get?_push_size _ rfl
  refine ⟨⟨_, hS, rfl⟩, F.args_list_init_2 _ _, init_bytes (A := A.in1) hh b t _ hS (by rw [sizeLine_eq]; omega) fun h' tk acc' c' hk hS' hacc => ?_⟩
  have kp : Kp s.heap h' := fun a o e => hk a o (Nat.ne_of_lt (Heap.lt_size e)) (Heap.get?_push_of_some _ e)
  have e0 : s.heap.get? s.heap.objs.size = none := by
    cases q : s.heap.get? s.heap.objs.size with
    | none => rfl
    | some o => exact absurd (Heap.lt_size q) (Nat.lt_irrefl _)
  refine ⟨rfl, hQ h' tk _ acc'.toList c' (frKp F₀ kp) (led_new F₀ N kp e0 (by rw [hS'])).1 (fun p hp => Heap.lt_size (N p hp).1) ?_⟩
  refine ints_at (by rw [Array.length_toList, hacc.1, hbz]) fun i v hv => ?_
  refine Classical.byContradiction fun hng => ?_
  obtain ⟨c, u, hc, rfl⟩ := hacc.2 i v (by simpa using hv)
  refine hng ?_
  clear hng
  exact ⟨u, _, rfl, by rw [← hi]; exact KBw.ints_get hc⟩
end
end
theorem rs52 : True ∧ True := by
  w_top off
  first | (walk1; fail) | exact ⟨trivial, trivial⟩
section

/-- a method that turns bytes into the next bytes of a stream -/
noncomputable def Streams (w : World) (f x : Addr) (con : List (Addr × Obj)) (S : List (Addr × Obj) → Nat → Prop) (ks : Nat → Int) : Prop :=
  ∀ (dp un : Nat) (fr : Option (List Env)) (gd : Option (List Code)) (s : Shared) (mg mb : Str → Option Value) (lo : List Str) (h₀ : Heap) (R : Result → Shared → Prop) (mu : List (Addr × Obj)) (p : Nat) (bs : Array UInt8) (tb : Tok) (data : List Int),
    Kp h₀ s.heap → h₀.objs.size ≤ s.heap.objs.size → (K w.params).In h₀ → TopRead q lo mg mb h₀ → dp < 380 → AtH h₀ con → (∀ z ∈ mu, s.heap.get? z.1 = some z.2 ∧ h₀.get? z.1 = none) → S mu p → KBw.bInts bs = data → data.length ≤ 900 →
    (∀ h' tk' mu' bs' t', Kp h₀ h' → (∀ z ∈ mu', h'.get? z.1 = some z.2 ∧ h₀.get? z.1 = none) → S mu' (p + data.length) → KBw.bInts bs' = strm ks p data → R (.ok (.ret (.bytes bs' t'))) { s with heap := h', toks := tk' }) →
    codeAny (model pw w) (Ar dp un fr gd) (.call (.ref f) ⟨[.ref x, .bytes bs tb], []⟩) R s
section
variable {w : World} {ke : List (List Int)} {first : List Int} {start : Int} {x : Addr} {con : List (Addr × Obj)}
theorem str_ofb (hk1 : 2 ≤ ke.length) (hk2 : ke.length ≤ 20) (hfl : first.length = 16) (hfb : Bytes first) : Streams w 399 x con (fun mu p => OfbSt ke first x mu con p) (ksO ke first) :=
  fun dp un fr gd s mg mb lo h₀ R mu p bs tb data KP hsz X T hdp hc hm St hi hz hR => ofb_enc KP hsz X T (by omega) hc hm St hk1 hk2 hfl hfb hi hz hR
theorem str_ofd (hk1 : 2 ≤ ke.length) (hk2 : ke.length ≤ 20) (hfl : first.length = 16) (hfb : Bytes first) : Streams w 406 x con (fun mu p => OfbSt ke first x mu con p) (ksO ke first) :=
  fun dp un fr gd s mg mb lo h₀ R mu p bs tb data KP hsz X T hdp hc hm St hi hz hR => ofb_dec KP hsz X T hdp hc hm St hk1 hk2 hfl hfb hi hz hR
theorem str_ctr (hk1 : 2 ≤ ke.length) (hk2 : ke.length ≤ 20) : Streams w 431 x con (fun mu p => CtrSt ke start x mu con p) (ksC ke start) :=
  fun dp un fr gd s mg mb lo h₀ R mu p bs tb data KP hsz X T hdp hc hm St hi hz hR => ctr_enc KP hsz X T (by omega) hc hm St hk1 hk2 hi hz hR
theorem str_ctd (hk1 : 2 ≤ ke.length) (hk2 : ke.length ≤ 20) : Streams w 438 x con (fun mu p => CtrSt ke start x mu con p) (ksC ke start) :=
  fun dp un fr gd s mg mb lo h₀ R mu p bs tb data KP hsz X T hdp hc hm St hi hz hR => ctr_dec KP hsz X T hdp hc hm St hk1 hk2 hi hz hR
end
theorem callWith_B {M : Model} {A : Around} {E : Value → Shared → Prop} {s : Shared} {K' : Frag} {env : Env} {pos : Pos} {first : List Value} {Q : Value → Shared → Prop} {q' g : Addr} {self : Value} {e : PySem.Expr} {rest : List PySem.Expr} (hf : fnIn K' g = true)
    (h : wpAny M A (spliced (backTo pos (starEach (e :: rest) env))) (fun vs s₁ => MethP K' q' g self s₁.heap ∧ wpAny M A (call (.ref q') (first ++ vs)) Q E s₁) E s)
    (he : starEach (e :: rest) env = (false, eval e env) :: starEach rest env := by rfl) (hplain : (backTo pos (starEach rest env)).any (·.1) = false := by rfl) :
    wpAny M A (callWith pos (.ref q') first (backTo pos (starEach (e :: rest) env)) []) Q E s := by
  rw [he] at h ⊢
  exact callWith_of (by show ((false || (backTo pos (starEach rest env)).any (·.1)) || false) = false; rw [hplain]; rfl) (keeps_M hf) (evalArgs_plain h)
section
variable {w : World} {dp un : Nat} {fr : Option (List Env)} {gd : Option (List Code)} {s : Shared} {mg mb : Str → Option Value} {lo : List Str} {h₀ : Heap}

theorem pc_call {L mq f x : Addr} {m : Str → Option Value} {led mu con : List (Addr × Obj)} {S : List (Addr × Obj) → Nat → Prop} {ks : Nat → Int} {bs : Array UInt8} {tb : Tok} {data : List Int} {p : Nat} {Q : Value → Shared → Prop} {E : Value → Shared → Prop}
    (F : Fr h₀ L s.heap m) (N : News h₀ L s.heap (led ++ mu)) (X : (K w.params).In h₀) (T : TopRead q lo mg mb h₀) (hd : dp < 380) (SS : Streams w f x con S ks) (hc : AtH h₀ con) (hmq : h₀.get? mq = some (methodObj (.ref f) (.ref x))) (St : S mu p) (hi : KBw.bInts bs = data) (hz : data.length ≤ 900) (off : ∀ p ∈ led, ∀ z ∈ mu, p.1 ≠ z.1)
    (h : ∀ h' tk' mu' bs' t', Fr h₀ L h' m → News h₀ L h' (led ++ mu') → (∀ p ∈ led, ∀ z ∈ mu', p.1 ≠ z.1) → S mu' (p + data.length) → KBw.bInts bs' = strm ks p data → Q (.bytes bs' t') { s with heap := h', toks := tk' }) :
    wpAny (model pw w) (Ar dp un fr gd) (call (.ref mq) [.bytes bs tb]) Q E s := by
  have inmu : ∀ a ∈ mu.map (·.1), ∃ z ∈ mu, z.1 = a := fun a ha => by simpa using ha
  have ha : ∀ a ∈ mu.map (·.1), h₀.get? a = none := fun a h => by
    obtain ⟨z, hz, rfl⟩ := inmu a h
    exact (N z (List.mem_append.mpr (.inr hz))).2.2
  have hL : L ∉ mu.map (·.1) := fun h => by
    obtain ⟨z, hz, e⟩ := inmu L h
    exact (N z (List.mem_append.mpr (.inr hz))).2.1 e
  have kb := hide_base F.keep ha
  have hnews : ∀ p ∈ led, p.1 ∉ mu.map (·.1) := fun p hp h => by
    obtain ⟨z, hz, e⟩ := inmu _ h
    exact off p hp z hz e.symm
  refine wpAny_call (method_call (F.keep _ _ hmq) (SS dp un fr gd s mg mb lo (hideAll s.heap (mu.map (·.1))) _ mu p bs tb data hide_kp (Nat.le_of_eq (hideAll_size _ _)) (X.keeps kb) (T.keeps kb) hd (fun p hp => kb _ _ (hc p hp)) (fun z hz => ⟨(N z (List.mem_append.mpr (.inr hz))).1, hideAll_none _ (List.mem_map.mpr ⟨z, hz, rfl⟩)⟩) St hi hz ?_))
  intro h' tk' mu' bs' t' kp em S' e
  refine h h' tk' mu' bs' t' (hide_fr F ha hL kp) (fun p hp => ?_) (fun p hp z hz e => ?_) S' e
  · rcases List.mem_append.mp hp with hp | hp
    · exact hide_news (fun p hp => N p (List.mem_append.mpr (.inl hp))) hnews kp p hp
    · exact hide_fresh F ha hL (em p hp).1 (em p hp).2
  · have q1 := hideAll_get _ (N p (List.mem_append.mpr (.inl hp))).1 (hnews p hp)
    rw [e, (em z hz).2] at q1
    cases q1
end
noncomputable def pcBody : List Stmt := stB (fB (T 25))
noncomputable def pcScope : Scope := fS (T 25)
noncomputable def pcTurn : List Stmt := match pcBody.drop 2 with | .For _ _ b _ _ :: _ => b | _ => []
noncomputable def pcEnd : List Stmt := pcBody.drop 3
section
variable {w : World} {dp un : Nat} {fr : Option (List Env)} {gd : Option (List Code)} {s : Shared} {mg mb : Str → Option Value} {lo : List Str} {h₀ : Heap}

theorem pc_end {o dl mq L : Addr} {m : Str → Option Value} {f x : Addr} {con mu : List (Addr × Obj)} {S : List (Addr × Obj) → Nat → Prop} {ks : Nat → Int} {dv ov : List Value} {data : List Int} {oe pl : Nat} {tp : Tok} {Q : Flow → Shared → Prop}
    (X : (K w.params).In h₀) (T : TopRead q lo mg mb h₀) (hdp : dp < 370) (SS : Streams w f x con S ks) (hfn : fnIn (K w.params) f = true) (hc : AtH h₀ con) (hmq : h₀.get? mq = some (methodObj (.ref f) (.ref x)))
    (hdl : h₀.IsList dl dv.toArray) (hid : IntsAre dv data) (hdb : Bytes data) (hz : data.length ≤ 200) (hio : IntsAre ov (strm ks 0 (data.take pl)))
    (F : Fr h₀ L s.heap (kstB m [("call", .ref mq), ("data", .ref dl), ("out", .ref o), ("place", .int (pl : Nat) tp)])) (N : News h₀ L s.heap ((o, listOf ov.toArray oe) :: mu)) (St : S mu (min pl data.length)) (ne : ∀ z ∈ mu, z.1 ≠ o)
    (done : ∀ h' tk' D vs n mu', Kp h₀ h' → (∀ z ∈ (D, listOf (vs : List Value).toArray n) :: mu', h'.get? z.1 = some z.2 ∧ h₀.get? z.1 = none) → (∀ z ∈ mu', z.1 ≠ D) → IntsAre vs (strm ks 0 data) → Q (.ret (.ref D)) { s with heap := h', toks := tk' }) :
    wpAny (model pw w) ((Ar dp un fr gd).deeper (envOf "_law_pieces" pcScope L 495 (.ref 494))) (execs pcEnd (envOf "_law_pieces" pcScope L 495 (.ref 494))) Q (fun _ _ => False) s := by
  refine with_scope (sc := pcScope) (P := fun sc => wpAny (model pw w) ((Ar dp un fr gd).deeper (envOf "_law_pieces" sc L 495 (.ref 494))) (execs pcEnd (envOf "_law_pieces" sc L 495 (.ref 494))) Q (fun _ _ => False) s) rfl ?_
  refine with_list (P := fun l => wpAny (model pw w) _ (execs l _) Q (fun _ _ => False) s) rfl ?_
  dsimp only [kstB] at F
  have hdz := hid.length
  have hin : KBa.In data := hdb.mem
  have hoz := hio.length
  rw [strm_len, List.length_take] at hoz
  repeat (first | (k_unfold; (try dsimp only)) | walk1 | (dsimp only; walk1))
  refine callWith_B (g := f) (self := .ref x) hfn ?_
  repeat ((fail_if_success (with_reducible show wpAny _ _ (call (.type "bytes") _) _ _ _)); (first | (k_unfold; (try dsimp only)) | walk1 | (dsimp only; walk1)))
  (rename IntsAre _ (List.drop _ _) => hI1); (rename _ ∧ AllLt _ _ => l9); rename_i D _ _ _ _ _ _
  rw [Int.toNat_natCast] at hI1
  have hin2 : KBa.In (data.drop pl) := (Bytes.of_mem fun z hz => hdb.mem z (List.mem_of_mem_drop hz)).mem
  have hd2 : (data.drop pl).length ≤ 200 := by rw [List.length_drop]; omega
  repeat ((fail_if_success (with_reducible show _ ∧ _)); (first | (k_unfold; (try dsimp only)) | walk1 | (dsimp only; walk1)))
  (rename Fr _ _ _ _ => F3); (rename News _ _ _ _ => N3)
  refine ⟨⟨F3.keep _ _ hmq, X.keeps F3.keep⟩, ?_⟩
  refine pc_call (led := [(D, _), (o, listOf ov.toArray oe)]) F3 N3 X T (by show dp + 1 < 380; omega) SS hc hmq St (KBa.ints_make hin2) (by omega) (fun p hp z hz => by
    simp only [List.mem_cons, List.not_mem_nil, or_false] at hp
    rcases hp with rfl | rfl
    · exact (Nat.ne_of_lt (allLt_mem l9.2 z hz)).symm
    · exact (ne z hz).symm) ?_
  intro h4 tk4 mu4 bs4 t4 F4 N4 off4 S4 e4
  clear F3 N3
  repeat (first | (k_unfold; (try dsimp only)) | walk1 | (dsimp only; walk1))
  refine list_bytes rfl F4 N4 e4 (by rw [strm_len]; omega) ?_
  intro h5 tk5 E ev ec F5 N5 l5 hiE
  have N6 : News h₀ L h5 ((E, listOf ev.toArray ec) :: (D, _) :: (o, listOf ov.toArray oe) :: mu4) := N5
  have l6 : ∀ p ∈ mu4, @LT.lt Nat _ p.1 E := fun p hp => l5 p (.tail _ (.tail _ hp))
  have hez := hiE.length
  rw [strm_len] at hez
  have he1 : ev.length ≤ 200 := Nat.le_trans (Nat.le_of_eq hez) hd2
  have ho1 : ov.length ≤ data.length := Nat.le_trans (Nat.le_of_eq hoz) (Nat.min_le_right _ _)
  clear F4 N4 N5
  repeat (first | (k_unfold; (try dsimp only)) | walk1 | (dsimp only; walk1))
  rename_i F9 N9
  have es := strm_app (ks := ks) (data.take pl) (data.drop pl) 0
  rw [List.take_append_drop, List.length_take, Nat.zero_add] at es
  refine done _ _ h5.objs.size (ov ++ ev) 0 mu4 F9.keep (fun z hz => ?_) (fun z hz => Nat.ne_of_lt (Heap.lt_size (N6 z (.tail _ (.tail _ (.tail _ hz)))).1)) (ints_eq (ints_app hio hiE) es.symm)
  rcases List.mem_cons.mp hz with rfl | hz
  · exact ⟨(N9 _ (.head _)).1, (N9 _ (.head _)).2.2⟩
  · have z9 := N9 z (.tail _ (.tail _ (.tail _ (.tail _ hz))))
    exact ⟨z9.1, z9.2.2⟩
end
end
theorem rs53 : True ∧ True := by
  w_top off
  first | (walk1; fail) | exact ⟨trivial, trivial⟩
section
theorem modF {w : World} {A : Around} {E : Value → Shared → Prop} {h : Heap} {g d k os} {a b : Int} {t u : Tok} {Q : Value → Shared → Prop} (hb : b = 4 ∨ b = 18 ∨ b = 40) (q : ∀ (j : { n : Nat // n < 40 }) t k, Q (.int ((j.1 : Nat) : Int) t) ⟨h, g, d, k, os⟩) : wpAny (model pw w) A (binaryOp .Mod (.int a t) (.int b u)) Q E ⟨h, g, d, k, os⟩ := by
  have e : a.fmod b = a % b := Int.fmod_eq_emod_of_nonneg _ (by omega)
  have h0 : 0 ≤ a % b := Int.emod_nonneg _ (by omega)
  have h1 : a % b < b := Int.emod_lt_of_pos _ (by omega)
  refine mod_int' (by omega) ?_
  have q' := fun t k => q ⟨(a.fmod b).toNat, by omega⟩ t k
  have e2 : (((a.fmod b).toNat : Nat) : Int) = a.fmod b := Int.toNat_of_nonneg (by omega)
  simp only [e2] at q'
  exact q' _ _
theorem part2_eq {α : Type} {data : List α} {pl j : Nat} : List.take (min ((pl : Int) + (j : Int)).toNat data.length - (pl : Int).toNat) (List.drop (pl : Int).toNat data) = (data.drop pl).take j := by
  have e1 : (pl : Int).toNat = pl := by omega
  have e2 : ((pl : Int) + (j : Int)).toNat = pl + j := by omega
  rw [e1, e2]
  by_cases h : pl + j ≤ data.length
  · congr 1
    omega
  · rw [List.take_of_length_le (by rw [List.length_drop]; omega), List.take_of_length_le (by rw [List.length_drop]; omega)]
theorem min_add3 {a b n : Nat} : min (a + b) n = min a n + min b (n - a) := by
  rcases Nat.le_total n a with h | h
  · rw [Nat.min_eq_right h, Nat.sub_eq_zero_of_le h, Nat.min_zero, Nat.add_zero, Nat.min_eq_right (Nat.le_trans h (Nat.le_add_right a b))]
  · obtain ⟨c, rfl⟩ := Nat.le.dest h
    rw [Nat.min_eq_left h, Nat.add_sub_cancel_left, Nat.add_min_add_left]
theorem drop2 {h₀ h : Heap} {L : Addr} {a b : Addr × Obj} {r : List (Addr × Obj)} (N : News h₀ L h (a :: b :: r)) : News h₀ L h (a :: r) := fun p hp => N p (by
  rcases List.mem_cons.mp hp with rfl | hp
  · exact .head _
  · exact .tail _ (.tail _ hp))
theorem permP {h₀ h : Heap} {L : Addr} {a b c i e : Addr × Obj} {r : List (Addr × Obj)} (N : News h₀ L h (a :: b :: c :: i :: e :: r)) : News h₀ L h (i :: a :: r) := fun p hp => N p (by
  rcases List.mem_cons.mp hp with rfl | hp
  · exact .tail _ (.tail _ (.tail _ (.head _)))
  rcases List.mem_cons.mp hp with rfl | hp
  · exact .head _
  · exact .tail _ (.tail _ (.tail _ (.tail _ (.tail _ hp)))))
theorem item3 {w : World} {A : Around} {E : Value → Shared → Prop} {s : Shared} {h₀ : Heap} {L D : Addr} {news : List (Addr × Obj)} {value slice : PySem.Expr} {x a b c : Int} {t1 t2 t3 u : Tok} {z : Nat} {Q : Value → Shared → Prop} (N : News h₀ L s.heap news) (hm : (D, listOf #[.int a t1, .int b t2, .int c t3] z) ∈ news)
    (h : ∀ v t, (v = a ∨ v = b ∨ v = c) → Q (.int v t) s)
    (hs : subscripted slice false (.ref D) (.int (Int.fmod x 3) u) = operate [.ref D, .int (Int.fmod x 3) u] (getItem (.ref D) (.int (Int.fmod x 3) u)) := by with_unfolding_all rfl) :
    wpAny (model pw w) A (subscriptTail value slice (.ref D) (.int (Int.fmod x 3) u)) Q E s := by
  have e : Int.fmod x 3 = x % 3 := Int.fmod_eq_emod_of_nonneg _ (by decide)
  have hl : s.heap.IsList D [Value.int a t1, .int b t2, .int c t3].toArray := News.isList N hm
  refine item_anyK hl (ns := [a, b, c]) (.cons _ _ (.cons _ _ (.cons _ _ .nil))) (by omega) (by show _ < ((3 : Nat) : Int); omega) (by omega) (fun t => h _ t ?_) hs
  rcases (by omega : (Int.fmod x 3).toNat = 0 ∨ (Int.fmod x 3).toNat = 1 ∨ (Int.fmod x 3).toNat = 2) with e | e | e <;> rw [e] <;> simp

local macro_rules | `(tactic| walk_at "binaryOp Mod int int") => `(tactic| k_extra "y53")
local macro_rules | `(tactic| walk_at "subscriptTail") => `(tactic| k_extra "y54")

section
variable {w : World} {dp un : Nat} {fr : Option (List Env)} {gd : Option (List Code)} {s : Shared} {mg mb : Str → Option Value} {lo : List Str} {h₀ : Heap}

theorem pc_turn {I o dl sl mq L : Addr} {io : Obj} {m : Str → Option Value} {f x : Addr} {con mu : List (Addr × Obj)} {S : List (Addr × Obj) → Nat → Prop} {ks : Nat → Int} {dv ov sv : List Value} {data ns : List Int} {oe pl st i : Nat} {t tp ts : Tok} {Q : Flow → Shared → Prop}
    (X : (K w.params).In h₀) (T : TopRead q lo mg mb h₀) (hdp : dp < 370) (SS : Streams w f x con S ks) (hfn : fnIn (K w.params) f = true) (hc : AtH h₀ con) (hmq : h₀.get? mq = some (methodObj (.ref f) (.ref x)))
    (hdl : h₀.IsList dl dv.toArray) (hid : IntsAre dv data) (hdb : Bytes data) (hz : data.length ≤ 200) (hsl : h₀.IsList sl sv.toArray) (his : IntsAre sv ns) (hn : ns.length ≤ 63) (hst : st ≤ 100) (hi3 : i ≤ 300) (hio : IntsAre ov (strm ks 0 (data.take pl)))
    (F : Fr h₀ L s.heap (fun y => if y = "k" then some (.int (0 + (i : Int)) t) else kstB m [("call", .ref mq), ("data", .ref dl), ("script", .ref sl), ("start", .int (st : Nat) ts), ("out", .ref o), ("place", .int (pl : Nat) tp)] y)) (N : News h₀ L s.heap ((I, io) :: (o, listOf ov.toArray oe) :: mu)) (St : S mu (min pl data.length)) (nI : @Ne Nat I o) (ne : ∀ z ∈ mu, z.1 ≠ o) (neI : ∀ z ∈ mu, z.1 ≠ I)
    (done : ∀ (fl : Flow) h' tk' m' o' ov' oe' mu' (pl' : Nat) tp', (fl = .next ∨ fl = .brk) → Fr h₀ L h' m' → (m' "call" = some (.ref mq) ∧ m' "data" = some (.ref dl) ∧ m' "script" = some (.ref sl) ∧ m' "start" = some (.int (st : Nat) ts) ∧ m' "out" = some (.ref o') ∧ m' "place" = some (.int (pl' : Nat) tp')) → News h₀ L h' ((I, io) :: (o', listOf (ov' : List Value).toArray oe') :: mu') →
      IntsAre ov' (strm ks 0 (data.take pl')) → S mu' (min pl' data.length) → @Ne Nat I o' → (∀ z ∈ mu', z.1 ≠ o') → (∀ z ∈ mu', z.1 ≠ I) → Q fl { s with heap := h', toks := tk' }) :
    wpAny (model pw w) ((Ar dp un fr gd).deeper (envOf "_law_pieces" pcScope L 495 (.ref 494))) (execs pcTurn (envOf "_law_pieces" pcScope L 495 (.ref 494))) Q (fun _ _ => False) s := by
  refine with_scope (sc := pcScope) (P := fun sc => wpAny (model pw w) ((Ar dp un fr gd).deeper (envOf "_law_pieces" sc L 495 (.ref 494))) (execs pcTurn (envOf "_law_pieces" sc L 495 (.ref 494))) Q (fun _ _ => False) s) rfl ?_
  refine with_list (P := fun l => wpAny (model pw w) _ (execs l _) Q (fun _ _ => False) s) rfl ?_
  dsimp only [kstB] at F
  have hdz := hid.length
  have hin : KBa.In data := hdb.mem
  have hoz := hio.length
  rw [strm_len, List.length_take] at hoz
  repeat (first | (k_unfold; (try dsimp only)) | walk1 | (dsimp only; walk1))
  (rename Subtype _ => j)
  have hj := j.2
  refine callWith_B (g := f) (self := .ref x) hfn ?_
  repeat ((fail_if_success (with_reducible show wpAny _ _ (call (.type "bytes") _) _ _ _)); (first | (k_unfold; (try dsimp only)) | walk1 | (dsimp only; walk1)))
  (rename IntsAre _ (List.take _ _) => hI1); (rename _ ∧ _ ∧ _ ∧ AllLt _ _ => l9); rename_i D _ _ _ _ _ _
  rw [part2_eq] at hI1
  have hin2 : KBa.In ((data.drop pl).take j.1) := (Bytes.of_mem fun z hz => hdb.mem z (List.mem_of_mem_drop (List.mem_of_mem_take hz))).mem
  have hd2 : ((data.drop pl).take j.1).length = min j.1 (data.length - pl) := by rw [List.length_take, List.length_drop]
  have hd3 : ((data.drop pl).take j.1).length ≤ 200 := by omega
  repeat ((fail_if_success (with_reducible show _ ∧ _)); (first | (k_unfold; (try dsimp only)) | walk1 | (dsimp only; walk1)))
  (rename Fr _ _ _ _ => F3); (rename News _ _ _ _ => N3)
  have N3' := drop2 N3
  refine ⟨⟨F3.keep _ _ hmq, X.keeps F3.keep⟩, ?_⟩
  refine pc_call (led := [(D, _), (I, io), (o, listOf ov.toArray oe)]) F3 N3' X T (by show dp + 1 < 380; omega) SS hc hmq St (KBa.ints_make hin2) (by omega) (fun p hp z hz => by
    simp only [List.mem_cons, List.not_mem_nil, or_false] at hp
    rcases hp with rfl | rfl | rfl
    · exact (Nat.ne_of_lt (allLt_mem l9.2.2.2 z hz)).symm
    · exact (neI z hz).symm
    · exact (ne z hz).symm) ?_
  intro h4 tk4 mu4 bs4 t4 F4 N4 off4 S4 e4
  clear F3 N3 N3'
  repeat (first | (k_unfold; (try dsimp only)) | walk1 | (dsimp only; walk1))
  refine list_bytes rfl F4 N4 e4 (by rw [strm_len]; omega) ?_
  intro h5 tk5 E ev ec F5 N5 l5 hiE
  have N6 : News h₀ L h5 ((E, listOf ev.toArray ec) :: (D, _) :: (I, io) :: (o, listOf ov.toArray oe) :: mu4) := N5
  have hez := hiE.length
  rw [strm_len] at hez
  have he1 : ev.length ≤ 200 := Nat.le_trans (Nat.le_of_eq hez) hd3
  have ho1 : ov.length ≤ data.length := Nat.le_trans (Nat.le_of_eq hoz) (Nat.min_le_right _ _)
  clear F4 N4 N5
  have N7 := N6
  have es := strm_app (ks := ks) (data.take pl) ((data.drop pl).take j.1) 0
  rw [← List.take_add, List.length_take, Nat.zero_add] at es
  have S5 : S mu4 (min (pl + j.1) data.length) := by
    rw [show min (pl + j.1) data.length = min pl data.length + ((data.drop pl).take j.1).length from hd2 ▸ min_add3]
    exact S4
  have lE : ∀ p ∈ (E, listOf ev.toArray ec) :: (D, _) :: (I, io) :: (o, listOf ov.toArray oe) :: mu4, p.1 ≠ h5.objs.size := fun p hp => Nat.ne_of_lt (Heap.lt_size (N7 p hp).1)
  have iR : @Ne Nat I h5.objs.size := lE (I, io) (.tail _ (.tail _ (.head _)))
  have muI : ∀ z ∈ mu4, z.1 ≠ I := fun z hz => (off4 (I, io) (.tail _ (.head _)) z hz).symm
  have muR : ∀ z ∈ mu4, z.1 ≠ h5.objs.size := fun z hz => lE z (.tail _ (.tail _ (.tail _ (.tail _ hz))))
  by_cases hge : data.length ≤ pl + j.1
  · repeat (first | (k_unfold; (try dsimp only)) | walk1 | (dsimp only; walk1))
    (rename Fr _ _ _ _ => F9); (rename News _ _ _ _ => N9)
    exact done .brk _ _ _ h5.objs.size (ov ++ ev) 0 mu4 (pl + j.1) _ (.inr rfl) F9 ⟨rfl, rfl, rfl, rfl, rfl, rfl⟩ (permP N9) (ints_eq (ints_app hio hiE) es.symm) S5 iR muR muI
  · repeat (first | (k_unfold; (try dsimp only)) | walk1 | (dsimp only; walk1))
    (rename Fr _ _ _ _ => F9); (rename News _ _ _ _ => N9)
    exact done .next _ _ _ h5.objs.size (ov ++ ev) 0 mu4 (pl + j.1) _ (.inl rfl) F9 ⟨rfl, rfl, rfl, rfl, rfl, rfl⟩ (permP N9) (ints_eq (ints_app hio hiE) es.symm) S5 iR muR muI
end
end
theorem rs54 : True ∧ True := by
  w_top off
  first | (walk1; fail) | exact ⟨trivial, trivial⟩
section

theorem rotI {h₀ h : Heap} {L : Addr} {i : Addr × Obj} {r : List (Addr × Obj)} (N : News h₀ L h (r ++ [i])) : News h₀ L h (i :: r) := fun p hp => N p (by
  rcases List.mem_cons.mp hp with rfl | hp
  · exact List.mem_append.mpr (.inr (.head _))
  · exact List.mem_append.mpr (.inl hp))
section
variable {w : World} {dp un : Nat} {fr : Option (List Env)} {gd : Option (List Code)} {s : Shared} {mg mb : Str → Option Value} {lo : List Str} {h₀ : Heap}

theorem pieces_spec {R : Result → Shared → Prop} {dl sl mq : Addr} {f x : Addr} {con mu : List (Addr × Obj)} {S : List (Addr × Obj) → Nat → Prop} {ks : Nat → Int} {dv sv : List Value} {data ns : List Int} {st : Nat} {ts : Tok}
    (KP : Kp h₀ s.heap) (hsz : h₀.objs.size ≤ s.heap.objs.size) (hm : ∀ z ∈ mu, s.heap.get? z.1 = some z.2 ∧ h₀.get? z.1 = none) (S0 : S mu 0)
    (X : (K w.params).In h₀) (T : TopRead q lo mg mb h₀) (hdp : dp < 360) (SS : Streams w f x con S ks) (hfn : fnIn (K w.params) f = true) (hc : AtH h₀ con) (hmq : h₀.get? mq = some (methodObj (.ref f) (.ref x)))
    (hdl : h₀.IsList dl dv.toArray) (hid : IntsAre dv data) (hdb : Bytes data) (hz : data.length ≤ 200) (hsl : h₀.IsList sl sv.toArray) (his : IntsAre sv ns) (hn : ns.length ≤ 63) (hst : st ≤ 100)
    (hR : ∀ h' tk' D vs n, Kp h₀ h' → h₀.get? D = none → h'.get? D = some (listOf (vs : List Value).toArray n) → IntsAre vs (strm ks 0 data) → R (.ok (.ret (.ref D))) { s with heap := h', toks := tk' }) :
    codeAny (model pw w) (Ar dp un fr gd) (.call (.ref 495) ⟨[.ref mq, .ref dl, .ref sl, .int (st : Nat) ts], []⟩) R s := by
  refine enterN (binds := [("call", .ref mq), ("data", .ref dl), ("script", .ref sl), ("start", .int (st : Nat) ts)]) (news := mu) KP hsz hm X T (by omega) rfl (by kernel_rfl) (BindsTo.of_eq rfl) (by decide) rfl ?_
  intro L h₁ tk F N l1
  clear l1
  have hdz := hid.length
  repeat ((fail_if_success (with_reducible show wpAny _ _ (pyIter _) _ _ _)); (first | (k_unfold; (try dsimp only)) | walk1 | (dsimp only; walk1)))
  rename_i t1 t2 t3 hrg F2 N2 kp2
  refine range_J (n := data.length + 3) (J := fun _ m nx => ∃ o ov oe mu pl tp, nx = (o, listOf (ov : List Value).toArray oe) :: mu ∧ (m "call" = some (.ref mq) ∧ m "data" = some (.ref dl) ∧ m "script" = some (.ref sl) ∧ m "start" = some (.int (st : Nat) ts) ∧ m "out" = some (.ref o) ∧ m "place" = some (.int (pl : Nat) tp)) ∧ IntsAre ov (strm ks 0 (data.take pl)) ∧ S mu (min pl data.length) ∧ ∀ z ∈ mu, z.1 ≠ o) rfl hrg ?sm ?sz F2 N2 ?h0 ?turn ?done
  case sm => exact small_of (by omega) (by omega) (by omega) (by omega) (by omega) (by omega)
  case sz => exact rsize_up (by omega)
  case h0 =>
    refine ⟨_, [], 0, mu, 0, _, rfl, ⟨rfl, rfl, rfl, rfl, rfl, rfl⟩, .nil, by rw [Nat.zero_min]; exact S0, ?_⟩
    intro z hz
    exact Nat.ne_of_lt ((by assumption : ∀ p ∈ mu, @LT.lt Nat _ p.1 _) z hz)
  case turn =>
    intro i t m₁ nx h tk I io hi hJz hI F3 N3
    refine Classical.byContradiction fun hng => ?_
    obtain ⟨o, ov, oe, mu, pl, tp, rfl, ⟨f1, f2, f3, f4, f5, f6⟩, hio, St, ne⟩ := hJz
    refine hng ?_
    clear hng
    have em : kstB m₁ [(Str.ofString "call", Value.ref mq), ("data", .ref dl), ("script", .ref sl), ("start", .int (st : Nat) ts), ("out", .ref o), ("place", .int (pl : Nat) tp)] = m₁ := funext fun z => kstB_eq (fcons f1 (fcons f2 (fcons f3 (fcons f4 (fcons f5 (fcons f6 fnil)))))) fun _ => rfl
    rw [← em] at F3
    refine pc_turn X T (by show dp + 0 < 370; omega) SS hfn hc hmq hdl hid hdb hz hsl his hn hst (by omega) hio F3 (rotI N3) St (fun e => hI _ (.head _) e.symm) ne (fun z hz => hI z (.tail _ hz)) ?_
    intro fl h' tk' m' o' ov' oe' mu' pl' tp' hfl F4 g N4 hio' S' n1 n2 n3
    rcases hfl with rfl | rfl
    · exact TurnEnd.intro1 F4 N4 (fun z hz => by
        rcases List.mem_cons.mp hz with rfl | hz
        · exact n1.symm
        · exact n3 z hz) ⟨o', ov', oe', mu', pl', tp', rfl, g, hio', S', n2⟩
    · have em' : kstB m' [(Str.ofString "call", Value.ref mq), ("data", .ref dl), ("out", .ref o'), ("place", .int (pl' : Nat) tp')] = m' := funext fun z => kstB_eq (fcons g.1 (fcons g.2.1 (fcons g.2.2.2.2.1 (fcons g.2.2.2.2.2 fnil)))) fun _ => rfl
      rw [← em'] at F4
      refine pc_end X T (by show dp + 0 < 370; omega) SS hfn hc hmq hdl hid hdb hz hio' F4 (fun p hp => N4 p (.tail _ hp)) S' n2 ?_
      intro h9 tk9 D vs n mu9 kp9 e9 _ hi9
      exact hR h9 tk9 D vs n kp9 (e9 _ (.head _)).2 (e9 _ (.head _)).1 hi9
  case done =>
    intro m' nx h' tk hJz F4 N4
    refine Classical.byContradiction fun hng => ?_
    obtain ⟨o, ov, oe, mu, pl, tp, rfl, g, hio, St, ne⟩ := hJz
    refine hng ?_
    clear hng
    have em' : kstB m' [(Str.ofString "call", Value.ref mq), ("data", .ref dl), ("out", .ref o), ("place", .int (pl : Nat) tp)] = m' := funext fun z => kstB_eq (fcons g.1 (fcons g.2.1 (fcons g.2.2.2.2.1 (fcons g.2.2.2.2.2 fnil)))) fun _ => rfl
    rw [← em'] at F4
    refine pc_end X T (by show dp + 0 < 370; omega) SS hfn hc hmq hdl hid hdb hz hio F4 N4 St ne ?_
    intro h9 tk9 D vs n mu9 kp9 e9 _ hi9
    exact hR h9 tk9 D vs n kp9 (e9 _ (.head _)).2 (e9 _ (.head _)).1 hi9
end
end
theorem rs55 : True ∧ True := by
  w_top off
  first | (walk1; fail) | exact ⟨trivial, trivial⟩
section
theorem row_fold {g : Int × List Int → Int → Int × List Int} (hg : ∀ p k, ∃ x, (g p k).2 = p.2 ++ [x] ∧ 0 ≤ x ∧ x < 256) : ∀ (l : List Int) (p : Int × List Int), (∀ z ∈ p.2, 0 ≤ z ∧ z < 256) → (List.foldl g p l).2.length = p.2.length + l.length ∧ ∀ z ∈ (List.foldl g p l).2, 0 ≤ z ∧ z < 256
  | [], p, h => ⟨rfl, h⟩
  | k :: r, p, h => by
    obtain ⟨x, e, hx⟩ := hg p k
    have := row_fold hg r (g p k) (fun z hz => by
      rw [e] at hz
      rcases List.mem_append.mp hz with hz | hz
      · exact h z hz
      · rw [List.mem_singleton.mp hz]; exact hx)
    rw [List.foldl_cons]
    refine ⟨?_, this.2⟩
    rw [this.1, e, List.length_append, List.length_singleton, List.length_cons]
    omega
theorem fmod256 (a : Int) : 0 ≤ a.fmod 256 ∧ a.fmod 256 < 256 := by
  rw [Int.fmod_eq_emod_of_nonneg _ (by decide)]
  omega
theorem rowL_both (ns : List Int) (st n : Nat) : (rowL ns st n).length = (rangeKs 0 n).length ∧ ∀ z ∈ rowL ns st n, 0 ≤ z ∧ z < 256 := by
  have := row_fold (g := fun (p : Int × List Int) (k : Int) =>
            (if k < 8 then ((p.fst + cell ns (↑st + k).toNat) * 1103515245 + 12345 + k).fmod 2147483648
              else (p.fst * 1103515245 + 12345 + k).fmod 2147483648,
              if k < 8 then
                p.snd ++
                  [((((p.fst + cell ns (↑st + k).toNat) * 1103515245 + 12345 + k).fmod 2147483648).fdiv 4096).fmod 256]
              else p.snd ++ [(((p.fst * 1103515245 + 12345 + k).fmod 2147483648).fdiv 4096).fmod 256])) (fun p k => by
    by_cases h : k < 8
    · simp only [h, if_true]
      exact ⟨_, rfl, fmod256 _⟩
    · simp only [h, if_false]
      exact ⟨_, rfl, fmod256 _⟩) (rangeKs 0 n) (1 + cell ns st, []) (fun z hz => nomatch hz)
  refine ⟨?_, this.2⟩
  have e := this.1
  simpa [rowL] using e
theorem rowL_len (ns : List Int) (st n : Nat) : (rowL ns st n).length = n := by
  rw [(rowL_both ns st n).1]
  simp [rangeKs]
theorem rowL_bytes (ns : List Int) (st n : Nat) : Bytes (rowL ns st n) := Bytes.of_mem (rowL_both ns st n).2
section
variable {w : World} {dp un : Nat} {fr : Option (List Env)} {gd : Option (List Code)} {s : Shared} {mg mb : Str → Option Value} {lo : List Str} {h₀ : Heap}
theorem row_call {L l : Addr} {m : Str → Option Value} {news : List (Addr × Obj)} {vs : List Value} {ns : List Int} {i j : Int} {t0 t1 : Tok} {Q : Value → Shared → Prop} {E : Value → Shared → Prop}
    (F : Fr h₀ L s.heap m) (N : News h₀ L s.heap news) (X : (K w.params).In h₀) (T : TopRead q lo mg mb h₀) (hd : dp < 800) (hl : h₀.IsList l vs.toArray) (hi : IntsAre vs ns) (hn : ns.length ≤ 63) (h0 : 0 ≤ i) (hk : i ≤ 100) (j0 : 0 ≤ j) (hz : j ≤ 200)
    (h : ∀ h' tk' D ws n, Fr h₀ L h' m → News h₀ L h' ((D, listOf (ws : List Value).toArray n) :: news) → (∀ p ∈ news, @Ne Nat p.1 D) → IntsAre ws (rowL ns i.toNat j.toNat) → Q (.ref D) { s with heap := h', toks := tk' }) :
    wpAny (model pw w) (Ar dp un fr gd) (call (.ref 457) [.ref l, .int i t0, .int j t1]) Q E s := by
  obtain ⟨st, rfl⟩ := Int.eq_ofNat_of_zero_le h0
  obtain ⟨n, rfl⟩ := Int.eq_ofNat_of_zero_le j0
  exact wpAny_call (row_spec (X.keeps F.keep) (T.keeps F.keep) hd (hl.at fun o e => F.keep _ _ e) hi hn (by omega) (by omega) fun h' tk' D k ws kp e0 e1 hw => h h' tk' D ws k (frKp F kp) (led_new F N kp e0 e1).1 (led_new F N kp e0 e1).2 hw)
end
end
theorem rs56 : True ∧ True := by
  w_top off
  first | (walk1; fail) | exact ⟨trivial, trivial⟩
section
/-- what law needs of a mode of operation -/
structure ModeI (w : World) (md : Int) (key first : List Int) (start : Int) (ks : Nat → Int) (S : Addr → List (Addr × Obj) → List (Addr × Obj) → Nat → Prop) (fe fd : Addr) : Prop where
  ksin : ∀ p, 0 ≤ ks p ∧ ks p < 256
  rule : ∀ {dp un : Nat} {fr : Option (List Env)} {gd : Option (List Code)} {s : Shared} {mg mb : Str → Option Value} {lo : List Str} {R : Result → Shared → Prop} {data : List Int} {fv dv : List Value} {xa fl dl : Addr} {tm tz ts : Tok},
    (K w.params).In s.heap → TopRead q lo mg mb s.heap → dp < 390 → AesAt s.heap xa (keOf key) → s.heap.IsList fl fv.toArray → IntsAre fv first → s.heap.IsList dl dv.toArray → IntsAre dv data → data.length ≤ 900 →
    (∀ h' tk' D ov oe, Kp s.heap h' → s.heap.get? D = none → h'.get? D = some (listOf (ov : List Value).toArray oe) → IntsAre ov (strm ks 0 data) → R (.ok (.ret (.ref D))) { s with heap := h', toks := tk' }) →
    codeAny (model pw w) (Ar dp un fr gd) (.call (.ref 481) ⟨[.int md tm, .ref xa, .ref fl, .int 1 tz, .int start ts, .ref dl], []⟩) R s
  mode : ∀ {dp un : Nat} {fr : Option (List Env)} {gd : Option (List Code)} {s : Shared} {mg mb : Str → Option Value} {lo : List Str} {R : Result → Shared → Prop} {kv fv : List Value} {kl fl : Addr} {tm tz ts : Tok},
    (K w.params).In s.heap → TopRead q lo mg mb s.heap → dp < 390 → s.heap.IsList kl kv.toArray → IntsAre kv key → s.heap.IsList fl fv.toArray → IntsAre fv first →
    (∀ h' tk' x mu con, Kp s.heap h' → (∀ p ∈ mu, h'.get? p.1 = some p.2 ∧ s.heap.get? p.1 = none) → (∀ p ∈ con, h'.get? p.1 = some p.2 ∧ s.heap.get? p.1 = none) → (∀ p ∈ con, ∀ z ∈ mu, @Ne Nat p.1 z.1) → S x mu con 0 → R (.ok (.ret (.ref x))) { s with heap := h', toks := tk' }) →
    codeAny (model pw w) (Ar dp un fr gd) (.call (.ref 488) ⟨[.int md tm, .ref kl, .ref fl, .int 1 tz, .int start ts], []⟩) R s
  enc : ∀ x con, Streams w fe x con (fun mu p => S x mu con p) ks
  dec : ∀ x con, Streams w fd x con (fun mu p => S x mu con p) ks
  bndE : ∀ {A : Around} {E : Value → Shared → Prop} {s : Shared} {h₀ : Heap} {L x : Addr} {m : Str → Option Value} {news mu con : List (Addr × Obj)} {p : Nat} {expr : Bool} {Q : Value → Shared → Prop},
    Fr h₀ L s.heap m → (K w.params).In h₀ → News h₀ L s.heap news → (∀ z ∈ mu, s.heap.get? z.1 = some z.2) → (∀ z ∈ con, s.heap.get? z.1 = some z.2) → S x mu con p →
    (∀ q' h', Fr h₀ L h' m → News h₀ L h' ((q', methodObj (.ref fe) (.ref x)) :: news) → (∀ p ∈ news, p.1 < q') → Q (.ref q') { s with heap := h', toks := s.toks + 1 }) → wpAny (model pw w) A (getAttr (.ref x) "encrypt" expr) Q E s
  bndD : ∀ {A : Around} {E : Value → Shared → Prop} {s : Shared} {h₀ : Heap} {L x : Addr} {m : Str → Option Value} {news mu con : List (Addr × Obj)} {p : Nat} {expr : Bool} {Q : Value → Shared → Prop},
    Fr h₀ L s.heap m → (K w.params).In h₀ → News h₀ L s.heap news → (∀ z ∈ mu, s.heap.get? z.1 = some z.2) → (∀ z ∈ con, s.heap.get? z.1 = some z.2) → S x mu con p →
    (∀ q' h', Fr h₀ L h' m → News h₀ L h' ((q', methodObj (.ref fd) (.ref x)) :: news) → (∀ p ∈ news, p.1 < q') → Q (.ref q') { s with heap := h', toks := s.toks + 1 }) → wpAny (model pw w) A (getAttr (.ref x) "decrypt" expr) Q E s
  getE : ∀ {A : Around} {E : Value → Shared → Prop} {s : Shared} {h₀ : Heap} {L x : Addr} {m : Str → Option Value} {mu con : List (Addr × Obj)} {p : Nat} {pl : Sem Bool} {Q : Value × List Value → Shared → Prop},
    Fr h₀ L s.heap m → (K w.params).In h₀ → (∀ z ∈ mu, s.heap.get? z.1 = some z.2) → (∀ z ∈ con, s.heap.get? z.1 = some z.2) → S x mu con p → Q (.ref fe, [.ref x]) s → wpAny (model pw w) A (getMethod (.ref x) "encrypt" pl) Q E s
  keepE : keepIn (K w.params) (.ref fe) = true
  fnE : fnIn (K w.params) fe = true
  fnD : fnIn (K w.params) fd = true
section
variable {w : World} {key first : List Int} {start : Int}
theorem modeO (hkb : Bytes key) (hn : key.length = 16 ∨ key.length = 24 ∨ key.length = 32) (hfl : first.length = 16) (hfb : Bytes first) : ModeI w 3 key first start (ksO (keOf key) first) (OfbSt (keOf key) first) 399 406 where
  ksin := ksO_in
  rule X T hd ha hf hif hdl hid hz hR := rule_ofb X T hd ha (keOf_len hn).1 (keOf_len hn).2 hf hif hfl hfb hdl hid hz hR
  mode X T hd hk hik hf hif hR := mode_ofb X T hd hk hik hkb hn hf hif hfl hfb hR
  enc x con := str_ofb (keOf_len hn).1 (keOf_len hn).2 hfl hfb
  dec x con := str_ofd (keOf_len hn).1 (keOf_len hn).2 hfl hfb
  bndE := by
    intro A E s h₀ L x m news mu con p expr Q F X N hm hc St h
    refine Classical.byContradiction fun hng => ?_
    obtain ⟨d, xa, rm, hA, hB, hC, tA, tB, tC, v, rv, er, lp, k, j, rfl, hxc, _⟩ := St
    refine hng ?_
    clear hng
    have hx := hc _ hxc
    have hd := hm _ (.tail _ (.head _))
    exact kbm_bound F X N ⟨hx, rfl, rfl, hd⟩ (by k_is) (by k_is) (by k_is) (by k_is) (by k_is) (by k_is) (by decide +kernel) (by k_get) h
  bndD := by
    intro A E s h₀ L x m news mu con p expr Q F X N hm hc St h
    refine Classical.byContradiction fun hng => ?_
    obtain ⟨d, xa, rm, hA, hB, hC, tA, tB, tC, v, rv, er, lp, k, j, rfl, hxc, _⟩ := St
    refine hng ?_
    clear hng
    have hx := hc _ hxc
    have hd := hm _ (.tail _ (.head _))
    exact kbm_bound F X N ⟨hx, rfl, rfl, hd⟩ (by k_is) (by k_is) (by k_is) (by k_is) (by k_is) (by k_is) (by decide +kernel) (by k_get) h
  getE := by
    intro A E s h₀ L x m mu con p pl Q F X hm hc St h
    refine Classical.byContradiction fun hng => ?_
    obtain ⟨d, xa, rm, hA, hB, hC, tA, tB, tC, v, rv, er, lp, k, j, rfl, hxc, _⟩ := St
    refine hng ?_
    clear hng
    have hx := hc _ hxc
    have hd := hm _ (.tail _ (.head _))
    exact method_inst F X ⟨hx, rfl, rfl, hd⟩ (by k_is) (by k_is) (by k_is) (by k_get) h
  keepE := by k_is
  fnE := by k_is
  fnD := by k_is
theorem modeC (hkb : Bytes key) (hn : key.length = 16 ∨ key.length = 24 ∨ key.length = 32) (hfl : first.length = 16) (hfb : Bytes first) : ModeI w 4 key first start (ksC (keOf key) start) (CtrSt (keOf key) start) 431 438 where
  ksin := ksC_in
  rule X T hd ha hf hif hdl hid hz hR := rule_ctr X T hd ha (keOf_len hn).1 (keOf_len hn).2 hf hif hfl hfb hdl hid hz hR
  mode X T hd hk hik hf hif hR := mode_ctr X T hd hk hik hkb hn hf hif hfl hfb hR
  enc x con := str_ctr (keOf_len hn).1 (keOf_len hn).2
  dec x con := str_ctd (keOf_len hn).1 (keOf_len hn).2
  bndE := by
    intro A E s h₀ L x m news mu con p expr Q F X N hm hc St h
    refine Classical.byContradiction fun hng => ?_
    obtain ⟨d, xa, c, dc, l, rm, hA, hB, hC, hE, tA, tB, tC, tE, rv, er, lv, el, k, rfl, hxc, _⟩ := St
    refine hng ?_
    clear hng
    have hx := hc _ hxc
    have hd := hm _ (.tail _ (.tail _ (.tail _ (.head _))))
    exact kbm_bound F X N ⟨hx, rfl, rfl, hd⟩ (by k_is) (by k_is) (by k_is) (by k_is) (by k_is) (by k_is) (by decide +kernel) (by k_get) h
  bndD := by
    intro A E s h₀ L x m news mu con p expr Q F X N hm hc St h
    refine Classical.byContradiction fun hng => ?_
    obtain ⟨d, xa, c, dc, l, rm, hA, hB, hC, hE, tA, tB, tC, tE, rv, er, lv, el, k, rfl, hxc, _⟩ := St
    refine hng ?_
    clear hng
    have hx := hc _ hxc
    have hd := hm _ (.tail _ (.tail _ (.tail _ (.head _))))
    exact kbm_bound F X N ⟨hx, rfl, rfl, hd⟩ (by k_is) (by k_is) (by k_is) (by k_is) (by k_is) (by k_is) (by decide +kernel) (by k_get) h
  getE := by
    intro A E s h₀ L x m mu con p pl Q F X hm hc St h
    refine Classical.byContradiction fun hng => ?_
    obtain ⟨d, xa, c, dc, l, rm, hA, hB, hC, hE, tA, tB, tC, tE, rv, er, lv, el, k, rfl, hxc, _⟩ := St
    refine hng ?_
    clear hng
    have hx := hc _ hxc
    have hd := hm _ (.tail _ (.tail _ (.tail _ (.head _))))
    exact method_inst F X ⟨hx, rfl, rfl, hd⟩ (by k_is) (by k_is) (by k_is) (by k_get) h
  keepE := by k_is
  fnE := by k_is
  fnD := by k_is
/-- the mode that the script picks -/
theorem modeX (n : Int) (hkb : Bytes key) (hn : key.length = 16 ∨ key.length = 24 ∨ key.length = 32) (hfl : first.length = 16) (hfb : Bytes first) : ∃ ks S fe fd, ModeI w (3 + n.fmod 2) key first start ks S fe fd := by
  have e : n.fmod 2 = n % 2 := Int.fmod_eq_emod_of_nonneg _ (by decide)
  rcases (by omega : n.fmod 2 = 0 ∨ n.fmod 2 = 1) with e | e
  · rw [e]; exact ⟨_, _, _, _, modeO hkb hn hfl hfb⟩
  · rw [e]; exact ⟨_, _, _, _, modeC hkb hn hfl hfb⟩
end
end
theorem rs57 : True ∧ True := by
  w_top off
  first | (walk1; fail) | exact ⟨trivial, trivial⟩
section
/-- objects in a row, each with its own ledger -/
noncomputable def Mods (S : Addr → List (Addr × Obj) → List (Addr × Obj) → Nat → Prop) : List Addr → List (Addr × Obj) → Prop
  | [], tl => tl = []
  | x :: xs, tl => ∃ mu con tl', tl = con ++ (mu ++ tl') ∧ S x mu con 0 ∧ (∀ p ∈ con, ∀ z ∈ mu, @Ne Nat p.1 z.1) ∧ (∀ p ∈ tl', ∀ z ∈ mu, @Ne Nat p.1 z.1) ∧ Mods S xs tl'
theorem Mods.snoc {S : Addr → List (Addr × Obj) → List (Addr × Obj) → Nat → Prop} {x : Addr} {mu con : List (Addr × Obj)} (St : S x mu con 0) (ne : ∀ p ∈ con, ∀ z ∈ mu, @Ne Nat p.1 z.1) : ∀ (xs : List Addr) (tl : List (Addr × Obj)), Mods S xs tl → (∀ p ∈ con ++ mu, ∀ z ∈ tl, @Ne Nat p.1 z.1) → Mods S (xs ++ [x]) (tl ++ (con ++ mu))
  | [], _, rfl, _ => ⟨mu, con, [], by simp, St, ne, (fun _ h => nomatch h), rfl⟩
  | y :: ys, _, ⟨mu0, con0, tl0, rfl, S0, n1, n2, M⟩, off => ⟨mu0, con0, tl0 ++ (con ++ mu), by simp [List.append_assoc], S0, n1, fun p hp z hz => by
      rcases List.mem_append.mp hp with hp | hp
      · exact n2 p hp z hz
      · exact off p hp z (List.mem_append.mpr (.inr (List.mem_append.mpr (.inl hz)))), Mods.snoc St ne ys tl0 M fun p hp z hz => off p hp z (List.mem_append.mpr (.inr (List.mem_append.mpr (.inr hz))))⟩
section
variable {w : World} {dp un : Nat} {fr : Option (List Env)} {gd : Option (List Code)} {s : Shared} {mg mb : Str → Option Value} {lo : List Str} {h₀ : Heap}

theorem pcs_call {L f x q' dl sl : Addr} {m : Str → Option Value} {led con mu tl news : List (Addr × Obj)} {S : List (Addr × Obj) → Nat → Prop} {ks : Nat → Int} {dv sv : List Value} {data ns : List Int} {i : Int} {ts : Tok} {dn : Nat} {Q : Value → Shared → Prop} {E : Value → Shared → Prop}
    (F : Fr h₀ L s.heap m) (N : News h₀ L s.heap news) (sub : ∀ p ∈ (q', methodObj (.ref f) (.ref x)) :: (led ++ (con ++ (mu ++ tl))), p ∈ news)
    (X : (K w.params).In h₀) (T : TopRead q lo mg mb h₀) (hd : dp < 360) (SS : Streams w f x con S ks) (hfn : fnIn (K w.params) f = true) (S0 : S mu 0)
    (hl : (dl, listOf dv.toArray dn) ∈ led) (hid : IntsAre dv data) (hdb : Bytes data) (hz : data.length ≤ 200) (hsl : h₀.IsList sl sv.toArray) (his : IntsAre sv ns) (hn : ns.length ≤ 63) (i0 : 0 ≤ i) (hi : i ≤ 100)
    (offq : ∀ z ∈ mu, @Ne Nat q' z.1) (offl : ∀ p ∈ led, ∀ z ∈ mu, @Ne Nat p.1 z.1) (offc : ∀ p ∈ con, ∀ z ∈ mu, @Ne Nat p.1 z.1) (offt : ∀ p ∈ tl, ∀ z ∈ mu, @Ne Nat p.1 z.1)
    (h : ∀ h' tk' D vs n, Fr h₀ L h' m → News h₀ L h' ((D, listOf (vs : List Value).toArray n) :: (led ++ tl)) → (∀ p ∈ led ++ tl, @Ne Nat p.1 D) → IntsAre vs (strm ks 0 data) → Q (.ref D) { s with heap := h', toks := tk' }) :
    wpAny (model pw w) (Ar dp un fr gd) (call (.ref 495) [.ref q', .ref dl, .ref sl, .int i ts]) Q E s := by
  obtain ⟨st, rfl⟩ := Int.eq_ofNat_of_zero_le i0
  have N' : News h₀ L s.heap ((q', methodObj (.ref f) (.ref x)) :: (led ++ (con ++ (mu ++ tl)))) := fun p hp => N p (sub p hp)
  have nmu : ∀ z ∈ mu, s.heap.get? z.1 = some z.2 ∧ z.1 ≠ L ∧ h₀.get? z.1 = none := fun z hz => N' z (.tail _ (List.mem_append.mpr (.inr (List.mem_append.mpr (.inr (List.mem_append.mpr (.inl hz)))))))
  have inmu : ∀ a ∈ mu.map (·.1), ∃ z ∈ mu, z.1 = a := fun a ha => by simpa using ha
  have ha : ∀ a ∈ mu.map (·.1), h₀.get? a = none := fun a h => by
    obtain ⟨z, hz, rfl⟩ := inmu a h
    exact (nmu z hz).2.2
  have hL : L ∉ mu.map (·.1) := fun h => by
    obtain ⟨z, hz, e⟩ := inmu L h
    exact (nmu z hz).2.1 e
  have kb := hide_base F.keep ha
  have out : ∀ a : Addr, (∀ z ∈ mu, @Ne Nat a z.1) → a ∉ mu.map (·.1) := fun a o h => by
    obtain ⟨z, hz, e⟩ := inmu _ h
    exact o z hz e.symm
  have ol : ∀ p ∈ led ++ tl, p.1 ∉ mu.map (·.1) := fun p hp => out _ (by
    rcases List.mem_append.mp hp with hp | hp
    · exact offl p hp
    · exact offt p hp)
  have Nl : News h₀ L s.heap (led ++ tl) := fun p hp => N' p (.tail _ (by
    rcases List.mem_append.mp hp with hp | hp
    · exact List.mem_append.mpr (.inl hp)
    · exact List.mem_append.mpr (.inr (List.mem_append.mpr (.inr (List.mem_append.mpr (.inr hp)))))))
  refine wpAny_call (pieces_spec (h₀ := hideAll s.heap (mu.map (·.1))) (mu := mu) hide_kp (Nat.le_of_eq (hideAll_size _ _)) (fun z hz => ⟨(nmu z hz).1, hideAll_none _ (List.mem_map.mpr ⟨z, hz, rfl⟩)⟩) S0 (X.keeps kb) (T.keeps kb) hd SS hfn
    (fun p hp => hideAll_get _ (N' p (.tail _ (List.mem_append.mpr (.inr (List.mem_append.mpr (.inl hp)))))).1 (out _ (offc p hp))) (hideAll_get _ (N' _ (.head _)).1 (out _ offq))
    (IsL.isList (n := dn) (hideAll_get _ (Nl _ (List.mem_append.mpr (.inl hl))).1 (ol _ (List.mem_append.mpr (.inl hl))))) hid hdb hz (hsl.at fun o e => kb _ _ e) his hn (by omega) ?_)
  intro h' tk' D vs n kp e0 e1 hv
  have NN := hide_news Nl ol kp
  refine h h' tk' D vs n (hide_fr F ha hL kp) (fun p hp => ?_) (fun p hp e => ?_) hv
  · rcases List.mem_cons.mp hp with rfl | hp
    · exact hide_fresh F ha hL e1 e0
    · exact NN p hp
  · have q1 := hideAll_get _ (Nl p hp).1 (ol p hp)
    rw [e, e0] at q1
    cases q1
/-- a mode's object is made: its ledger lies after what was there -/
theorem mode_call {L kl fl : Addr} {m : Str → Option Value} {news : List (Addr × Obj)} {md start : Int} {key first : List Int} {kv fv : List Value} {ks : Nat → Int} {S : Addr → List (Addr × Obj) → List (Addr × Obj) → Nat → Prop} {fe fd : Addr} {tm tz ts : Tok} {kn fn : Nat} {Q : Value → Shared → Prop} {E : Value → Shared → Prop}
    (I : ModeI w md key first start ks S fe fd) (F : Fr h₀ L s.heap m) (N : News h₀ L s.heap news) (X : (K w.params).In h₀) (T : TopRead q lo mg mb h₀) (hd : dp < 390) (hk : (kl, listOf kv.toArray kn) ∈ news) (hik : IntsAre kv key) (hf : (fl, listOf fv.toArray fn) ∈ news) (hif : IntsAre fv first)
    (h : ∀ h' tk' x mu con, Fr h₀ L h' m → News h₀ L h' (news ++ (con ++ mu)) → (∀ p ∈ con ++ mu, ∀ z ∈ news, @Ne Nat p.1 z.1) → (∀ p ∈ con, ∀ z ∈ mu, @Ne Nat p.1 z.1) → S x mu con 0 → Q (.ref x) { s with heap := h', toks := tk' }) :
    wpAny (model pw w) (Ar dp un fr gd) (call (.ref 488) [.int md tm, .ref kl, .ref fl, .int 1 tz, .int start ts]) Q E s := by
  refine wpAny_call (I.mode (X.keeps F.keep) (T.keeps F.keep) hd (IsL.isList (n := kn) (N _ hk).1) hik (IsL.isList (n := fn) (N _ hf).1) hif ?_)
  intro h' tk' x mu con kp em ec ne St
  have fresh : ∀ p ∈ con ++ mu, h'.get? p.1 = some p.2 ∧ s.heap.get? p.1 = none := fun p hp => by
    rcases List.mem_append.mp hp with hp | hp
    · exact ec p hp
    · exact em p hp
  refine h h' tk' x mu con (frKp F kp) (fun p hp => ?_) (fun p hp z hz e => ?_) ne St
  · rcases List.mem_append.mp hp with hp | hp
    · exact newsKp N kp p hp
    · refine ⟨(fresh p hp).1, fun e => ?_, ?_⟩
      · refine Classical.byContradiction fun hng => ?_
        obtain ⟨oL, _, _, hL', _⟩ := F.ns
        refine hng ?_
        clear hng
        have := (fresh p hp).2
        rw [e, hL'] at this
        cases this
      · exact kp_none F.keep (fresh p hp).2
  · have := (N z hz).1
    rw [← e, (fresh p hp).2] at this
    cases this
/-- a method of an object whose ledger lies in the ledger -/
theorem bnd_call {L f x : Addr} {m : Str → Option Value} {led con mu tl news : List (Addr × Obj)} {S : List (Addr × Obj) → Nat → Prop} {ks : Nat → Int} {bs : Array UInt8} {tb : Tok} {data : List Int} {p : Nat} {Q : Value → Shared → Prop} {E : Value → Shared → Prop}
    (F : Fr h₀ L s.heap m) (N : News h₀ L s.heap news) (sub : ∀ p ∈ led ++ (con ++ (mu ++ tl)), p ∈ news)
    (X : (K w.params).In h₀) (T : TopRead q lo mg mb h₀) (hd : dp < 380) (SS : Streams w f x con S ks) (S0 : S mu p) (hi : KBw.bInts bs = data) (hz : data.length ≤ 900)
    (offl : ∀ p ∈ led, ∀ z ∈ mu, @Ne Nat p.1 z.1) (offc : ∀ p ∈ con, ∀ z ∈ mu, @Ne Nat p.1 z.1)
    (h : ∀ h' tk' bs' t', Fr h₀ L h' m → News h₀ L h' led → KBw.bInts bs' = strm ks p data → Q (.bytes bs' t') { s with heap := h', toks := tk' }) :
    wpAny (model pw w) (Ar dp un fr gd) (call (.ref f) [.ref x, .bytes bs tb]) Q E s := by
  have N' : News h₀ L s.heap (led ++ (con ++ (mu ++ tl))) := fun p hp => N p (sub p hp)
  have nmu : ∀ z ∈ mu, s.heap.get? z.1 = some z.2 ∧ z.1 ≠ L ∧ h₀.get? z.1 = none := fun z hz => N' z (List.mem_append.mpr (.inr (List.mem_append.mpr (.inr (List.mem_append.mpr (.inl hz))))))
  have inmu : ∀ a ∈ mu.map (·.1), ∃ z ∈ mu, z.1 = a := fun a ha => by simpa using ha
  have ha : ∀ a ∈ mu.map (·.1), h₀.get? a = none := fun a h => by
    obtain ⟨z, hz, rfl⟩ := inmu a h
    exact (nmu z hz).2.2
  have hL : L ∉ mu.map (·.1) := fun h => by
    obtain ⟨z, hz, e⟩ := inmu L h
    exact (nmu z hz).2.1 e
  have kb := hide_base F.keep ha
  have out : ∀ a : Addr, (∀ z ∈ mu, @Ne Nat a z.1) → a ∉ mu.map (·.1) := fun a o h => by
    obtain ⟨z, hz, e⟩ := inmu _ h
    exact o z hz e.symm
  have Nl : News h₀ L s.heap led := fun p hp => N' p (List.mem_append.mpr (.inl hp))
  refine wpAny_call (SS dp un fr gd s mg mb lo (hideAll s.heap (mu.map (·.1))) _ mu p bs tb data hide_kp (Nat.le_of_eq (hideAll_size _ _)) (X.keeps kb) (T.keeps kb) hd
    (fun p hp => hideAll_get _ (N' p (List.mem_append.mpr (.inr (List.mem_append.mpr (.inl hp))))).1 (out _ (offc p hp))) (fun z hz => ⟨(nmu z hz).1, hideAll_none _ (List.mem_map.mpr ⟨z, hz, rfl⟩)⟩) S0 hi hz ?_)
  intro h' tk' mu' bs' t' kp em S' e
  exact h h' tk' bs' t' (hide_fr F ha hL kp) (hide_news Nl (fun p hp => out _ (offl p hp)) kp) e
end
end
theorem rs58 : True ∧ True := by
  w_top off
  first | (walk1; fail) | exact ⟨trivial, trivial⟩
section

theorem mod101 {w : World} {A : Around} {E : Value → Shared → Prop} {h : Heap} {g d k os} {a : Int} {t u : Tok} {Q : Value → Shared → Prop} (q : ∀ (j : { n : Nat // n < 101 }) t k, Q (.int ((j.1 : Nat) : Int) t) ⟨h, g, d, k, os⟩) : wpAny (model pw w) A (binaryOp .Mod (.int a t) (.int 101 u)) Q E ⟨h, g, d, k, os⟩ := by
  have e : a.fmod 101 = a % 101 := Int.fmod_eq_emod_of_nonneg _ (by omega)
  refine mod_int' (by omega) ?_
  have q' := fun t k => q ⟨(a.fmod 101).toNat, by omega⟩ t k
  have e2 : (((a.fmod 101).toNat : Nat) : Int) = a.fmod 101 := Int.toNat_of_nonneg (by omega)
  simp only [e2] at q'
  exact q' _ _
theorem newsL {h₀ h : Heap} {L : Addr} {a b : List (Addr × Obj)} (N : News h₀ L h (a ++ b)) : News h₀ L h a := fun p hp => N p (List.mem_append.mpr (.inl hp))
noncomputable def lawBody : List Stmt := stB (fB (T 26))
noncomputable def lawScope : Scope := fS (T 26)
noncomputable def lawRest : List Stmt := lawBody.drop 6
local macro_rules | `(tactic| walk_at "call ref") => `(tactic| k_extra "y55")
local macro_rules | `(tactic| walk_at "binaryOp Mod int int") => `(tactic| k_extra "y56")

noncomputable def lawEnd : List Stmt := lawBody.drop 8
theorem row_other {vs : List Value} {ns : List Int} {st k : Nat} (h : IntsAre vs (rowL ns st k)) : ∃ other, IntsAre vs other ∧ Bytes other ∧ other.length = k := ⟨_, h, rowL_bytes _ _ _, rowL_len _ _ _⟩
theorem ne_same {w : World} {A : Around} {E : Value → Shared → Prop} {s : Shared} {a b : Addr} {xs ys : List Value} {ns : List Int} {Q : Value → Shared → Prop} (ha : s.heap.IsList a xs.toArray) (hb : s.heap.IsList b ys.toArray) (hi : IntsAre xs ns) (hj : IntsAre ys ns) (hu : A.units + 64 < cLine) (h : Q (.bool false) s) :
    wpAny (model pw w) A (compareOp .NotEq (.ref a) (.ref b)) Q E s := ke_ne_ints ha hb hi hj hu (by rw [decide_eq_true (rfl : ns = ns)]; exact h)
theorem eq_same {w : World} {A : Around} {E : Value → Shared → Prop} {s : Shared} {a b : Addr} {xs ys : List Value} {ns : List Int} {Q : Value → Shared → Prop} (ha : s.heap.IsList a xs.toArray) (hb : s.heap.IsList b ys.toArray) (hi : IntsAre xs ns) (hj : IntsAre ys ns) (hu : A.units + 64 < cLine) (h : Q (.bool true) s) :
    wpAny (model pw w) A (compareOp .Eq (.ref a) (.ref b)) Q E s := ke_eq_ints ha hb hi hj hu (by rw [decide_eq_true (rfl : ns = ns)]; exact h)
section
variable {w : World} {dp un : Nat} {fr : Option (List Env)} {gd : Option (List Code)} {s : Shared} {mg mb : Str → Option Value} {lo : List Str} {h₀ : Heap}

theorem law_end {sl dl u a L fa x0 x1 x2 x3 x4 : Addr} {m : Str → Option Value} {cdv : Value} {sv dv uv : List Value} {ns data key first : List Int} {md start : Int} {ks : Nat → Int} {S : Addr → List (Addr × Obj) → List (Addr × Obj) → Nat → Prop} {fe fd : Addr} {dn ue : Nat} {tl : List (Addr × Obj)} {Q : Flow → Shared → Prop}
    (I : ModeI w md key first start ks S fe fd) (X : (K w.params).In h₀) (T' : TopRead q lo mg mb h₀) (hdp : dp < 350) (hun : ((Ar dp un fr gd).deeper (envOfC "law" lawScope L fa cdv)).units + 64 < cLine) (hsl : h₀.IsList sl sv.toArray) (his : IntsAre sv ns) (hn : ns.length ≤ 63)
    (hid : IntsAre dv data) (hdb : Bytes data) (hdz : data.length ≤ 100) (hiu : IntsAre uv (strm ks 0 data))
    (F0 : Fr h₀ L s.heap m) (ms : m "script" = some (.ref sl)) (mda : m "data" = some (.ref dl)) (mdu : m "due" = some (.ref u)) (mmo : m "modes" = some (.ref a))
    (N : News h₀ L s.heap ((a, LCg.lst [.ref x0, .ref x1, .ref x2, .ref x3, .ref x4]) :: (u, listOf uv.toArray ue) :: (dl, listOf dv.toArray dn) :: tl)) (M : Mods S [x0, x1, x2, x3, x4] tl)
    (offl : ∀ p ∈ [(a, LCg.lst [Value.ref x0, .ref x1, .ref x2, .ref x3, .ref x4]), (u, listOf uv.toArray ue), (dl, listOf dv.toArray dn)], ∀ z ∈ tl, @Ne Nat p.1 z.1)
    (done : ∀ h' tk', Kp h₀ h' → Q (.ret (.bool true)) { s with heap := h', toks := tk' }) :
    wpAny (model pw w) ((Ar dp un fr gd).deeper (envOfC "law" lawScope L fa cdv)) (execs lawEnd (envOfC "law" lawScope L fa cdv)) Q (fun _ _ => False) s := by
  revert hun
  refine with_scope (sc := lawScope) (P := fun sc => ((Ar dp un fr gd).deeper (envOfC "law" sc L fa cdv)).units + 64 < cLine → wpAny (model pw w) ((Ar dp un fr gd).deeper (envOfC "law" sc L fa cdv)) (execs lawEnd (envOfC "law" sc L fa cdv)) Q (fun _ _ => False) s) rfl ?_
  intro hun
  refine with_list (P := fun l => wpAny (model pw w) _ (execs l _) Q (fun _ _ => False) s) rfl ?_
  have em : kstB m [(Str.ofString "script", Value.ref sl), ("data", .ref dl), ("due", .ref u), ("modes", .ref a)] = m := funext fun z => kstB_eq (fcons ms (fcons mda (fcons mdu (fcons mmo fnil)))) fun _ => rfl
  have F := F0
  rw [← em] at F
  dsimp only [kstB] at F
  clear F0 em
  have hdz' := hid.length
  have huz' := hiu.length
  rw [strm_len] at huz'
  have hub : Bytes (strm ks 0 data) := Bytes.of_mem (strm_in I.ksin data 0 hdb.mem)
  have huz : (strm ks 0 data).length = data.length := strm_len data 0
  repeat (first | (k_unfold; (try dsimp only)) | walk1 | (dsimp only; walk1))
  refine Classical.byContradiction fun hng => ?_
  obtain ⟨mu0, con0, tl0, rfl, St0, n10, n20, M⟩ := M
  refine hng ?_
  clear hng
  (rename Fr _ _ _ _ => F10); (rename News _ _ _ _ => N10)
  refine I.bndE F10 X N10 (fun z hz => (N10 z (by simp only [List.mem_cons, List.mem_append, hz, true_or, or_true])).1) (fun z hz => (N10 z (by simp only [List.mem_cons, List.mem_append, hz, true_or, or_true])).1) St0 ?_
  intro q0 h20 F20 N20 lt0
  have offq0 : ∀ z ∈ mu0, @Ne Nat q0 z.1 := fun z hz => (Nat.ne_of_lt (lt0 z (by simp only [List.mem_cons, List.mem_append, hz, true_or, or_true]))).symm
  clear lt0 F10 N10
  repeat (first | (k_unfold; (try dsimp only)) | walk1 | (dsimp only; walk1))
  (rename Fr _ _ _ _ => F30); (rename News _ _ _ _ => N30)
  refine pcs_call (led := [(a, _), (u, _), (dl, _)]) F30 N30 (fun p hp => hp) X T' (by show dp + 1 < 360; omega) (I.enc _ con0) I.fnE St0 (.tail _ (.tail _ (.head _))) hid hdb (by omega) hsl his hn (by decide) (by decide) offq0 (fun p hp z hz => offl p hp z (by simp only [List.mem_append, hz, true_or, or_true])) n10 n20 ?_
  intro h40 tk40 D0 v0 e0 F40 N40 ne0 hv0
  clear F30 N30
  have offl : ∀ p ∈ [(a, LCg.lst [Value.ref x0, .ref x1, .ref x2, .ref x3, .ref x4]), (u, listOf uv.toArray ue), (dl, listOf dv.toArray dn)], ∀ z ∈ tl0, @Ne Nat p.1 z.1 := fun p hp z hz => offl p hp z (by simp only [List.mem_append, hz, true_or, or_true])
  repeat ((fail_if_success (with_reducible show wpAny _ _ (compareOp _ _ _) _ _ _)); (first | (k_unfold; (try dsimp only)) | walk1 | (dsimp only; walk1)))
  
  refine ne_same (News.isList (by k_asm) (.head _)) (News.isList (by k_asm) (by k_mem)) hv0 hiu hun ?_
  repeat (first | (k_unfold; (try dsimp only)) | walk1 | (dsimp only; walk1))
  refine Classical.byContradiction fun hng => ?_
  obtain ⟨mu1, con1, tl1, rfl, St1, n11, n21, M⟩ := M
  refine hng ?_
  clear hng
  (rename Fr _ _ _ _ => F11); (rename News _ _ _ _ => N11)
  refine I.bndD F11 X N11 (fun z hz => (N11 z (by simp only [List.mem_cons, List.mem_append, hz, true_or, or_true])).1) (fun z hz => (N11 z (by simp only [List.mem_cons, List.mem_append, hz, true_or, or_true])).1) St1 ?_
  intro q1 h21 F21 N21 lt1
  have offq1 : ∀ z ∈ mu1, @Ne Nat q1 z.1 := fun z hz => (Nat.ne_of_lt (lt1 z (by simp only [List.mem_cons, List.mem_append, hz, true_or, or_true]))).symm
  clear lt1 F11 N11
  have N21 := drop2 N21
  repeat (first | (k_unfold; (try dsimp only)) | walk1 | (dsimp only; walk1))
  (rename Fr _ _ _ _ => F31); (rename News _ _ _ _ => N31)
  refine pcs_call (led := [(a, _), (u, _), (dl, _)]) F31 N31 (fun p hp => hp) X T' (by show dp + 1 < 360; omega) (I.dec _ con1) I.fnD St1 (.tail _ (.tail _ (.head _))) hid hdb (by omega) hsl his hn (by decide) (by decide) offq1 (fun p hp z hz => offl p hp z (by simp only [List.mem_append, hz, true_or, or_true])) n11 n21 ?_
  intro h41 tk41 D1 v1 e1 F41 N41 ne1 hv1
  clear F31 N31
  have offl : ∀ p ∈ [(a, LCg.lst [Value.ref x0, .ref x1, .ref x2, .ref x3, .ref x4]), (u, listOf uv.toArray ue), (dl, listOf dv.toArray dn)], ∀ z ∈ tl1, @Ne Nat p.1 z.1 := fun p hp z hz => offl p hp z (by simp only [List.mem_append, hz, true_or, or_true])
  repeat ((fail_if_success (with_reducible show wpAny _ _ (compareOp _ _ _) _ _ _)); (first | (k_unfold; (try dsimp only)) | walk1 | (dsimp only; walk1)))
  
  refine ne_same (News.isList (by k_asm) (.head _)) (News.isList (by k_asm) (by k_mem)) hv1 hiu hun ?_
  repeat (first | (k_unfold; (try dsimp only)) | walk1 | (dsimp only; walk1))
  refine Classical.byContradiction fun hng => ?_
  obtain ⟨mu2, con2, tl2, rfl, St2, n12, n22, M⟩ := M
  refine hng ?_
  clear hng
  (rename Fr _ _ _ _ => F12); (rename News _ _ _ _ => N12)
  refine I.bndE F12 X N12 (fun z hz => (N12 z (by simp only [List.mem_cons, List.mem_append, hz, true_or, or_true])).1) (fun z hz => (N12 z (by simp only [List.mem_cons, List.mem_append, hz, true_or, or_true])).1) St2 ?_
  intro q2 h22 F22 N22 lt2
  have offq2 : ∀ z ∈ mu2, @Ne Nat q2 z.1 := fun z hz => (Nat.ne_of_lt (lt2 z (by simp only [List.mem_cons, List.mem_append, hz, true_or, or_true]))).symm
  clear lt2 F12 N12
  have N22 := drop2 N22
  repeat (first | (k_unfold; (try dsimp only)) | walk1 | (dsimp only; walk1))
  (rename Fr _ _ _ _ => F32); (rename News _ _ _ _ => N32)
  refine pcs_call (led := [(a, _), (u, _), (dl, _)]) F32 N32 (fun p hp => hp) X T' (by show dp + 1 < 360; omega) (I.enc _ con2) I.fnE St2 (.tail _ (.head _)) hiu hub (by omega) hsl his hn (by decide) (by decide) offq2 (fun p hp z hz => offl p hp z (by simp only [List.mem_append, hz, true_or, or_true])) n12 n22 ?_
  intro h42 tk42 D2 v2 e2 F42 N42 ne2 hv2
  clear F32 N32
  have offl : ∀ p ∈ [(a, LCg.lst [Value.ref x0, .ref x1, .ref x2, .ref x3, .ref x4]), (u, listOf uv.toArray ue), (dl, listOf dv.toArray dn)], ∀ z ∈ tl2, @Ne Nat p.1 z.1 := fun p hp z hz => offl p hp z (by simp only [List.mem_append, hz, true_or, or_true])
  repeat ((fail_if_success (with_reducible show wpAny _ _ (compareOp _ _ _) _ _ _)); (first | (k_unfold; (try dsimp only)) | walk1 | (dsimp only; walk1)))
  replace hv2 := ints_eq hv2 (strm_back I.ksin data 0 hdb.mem)
  refine ne_same (News.isList (by k_asm) (.head _)) (News.isList (by k_asm) (by k_mem)) hv2 hid hun ?_
  repeat (first | (k_unfold; (try dsimp only)) | walk1 | (dsimp only; walk1))
  refine Classical.byContradiction fun hng => ?_
  obtain ⟨mu3, con3, tl3, rfl, St3, n13, n23, M⟩ := M
  refine hng ?_
  clear hng
  (rename Fr _ _ _ _ => F13); (rename News _ _ _ _ => N13)
  refine I.bndD F13 X N13 (fun z hz => (N13 z (by simp only [List.mem_cons, List.mem_append, hz, true_or, or_true])).1) (fun z hz => (N13 z (by simp only [List.mem_cons, List.mem_append, hz, true_or, or_true])).1) St3 ?_
  intro q3 h23 F23 N23 lt3
  have offq3 : ∀ z ∈ mu3, @Ne Nat q3 z.1 := fun z hz => (Nat.ne_of_lt (lt3 z (by simp only [List.mem_cons, List.mem_append, hz, true_or, or_true]))).symm
  clear lt3 F13 N13
  have N23 := drop2 N23
  repeat (first | (k_unfold; (try dsimp only)) | walk1 | (dsimp only; walk1))
  (rename Fr _ _ _ _ => F33); (rename News _ _ _ _ => N33)
  refine pcs_call (led := [(a, _), (u, _), (dl, _)]) F33 N33 (fun p hp => hp) X T' (by show dp + 1 < 360; omega) (I.dec _ con3) I.fnD St3 (.tail _ (.head _)) hiu hub (by omega) hsl his hn (by decide) (by decide) offq3 (fun p hp z hz => offl p hp z (by simp only [List.mem_append, hz, true_or, or_true])) n13 n23 ?_
  intro h43 tk43 D3 v3 e3 F43 N43 ne3 hv3
  clear F33 N33
  have offl : ∀ p ∈ [(a, LCg.lst [Value.ref x0, .ref x1, .ref x2, .ref x3, .ref x4]), (u, listOf uv.toArray ue), (dl, listOf dv.toArray dn)], ∀ z ∈ tl3, @Ne Nat p.1 z.1 := fun p hp z hz => offl p hp z (by simp only [List.mem_append, hz, true_or, or_true])
  repeat ((fail_if_success (with_reducible show wpAny _ _ (compareOp _ _ _) _ _ _)); (first | (k_unfold; (try dsimp only)) | walk1 | (dsimp only; walk1)))
  replace hv3 := ints_eq hv3 (strm_back I.ksin data 0 hdb.mem)
  refine ne_same (News.isList (by k_asm) (.head _)) (News.isList (by k_asm) (by k_mem)) hv3 hid hun ?_
  repeat (first | (k_unfold; (try dsimp only)) | walk1 | (dsimp only; walk1))
  refine Classical.byContradiction fun hng => ?_
  obtain ⟨mu4, con4, tl4, rfl, St4, n14, n24, M⟩ := M
  refine hng ?_
  clear hng
  (rename Fr _ _ _ _ => F14); (rename News _ _ _ _ => N14); (rename IntsAre _ (rowL _ _ _) => hio0); (rename (_ ≠ _ ∧ _) => ap4)
  refine Classical.byContradiction fun hng => ?_
  obtain ⟨other, hio, hob, hol⟩ := row_other hio0
  refine hng ?_
  clear hng
  clear hio0
  have hol : other.length = data.length := by rw [hol]; omega
  have hoz := hio.length
  have hin4 : KBa.In other := hob.mem
  have N14 := drop2 N14
  refine I.getE F14 X (fun z hz => (N14 z (by simp only [List.mem_cons, List.mem_append, hz, true_or, or_true])).1) (fun z hz => (N14 z (by simp only [List.mem_cons, List.mem_append, hz, true_or, or_true])).1) St4 ?_
  refine callWith_K X I.keepE ?_
  repeat ((fail_if_success (with_reducible show _ ∧ _)); (first | (k_unfold; (try dsimp only)) | walk1 | (dsimp only; walk1)))
  (rename Fr _ _ _ _ => F34); (rename News _ _ _ _ => N34)
  refine ⟨X.keeps F34.keep, ?_⟩
  refine bnd_call (led := [(_, _), (a, _), (u, _), (dl, _)]) F34 N34 (fun p hp => hp) X T' (by show dp + 1 < 380; omega) (I.enc _ con4) St4 (KBa.ints_make hin4) (by omega) (fun p hp z hz => ?_) n14 ?_
  · rcases List.mem_cons.mp hp with rfl | hp
    · exact (ap4.2 z (by simp only [List.mem_cons, List.mem_append, hz, true_or, or_true])).symm
    · exact offl p hp z (by simp only [List.mem_append, hz, true_or, or_true])
  intro h5 tk5 bs5 t5 F5 N5 e5
  clear F34 N34 F14 N14
  repeat (first | (k_unfold; (try dsimp only)) | walk1 | (dsimp only; walk1))
  refine list_bytes rfl F5 N5 e5 (by rw [strm_len]; omega) ?_
  intro h6 tk6 R6 rv6 rc6 F6 N6 lt6 hi6
  have hl6 : (strm ks 0 other).length = data.length := by rw [strm_len]; exact hol
  clear F5 N5
  repeat (first | (k_unfold; (try dsimp only)) | walk1 | (dsimp only; walk1))
  refine sum_call F6 N6 X T' (by show dp + 1 < 900; omega) (News.isList N6 (.head _)) hi6 (News.isList N6 (.tail _ (.tail _ (.tail _ (.head _))))) hiu (by omega) (by omega) ?_
  intro h7 tk7 D7 v7 n7 F7 N7 ne7 hi7
  clear F6 N6
  repeat (first | (k_unfold; (try dsimp only)) | walk1 | (dsimp only; walk1))
  refine sum_call F7 N7 X T' (by show dp + 1 < 900; omega) (News.isList N7 (.tail _ (.tail _ (.head _)))) hio (News.isList N7 (.tail _ (.tail _ (.tail _ (.tail _ (.tail _ (.head _))))))) hid (by omega) (by omega) ?_
  intro h8 tk8 D8 v8 n8 F8 N8 ne8 hi8
  clear F7 N7
  repeat ((fail_if_success (with_reducible show wpAny _ _ (compareOp _ _ _) _ _ _)); (first | (k_unfold; (try dsimp only)) | walk1 | (dsimp only; walk1)))
  refine eq_same (News.isList N8 (.tail _ (.head _))) (News.isList N8 (.head _)) (ints_eq hi7 (strm_pair I.ksin other data 0 hob.mem hdb.mem)) hi8 hun ?_
  repeat (first | (k_unfold; (try dsimp only)) | walk1 | (dsimp only; walk1))
  (rename Fr _ _ _ _ => F9)
  exact done _ _ F9.keep
end
end
theorem rs59 : True ∧ True := by
  w_top off
  first | (walk1; fail) | exact ⟨trivial, trivial⟩
section

local macro_rules | `(tactic| walk_at "CompSrc") => `(tactic| k_extra "y57")
section
variable {w : World} {dp un : Nat} {fr : Option (List Env)} {gd : Option (List Code)} {s : Shared} {mg mb : Str → Option Value} {lo : List Str} {h₀ : Heap}

theorem law_rest {sl dl fl kl L fa : Addr} {m : Str → Option Value} {cdv : Value} {sv dv fv kv : List Value} {ns data first key : List Int} {md start : Int} {ks : Nat → Int} {S : Addr → List (Addr × Obj) → List (Addr × Obj) → Nat → Prop} {fe fd : Addr} {oS oF oK oM : Obj} {tm ts : Tok} {dn fn kn : Nat} {Q : Flow → Shared → Prop}
    (I : ModeI w md key first start ks S fe fd) (X : (K w.params).In h₀) (T' : TopRead q lo mg mb h₀) (hdp : dp < 350) (hun : ((Ar dp un fr gd).deeper (envOfC "law" lawScope L fa cdv)).units + 64 < cLine) (hsl : h₀.IsList sl sv.toArray) (his : IntsAre sv ns) (hn : ns.length ≤ 63)
    (hid : IntsAre dv data) (hdb : Bytes data) (hdz : data.length ≤ 100) (hif : IntsAre fv first) (hik : IntsAre kv key) (hkb : Bytes key) (hkl : key.length = 16 ∨ key.length = 24 ∨ key.length = 32)
    (cS : oS.data = .cell (some (.int start ts))) (cF : oF.data = .cell (some (.ref fl))) (cK : oK.data = .cell (some (.ref kl))) (cM : oM.data = .cell (some (.int md tm)))
    (F0 : Fr h₀ L s.heap m) (ms : m "script" = some (.ref sl)) (mda : m "data" = some (.ref dl))
    (N : News h₀ L s.heap [(dl, listOf dv.toArray dn), (fl, listOf fv.toArray fn), (kl, listOf kv.toArray kn), (L + 1 + 1 + 1 + 1, oS), (L + 1 + 1 + 1, oF), (L + 1 + 1, oK), (L + 1, oM)])
    (done : ∀ h' tk', Kp h₀ h' → Q (.ret (.bool true)) { s with heap := h', toks := tk' }) :
    wpAny (model pw w) ((Ar dp un fr gd).deeper (envOfC "law" lawScope L fa cdv)) (execs lawRest (envOfC "law" lawScope L fa cdv)) Q (fun _ _ => False) s := by
  revert hun
  refine with_scope (sc := lawScope) (P := fun sc => ((Ar dp un fr gd).deeper (envOfC "law" sc L fa cdv)).units + 64 < cLine → wpAny (model pw w) ((Ar dp un fr gd).deeper (envOfC "law" sc L fa cdv)) (execs lawRest (envOfC "law" sc L fa cdv)) Q (fun _ _ => False) s) rfl ?_
  intro hun
  refine with_list (P := fun l => wpAny (model pw w) _ (execs l _) Q (fun _ _ => False) s) rfl ?_
  have em : kstB m [(Str.ofString "script", Value.ref sl), ("data", .ref dl)] = m := funext fun z => kstB_eq (fcons ms (fcons mda fnil)) fun _ => rfl
  have F := F0
  rw [← em] at F
  dsimp only [kstB] at F
  clear F0 em
  have hkz := hik.length
  have hfz := hif.length
  have hdz' := hid.length
  have hin1 : KBa.In key := hkb.mem
  have hk32 : key.length ≤ 32 := by omega
  repeat (first | (k_unfold; (try dsimp only)) | walk1 | (dsimp only; walk1))
  (rename Fr _ _ _ _ => F1); (rename News _ _ _ _ => N1)
  refine mkAES F1 N1 X T' (by show dp + 1 < 600; omega) rfl (KBa.ints_make hin1) hkl ?_
  intro h2 tk2 xa rest F2 N2a k2 e2 ai
  have N2 := newsL N2a
  have hat := ai h2 fun p hp => (N2a p (List.mem_append.mpr (.inr hp))).1
  clear F1 N1 N2a
  repeat (first | (k_unfold; (try dsimp only)) | walk1 | (dsimp only; walk1))
  refine wpAny_call (I.rule (X.keeps F2.keep) (T'.keeps F2.keep) (by show dp + 1 < 390; omega) hat (News.isList N2 (.tail _ (.head _))) hif (News.isList N2 (.head _)) hid (by omega) ?_)
  intro h3 tk3 D ov oe kp3 e30 e31 hov
  have F3 := frKp F2 kp3
  have N3 := led_new F2 N2 kp3 e30 e31
  clear F2 N2
  obtain ⟨N3, ap3⟩ := N3
  simp only [List.forall_mem_cons, List.not_mem_nil, false_imp_iff, implies_true, and_true, List.forall_mem_nil] at ap3
  repeat ((fail_if_success (with_reducible show LCg.CompRest _ _ _ _ _ _ _ _ _ _ _ _ _ _ _ _ _ _ _)); (first | (k_unfold; (try dsimp only)) | walk1 | (dsimp only; walk1)))
  refine comp_J (J := fun i ys nw => ∃ xs tl, nw = (D, listOf ov.toArray oe) :: (dl, listOf dv.toArray dn) :: (fl, listOf fv.toArray fn) :: (kl, listOf kv.toArray kn) :: (L + 1 + 1 + 1 + 1, oS) :: (L + 1 + 1 + 1, oF) :: (L + 1 + 1, oK) :: (L + 1, oM) :: tl ∧ ys = xs.map Value.ref ∧ xs.length = i ∧ Mods S xs tl ∧ ∀ p ∈ [(D, listOf ov.toArray oe), (dl, listOf dv.toArray dn)], ∀ z ∈ tl, @Ne Nat p.1 z.1) ?h0 ?turn ?fin
  case h0 => exact ⟨[], [], rfl, rfl, rfl, rfl, fun _ _ _ h => nomatch h⟩
  case turn =>
    intro i v ys nw I' oI C oC D' m₂ h tk E' hi hP hJz hC hx1 F5 N5 off3 ne
    refine Classical.byContradiction fun hng => ?_
    obtain ⟨xs, tl, rfl, rfl, hl, M, offl⟩ := hJz
    refine hng ?_
    clear hng
    repeat (first | (k_unfold; (try dsimp only)) | walk1 | (dsimp only; walk1))
    (rename Fr _ _ _ _ => F6); (rename News _ _ _ _ => N6)
    refine mode_call I F6 N6 X T' (by show dp + 1 < 390; omega) (by k_mem) hik (by k_mem) hif ?_
    intro h' tk' x mu con F7 N7 fr7 ne7 St
    refine LCg.CompEnd.intro F7 N7 ((D, listOf ov.toArray oe) :: (dl, listOf dv.toArray dn) :: (fl, listOf fv.toArray fn) :: (kl, listOf kv.toArray kn) :: (L + 1 + 1 + 1 + 1, oS) :: (L + 1 + 1 + 1, oF) :: (L + 1 + 1, oK) :: (L + 1, oM) :: (tl ++ (con ++ mu))) (fun p hp => hp) (LCg.Off3.of fun p hp => ?_) True.intro ⟨xs ++ [x], tl ++ (con ++ mu), rfl, by rw [List.map_append]; rfl, by rw [List.length_append, hl]; rfl, Mods.snoc St ne7 xs tl M fun p hp z hz => fr7 p hp z (by simp only [List.mem_cons, hz, or_true]), fun p hp z hz => ?_⟩
    · rcases List.mem_append.mp (show p ∈ ((D, listOf ov.toArray oe) :: (dl, listOf dv.toArray dn) :: (fl, listOf fv.toArray fn) :: (kl, listOf kv.toArray kn) :: (L + 1 + 1 + 1 + 1, oS) :: (L + 1 + 1 + 1, oF) :: (L + 1 + 1, oK) :: (L + 1, oM) :: tl) ++ (con ++ mu) from hp) with hp | hp
      · exact off3.mem p hp
      · exact ⟨fr7 p hp _ (.head _), fr7 p hp _ (.tail _ (.head _)), fr7 p hp _ (.tail _ (.tail _ (.head _)))⟩
    · rcases List.mem_append.mp hz with hz | hz
      · exact offl p hp z hz
      · refine (fr7 z hz p ?_).symm
        simp only [List.mem_cons, List.not_mem_nil, or_false] at hp ⊢
        rcases hp with h | h <;> simp only [h, true_or, or_true]
  case fin =>
    intro ys nw hJz
    refine Classical.byContradiction fun hng => ?_
    obtain ⟨xs, tl, rfl, rfl, hl, M, offl⟩ := hJz
    refine hng ?_
    clear hng
    intro a h tk Fa Na oa
    simp only [LCg.Off1] at oa
    obtain ⟨x0, x1, x2, x3, x4, rfl⟩ : ∃ x0 x1 x2 x3 x4, xs = [x0, x1, x2, x3, x4] := by
      match xs, hl with
      | [x0, x1, x2, x3, x4], _ => exact ⟨x0, x1, x2, x3, x4, rfl⟩
    refine law_end (x0 := x0) (x1 := x1) (x2 := x2) (x3 := x3) (x4 := x4) (tl := tl) (a := a) (u := D) (dl := dl) (ue := oe) (dn := dn) I X T' hdp hun hsl his hn hid hdb hdz hov Fa rfl rfl rfl rfl (fun p hp => Na p ?_) M (fun p hp z hz => ?_) done
    · simp only [List.mem_cons] at hp ⊢
      rcases hp with h | h | h | h <;> simp only [h, true_or, or_true]
      exact .inl rfl
    · rcases List.mem_cons.mp hp with rfl | hp
      · exact (LCgOff1.mem oa.2.2.2.2.2.2.2.2 z hz).symm
      · exact offl p hp z hz
end
end
theorem rs60 : True ∧ True := by
  w_top off
  first | (walk1; fail) | exact ⟨trivial, trivial⟩
section

local macro_rules | `(tactic| walk_at "call ref") => `(tactic| k_extra "y55")
local macro_rules | `(tactic| walk_at "subscriptTail") => `(tactic| k_extra "y54")

local macro_rules | `(tactic| walk_at "binaryOp Mod int int") => `(tactic| k_extra "y56")
section
variable {w : World} {dp un : Nat} {fr : Option (List Env)} {gd : Option (List Code)} {s : Shared} {mg mb : Str → Option Value} {lo : List Str} {h₀ : Heap}

theorem drop4 {h₀ h : Heap} {L : Addr} {a b c d : Addr × Obj} {r : List (Addr × Obj)} (N : News h₀ L h (a :: b :: c :: d :: r)) : News h₀ L h (a :: b :: c :: r) := fun p hp => N p (by
  simp only [List.mem_cons] at hp ⊢
  rcases hp with h | h | h | h <;> simp [h])
theorem law_rest' {sl dl fl kl L fa : Addr} {m : Str → Option Value} {cdv : Value} {sv dv fv kv : List Value} {ns : List Int} {dk vk : Int} {n start : Int} {oS oF oK oM : Obj} {tm ts : Tok} {dn fn kn : Nat} {Q : Flow → Shared → Prop}
    (X : (K w.params).In h₀) (T' : TopRead q lo mg mb h₀) (hdp : dp < 350) (hun : ((Ar dp un fr gd).deeper (envOfC "law" lawScope L fa cdv)).units + 64 < cLine) (hsl : h₀.IsList sl sv.toArray) (his : IntsAre sv ns) (hn : ns.length ≤ 63)
    (hid : IntsAre dv (rowL ns (Int.toNat 6) dk.toNat)) (hdk : dk.toNat ≤ 100) (hif : IntsAre fv (rowL ns (Int.toNat 3) (Int.toNat 16))) (hik : IntsAre kv (rowL ns (Int.toNat 1) vk.toNat)) (hvk : vk = 16 ∨ vk = 24 ∨ vk = 32)
    (cS : oS.data = .cell (some (.int start ts))) (cF : oF.data = .cell (some (.ref fl))) (cK : oK.data = .cell (some (.ref kl))) (cM : oM.data = .cell (some (.int (3 + n.fmod 2) tm)))
    (F0 : Fr h₀ L s.heap m) (ms : m "script" = some (.ref sl)) (mda : m "data" = some (.ref dl))
    (N : News h₀ L s.heap [(dl, listOf dv.toArray dn), (fl, listOf fv.toArray fn), (kl, listOf kv.toArray kn), (L + 1 + 1 + 1 + 1, oS), (L + 1 + 1 + 1, oF), (L + 1 + 1, oK), (L + 1, oM)])
    (done : ∀ h' tk', Kp h₀ h' → Q (.ret (.bool true)) { s with heap := h', toks := tk' }) :
    wpAny (model pw w) ((Ar dp un fr gd).deeper (envOfC "law" lawScope L fa cdv)) (execs lawRest (envOfC "law" lawScope L fa cdv)) Q (fun _ _ => False) s := by
  have hkl : (rowL ns (Int.toNat 1) vk.toNat).length = 16 ∨ (rowL ns (Int.toNat 1) vk.toNat).length = 24 ∨ (rowL ns (Int.toNat 1) vk.toNat).length = 32 := by
    rw [rowL_len]
    rcases hvk with rfl | rfl | rfl
    · exact .inl rfl
    · exact .inr (.inl rfl)
    · exact .inr (.inr rfl)
  refine Classical.byContradiction fun hng => ?_
  obtain ⟨ks, S, fe, fd, I⟩ := modeX (w := w) (start := start) n (rowL_bytes ns (Int.toNat 1) vk.toNat) hkl (rowL_len ns (Int.toNat 3) (Int.toNat 16)) (rowL_bytes ns (Int.toNat 3) (Int.toNat 16))
  refine hng ?_
  clear hng
  exact law_rest I X T' hdp hun hsl his hn hid (rowL_bytes _ _ _) (by rw [rowL_len]; exact hdk) hif hik (rowL_bytes _ _ _) hkl cS cF cK cM F0 ms mda N done
theorem law_walk {sl L fa : Addr} {cdv : Value} {sv : List Value} {ns : List Int} {cells : List (Addr × Obj)} {Q : Flow → Shared → Prop}
    (X : (K w.params).In h₀) (T' : TopRead q lo mg mb h₀) (hdp : dp < 350) (hun : ((Ar dp un fr gd).deeper (envOfC "law" lawScope L fa cdv)).units + 64 < cLine) (hsl : h₀.IsList sl sv.toArray) (his : IntsAre sv ns) (hn : ns.length ≤ 63)
    (F : Fr h₀ L s.heap (bindL (envOfC "law" lawScope L fa cdv).kindOf [("script", .ref sl)] fun _ => none)) (N : News h₀ L s.heap cells) (Y : CellsAre (bindC (envOfC "law" lawScope L fa cdv).kindOf [("script", .ref sl)] fun _ => none) (cellsFrom (L + 1) lawScope.names []) cells)
    (done : ∀ h' tk', Kp h₀ h' → Q (.ret (.bool true)) { s with heap := h', toks := tk' }) :
    wpAny (model pw w) ((Ar dp un fr gd).deeper (envOfC "law" lawScope L fa cdv)) (execs lawBody (envOfC "law" lawScope L fa cdv)) Q (fun _ _ => False) s := by
  revert hun F N Y
  refine with_scope (sc := lawScope) (P := fun sc => ((Ar dp un fr gd).deeper (envOfC "law" sc L fa cdv)).units + 64 < cLine → Fr h₀ L s.heap (bindL (envOfC "law" sc L fa cdv).kindOf [("script", .ref sl)] fun _ => none) → News h₀ L s.heap cells → CellsAre (bindC (envOfC "law" sc L fa cdv).kindOf [("script", .ref sl)] fun _ => none) (cellsFrom (L + 1) sc.names []) cells → wpAny (model pw w) ((Ar dp un fr gd).deeper (envOfC "law" sc L fa cdv)) (execs lawBody (envOfC "law" sc L fa cdv)) Q (fun _ _ => False) s) rfl ?_
  intro hun F N Y
  refine with_list (P := fun l => wpAny (model pw w) _ (execs l _) Q (fun _ _ => False) s) rfl ?_
  k_cells Y
  repeat ((fail_if_success (with_reducible show wpAny _ _ (execs (List.cons (Stmt.Assign [PySem.Expr.Name (Str.ofString "due") _] _ _) _) _) _ _ _)); (first | (k_unfold; (try dsimp only)) | walk1 | (dsimp only; walk1)))
  · (rename Fr _ _ _ _ => F9); (rename News _ _ _ _ => N9)
    exact law_rest' X T' hdp hun hsl his hn (by assumption) (by omega) (by assumption) (by assumption) (by assumption) (by assumption) (by assumption) (by assumption) (by assumption) F9 rfl rfl (drop4 N9) done
  repeat ((fail_if_success (with_reducible show wpAny _ _ (execs (List.cons (Stmt.Assign [PySem.Expr.Name (Str.ofString "due") _] _ _) _) _) _ _ _)); (first | (k_unfold; (try dsimp only)) | walk1 | (dsimp only; walk1)))
  · (rename Fr _ _ _ _ => F9); (rename News _ _ _ _ => N9)
    exact law_rest' X T' hdp hun hsl his hn (by assumption) (by omega) (by assumption) (by assumption) (by assumption) (by assumption) (by assumption) (by assumption) (by assumption) F9 rfl rfl (drop4 N9) done
end
end
theorem rs61 : True ∧ True := by
  w_top off
  first | (walk1; fail) | exact ⟨trivial, trivial⟩
section
theorem good_end {c : ClaimW} {cl : Str → Option Addr} {mean : ExcName → Option Value} {args : List WData} {s₁ : Shared} {h : Heap} {g : Array GenState} {d : Drawn} {t : Nat} (kp : Kp s₁.heap h) (hr : ∀ cls, c.raises args cls = false) (hp : c.post args (.bool true) args = true) (hg : g = #[]) :
    GoodW c cl mean args s₁ (.ok (.ret (.bool true))) ⟨h, g, d, t, s₁.os⟩ :=
  ⟨.inl ⟨_, _, [], rfl, hr, ReadsW.bool true, hp, fun _ => ⟨List.nodup_nil, fun _ hm => (nomatch hm)⟩⟩, kp, rfl, hg⟩
theorem holds : PySem.Challenge.rw_yv0003_01.Holds := hd (by
  k_fill
  intro w s0 s1 mg mb G Yk fa o pm cd doc dV kV ho hdd hcd hD hmg hg0 args vals as hpre hlay hrd hwl hlo
  have X := kIn_of Yk
  refine Ground.open G ?_
  intro T0 B D TE TW
  try (refine guard_noD D (by decide +kernel) ?_; clear D)
  have TA := at_of_top T0
  try (obtain ⟨_, _, he, B0⟩ := based_of_top T0 rfl hmg ho hdd; have he' : cd = _ := he; subst he'; clear he)
  clear hmg
  wrow_args hpre hlay hrd hwl hlo
  first | refine callC_kw (enter_call ?_) | refine enter_call ?_ | refine callC_kw (enter_callW ?_) | refine enter_callW ?_ | w_how
  w_top on
  refine codeAny_mono ?_ (fun _ _ g => GoodW.toG g)
  w_call any ho hdd hcd hD T0 F
  clear hdd TA
  k_drop
  (rename IntsAre _ _ => hI)
  have T := topRead_of T0
  (rename Fr _ _ _ _ => F0)
  (rename News _ _ _ _ => N0)
  (rename CellsAre _ _ _ => Y0)
  (rename Heap.IsList _ _ _ => hL)
  (rename Heap => h1); (rename Nat => tk1)
  refine wpAny_mono (law_walk (s := ⟨h1, s1.gens, s1.drawn, tk1, s1.os⟩) (Q := fun f s' => f = .ret (.bool true) ∧ Kp s1.heap s'.heap ∧ s'.gens = #[] ∧ s'.os = s1.os) X T (by decide) (Nat.le_of_ble_eq_true rfl) hL hI (by omega) F0 N0 Y0 (fun h' tk' kp => ⟨rfl, kp, hg0, rfl⟩)) ?fin ?exc
  case fin =>
    rintro _ ⟨h', g', d', tk', os'⟩ ⟨rfl, kp, hg', rfl⟩
    refine good_end kp (fun _ => rfl) ?_ hg'
    first | rfl | wrow_post
  case exc => exact fun _ _ z => z.elim)
end
theorem rs62 : True ∧ True := by
  w_top off
  first | (walk1; fail) | exact ⟨trivial, trivial⟩
end
theorem rs63 : True ∧ True := by
  w_top off
  first | (walk1; fail) | exact ⟨trivial, trivial⟩
end
theorem rs64 : True ∧ True := by
  w_top off
  first | (walk1; fail) | exact ⟨trivial, trivial⟩
end
theorem rs65 : True ∧ True := by
  w_top off
  first | (walk1; fail) | exact ⟨trivial, trivial⟩
end
theorem rs66 : True ∧ True := by
  w_top off
  first | (walk1; fail) | exact ⟨trivial, trivial⟩
end Yv
theorem PySem.Challenge.cw_yv0003_01_holds : PySem.Challenge.rw_yv0003_01.Holds :=
  Yv.holds

