import PyProof.Rows.All
import Wide.All
import OpenK.AllK
import Wide.FinOn
import PySem.Challenge.RW_yv0002_01

open PySem PySem.W PySem.Calls PyProof.Rows
set_option Elab.async false
set_option maxRecDepth 100000
set_option maxHeartbeats 0
namespace Mine.hd
noncomputable abbrev O := Params → Obj
/-- a list's item -/
noncomputable def nth : List Stmt → Nat → Stmt
  | [], _ => .Pass ⟨0, 0, 0, 0⟩
  | a :: _, 0 => a
  | _ :: l, n + 1 => nth l n
/-- a def's or a class's body -/
noncomputable def sB : Stmt → List Stmt
  | .FunctionDef _ _ b .. => b
  | .ClassDef _ _ _ b .. => b
  | _ => []
noncomputable def noA : Arguments := ⟨[], [], none, [], [], none, []⟩
noncomputable def noS : Scope := ⟨.module, [], false, false, []⟩
noncomputable def noE : PySem.Expr := .Constant .none 0 ⟨0, 0, 0, 0⟩
noncomputable def d : Stmt → Arguments × List Stmt × Scope
  | .FunctionDef _ a b _ _ _ s .. => (a, b, s)
  | _ => (noA, [], noS)
noncomputable def m : Stmt → Arguments × PySem.Expr × Scope
  | .Assign _ (.Call _ (.Lambda a b s _ :: _) _ _) _ => (a, b, s)
  | _ => (noA, noE, noS)
noncomputable def tbl : Nat → List Int → List Value
  | _, [] => []
  | t, i :: l => .int i t :: tbl (t + 1) l
noncomputable def intsE : List PySem.Expr → List Int
  | .Constant (.int i) _ _ :: l => i :: intsE l
  | _ => []
noncomputable def cis : Stmt → List Int
  | .Assign _ (.List es _) _ => intsE es
  | .Assign _ (.BinOp (.List a _) _ (.List b _) _) _ => intsE a ++ intsE b
  | _ => []
noncomputable def ciL : Stmt → List Int
  | .Assign _ (.BinOp (.List a _) _ _ _) _ => intsE a
  | _ => []
noncomputable def ciR : Stmt → List Int
  | .Assign _ (.BinOp _ _ (.List b _) _) _ => intsE b
  | _ => []
noncomputable def pick (b : List Stmt) : List Nat → List Stmt
  | [] => []
  | i :: l => nth b i :: pick b l
noncomputable def k (P : Params) (s : PySem.Str) (t : Nat) (v : Value) : DictEntry := ⟨PyData.keyHash P s, .str s t, v⟩
noncomputable abbrev nd : Obj → BT → BT → BT := .node
noncomputable abbrev nl : BT := .nil
noncomputable def bE : List Stmt := behindTheImports PySem.Challenge.pw_yv0002_01
theorem tTT : @treeTable = @PySem.W.Fast.tw14364793385576792824 := PySem.W.Fast.te14364793385576792824
theorem tDN : @denote = @PySem.W.Fast.tw11892475500146522536 := PySem.W.Fast.te11892475500146522536
theorem tST : @segRunT = @PySem.W.Fast.tw10110043849684766642 := PySem.W.Fast.te10110043849684766642
theorem tSR : @segRun = @PySem.W.Fast.tw14374325043358763698 := PySem.W.Fast.te14374325043358763698
theorem tTG : @topGo = @PySem.W.Fast.tw15667345088766844465 := PySem.W.Fast.te15667345088766844465
theorem tTR : @topRun = @PySem.W.Fast.tw14082659384304107361 := PySem.W.Fast.te14082659384304107361
theorem tSG : @segGoT = @PySem.W.Fast.tw10295753902157049106 := PySem.W.Fast.te10295753902157049106
noncomputable def cS : Stmt → Scope
  | .ClassDef _ _ _ _ _ _ s _ _ _ _ => s
  | _ => noS
noncomputable def topOf : Option (SharedT × Thread) → Frame
  | some (_, ⟨_, _, _, f :: _⟩) => f
  | _ => topFrame ⟨0, 0, 0, 0⟩
section
variable {tb : String → Option Builtin} {p : Program} {w : World} {n₀ : Nat} {ann : Option Value}
/-- a longer run -/
theorem sr_more {b : Nat} (k : Nat) : ∀ (n : Nat) (s : Shared) (t : Thread) (r : Flow × Shared × Code × Pos), segRun tb p w n₀ ann b n s t = some r → segRun tb p w n₀ ann b (n + k) s t = some r
  | 0, _, _, _, h => by simp [segRun] at h
  | n + 1, s, t, r, h => by
    rw [Nat.add_right_comm]
    unfold segRun at h ⊢
    cases he : endAt b t with
    | some f => rw [he] at h; exact h
    | none =>
      rw [he] at h
      cases hk : stepOk n₀ ann t with
      | false => rw [hk] at h; cases h
      | true =>
        rw [hk] at h
        cases hs : step (denote tb) p w s t with
        | halt o s₂ => rw [hs] at h; cases h
        | go s₂ t₂ => rw [hs] at h; exact sr_more k n s₂ t₂ r h
/-- the end over the frames themselves -/
theorem end_at {B : List Frame} {cur : Sem Fin} {c : Code} {q : Pos} : endAt B.length ⟨cur, c, q, B⟩ = match cur with | .pure (.done f) => some f | _ => none := by
  unfold endAt
  dsimp only
  rw [beq_self_eq_true]
  cases cur with
  | pure f => cases f <;> rfl
  | _ => rfl
variable {α : Type} {B : List Frame} {K' : α → Sem Fin} {H' : Value → Sem Fin} {gd : Bool → Bool} {lv : List Value → List Value} {res : α → Flow}
theorem end_pure {x : Sem α} {g : Flow} {c : Code} {q : Pos} (he : endAt B.length ⟨x.wrap (fun a => .pure (.done (res a))) deadEnd gd lv, c, q, B⟩ = some g) : ∃ a, x = .pure a ∧ res a = g := by
  rw [end_at] at he
  cases x with
  | pure a => exact ⟨a, rfl, Option.some.inj he⟩
  | _ => cases he
/-- a run over the frames B, put behind by what stands below -/
theorem sr_in {b : Nat} (hB : splitAtGen B = none) (hb : b < B.length) : ∀ (n : Nat) (s : Shared) (t t' : Thread) (f : Flow) (s' : Shared) (c' : Code) (p' : Pos), Rel2 (fun a => .pure (.done (res a))) K' deadEnd H' gd lv B t t' →
    segRun tb p w n₀ ann B.length n s t = some (f, s', c', p') →
    ∃ a, res a = f ∧ ∀ N r, segRun tb p w n₀ ann b N s' ⟨K' a, c', p', B⟩ = some r → segRun tb p w n₀ ann b (n + N) s t' = some r
  | 0, _, _, _, _, _, _, _, _, h => by simp [segRun] at h
  | n + 1, s, ⟨cur, code, pos, st⟩, ⟨cur', code', pos', st'⟩, f, s', c', p', R, h => by
    obtain ⟨e1, e2, R⟩ := R
    dsimp only at e1 e2 R
    subst e1 e2
    unfold segRun at h
    cases he : endAt B.length ⟨cur, code, pos, st⟩ with
    | some g =>
      rw [he] at h
      obtain ⟨rfl, rfl, rfl, rfl⟩ : g = f ∧ s = s' ∧ code = c' ∧ pos = p' := by simpa using h
      rcases R with ⟨rfl, rfl, x, rfl, rfl⟩ | ⟨rfl, F⟩
      · obtain ⟨a, rfl, ha⟩ := end_pure he
        exact ⟨a, ha, fun N r q => by rw [Nat.add_comm]; exact sr_more _ _ _ _ _ q⟩
      · have l := F.longer.1
        have : (st.length == B.length) = false := beq_eq_false_iff_ne.mpr (Nat.ne_of_gt l)
        simp [endAt, this] at he
    | none =>
      rw [he] at h
      cases hk : stepOk n₀ ann ⟨cur, code, pos, st⟩ with
      | false => rw [hk] at h; cases h
      | true =>
        rw [hk] at h
        cases hs : step (denote tb) p w s ⟨cur, code, pos, st⟩ with
        | halt o s₂ => rw [hs] at h; cases h
        | go s₂ t₂ =>
          rw [hs] at h
          have low : b < st'.length := by
            rcases R with ⟨_, rfl, _⟩ | ⟨_, F⟩
            · exact hb
            · exact Nat.lt_trans hb F.longer.2
          have out : endAt b ⟨cur', code, pos, st'⟩ = none := by
            have : (st'.length == b) = false := beq_eq_false_iff_ne.mpr (Nat.ne_of_gt low)
            simp [endAt, this]
          have key : stepOk n₀ ann ⟨cur', code, pos, st'⟩ = true ∧ ∃ t₂', step (denote tb) p w s ⟨cur', code, pos, st'⟩ = .go s₂ t₂' ∧ Rel2 (fun a => .pure (.done (res a))) K' deadEnd H' gd lv B t₂ t₂' := by
            rcases R with ⟨rfl, rfl, x, rfl, rfl⟩ | ⟨rfl, F⟩
            · have hp : ∀ a, x ≠ .pure a := by
                rintro a rfl
                rw [end_at] at he
                cases he
              have hr : ∀ e, x ≠ .raise e := by
                rintro e rfl
                obtain ⟨heap, gens, drawn, toks, os⟩ := s
                exact absurd (show Step.halt _ _ = Step.go s₂ t₂ from hs) Step.noConfusion
              exact ⟨(okOuter (K' := K') (H' := H') hp hr hk).1, step_outer hB hp hs⟩
            · exact ⟨(okInner hB F hk).1, step_inner hB F hs⟩
          obtain ⟨k1, t₂', k3, R'⟩ := key
          obtain ⟨a, ha, hN⟩ := sr_in hB hb n s₂ t₂ t₂' f s' c' p' R' h
          refine ⟨a, ha, fun N r q => ?_⟩
          rw [Nat.add_right_comm]
          unfold segRun
          rw [out, k1, k3]
          exact hN N r q
end
section
variable {tb : String → Option Builtin} {p : Program} {w : World} {n₀ : Nat} {ann : Option Value} {env : Env} {B : List Frame}
/-- statements of a nested body -/
theorem in_app (hB : splitAtGen B = none) (hb : 1 < B.length) {n N : Nat} {s s' : Shared} {r : Flow × Shared × Code × Pos} {l rest : List Stmt} {c : Code} {pos p' : Pos} (h : segRun tb p w n₀ ann B.length n s (piecesOf l env c pos B) = some (.next, s', c, p'))
    (k : segRun tb p w n₀ ann 1 N s' (restOf rest env c p' B) = some r) : segRun tb p w n₀ ann 1 (n + N) s (restOf (l ++ rest) env c pos B) = some r := by
  obtain ⟨a, ha, hN⟩ := sr_in (b := 1) (res := id) (K' := fun f => match f with | .next => (execs rest env).wrap doneF (leaveH env) id id | f => doneF f) (H' := leaveH env) hB hb n s (piecesOf l env c pos B)
    ⟨(execs l env).wrap (fun f => match f with | .next => (execs rest env).wrap doneF (leaveH env) id id | f => doneF f) (leaveH env) id id, c, pos, B⟩ _ _ _ _ ⟨rfl, rfl, .inl ⟨rfl, rfl, _, rfl, rfl⟩⟩ h
  obtain rfl : a = .next := ha
  have := hN N r k
  unfold restOf
  rw [execs_app_wrap]
  exact this
/-- a nested body's start -/
theorem in_block (hB : splitAtGen B = none) (hb : 1 < B.length) {n N : Nat} {s s' : Shared} {r : Flow × Shared × Code × Pos} {b : List Stmt} {c : Code} {pos p' : Pos} (h : segRun tb p w n₀ ann B.length n s (blockOf b env c pos B) = some (.next, s', c, p'))
    (k : segRun tb p w n₀ ann 1 N s' (restOf b env c p' B) = some r) : segRun tb p w n₀ ann 1 (n + N) s ⟨denote tb (.body b env), c, pos, B⟩ = some r := by
  obtain ⟨a, ha, hN⟩ := sr_in (b := 1) (res := fun _ : Unit => Flow.next) (K' := fun _ => (execs b env).wrap doneF (leaveH env) id id) (H' := Sem.raise) hB hb n s (blockOf b env c pos B)
    ⟨(blockStart b env).wrap (fun _ => (execs b env).wrap doneF (leaveH env) id id) .raise id id, c, pos, B⟩ _ _ _ _ ⟨rfl, rfl, .inl ⟨rfl, rfl, _, rfl, rfl⟩⟩ h
  rw [body_wrap]
  exact hN N r k
end
noncomputable def o0 : O := fun P => ⟨(.type "tuple"), none, (.seq #[] 0), #[]⟩
noncomputable def o1 : O := fun P => ⟨.none, none, (.fields #[]), #[]⟩
noncomputable def o2 : O := fun P => ⟨(.type "code"), none, (.fields #[(.str (.ofString "<module>") 182), (.str (.ofString "<module>") 183), (.str (.ofString "/claim/cut.py") 184), (.int 1 0), (.int 0 0), (.int 0 0), (.int 0 0), (.int 0 0), (.ref 11), (.bool false), (.int 181 0), (.ref 12), .none, .none, .none, .none, (.int 185 0), (.int 1 0), (.str (.ofString "/claim/cut.py") 186)]), #[]⟩
noncomputable def o3 : O := fun P => ⟨(.type "frame"), none, .plain, #[(some (.ref 13)), (some (.ref 3)), (some (.ref 3)), none, (some (.str (.ofString "__main__") 164)), none, (some (.ref 0))]⟩
noncomputable def q0 : Pos := ⟨0, 0, 0, 0⟩
noncomputable def ann : Option Value := (some (.ref 6))
noncomputable def env : Env := { scope := PySem.Challenge.pw_yv0002_01.main.scope, locals := mainNs, globals := mainNs, cells := [], code := (.ref 13), frame := some 14 }
noncomputable def cE : Code := .body bE env
noncomputable def t0 : Params → BT := fun P => (nd (boot_o_0 P) (nd (boot_o_1 P) (nd (boot_o_3 P) (nd (boot_o_7 P) nl nl) (nd (o0 P) nl nl)) (nd (boot_o_5 P) (nd (boot_o_9 P) nl nl) (nd (o2 P) nl nl))) (nd (boot_o_2 P) (nd (boot_o_4 P) (nd (boot_o_8 P) nl nl) (nd (o1 P) nl nl)) (nd (boot_o_6 P) (nd (boot_o_10 P) nl nl) (nd (o3 P) nl nl))))
noncomputable def S0 (w : World) (os : OsState) : SharedT := ⟨t0 w.params, 15, { }, .mk [], { }, 187, os⟩
theorem pre (w : World) (os : OsState) : topGo treeTable PySem.Challenge.pw_yv0002_01 w 11 ann 12 ⟨boot_heap w.params, .mk [], boot_drawn, boot_toks, os⟩ (topStub PySem.Challenge.pw_yv0002_01) = some ((S0 w os).abs, ⟨denote treeTable (.body bE env), cE, ⟨0, 0, 0, 0⟩, [topFrame q0]⟩) := by
  rewrite [tTG, tDN, tTT]; kernel_rfl
theorem block (w : World) (os : OsState) : segRun treeTable PySem.Challenge.pw_yv0002_01 w 11 ann 1 1 (S0 w os).abs (blockOf bE env cE ⟨0, 0, 0, 0⟩ [topFrame q0]) = some (.next, (S0 w os).abs, cE, ⟨0, 0, 0, 0⟩) := by
  rewrite [tSR, tTT]; kernel_rfl
noncomputable def o4 : O := fun P => ⟨(.type "dict"), none, (.dict #[k P (.ofString "__name__") 165 (.str (.ofString "pyaes.aes") 194), k P (.ofString "__doc__") 166 .none, k P (.ofString "__package__") 167 .none, k P (.ofString "__loader__") 168 (.builtin "__main__.__loader__#opaque"), k P (.ofString "__spec__") 169 .none, k P (.ofString "__annotations__") 170 (.ref 6), k P (.ofString "__builtins__") 171 (.ref 4), k P (.ofString "__file__") 173 (.str (.ofString "/claim/cut.py") 172), k P (.ofString "__cached__") 174 .none, k P (.ofString "_wall") 193 (.ref 21), k P (.ofString "PADDING_DEFAULT") 197 (.str (.ofString "default") 196), k P (.ofString "_compact_word") 204 (.ref 28), k P (.ofString "_string_to_bytes") 210 (.ref 33), k P (.ofString "_bytes_to_string") 217 (.ref 40), k P (.ofString "_concat_list") 225 (.ref 47)] 15), #[]⟩
noncomputable def o5 : O := fun P => ⟨.none, none, (.fields #[(.int 1 0), (.int 0 0), (.ref 20), (.int 6 0), (.int 0 0), (.ref 27), (.int 8 0), (.int 0 0), (.ref 32), (.int 12 0), (.int 0 0), (.ref 39), (.int 14 0), (.int 0 0), (.ref 46)]), #[]⟩
noncomputable def o6 : O := fun P => ⟨(.type "tuple"), none, (.seq #[(.str (.ofString "k") 190)] 0), #[]⟩
noncomputable def f7 : FuncData := by
  refine (?g : (a : Arguments) → (b : List Stmt) → (s : Scope) → (a, b, s) = d (nth bE 0) → FuncData) ⟨_, _, _, _, _, _, _⟩ (_ :: _) ⟨_, _, _, _, _⟩ rfl
  exact fun a b s _ => ⟨(.ofString "_wall"), (.ofString "_wall"), a, .stmts b, s, 0, [], .none, .none, .none, .none, none, .none, .none, 0⟩
noncomputable def o8 : O := fun P => ⟨.none, none, (.func f7), #[]⟩
noncomputable def o9 : O := fun P => ⟨(.type "code"), none, (.fields #[(.str (.ofString "_wall") 187), (.str (.ofString "_wall") 188), (.str (.ofString "/claim/cut.py") 189), (.int 1 0), (.int 1 0), (.int 0 0), (.int 0 0), (.int 3 0), (.ref 15), (.bool true), (.int 181 0), (.ref 16), .none, (.ref 17), (.ref 18), (.ref 19), (.int 191 0), (.int 1 0), (.str (.ofString "/claim/cut.py") 192)]), #[]⟩
noncomputable def f10 : FuncData := by
  refine (?g : (a : Arguments) → (b : List Stmt) → (s : Scope) → (a, b, s) = d (nth bE 0) → FuncData) ⟨_, _, _, _, _, _, _⟩ (_ :: _) ⟨_, _, _, _, _⟩ rfl
  exact fun a b s _ => ⟨(.ofString "_wall"), (.ofString "_wall"), a, .stmts b, s, 3, [], .none, .none, .none, (.str (.ofString "__main__") 164), none, (.ref 20), .none, 0⟩
noncomputable def o11 : O := fun P => ⟨(.type "function"), none, (.func f10), #[]⟩
noncomputable def o12 : O := fun P => ⟨(.type "tuple"), none, (.seq #[(.str (.ofString "word") 201)] 0), #[]⟩
noncomputable def f13 : FuncData := by
  refine (?g : (a : Arguments) → (b : List Stmt) → (s : Scope) → (a, b, s) = d (nth bE 3) → FuncData) ⟨_, _, _, _, _, _, _⟩ (_ :: _) ⟨_, _, _, _, _⟩ rfl
  exact fun a b s _ => ⟨(.ofString "_compact_word"), (.ofString "_compact_word"), a, .stmts b, s, 0, [], .none, .none, .none, .none, none, .none, .none, 0⟩
noncomputable def o14 : O := fun P => ⟨.none, none, (.func f13), #[]⟩
noncomputable def o15 : O := fun P => ⟨(.type "code"), none, (.fields #[(.str (.ofString "_compact_word") 198), (.str (.ofString "_compact_word") 199), (.str (.ofString "/claim/cut.py") 200), (.int 6 0), (.int 1 0), (.int 0 0), (.int 0 0), (.int 3 0), (.ref 22), (.bool true), (.int 181 0), (.ref 23), .none, (.ref 24), (.ref 25), (.ref 26), (.int 202 0), (.int 6 0), (.str (.ofString "/claim/cut.py") 203)]), #[]⟩
noncomputable def f16 : FuncData := by
  refine (?g : (a : Arguments) → (b : List Stmt) → (s : Scope) → (a, b, s) = d (nth bE 3) → FuncData) ⟨_, _, _, _, _, _, _⟩ (_ :: _) ⟨_, _, _, _, _⟩ rfl
  exact fun a b s _ => ⟨(.ofString "_compact_word"), (.ofString "_compact_word"), a, .stmts b, s, 3, [], .none, .none, .none, (.str (.ofString "pyaes.aes") 194), none, (.ref 27), .none, 0⟩
noncomputable def o17 : O := fun P => ⟨(.type "function"), none, (.func f16), #[]⟩
noncomputable def f18 : FuncData := by
  refine (?g : (a : Arguments) → (b : List Stmt) → (s : Scope) → (a, b, s) = d (nth bE 4) → FuncData) ⟨_, _, _, _, _, _, _⟩ (_ :: _) ⟨_, _, _, _, _⟩ rfl
  exact fun a b s _ => ⟨(.ofString "_string_to_bytes"), (.ofString "_string_to_bytes"), a, .stmts b, s, 0, [], .none, .none, .none, .none, none, .none, .none, 0⟩
noncomputable def o19 : O := fun P => ⟨.none, none, (.func f18), #[]⟩
noncomputable def o20 : O := fun P => ⟨(.type "code"), none, (.fields #[(.str (.ofString "_string_to_bytes") 205), (.str (.ofString "_string_to_bytes") 206), (.str (.ofString "/claim/cut.py") 207), (.int 8 0), (.int 1 0), (.int 0 0), (.int 0 0), (.int 3 0), (.ref 29), (.bool true), (.int 181 0), (.ref 30), .none, .none, .none, (.ref 31), (.int 208 0), (.int 8 0), (.str (.ofString "/claim/cut.py") 209)]), #[]⟩
noncomputable def f21 : FuncData := by
  refine (?g : (a : Arguments) → (b : List Stmt) → (s : Scope) → (a, b, s) = d (nth bE 4) → FuncData) ⟨_, _, _, _, _, _, _⟩ (_ :: _) ⟨_, _, _, _, _⟩ rfl
  exact fun a b s _ => ⟨(.ofString "_string_to_bytes"), (.ofString "_string_to_bytes"), a, .stmts b, s, 3, [], .none, .none, .none, (.str (.ofString "pyaes.aes") 194), none, (.ref 32), .none, 0⟩
noncomputable def o22 : O := fun P => ⟨(.type "function"), none, (.func f21), #[]⟩
noncomputable def o23 : O := fun P => ⟨(.type "tuple"), none, (.seq #[(.str (.ofString "binary") 214)] 0), #[]⟩
noncomputable def f24 : FuncData := by
  refine (?g : (a : Arguments) → (b : List Stmt) → (s : Scope) → (a, b, s) = d (nth bE 5) → FuncData) ⟨_, _, _, _, _, _, _⟩ (_ :: _) ⟨_, _, _, _, _⟩ rfl
  exact fun a b s _ => ⟨(.ofString "_bytes_to_string"), (.ofString "_bytes_to_string"), a, .stmts b, s, 0, [], .none, .none, .none, .none, none, .none, .none, 0⟩
noncomputable def o25 : O := fun P => ⟨.none, none, (.func f24), #[]⟩
noncomputable def o26 : O := fun P => ⟨(.type "code"), none, (.fields #[(.str (.ofString "_bytes_to_string") 211), (.str (.ofString "_bytes_to_string") 212), (.str (.ofString "/claim/cut.py") 213), (.int 12 0), (.int 1 0), (.int 0 0), (.int 0 0), (.int 3 0), (.ref 34), (.bool true), (.int 181 0), (.ref 35), .none, (.ref 36), (.ref 37), (.ref 38), (.int 215 0), (.int 12 0), (.str (.ofString "/claim/cut.py") 216)]), #[]⟩
noncomputable def f27 : FuncData := by
  refine (?g : (a : Arguments) → (b : List Stmt) → (s : Scope) → (a, b, s) = d (nth bE 5) → FuncData) ⟨_, _, _, _, _, _, _⟩ (_ :: _) ⟨_, _, _, _, _⟩ rfl
  exact fun a b s _ => ⟨(.ofString "_bytes_to_string"), (.ofString "_bytes_to_string"), a, .stmts b, s, 3, [], .none, .none, .none, (.str (.ofString "pyaes.aes") 194), none, (.ref 39), .none, 0⟩
noncomputable def o28 : O := fun P => ⟨(.type "function"), none, (.func f27), #[]⟩
noncomputable def o29 : O := fun P => ⟨(.type "tuple"), none, (.seq #[(.str (.ofString "a") 221), (.str (.ofString "b") 222)] 0), #[]⟩
noncomputable def f30 : FuncData := by
  refine (?g : (a : Arguments) → (b : List Stmt) → (s : Scope) → (a, b, s) = d (nth bE 6) → FuncData) ⟨_, _, _, _, _, _, _⟩ (_ :: _) ⟨_, _, _, _, _⟩ rfl
  exact fun a b s _ => ⟨(.ofString "_concat_list"), (.ofString "_concat_list"), a, .stmts b, s, 0, [], .none, .none, .none, .none, none, .none, .none, 0⟩
noncomputable def o31 : O := fun P => ⟨.none, none, (.func f30), #[]⟩
noncomputable def o32 : O := fun P => ⟨(.type "code"), none, (.fields #[(.str (.ofString "_concat_list") 218), (.str (.ofString "_concat_list") 219), (.str (.ofString "/claim/cut.py") 220), (.int 14 0), (.int 2 0), (.int 0 0), (.int 0 0), (.int 3 0), (.ref 41), (.bool true), (.int 181 0), (.ref 42), .none, (.ref 43), (.ref 44), (.ref 45), (.int 223 0), (.int 14 0), (.str (.ofString "/claim/cut.py") 224)]), #[]⟩
noncomputable def f33 : FuncData := by
  refine (?g : (a : Arguments) → (b : List Stmt) → (s : Scope) → (a, b, s) = d (nth bE 6) → FuncData) ⟨_, _, _, _, _, _, _⟩ (_ :: _) ⟨_, _, _, _, _⟩ rfl
  exact fun a b s _ => ⟨(.ofString "_concat_list"), (.ofString "_concat_list"), a, .stmts b, s, 3, [], .none, .none, .none, (.str (.ofString "pyaes.aes") 194), none, (.ref 46), .none, 0⟩
noncomputable def o34 : O := fun P => ⟨(.type "function"), none, (.func f33), #[]⟩
noncomputable def s0 : List Stmt := (bE.drop 0).take 7
noncomputable def t1 : Params → BT := fun P => (nd (boot_o_0 P) (nd (boot_o_1 P) (nd (o4 P) (nd (boot_o_7 P) (nd (o0 P) (nd (o19 P) nl nl) (nd (o34 P) nl nl)) (nd (o1 P) (nd (o26 P) nl nl) nl)) (nd (o0 P) (nd (o8 P) (nd (o1 P) nl nl) nl) (nd (o15 P) (nd (o29 P) nl nl) nl))) (nd (boot_o_5 P) (nd (boot_o_9 P) (nd (o6 P) (nd (o22 P) nl nl) nl) (nd (o0 P) (nd (o0 P) nl nl) nl)) (nd (o2 P) (nd (o11 P) (nd (o0 P) nl nl) nl) (nd (o0 P) (nd (o31 P) nl nl) nl)))) (nd (boot_o_2 P) (nd (boot_o_4 P) (nd (boot_o_8 P) (nd (o1 P) (nd (o20 P) nl nl) nl) (nd (o12 P) (nd (o28 P) nl nl) nl)) (nd (o5 P) (nd (o9 P) (nd (o23 P) nl nl) nl) (nd (o17 P) (nd (o0 P) nl nl) nl))) (nd (boot_o_6 P) (nd (boot_o_10 P) (nd (o0 P) (nd (o0 P) nl nl) nl) (nd (o14 P) (nd (o1 P) nl nl) nl)) (nd (o3 P) (nd (o0 P) (nd (o25 P) nl nl) nl) (nd (o1 P) (nd (o32 P) nl nl) nl)))))
noncomputable def S1 (w : World) (os : OsState) : SharedT := ⟨t1 w.params, 48, { }, .mk [], { }, 226, os⟩
theorem g0 (w : World) (os : OsState) : segRunT treeTable PySem.Challenge.pw_yv0002_01 w 11 ann 1 162 (S0 w os) (piecesOf s0 env cE ⟨0, 0, 0, 0⟩ [topFrame q0]) = some (.next, S1 w os, cE, ⟨14, 0, 15, 23⟩) := by
  rewrite [tST, tTT]; kernel_rfl
noncomputable def s1 : List Stmt := (bE.drop 7).take 1
noncomputable def b1 : List Stmt := sB (nth bE 7)
noncomputable def e1 : Env := { scope := cS (nth bE 7), locals := 50, globals := 3, cells := [], qual := (.ofString "AES."), func := none, code := (.ref 53), frame := (some 54), builtins := 0 }
noncomputable def c1 : Code := .body b1 e1
noncomputable def fr1 (w : World) (os : OsState) : Frame := topOf (PySem.W.Fast.tw10295753902157049106 PySem.W.Fast.tw14364793385576792824 PySem.Challenge.pw_yv0002_01 w 11 ann 1 62 (S1 w os) (piecesOf s1 env cE ⟨14, 0, 15, 23⟩ [topFrame q0]))
noncomputable def o35 : O := fun P => ⟨.none, none, (.fields #[(.int 1 0), (.int 0 0), (.ref 20), (.int 6 0), (.int 0 0), (.ref 27), (.int 8 0), (.int 0 0), (.ref 32), (.int 12 0), (.int 0 0), (.ref 39), (.int 14 0), (.int 0 0), (.ref 46), (.int 16 0), (.int 0 0), (.ref 53)]), #[]⟩
noncomputable def o36 : O := fun P => ⟨(.type "tuple"), none, (.seq #[(.type "object")] 0), #[]⟩
noncomputable def o37 : O := fun P => ⟨(.type "builtin_function_or_method"), none, (.fields #[(.builtin "type.__prepare__"), (.type "type")]), #[]⟩
noncomputable def o38 : O := fun P => ⟨(.type "dict"), none, (.dict #[k P (.ofString "__module__") 233 (.str (.ofString "pyaes.aes") 194), k P (.ofString "__qualname__") 235 (.str (.ofString "AES") 234), k P (.ofString "__firstlineno__") 237 (.int 16 236)] 3), #[]⟩
noncomputable def o39 : O := fun P => ⟨(.type "code"), none, (.fields #[(.str (.ofString "AES") 228), (.str (.ofString "AES") 229), (.str (.ofString "/claim/cut.py") 230), (.int 16 0), (.int 0 0), (.int 0 0), (.int 0 0), (.int 0 0), (.ref 51), (.bool false), (.int 181 0), (.ref 52), .none, .none, .none, .none, (.int 231 0), (.int 16 0), (.str (.ofString "/claim/cut.py") 232)]), #[]⟩
noncomputable def o40 : O := fun P => ⟨(.type "frame"), none, .plain, #[(some (.ref 53)), (some (.ref 3)), (some (.ref 50)), none, (some (.str (.ofString "pyaes.aes") 194)), none, (some (.ref 0))]⟩
noncomputable def t1_0 : Params → BT := fun P => (nd (boot_o_0 P) (nd (boot_o_1 P) (nd (o4 P) (nd (boot_o_7 P) (nd (o0 P) (nd (o19 P) nl nl) (nd (o34 P) nl nl)) (nd (o1 P) (nd (o26 P) nl nl) nl)) (nd (o0 P) (nd (o8 P) (nd (o1 P) nl nl) (nd (o0 P) nl nl)) (nd (o15 P) (nd (o29 P) nl nl) nl))) (nd (boot_o_5 P) (nd (boot_o_9 P) (nd (o6 P) (nd (o22 P) nl nl) (nd (o37 P) nl nl)) (nd (o0 P) (nd (o0 P) nl nl) nl)) (nd (o2 P) (nd (o11 P) (nd (o0 P) nl nl) (nd (o39 P) nl nl)) (nd (o0 P) (nd (o31 P) nl nl) nl)))) (nd (boot_o_2 P) (nd (boot_o_4 P) (nd (boot_o_8 P) (nd (o1 P) (nd (o20 P) nl nl) (nd (o36 P) nl nl)) (nd (o12 P) (nd (o28 P) nl nl) nl)) (nd (o35 P) (nd (o9 P) (nd (o23 P) nl nl) (nd (o1 P) nl nl)) (nd (o17 P) (nd (o0 P) nl nl) nl))) (nd (boot_o_6 P) (nd (boot_o_10 P) (nd (o0 P) (nd (o0 P) nl nl) (nd (o38 P) nl nl)) (nd (o14 P) (nd (o1 P) nl nl) nl)) (nd (o3 P) (nd (o0 P) (nd (o25 P) nl nl) (nd (o40 P) nl nl)) (nd (o1 P) (nd (o32 P) nl nl) nl)))))
noncomputable def C1_0 (w : World) (os : OsState) : SharedT := ⟨t1_0 w.params, 55, { }, .mk [], { }, 238, os⟩
theorem g1_0 (w : World) (os : OsState) : segGoT treeTable PySem.Challenge.pw_yv0002_01 w 11 ann 1 62 (S1 w os) (piecesOf s1 env cE ⟨14, 0, 15, 23⟩ [topFrame q0]) = some (C1_0 w os, ⟨denote treeTable (.body b1 e1), c1, ⟨16, 0, 111, 21⟩, [fr1 w os, topFrame q0]⟩) := by
  rewrite [tSG, tDN, tTT]; kernel_rfl
theorem g1_B (w : World) (os : OsState) : splitAtGen [fr1 w os, topFrame q0] = none := by kernel_rfl
theorem g1_1 (w : World) (os : OsState) : segRunT treeTable PySem.Challenge.pw_yv0002_01 w 11 ann 2 1 (C1_0 w os) (blockOf b1 e1 c1 ⟨16, 0, 111, 21⟩ [fr1 w os, topFrame q0]) = some (.next, C1_0 w os, c1, ⟨16, 0, 111, 21⟩) := by
  rewrite [tST, tTT]; kernel_rfl
noncomputable def o41 : O := fun P => ⟨(.type "dict"), none, (.dict #[k P (.ofString "__module__") 233 (.str (.ofString "pyaes.aes") 194), k P (.ofString "__qualname__") 235 (.str (.ofString "AES") 234), k P (.ofString "__firstlineno__") 237 (.int 16 236), k P (.ofString "number_of_rounds") 247 (.ref 55)] 4), #[]⟩
noncomputable def o42 : O := fun P => ⟨(.type "dict"), none, (.dict #[⟨16, (.int 16 238), (.int 10 239)⟩, ⟨24, (.int 24 240), (.int 12 241)⟩, ⟨32, (.int 32 242), (.int 14 243)⟩] 3), #[]⟩
noncomputable def t1_1 : Params → BT := fun P => (nd (boot_o_0 P) (nd (boot_o_1 P) (nd (o4 P) (nd (boot_o_7 P) (nd (o0 P) (nd (o19 P) nl nl) (nd (o34 P) nl nl)) (nd (o1 P) (nd (o26 P) nl nl) (nd (o42 P) nl nl))) (nd (o0 P) (nd (o8 P) (nd (o1 P) nl nl) (nd (o0 P) nl nl)) (nd (o15 P) (nd (o29 P) nl nl) nl))) (nd (boot_o_5 P) (nd (boot_o_9 P) (nd (o6 P) (nd (o22 P) nl nl) (nd (o37 P) nl nl)) (nd (o0 P) (nd (o0 P) nl nl) nl)) (nd (o2 P) (nd (o11 P) (nd (o0 P) nl nl) (nd (o39 P) nl nl)) (nd (o0 P) (nd (o31 P) nl nl) nl)))) (nd (boot_o_2 P) (nd (boot_o_4 P) (nd (boot_o_8 P) (nd (o1 P) (nd (o20 P) nl nl) (nd (o36 P) nl nl)) (nd (o12 P) (nd (o28 P) nl nl) nl)) (nd (o35 P) (nd (o9 P) (nd (o23 P) nl nl) (nd (o1 P) nl nl)) (nd (o17 P) (nd (o0 P) nl nl) nl))) (nd (boot_o_6 P) (nd (boot_o_10 P) (nd (o0 P) (nd (o0 P) nl nl) (nd (o41 P) nl nl)) (nd (o14 P) (nd (o1 P) nl nl) nl)) (nd (o3 P) (nd (o0 P) (nd (o25 P) nl nl) (nd (o40 P) nl nl)) (nd (o1 P) (nd (o32 P) nl nl) nl)))))
noncomputable def C1_1 (w : World) (os : OsState) : SharedT := ⟨t1_1 w.params, 56, { }, .mk [], { }, 248, os⟩
noncomputable def l1_0 : List Stmt := (b1.drop 0).take 1
theorem g1_pa0 (w : World) (os : OsState) : segRunT treeTable PySem.Challenge.pw_yv0002_01 (w.withFollow "special-get-raises" false) 11 ann 2 51 (C1_0 (w.withFollow "special-get-raises" false) os) (piecesOf l1_0 e1 c1 ⟨16, 0, 111, 21⟩ [fr1 (w.withFollow "special-get-raises" false) os, topFrame q0]) = some (.next, C1_1 (w.withFollow "special-get-raises" false) os, c1, ⟨17, 4, 17, 20⟩) := by
  rewrite [tST, tTT]; kernel_rfl
theorem g1_pb0 (w : World) (os : OsState) : segRunT treeTable PySem.Challenge.pw_yv0002_01 (w.withFollow "special-get-raises" true) 11 ann 2 51 (C1_0 (w.withFollow "special-get-raises" true) os) (piecesOf l1_0 e1 c1 ⟨16, 0, 111, 21⟩ [fr1 (w.withFollow "special-get-raises" true) os, topFrame q0]) = some (.next, C1_1 (w.withFollow "special-get-raises" true) os, c1, ⟨17, 4, 17, 20⟩) := by
  rewrite [tST, tTT]; kernel_rfl
theorem g1_p0 (w : World) (os : OsState) : segRunT treeTable PySem.Challenge.pw_yv0002_01 w 11 ann 2 51 (C1_0 w os) (piecesOf l1_0 e1 c1 ⟨16, 0, 111, 21⟩ [fr1 w os, topFrame q0]) = some (.next, C1_1 w os, c1, ⟨17, 4, 17, 20⟩) :=
  byRow2 "special-get-raises" (P := fun w => ∀ os : OsState, segRunT treeTable PySem.Challenge.pw_yv0002_01 w 11 ann 2 51 (C1_0 w os) (piecesOf l1_0 e1 c1 ⟨16, 0, 111, 21⟩ [fr1 w os, topFrame q0]) = some (.next, C1_1 w os, c1, ⟨17, 4, 17, 20⟩)) (fun w os => g1_pa0 w os) (fun w os => g1_pb0 w os) w os
noncomputable def o43 : O := fun P => ⟨(.type "dict"), none, (.dict #[k P (.ofString "__module__") 233 (.str (.ofString "pyaes.aes") 194), k P (.ofString "__qualname__") 235 (.str (.ofString "AES") 234), k P (.ofString "__firstlineno__") 237 (.int 16 236), k P (.ofString "number_of_rounds") 247 (.ref 55), k P (.ofString "rcon") 278 (.ref 56), k P (.ofString "S") 535 (.ref 59)] 6), #[]⟩
noncomputable def o44 : O := fun P => ⟨(.type "list"), none, (.seq (tbl 248 (cis (nth (sB (nth bE 7)) 1))).toArray 0), #[]⟩
noncomputable def o45 : O := fun P => ⟨(.type "list"), none, (.seq (tbl 279 (ciL (nth (sB (nth bE 7)) 2))).toArray 0), #[]⟩
noncomputable def o46 : O := fun P => ⟨(.type "list"), none, (.seq (tbl 407 (ciR (nth (sB (nth bE 7)) 2))).toArray 0), #[]⟩
noncomputable def o47 : O := fun P => ⟨(.type "list"), none, (.seq (tbl 279 (cis (nth (sB (nth bE 7)) 2))).toArray 0), #[]⟩
noncomputable def t1_2 : Params → BT := fun P => (nd (boot_o_0 P) (nd (boot_o_1 P) (nd (o4 P) (nd (boot_o_7 P) (nd (o0 P) (nd (o19 P) nl nl) (nd (o34 P) nl nl)) (nd (o1 P) (nd (o26 P) nl nl) (nd (o42 P) nl nl))) (nd (o0 P) (nd (o8 P) (nd (o1 P) nl nl) (nd (o0 P) nl nl)) (nd (o15 P) (nd (o29 P) nl nl) (nd (o47 P) nl nl)))) (nd (boot_o_5 P) (nd (boot_o_9 P) (nd (o6 P) (nd (o22 P) nl nl) (nd (o37 P) nl nl)) (nd (o0 P) (nd (o0 P) nl nl) (nd (o45 P) nl nl))) (nd (o2 P) (nd (o11 P) (nd (o0 P) nl nl) (nd (o39 P) nl nl)) (nd (o0 P) (nd (o31 P) nl nl) nl)))) (nd (boot_o_2 P) (nd (boot_o_4 P) (nd (boot_o_8 P) (nd (o1 P) (nd (o20 P) nl nl) (nd (o36 P) nl nl)) (nd (o12 P) (nd (o28 P) nl nl) (nd (o44 P) nl nl))) (nd (o35 P) (nd (o9 P) (nd (o23 P) nl nl) (nd (o1 P) nl nl)) (nd (o17 P) (nd (o0 P) nl nl) nl))) (nd (boot_o_6 P) (nd (boot_o_10 P) (nd (o0 P) (nd (o0 P) nl nl) (nd (o43 P) nl nl)) (nd (o14 P) (nd (o1 P) nl nl) (nd (o46 P) nl nl))) (nd (o3 P) (nd (o0 P) (nd (o25 P) nl nl) (nd (o40 P) nl nl)) (nd (o1 P) (nd (o32 P) nl nl) nl)))))
noncomputable def C1_2 (w : World) (os : OsState) : SharedT := ⟨t1_2 w.params, 60, { }, .mk [], { }, 536, os⟩
noncomputable def l1_1 : List Stmt := (b1.drop 1).take 2
theorem g1_p1 (w : World) (os : OsState) : segRunT treeTable PySem.Challenge.pw_yv0002_01 w 11 ann 2 325 (C1_1 w os) (piecesOf l1_1 e1 c1 ⟨17, 4, 17, 20⟩ [fr1 w os, topFrame q0]) = some (.next, C1_2 w os, c1, ⟨19, 4, 19, 5⟩) := by
  rewrite [tST, tTT]; kernel_rfl
noncomputable def o48 : O := fun P => ⟨(.type "dict"), none, (.dict #[k P (.ofString "__module__") 233 (.str (.ofString "pyaes.aes") 194), k P (.ofString "__qualname__") 235 (.str (.ofString "AES") 234), k P (.ofString "__firstlineno__") 237 (.int 16 236), k P (.ofString "number_of_rounds") 247 (.ref 55), k P (.ofString "rcon") 278 (.ref 56), k P (.ofString "S") 535 (.ref 59), k P (.ofString "Si") 792 (.ref 62), k P (.ofString "T1") 1049 (.ref 65)] 8), #[]⟩
noncomputable def o49 : O := fun P => ⟨(.type "list"), none, (.seq (tbl 536 (ciL (nth (sB (nth bE 7)) 3))).toArray 0), #[]⟩
noncomputable def o50 : O := fun P => ⟨(.type "list"), none, (.seq (tbl 664 (ciR (nth (sB (nth bE 7)) 3))).toArray 0), #[]⟩
noncomputable def o51 : O := fun P => ⟨(.type "list"), none, (.seq (tbl 536 (cis (nth (sB (nth bE 7)) 3))).toArray 0), #[]⟩
noncomputable def o52 : O := fun P => ⟨(.type "list"), none, (.seq (tbl 793 (ciL (nth (sB (nth bE 7)) 4))).toArray 0), #[]⟩
noncomputable def o53 : O := fun P => ⟨(.type "list"), none, (.seq (tbl 921 (ciR (nth (sB (nth bE 7)) 4))).toArray 0), #[]⟩
noncomputable def o54 : O := fun P => ⟨(.type "list"), none, (.seq (tbl 793 (cis (nth (sB (nth bE 7)) 4))).toArray 0), #[]⟩
noncomputable def t1_3 : Params → BT := fun P => (nd (boot_o_0 P) (nd (boot_o_1 P) (nd (o4 P) (nd (boot_o_7 P) (nd (o0 P) (nd (o19 P) (nd (o52 P) nl nl) nl) (nd (o34 P) nl nl)) (nd (o1 P) (nd (o26 P) nl nl) (nd (o42 P) nl nl))) (nd (o0 P) (nd (o8 P) (nd (o1 P) nl nl) (nd (o0 P) nl nl)) (nd (o15 P) (nd (o29 P) nl nl) (nd (o47 P) nl nl)))) (nd (boot_o_5 P) (nd (boot_o_9 P) (nd (o6 P) (nd (o22 P) (nd (o54 P) nl nl) nl) (nd (o37 P) nl nl)) (nd (o0 P) (nd (o0 P) nl nl) (nd (o45 P) nl nl))) (nd (o2 P) (nd (o11 P) (nd (o0 P) nl nl) (nd (o39 P) nl nl)) (nd (o0 P) (nd (o31 P) nl nl) (nd (o50 P) nl nl))))) (nd (boot_o_2 P) (nd (boot_o_4 P) (nd (boot_o_8 P) (nd (o1 P) (nd (o20 P) (nd (o53 P) nl nl) nl) (nd (o36 P) nl nl)) (nd (o12 P) (nd (o28 P) nl nl) (nd (o44 P) nl nl))) (nd (o35 P) (nd (o9 P) (nd (o23 P) nl nl) (nd (o1 P) nl nl)) (nd (o17 P) (nd (o0 P) nl nl) (nd (o49 P) nl nl)))) (nd (boot_o_6 P) (nd (boot_o_10 P) (nd (o0 P) (nd (o0 P) nl nl) (nd (o48 P) nl nl)) (nd (o14 P) (nd (o1 P) nl nl) (nd (o46 P) nl nl))) (nd (o3 P) (nd (o0 P) (nd (o25 P) nl nl) (nd (o40 P) nl nl)) (nd (o1 P) (nd (o32 P) nl nl) (nd (o51 P) nl nl))))))
noncomputable def C1_3 (w : World) (os : OsState) : SharedT := ⟨t1_3 w.params, 66, { }, .mk [], { }, 1050, os⟩
noncomputable def l1_2 : List Stmt := (b1.drop 3).take 2
theorem g1_p2 (w : World) (os : OsState) : segRunT treeTable PySem.Challenge.pw_yv0002_01 w 11 ann 2 567 (C1_2 w os) (piecesOf l1_2 e1 c1 ⟨19, 4, 19, 5⟩ [fr1 w os, topFrame q0]) = some (.next, C1_3 w os, c1, ⟨21, 4, 21, 6⟩) := by
  rewrite [tST, tTT]; kernel_rfl
noncomputable def o55 : O := fun P => ⟨(.type "dict"), none, (.dict #[k P (.ofString "__module__") 233 (.str (.ofString "pyaes.aes") 194), k P (.ofString "__qualname__") 235 (.str (.ofString "AES") 234), k P (.ofString "__firstlineno__") 237 (.int 16 236), k P (.ofString "number_of_rounds") 247 (.ref 55), k P (.ofString "rcon") 278 (.ref 56), k P (.ofString "S") 535 (.ref 59), k P (.ofString "Si") 792 (.ref 62), k P (.ofString "T1") 1049 (.ref 65), k P (.ofString "T2") 1306 (.ref 68), k P (.ofString "T3") 1563 (.ref 71)] 10), #[]⟩
noncomputable def o56 : O := fun P => ⟨(.type "list"), none, (.seq (tbl 1050 (ciL (nth (sB (nth bE 7)) 5))).toArray 0), #[]⟩
noncomputable def o57 : O := fun P => ⟨(.type "list"), none, (.seq (tbl 1178 (ciR (nth (sB (nth bE 7)) 5))).toArray 0), #[]⟩
noncomputable def o58 : O := fun P => ⟨(.type "list"), none, (.seq (tbl 1050 (cis (nth (sB (nth bE 7)) 5))).toArray 0), #[]⟩
noncomputable def o59 : O := fun P => ⟨(.type "list"), none, (.seq (tbl 1307 (ciL (nth (sB (nth bE 7)) 6))).toArray 0), #[]⟩
noncomputable def o60 : O := fun P => ⟨(.type "list"), none, (.seq (tbl 1435 (ciR (nth (sB (nth bE 7)) 6))).toArray 0), #[]⟩
noncomputable def o61 : O := fun P => ⟨(.type "list"), none, (.seq (tbl 1307 (cis (nth (sB (nth bE 7)) 6))).toArray 0), #[]⟩
noncomputable def t1_4 : Params → BT := fun P => (nd (boot_o_0 P) (nd (boot_o_1 P) (nd (o4 P) (nd (boot_o_7 P) (nd (o0 P) (nd (o19 P) (nd (o52 P) nl nl) nl) (nd (o34 P) nl nl)) (nd (o1 P) (nd (o26 P) (nd (o61 P) nl nl) nl) (nd (o42 P) nl nl))) (nd (o0 P) (nd (o8 P) (nd (o1 P) (nd (o57 P) nl nl) nl) (nd (o0 P) nl nl)) (nd (o15 P) (nd (o29 P) nl nl) (nd (o47 P) nl nl)))) (nd (boot_o_5 P) (nd (boot_o_9 P) (nd (o6 P) (nd (o22 P) (nd (o54 P) nl nl) nl) (nd (o37 P) nl nl)) (nd (o0 P) (nd (o0 P) nl nl) (nd (o45 P) nl nl))) (nd (o2 P) (nd (o11 P) (nd (o0 P) (nd (o59 P) nl nl) nl) (nd (o39 P) nl nl)) (nd (o0 P) (nd (o31 P) nl nl) (nd (o50 P) nl nl))))) (nd (boot_o_2 P) (nd (boot_o_4 P) (nd (boot_o_8 P) (nd (o1 P) (nd (o20 P) (nd (o53 P) nl nl) nl) (nd (o36 P) nl nl)) (nd (o12 P) (nd (o28 P) nl nl) (nd (o44 P) nl nl))) (nd (o35 P) (nd (o9 P) (nd (o23 P) (nd (o58 P) nl nl) nl) (nd (o1 P) nl nl)) (nd (o17 P) (nd (o0 P) nl nl) (nd (o49 P) nl nl)))) (nd (boot_o_6 P) (nd (boot_o_10 P) (nd (o0 P) (nd (o0 P) (nd (o56 P) nl nl) nl) (nd (o55 P) nl nl)) (nd (o14 P) (nd (o1 P) nl nl) (nd (o46 P) nl nl))) (nd (o3 P) (nd (o0 P) (nd (o25 P) (nd (o60 P) nl nl) nl) (nd (o40 P) nl nl)) (nd (o1 P) (nd (o32 P) nl nl) (nd (o51 P) nl nl))))))
noncomputable def C1_4 (w : World) (os : OsState) : SharedT := ⟨t1_4 w.params, 72, { }, .mk [], { }, 1564, os⟩
noncomputable def l1_3 : List Stmt := (b1.drop 5).take 2
theorem g1_p3 (w : World) (os : OsState) : segRunT treeTable PySem.Challenge.pw_yv0002_01 w 11 ann 2 567 (C1_3 w os) (piecesOf l1_3 e1 c1 ⟨21, 4, 21, 6⟩ [fr1 w os, topFrame q0]) = some (.next, C1_4 w os, c1, ⟨23, 4, 23, 6⟩) := by
  rewrite [tST, tTT]; kernel_rfl
noncomputable def o62 : O := fun P => ⟨(.type "dict"), none, (.dict #[k P (.ofString "__module__") 233 (.str (.ofString "pyaes.aes") 194), k P (.ofString "__qualname__") 235 (.str (.ofString "AES") 234), k P (.ofString "__firstlineno__") 237 (.int 16 236), k P (.ofString "number_of_rounds") 247 (.ref 55), k P (.ofString "rcon") 278 (.ref 56), k P (.ofString "S") 535 (.ref 59), k P (.ofString "Si") 792 (.ref 62), k P (.ofString "T1") 1049 (.ref 65), k P (.ofString "T2") 1306 (.ref 68), k P (.ofString "T3") 1563 (.ref 71), k P (.ofString "T4") 1820 (.ref 74), k P (.ofString "T5") 2077 (.ref 77)] 12), #[]⟩
noncomputable def o63 : O := fun P => ⟨(.type "list"), none, (.seq (tbl 1564 (ciL (nth (sB (nth bE 7)) 7))).toArray 0), #[]⟩
noncomputable def o64 : O := fun P => ⟨(.type "list"), none, (.seq (tbl 1692 (ciR (nth (sB (nth bE 7)) 7))).toArray 0), #[]⟩
noncomputable def o65 : O := fun P => ⟨(.type "list"), none, (.seq (tbl 1564 (cis (nth (sB (nth bE 7)) 7))).toArray 0), #[]⟩
noncomputable def o66 : O := fun P => ⟨(.type "list"), none, (.seq (tbl 1821 (ciL (nth (sB (nth bE 7)) 8))).toArray 0), #[]⟩
noncomputable def o67 : O := fun P => ⟨(.type "list"), none, (.seq (tbl 1949 (ciR (nth (sB (nth bE 7)) 8))).toArray 0), #[]⟩
noncomputable def o68 : O := fun P => ⟨(.type "list"), none, (.seq (tbl 1821 (cis (nth (sB (nth bE 7)) 8))).toArray 0), #[]⟩
noncomputable def t1_5 : Params → BT := fun P => (nd (boot_o_0 P) (nd (boot_o_1 P) (nd (o4 P) (nd (boot_o_7 P) (nd (o0 P) (nd (o19 P) (nd (o52 P) nl nl) nl) (nd (o34 P) nl nl)) (nd (o1 P) (nd (o26 P) (nd (o61 P) nl nl) nl) (nd (o42 P) nl nl))) (nd (o0 P) (nd (o8 P) (nd (o1 P) (nd (o57 P) nl nl) nl) (nd (o0 P) nl nl)) (nd (o15 P) (nd (o29 P) (nd (o66 P) nl nl) nl) (nd (o47 P) nl nl)))) (nd (boot_o_5 P) (nd (boot_o_9 P) (nd (o6 P) (nd (o22 P) (nd (o54 P) nl nl) nl) (nd (o37 P) nl nl)) (nd (o0 P) (nd (o0 P) (nd (o64 P) nl nl) nl) (nd (o45 P) nl nl))) (nd (o2 P) (nd (o11 P) (nd (o0 P) (nd (o59 P) nl nl) nl) (nd (o39 P) nl nl)) (nd (o0 P) (nd (o31 P) (nd (o68 P) nl nl) nl) (nd (o50 P) nl nl))))) (nd (boot_o_2 P) (nd (boot_o_4 P) (nd (boot_o_8 P) (nd (o1 P) (nd (o20 P) (nd (o53 P) nl nl) nl) (nd (o36 P) nl nl)) (nd (o12 P) (nd (o28 P) (nd (o63 P) nl nl) nl) (nd (o44 P) nl nl))) (nd (o35 P) (nd (o9 P) (nd (o23 P) (nd (o58 P) nl nl) nl) (nd (o1 P) nl nl)) (nd (o17 P) (nd (o0 P) (nd (o67 P) nl nl) nl) (nd (o49 P) nl nl)))) (nd (boot_o_6 P) (nd (boot_o_10 P) (nd (o0 P) (nd (o0 P) (nd (o56 P) nl nl) nl) (nd (o62 P) nl nl)) (nd (o14 P) (nd (o1 P) (nd (o65 P) nl nl) nl) (nd (o46 P) nl nl))) (nd (o3 P) (nd (o0 P) (nd (o25 P) (nd (o60 P) nl nl) nl) (nd (o40 P) nl nl)) (nd (o1 P) (nd (o32 P) nl nl) (nd (o51 P) nl nl))))))
noncomputable def C1_5 (w : World) (os : OsState) : SharedT := ⟨t1_5 w.params, 78, { }, .mk [], { }, 2078, os⟩
noncomputable def l1_4 : List Stmt := (b1.drop 7).take 2
theorem g1_p4 (w : World) (os : OsState) : segRunT treeTable PySem.Challenge.pw_yv0002_01 w 11 ann 2 567 (C1_4 w os) (piecesOf l1_4 e1 c1 ⟨23, 4, 23, 6⟩ [fr1 w os, topFrame q0]) = some (.next, C1_5 w os, c1, ⟨25, 4, 25, 6⟩) := by
  rewrite [tST, tTT]; kernel_rfl
noncomputable def o69 : O := fun P => ⟨(.type "dict"), none, (.dict #[k P (.ofString "__module__") 233 (.str (.ofString "pyaes.aes") 194), k P (.ofString "__qualname__") 235 (.str (.ofString "AES") 234), k P (.ofString "__firstlineno__") 237 (.int 16 236), k P (.ofString "number_of_rounds") 247 (.ref 55), k P (.ofString "rcon") 278 (.ref 56), k P (.ofString "S") 535 (.ref 59), k P (.ofString "Si") 792 (.ref 62), k P (.ofString "T1") 1049 (.ref 65), k P (.ofString "T2") 1306 (.ref 68), k P (.ofString "T3") 1563 (.ref 71), k P (.ofString "T4") 1820 (.ref 74), k P (.ofString "T5") 2077 (.ref 77), k P (.ofString "T6") 2334 (.ref 80), k P (.ofString "T7") 2591 (.ref 83)] 14), #[]⟩
noncomputable def o70 : O := fun P => ⟨(.type "list"), none, (.seq (tbl 2078 (ciL (nth (sB (nth bE 7)) 9))).toArray 0), #[]⟩
noncomputable def o71 : O := fun P => ⟨(.type "list"), none, (.seq (tbl 2206 (ciR (nth (sB (nth bE 7)) 9))).toArray 0), #[]⟩
noncomputable def o72 : O := fun P => ⟨(.type "list"), none, (.seq (tbl 2078 (cis (nth (sB (nth bE 7)) 9))).toArray 0), #[]⟩
noncomputable def o73 : O := fun P => ⟨(.type "list"), none, (.seq (tbl 2335 (ciL (nth (sB (nth bE 7)) 10))).toArray 0), #[]⟩
noncomputable def o74 : O := fun P => ⟨(.type "list"), none, (.seq (tbl 2463 (ciR (nth (sB (nth bE 7)) 10))).toArray 0), #[]⟩
noncomputable def o75 : O := fun P => ⟨(.type "list"), none, (.seq (tbl 2335 (cis (nth (sB (nth bE 7)) 10))).toArray 0), #[]⟩
noncomputable def t1_6 : Params → BT := fun P => (nd (boot_o_0 P) (nd (boot_o_1 P) (nd (o4 P) (nd (boot_o_7 P) (nd (o0 P) (nd (o19 P) (nd (o52 P) nl nl) nl) (nd (o34 P) (nd (o71 P) nl nl) nl)) (nd (o1 P) (nd (o26 P) (nd (o61 P) nl nl) nl) (nd (o42 P) nl nl))) (nd (o0 P) (nd (o8 P) (nd (o1 P) (nd (o57 P) nl nl) nl) (nd (o0 P) (nd (o75 P) nl nl) nl)) (nd (o15 P) (nd (o29 P) (nd (o66 P) nl nl) nl) (nd (o47 P) nl nl)))) (nd (boot_o_5 P) (nd (boot_o_9 P) (nd (o6 P) (nd (o22 P) (nd (o54 P) nl nl) nl) (nd (o37 P) (nd (o73 P) nl nl) nl)) (nd (o0 P) (nd (o0 P) (nd (o64 P) nl nl) nl) (nd (o45 P) nl nl))) (nd (o2 P) (nd (o11 P) (nd (o0 P) (nd (o59 P) nl nl) nl) (nd (o39 P) nl nl)) (nd (o0 P) (nd (o31 P) (nd (o68 P) nl nl) nl) (nd (o50 P) nl nl))))) (nd (boot_o_2 P) (nd (boot_o_4 P) (nd (boot_o_8 P) (nd (o1 P) (nd (o20 P) (nd (o53 P) nl nl) nl) (nd (o36 P) (nd (o72 P) nl nl) nl)) (nd (o12 P) (nd (o28 P) (nd (o63 P) nl nl) nl) (nd (o44 P) nl nl))) (nd (o35 P) (nd (o9 P) (nd (o23 P) (nd (o58 P) nl nl) nl) (nd (o1 P) nl nl)) (nd (o17 P) (nd (o0 P) (nd (o67 P) nl nl) nl) (nd (o49 P) nl nl)))) (nd (boot_o_6 P) (nd (boot_o_10 P) (nd (o0 P) (nd (o0 P) (nd (o56 P) nl nl) nl) (nd (o69 P) (nd (o74 P) nl nl) nl)) (nd (o14 P) (nd (o1 P) (nd (o65 P) nl nl) nl) (nd (o46 P) nl nl))) (nd (o3 P) (nd (o0 P) (nd (o25 P) (nd (o60 P) nl nl) nl) (nd (o40 P) nl nl)) (nd (o1 P) (nd (o32 P) (nd (o70 P) nl nl) nl) (nd (o51 P) nl nl))))))
noncomputable def C1_6 (w : World) (os : OsState) : SharedT := ⟨t1_6 w.params, 84, { }, .mk [], { }, 2592, os⟩
noncomputable def l1_5 : List Stmt := (b1.drop 9).take 2
theorem g1_p5 (w : World) (os : OsState) : segRunT treeTable PySem.Challenge.pw_yv0002_01 w 11 ann 2 567 (C1_5 w os) (piecesOf l1_5 e1 c1 ⟨25, 4, 25, 6⟩ [fr1 w os, topFrame q0]) = some (.next, C1_6 w os, c1, ⟨27, 4, 27, 6⟩) := by
  rewrite [tST, tTT]; kernel_rfl
noncomputable def o76 : O := fun P => ⟨(.type "dict"), none, (.dict #[k P (.ofString "__module__") 233 (.str (.ofString "pyaes.aes") 194), k P (.ofString "__qualname__") 235 (.str (.ofString "AES") 234), k P (.ofString "__firstlineno__") 237 (.int 16 236), k P (.ofString "number_of_rounds") 247 (.ref 55), k P (.ofString "rcon") 278 (.ref 56), k P (.ofString "S") 535 (.ref 59), k P (.ofString "Si") 792 (.ref 62), k P (.ofString "T1") 1049 (.ref 65), k P (.ofString "T2") 1306 (.ref 68), k P (.ofString "T3") 1563 (.ref 71), k P (.ofString "T4") 1820 (.ref 74), k P (.ofString "T5") 2077 (.ref 77), k P (.ofString "T6") 2334 (.ref 80), k P (.ofString "T7") 2591 (.ref 83), k P (.ofString "T8") 2848 (.ref 86), k P (.ofString "U1") 3105 (.ref 89)] 16), #[]⟩
noncomputable def o77 : O := fun P => ⟨(.type "list"), none, (.seq (tbl 2592 (ciL (nth (sB (nth bE 7)) 11))).toArray 0), #[]⟩
noncomputable def o78 : O := fun P => ⟨(.type "list"), none, (.seq (tbl 2720 (ciR (nth (sB (nth bE 7)) 11))).toArray 0), #[]⟩
noncomputable def o79 : O := fun P => ⟨(.type "list"), none, (.seq (tbl 2592 (cis (nth (sB (nth bE 7)) 11))).toArray 0), #[]⟩
noncomputable def o80 : O := fun P => ⟨(.type "list"), none, (.seq (tbl 2849 (ciL (nth (sB (nth bE 7)) 12))).toArray 0), #[]⟩
noncomputable def o81 : O := fun P => ⟨(.type "list"), none, (.seq (tbl 2977 (ciR (nth (sB (nth bE 7)) 12))).toArray 0), #[]⟩
noncomputable def o82 : O := fun P => ⟨(.type "list"), none, (.seq (tbl 2849 (cis (nth (sB (nth bE 7)) 12))).toArray 0), #[]⟩
noncomputable def t1_7 : Params → BT := fun P => (nd (boot_o_0 P) (nd (boot_o_1 P) (nd (o4 P) (nd (boot_o_7 P) (nd (o0 P) (nd (o19 P) (nd (o52 P) nl nl) nl) (nd (o34 P) (nd (o71 P) nl nl) nl)) (nd (o1 P) (nd (o26 P) (nd (o61 P) nl nl) nl) (nd (o42 P) (nd (o80 P) nl nl) nl))) (nd (o0 P) (nd (o8 P) (nd (o1 P) (nd (o57 P) nl nl) nl) (nd (o0 P) (nd (o75 P) nl nl) nl)) (nd (o15 P) (nd (o29 P) (nd (o66 P) nl nl) nl) (nd (o47 P) nl nl)))) (nd (boot_o_5 P) (nd (boot_o_9 P) (nd (o6 P) (nd (o22 P) (nd (o54 P) nl nl) nl) (nd (o37 P) (nd (o73 P) nl nl) nl)) (nd (o0 P) (nd (o0 P) (nd (o64 P) nl nl) nl) (nd (o45 P) (nd (o82 P) nl nl) nl))) (nd (o2 P) (nd (o11 P) (nd (o0 P) (nd (o59 P) nl nl) nl) (nd (o39 P) (nd (o78 P) nl nl) nl)) (nd (o0 P) (nd (o31 P) (nd (o68 P) nl nl) nl) (nd (o50 P) nl nl))))) (nd (boot_o_2 P) (nd (boot_o_4 P) (nd (boot_o_8 P) (nd (o1 P) (nd (o20 P) (nd (o53 P) nl nl) nl) (nd (o36 P) (nd (o72 P) nl nl) nl)) (nd (o12 P) (nd (o28 P) (nd (o63 P) nl nl) nl) (nd (o44 P) (nd (o81 P) nl nl) nl))) (nd (o35 P) (nd (o9 P) (nd (o23 P) (nd (o58 P) nl nl) nl) (nd (o1 P) (nd (o77 P) nl nl) nl)) (nd (o17 P) (nd (o0 P) (nd (o67 P) nl nl) nl) (nd (o49 P) nl nl)))) (nd (boot_o_6 P) (nd (boot_o_10 P) (nd (o0 P) (nd (o0 P) (nd (o56 P) nl nl) nl) (nd (o76 P) (nd (o74 P) nl nl) nl)) (nd (o14 P) (nd (o1 P) (nd (o65 P) nl nl) nl) (nd (o46 P) nl nl))) (nd (o3 P) (nd (o0 P) (nd (o25 P) (nd (o60 P) nl nl) nl) (nd (o40 P) (nd (o79 P) nl nl) nl)) (nd (o1 P) (nd (o32 P) (nd (o70 P) nl nl) nl) (nd (o51 P) nl nl))))))
noncomputable def C1_7 (w : World) (os : OsState) : SharedT := ⟨t1_7 w.params, 90, { }, .mk [], { }, 3106, os⟩
noncomputable def l1_6 : List Stmt := (b1.drop 11).take 2
theorem g1_p6 (w : World) (os : OsState) : segRunT treeTable PySem.Challenge.pw_yv0002_01 w 11 ann 2 567 (C1_6 w os) (piecesOf l1_6 e1 c1 ⟨27, 4, 27, 6⟩ [fr1 w os, topFrame q0]) = some (.next, C1_7 w os, c1, ⟨29, 4, 29, 6⟩) := by
  rewrite [tST, tTT]; kernel_rfl
noncomputable def o83 : O := fun P => ⟨(.type "dict"), none, (.dict #[k P (.ofString "__module__") 233 (.str (.ofString "pyaes.aes") 194), k P (.ofString "__qualname__") 235 (.str (.ofString "AES") 234), k P (.ofString "__firstlineno__") 237 (.int 16 236), k P (.ofString "number_of_rounds") 247 (.ref 55), k P (.ofString "rcon") 278 (.ref 56), k P (.ofString "S") 535 (.ref 59), k P (.ofString "Si") 792 (.ref 62), k P (.ofString "T1") 1049 (.ref 65), k P (.ofString "T2") 1306 (.ref 68), k P (.ofString "T3") 1563 (.ref 71), k P (.ofString "T4") 1820 (.ref 74), k P (.ofString "T5") 2077 (.ref 77), k P (.ofString "T6") 2334 (.ref 80), k P (.ofString "T7") 2591 (.ref 83), k P (.ofString "T8") 2848 (.ref 86), k P (.ofString "U1") 3105 (.ref 89), k P (.ofString "U2") 3362 (.ref 92), k P (.ofString "U3") 3619 (.ref 95)] 18), #[]⟩
noncomputable def o84 : O := fun P => ⟨(.type "list"), none, (.seq (tbl 3106 (ciL (nth (sB (nth bE 7)) 13))).toArray 0), #[]⟩
noncomputable def o85 : O := fun P => ⟨(.type "list"), none, (.seq (tbl 3234 (ciR (nth (sB (nth bE 7)) 13))).toArray 0), #[]⟩
noncomputable def o86 : O := fun P => ⟨(.type "list"), none, (.seq (tbl 3106 (cis (nth (sB (nth bE 7)) 13))).toArray 0), #[]⟩
noncomputable def o87 : O := fun P => ⟨(.type "list"), none, (.seq (tbl 3363 (ciL (nth (sB (nth bE 7)) 14))).toArray 0), #[]⟩
noncomputable def o88 : O := fun P => ⟨(.type "list"), none, (.seq (tbl 3491 (ciR (nth (sB (nth bE 7)) 14))).toArray 0), #[]⟩
noncomputable def o89 : O := fun P => ⟨(.type "list"), none, (.seq (tbl 3363 (cis (nth (sB (nth bE 7)) 14))).toArray 0), #[]⟩
noncomputable def t1_8 : Params → BT := fun P => (nd (boot_o_0 P) (nd (boot_o_1 P) (nd (o4 P) (nd (boot_o_7 P) (nd (o0 P) (nd (o19 P) (nd (o52 P) nl nl) (nd (o89 P) nl nl)) (nd (o34 P) (nd (o71 P) nl nl) nl)) (nd (o1 P) (nd (o26 P) (nd (o61 P) nl nl) nl) (nd (o42 P) (nd (o80 P) nl nl) nl))) (nd (o0 P) (nd (o8 P) (nd (o1 P) (nd (o57 P) nl nl) nl) (nd (o0 P) (nd (o75 P) nl nl) nl)) (nd (o15 P) (nd (o29 P) (nd (o66 P) nl nl) nl) (nd (o47 P) (nd (o85 P) nl nl) nl)))) (nd (boot_o_5 P) (nd (boot_o_9 P) (nd (o6 P) (nd (o22 P) (nd (o54 P) nl nl) nl) (nd (o37 P) (nd (o73 P) nl nl) nl)) (nd (o0 P) (nd (o0 P) (nd (o64 P) nl nl) nl) (nd (o45 P) (nd (o82 P) nl nl) nl))) (nd (o2 P) (nd (o11 P) (nd (o0 P) (nd (o59 P) nl nl) nl) (nd (o39 P) (nd (o78 P) nl nl) nl)) (nd (o0 P) (nd (o31 P) (nd (o68 P) nl nl) nl) (nd (o50 P) (nd (o87 P) nl nl) nl))))) (nd (boot_o_2 P) (nd (boot_o_4 P) (nd (boot_o_8 P) (nd (o1 P) (nd (o20 P) (nd (o53 P) nl nl) nl) (nd (o36 P) (nd (o72 P) nl nl) nl)) (nd (o12 P) (nd (o28 P) (nd (o63 P) nl nl) nl) (nd (o44 P) (nd (o81 P) nl nl) nl))) (nd (o35 P) (nd (o9 P) (nd (o23 P) (nd (o58 P) nl nl) nl) (nd (o1 P) (nd (o77 P) nl nl) nl)) (nd (o17 P) (nd (o0 P) (nd (o67 P) nl nl) nl) (nd (o49 P) (nd (o86 P) nl nl) nl)))) (nd (boot_o_6 P) (nd (boot_o_10 P) (nd (o0 P) (nd (o0 P) (nd (o56 P) nl nl) nl) (nd (o83 P) (nd (o74 P) nl nl) nl)) (nd (o14 P) (nd (o1 P) (nd (o65 P) nl nl) nl) (nd (o46 P) (nd (o84 P) nl nl) nl))) (nd (o3 P) (nd (o0 P) (nd (o25 P) (nd (o60 P) nl nl) nl) (nd (o40 P) (nd (o79 P) nl nl) nl)) (nd (o1 P) (nd (o32 P) (nd (o70 P) nl nl) nl) (nd (o51 P) (nd (o88 P) nl nl) nl))))))
noncomputable def C1_8 (w : World) (os : OsState) : SharedT := ⟨t1_8 w.params, 96, { }, .mk [], { }, 3620, os⟩
noncomputable def l1_7 : List Stmt := (b1.drop 13).take 2
theorem g1_p7 (w : World) (os : OsState) : segRunT treeTable PySem.Challenge.pw_yv0002_01 w 11 ann 2 567 (C1_7 w os) (piecesOf l1_7 e1 c1 ⟨29, 4, 29, 6⟩ [fr1 w os, topFrame q0]) = some (.next, C1_8 w os, c1, ⟨31, 4, 31, 6⟩) := by
  rewrite [tST, tTT]; kernel_rfl
noncomputable def o90 : O := fun P => ⟨(.type "dict"), none, (.dict #[k P (.ofString "__module__") 233 (.str (.ofString "pyaes.aes") 194), k P (.ofString "__qualname__") 235 (.str (.ofString "AES") 234), k P (.ofString "__firstlineno__") 237 (.int 16 236), k P (.ofString "number_of_rounds") 247 (.ref 55), k P (.ofString "rcon") 278 (.ref 56), k P (.ofString "S") 535 (.ref 59), k P (.ofString "Si") 792 (.ref 62), k P (.ofString "T1") 1049 (.ref 65), k P (.ofString "T2") 1306 (.ref 68), k P (.ofString "T3") 1563 (.ref 71), k P (.ofString "T4") 1820 (.ref 74), k P (.ofString "T5") 2077 (.ref 77), k P (.ofString "T6") 2334 (.ref 80), k P (.ofString "T7") 2591 (.ref 83), k P (.ofString "T8") 2848 (.ref 86), k P (.ofString "U1") 3105 (.ref 89), k P (.ofString "U2") 3362 (.ref 92), k P (.ofString "U3") 3619 (.ref 95), k P (.ofString "U4") 3876 (.ref 98), k P (.ofString "__init__") 3882 (.ref 103), k P (.ofString "encrypt") 3888 (.ref 108), k P (.ofString "decrypt") 3894 (.ref 113)] 22), #[]⟩
noncomputable def o91 : O := fun P => ⟨.none, none, (.fields #[(.int 34 0), (.int 4 0), (.ref 102), (.int 73 0), (.int 4 0), (.ref 107), (.int 93 0), (.int 4 0), (.ref 112)]), #[]⟩
noncomputable def o92 : O := fun P => ⟨(.type "list"), none, (.seq (tbl 3620 (ciL (nth (sB (nth bE 7)) 15))).toArray 0), #[]⟩
noncomputable def o93 : O := fun P => ⟨(.type "list"), none, (.seq (tbl 3748 (ciR (nth (sB (nth bE 7)) 15))).toArray 0), #[]⟩
noncomputable def o94 : O := fun P => ⟨(.type "list"), none, (.seq (tbl 3620 (cis (nth (sB (nth bE 7)) 15))).toArray 0), #[]⟩
noncomputable def f95 : FuncData := by
  refine (?g : (a : Arguments) → (b : List Stmt) → (s : Scope) → (a, b, s) = d (nth (sB (nth bE 7)) 16) → FuncData) ⟨_, _, _, _, _, _, _⟩ (_ :: _) ⟨_, _, _, _, _⟩ rfl
  exact fun a b s _ => ⟨(.ofString "__init__"), (.ofString "AES.__init__"), a, .stmts b, s, 0, [], .none, .none, .none, .none, none, .none, .none, 0⟩
noncomputable def o96 : O := fun P => ⟨.none, none, (.func f95), #[]⟩
noncomputable def o97 : O := fun P => ⟨(.type "code"), none, (.fields #[(.str (.ofString "__init__") 3877), (.str (.ofString "AES.__init__") 3878), (.str (.ofString "/claim/cut.py") 3879), (.int 34 0), (.int 2 0), (.int 0 0), (.int 0 0), (.int 3 0), (.ref 99), (.bool true), (.int 181 0), (.ref 100), .none, .none, .none, (.ref 101), (.int 3880 0), (.int 34 0), (.str (.ofString "/claim/cut.py") 3881)]), #[]⟩
noncomputable def f98 : FuncData := by
  refine (?g : (a : Arguments) → (b : List Stmt) → (s : Scope) → (a, b, s) = d (nth (sB (nth bE 7)) 16) → FuncData) ⟨_, _, _, _, _, _, _⟩ (_ :: _) ⟨_, _, _, _, _⟩ rfl
  exact fun a b s _ => ⟨(.ofString "__init__"), (.ofString "AES.__init__"), a, .stmts b, s, 3, [], .none, .none, .none, (.str (.ofString "pyaes.aes") 194), none, (.ref 102), .none, 0⟩
noncomputable def o99 : O := fun P => ⟨(.type "function"), none, (.func f98), #[]⟩
noncomputable def f100 : FuncData := by
  refine (?g : (a : Arguments) → (b : List Stmt) → (s : Scope) → (a, b, s) = d (nth (sB (nth bE 7)) 17) → FuncData) ⟨_, _, _, _, _, _, _⟩ (_ :: _) ⟨_, _, _, _, _⟩ rfl
  exact fun a b s _ => ⟨(.ofString "encrypt"), (.ofString "AES.encrypt"), a, .stmts b, s, 0, [], .none, .none, .none, .none, none, .none, .none, 0⟩
noncomputable def o101 : O := fun P => ⟨.none, none, (.func f100), #[]⟩
noncomputable def o102 : O := fun P => ⟨(.type "code"), none, (.fields #[(.str (.ofString "encrypt") 3883), (.str (.ofString "AES.encrypt") 3884), (.str (.ofString "/claim/cut.py") 3885), (.int 73 0), (.int 2 0), (.int 0 0), (.int 0 0), (.int 3 0), (.ref 104), (.bool true), (.int 181 0), (.ref 105), .none, .none, .none, (.ref 106), (.int 3886 0), (.int 73 0), (.str (.ofString "/claim/cut.py") 3887)]), #[]⟩
noncomputable def f103 : FuncData := by
  refine (?g : (a : Arguments) → (b : List Stmt) → (s : Scope) → (a, b, s) = d (nth (sB (nth bE 7)) 17) → FuncData) ⟨_, _, _, _, _, _, _⟩ (_ :: _) ⟨_, _, _, _, _⟩ rfl
  exact fun a b s _ => ⟨(.ofString "encrypt"), (.ofString "AES.encrypt"), a, .stmts b, s, 3, [], .none, .none, .none, (.str (.ofString "pyaes.aes") 194), none, (.ref 107), .none, 0⟩
noncomputable def o104 : O := fun P => ⟨(.type "function"), none, (.func f103), #[]⟩
noncomputable def f105 : FuncData := by
  refine (?g : (a : Arguments) → (b : List Stmt) → (s : Scope) → (a, b, s) = d (nth (sB (nth bE 7)) 18) → FuncData) ⟨_, _, _, _, _, _, _⟩ (_ :: _) ⟨_, _, _, _, _⟩ rfl
  exact fun a b s _ => ⟨(.ofString "decrypt"), (.ofString "AES.decrypt"), a, .stmts b, s, 0, [], .none, .none, .none, .none, none, .none, .none, 0⟩
noncomputable def o106 : O := fun P => ⟨.none, none, (.func f105), #[]⟩
noncomputable def o107 : O := fun P => ⟨(.type "code"), none, (.fields #[(.str (.ofString "decrypt") 3889), (.str (.ofString "AES.decrypt") 3890), (.str (.ofString "/claim/cut.py") 3891), (.int 93 0), (.int 2 0), (.int 0 0), (.int 0 0), (.int 3 0), (.ref 109), (.bool true), (.int 181 0), (.ref 110), .none, .none, .none, (.ref 111), (.int 3892 0), (.int 93 0), (.str (.ofString "/claim/cut.py") 3893)]), #[]⟩
noncomputable def f108 : FuncData := by
  refine (?g : (a : Arguments) → (b : List Stmt) → (s : Scope) → (a, b, s) = d (nth (sB (nth bE 7)) 18) → FuncData) ⟨_, _, _, _, _, _, _⟩ (_ :: _) ⟨_, _, _, _, _⟩ rfl
  exact fun a b s _ => ⟨(.ofString "decrypt"), (.ofString "AES.decrypt"), a, .stmts b, s, 3, [], .none, .none, .none, (.str (.ofString "pyaes.aes") 194), none, (.ref 112), .none, 0⟩
noncomputable def o109 : O := fun P => ⟨(.type "function"), none, (.func f108), #[]⟩
noncomputable def t1_9 : Params → BT := fun P => (nd (boot_o_0 P) (nd (boot_o_1 P) (nd (o4 P) (nd (boot_o_7 P) (nd (o0 P) (nd (o19 P) (nd (o52 P) nl nl) (nd (o89 P) nl nl)) (nd (o34 P) (nd (o71 P) nl nl) (nd (o106 P) nl nl))) (nd (o1 P) (nd (o26 P) (nd (o61 P) nl nl) (nd (o99 P) nl nl)) (nd (o42 P) (nd (o80 P) nl nl) nl))) (nd (o0 P) (nd (o8 P) (nd (o1 P) (nd (o57 P) nl nl) (nd (o0 P) nl nl)) (nd (o0 P) (nd (o75 P) nl nl) nl)) (nd (o15 P) (nd (o29 P) (nd (o66 P) nl nl) (nd (o102 P) nl nl)) (nd (o47 P) (nd (o85 P) nl nl) nl)))) (nd (boot_o_5 P) (nd (boot_o_9 P) (nd (o6 P) (nd (o22 P) (nd (o54 P) nl nl) (nd (o93 P) nl nl)) (nd (o37 P) (nd (o73 P) nl nl) (nd (o109 P) nl nl))) (nd (o0 P) (nd (o0 P) (nd (o64 P) nl nl) (nd (o1 P) nl nl)) (nd (o45 P) (nd (o82 P) nl nl) nl))) (nd (o2 P) (nd (o11 P) (nd (o0 P) (nd (o59 P) nl nl) (nd (o96 P) nl nl)) (nd (o39 P) (nd (o78 P) nl nl) nl)) (nd (o0 P) (nd (o31 P) (nd (o68 P) nl nl) (nd (o0 P) nl nl)) (nd (o50 P) (nd (o87 P) nl nl) nl))))) (nd (boot_o_2 P) (nd (boot_o_4 P) (nd (boot_o_8 P) (nd (o1 P) (nd (o20 P) (nd (o53 P) nl nl) (nd (o92 P) nl nl)) (nd (o36 P) (nd (o72 P) nl nl) (nd (o107 P) nl nl))) (nd (o12 P) (nd (o28 P) (nd (o63 P) nl nl) (nd (o0 P) nl nl)) (nd (o44 P) (nd (o81 P) nl nl) nl))) (nd (o35 P) (nd (o9 P) (nd (o23 P) (nd (o58 P) nl nl) (nd (o1 P) nl nl)) (nd (o91 P) (nd (o77 P) nl nl) nl)) (nd (o17 P) (nd (o0 P) (nd (o67 P) nl nl) (nd (o104 P) nl nl)) (nd (o49 P) (nd (o86 P) nl nl) nl)))) (nd (boot_o_6 P) (nd (boot_o_10 P) (nd (o0 P) (nd (o0 P) (nd (o56 P) nl nl) (nd (o94 P) nl nl)) (nd (o90 P) (nd (o74 P) nl nl) nl)) (nd (o14 P) (nd (o1 P) (nd (o65 P) nl nl) (nd (o101 P) nl nl)) (nd (o46 P) (nd (o84 P) nl nl) nl))) (nd (o3 P) (nd (o0 P) (nd (o25 P) (nd (o60 P) nl nl) (nd (o97 P) nl nl)) (nd (o40 P) (nd (o79 P) nl nl) nl)) (nd (o1 P) (nd (o32 P) (nd (o70 P) nl nl) (nd (o1 P) nl nl)) (nd (o51 P) (nd (o88 P) nl nl) nl))))))
noncomputable def C1_9 (w : World) (os : OsState) : SharedT := ⟨t1_9 w.params, 114, { }, .mk [], { }, 3895, os⟩
noncomputable def l1_8 : List Stmt := (b1.drop 15).take 4
theorem g1_p8 (w : World) (os : OsState) : segRunT treeTable PySem.Challenge.pw_yv0002_01 w 11 ann 2 365 (C1_8 w os) (piecesOf l1_8 e1 c1 ⟨31, 4, 31, 6⟩ [fr1 w os, topFrame q0]) = some (.next, C1_9 w os, c1, ⟨93, 4, 111, 21⟩) := by
  rewrite [tST, tTT]; kernel_rfl
noncomputable def o110 : O := fun P => ⟨(.type "dict"), none, (.dict #[k P (.ofString "__name__") 165 (.str (.ofString "pyaes.aes") 194), k P (.ofString "__doc__") 166 .none, k P (.ofString "__package__") 167 .none, k P (.ofString "__loader__") 168 (.builtin "__main__.__loader__#opaque"), k P (.ofString "__spec__") 169 .none, k P (.ofString "__annotations__") 170 (.ref 6), k P (.ofString "__builtins__") 171 (.ref 4), k P (.ofString "__file__") 173 (.str (.ofString "/claim/cut.py") 172), k P (.ofString "__cached__") 174 .none, k P (.ofString "_wall") 193 (.ref 21), k P (.ofString "PADDING_DEFAULT") 197 (.str (.ofString "default") 196), k P (.ofString "_compact_word") 204 (.ref 28), k P (.ofString "_string_to_bytes") 210 (.ref 33), k P (.ofString "_bytes_to_string") 217 (.ref 40), k P (.ofString "_concat_list") 225 (.ref 47), k P (.ofString "AES") 3904 (.ref 116)] 16), #[]⟩
noncomputable def o111 : O := fun P => ⟨(.type "dict"), none, (.dict #[k P (.ofString "__module__") 233 (.str (.ofString "pyaes.aes") 194), k P (.ofString "__qualname__") 235 (.str (.ofString "AES") 234), k P (.ofString "__firstlineno__") 237 (.int 16 236), k P (.ofString "number_of_rounds") 247 (.ref 55), k P (.ofString "rcon") 278 (.ref 56), k P (.ofString "S") 535 (.ref 59), k P (.ofString "Si") 792 (.ref 62), k P (.ofString "T1") 1049 (.ref 65), k P (.ofString "T2") 1306 (.ref 68), k P (.ofString "T3") 1563 (.ref 71), k P (.ofString "T4") 1820 (.ref 74), k P (.ofString "T5") 2077 (.ref 77), k P (.ofString "T6") 2334 (.ref 80), k P (.ofString "T7") 2591 (.ref 83), k P (.ofString "T8") 2848 (.ref 86), k P (.ofString "U1") 3105 (.ref 89), k P (.ofString "U2") 3362 (.ref 92), k P (.ofString "U3") 3619 (.ref 95), k P (.ofString "U4") 3876 (.ref 98), k P (.ofString "__init__") 3882 (.ref 103), k P (.ofString "encrypt") 3888 (.ref 108), k P (.ofString "decrypt") 3894 (.ref 113), k P (.ofString "__static_attributes__") 3897 (.ref 114)] 23), #[]⟩
noncomputable def o112 : O := fun P => ⟨(.type "tuple"), none, (.seq #[(.str (.ofString "_Kd") 3895), (.str (.ofString "_Ke") 3896)] 0), #[]⟩
noncomputable def o113 : O := fun P => ⟨(.type "dict"), none, (.dict #[k P (.ofString "__module__") 233 (.str (.ofString "pyaes.aes") 194), k P (.ofString "__firstlineno__") 237 (.int 16 236), k P (.ofString "number_of_rounds") 247 (.ref 55), k P (.ofString "rcon") 278 (.ref 56), k P (.ofString "S") 535 (.ref 59), k P (.ofString "Si") 792 (.ref 62), k P (.ofString "T1") 1049 (.ref 65), k P (.ofString "T2") 1306 (.ref 68), k P (.ofString "T3") 1563 (.ref 71), k P (.ofString "T4") 1820 (.ref 74), k P (.ofString "T5") 2077 (.ref 77), k P (.ofString "T6") 2334 (.ref 80), k P (.ofString "T7") 2591 (.ref 83), k P (.ofString "T8") 2848 (.ref 86), k P (.ofString "U1") 3105 (.ref 89), k P (.ofString "U2") 3362 (.ref 92), k P (.ofString "U3") 3619 (.ref 95), k P (.ofString "U4") 3876 (.ref 98), k P (.ofString "__init__") 3882 (.ref 103), k P (.ofString "encrypt") 3888 (.ref 108), k P (.ofString "decrypt") 3894 (.ref 113), k P (.ofString "__static_attributes__") 3897 (.ref 114), k P (.ofString "__dict__") 3899 (.ref 117), k P (.ofString "__weakref__") 3901 (.ref 118), k P (.ofString "__doc__") 3902 .none] 4), #[]⟩
noncomputable def o114 : O := fun P => ⟨(.type "type"), none, (.cls ⟨(.ofString "AES"), [(.type "object")], [(.ref 116), (.type "object")], 115, (.ofString "AES"), true, [], [], false, none, false⟩), #[(some (.ref 48)), none, (some (.str (.ofString "AES") 226)), (some (.str (.ofString "AES") 234)), (some (.builtin "object.__new__")), (some (.bool true))]⟩
noncomputable def o115 : O := fun P => ⟨(.type "getset_descriptor"), none, (.fields #[(.str (.ofString "__dict__") 3898), (.ref 116), (.builtin "function.__dict__"), (.builtin "function.__dict__#set")]), #[]⟩
noncomputable def o116 : O := fun P => ⟨(.type "getset_descriptor"), none, (.fields #[(.str (.ofString "__weakref__") 3900), (.ref 116), (.builtin "ExceptionGroup.__weakref__"), .none]), #[]⟩
noncomputable def o117 : O := fun P => ⟨(.type "super"), none, (.fields #[(.ref 116), (.ref 116), (.ref 116)]), #[]⟩
noncomputable def o118 : O := fun P => ⟨(.type "builtin_function_or_method"), none, (.fields #[(.builtin "object.__init_subclass__"), (.ref 116)]), #[]⟩
noncomputable def t2 : Params → BT := fun P => (nd (boot_o_0 P) (nd (boot_o_1 P) (nd (o110 P) (nd (boot_o_7 P) (nd (o0 P) (nd (o19 P) (nd (o52 P) nl nl) (nd (o89 P) nl nl)) (nd (o34 P) (nd (o71 P) nl nl) (nd (o106 P) nl nl))) (nd (o1 P) (nd (o26 P) (nd (o61 P) nl nl) (nd (o99 P) nl nl)) (nd (o42 P) (nd (o80 P) nl nl) (nd (o117 P) nl nl)))) (nd (o0 P) (nd (o8 P) (nd (o1 P) (nd (o57 P) nl nl) (nd (o0 P) nl nl)) (nd (o0 P) (nd (o75 P) nl nl) (nd (o113 P) nl nl))) (nd (o15 P) (nd (o29 P) (nd (o66 P) nl nl) (nd (o102 P) nl nl)) (nd (o47 P) (nd (o85 P) nl nl) nl)))) (nd (boot_o_5 P) (nd (boot_o_9 P) (nd (o6 P) (nd (o22 P) (nd (o54 P) nl nl) (nd (o93 P) nl nl)) (nd (o37 P) (nd (o73 P) nl nl) (nd (o109 P) nl nl))) (nd (o0 P) (nd (o0 P) (nd (o64 P) nl nl) (nd (o1 P) nl nl)) (nd (o45 P) (nd (o82 P) nl nl) nl))) (nd (o2 P) (nd (o11 P) (nd (o0 P) (nd (o59 P) nl nl) (nd (o96 P) nl nl)) (nd (o39 P) (nd (o78 P) nl nl) (nd (o115 P) nl nl))) (nd (o0 P) (nd (o31 P) (nd (o68 P) nl nl) (nd (o0 P) nl nl)) (nd (o50 P) (nd (o87 P) nl nl) nl))))) (nd (boot_o_2 P) (nd (boot_o_4 P) (nd (boot_o_8 P) (nd (o1 P) (nd (o20 P) (nd (o53 P) nl nl) (nd (o92 P) nl nl)) (nd (o36 P) (nd (o72 P) nl nl) (nd (o107 P) nl nl))) (nd (o12 P) (nd (o28 P) (nd (o63 P) nl nl) (nd (o0 P) nl nl)) (nd (o44 P) (nd (o81 P) nl nl) (nd (o118 P) nl nl)))) (nd (o35 P) (nd (o9 P) (nd (o23 P) (nd (o58 P) nl nl) (nd (o1 P) nl nl)) (nd (o91 P) (nd (o77 P) nl nl) (nd (o114 P) nl nl))) (nd (o17 P) (nd (o0 P) (nd (o67 P) nl nl) (nd (o104 P) nl nl)) (nd (o49 P) (nd (o86 P) nl nl) nl)))) (nd (boot_o_6 P) (nd (boot_o_10 P) (nd (o0 P) (nd (o0 P) (nd (o56 P) nl nl) (nd (o94 P) nl nl)) (nd (o111 P) (nd (o74 P) nl nl) (nd (o112 P) nl nl))) (nd (o14 P) (nd (o1 P) (nd (o65 P) nl nl) (nd (o101 P) nl nl)) (nd (o46 P) (nd (o84 P) nl nl) nl))) (nd (o3 P) (nd (o0 P) (nd (o25 P) (nd (o60 P) nl nl) (nd (o97 P) nl nl)) (nd (o40 P) (nd (o79 P) nl nl) (nd (o116 P) nl nl))) (nd (o1 P) (nd (o32 P) (nd (o70 P) nl nl) (nd (o1 P) nl nl)) (nd (o51 P) (nd (o88 P) nl nl) nl))))))
noncomputable def S2 (w : World) (os : OsState) : SharedT := ⟨t2 w.params, 121, { }, .mk [], { }, 3905, os⟩
theorem g1_f (w : World) (os : OsState) : segRunT treeTable PySem.Challenge.pw_yv0002_01 w 11 ann 1 153 (C1_9 w os) ⟨doneF .next, c1, ⟨93, 4, 111, 21⟩, [fr1 w os, topFrame q0]⟩ = some (.next, S2 w os, cE, ⟨16, 0, 111, 21⟩) := by
  rewrite [tST, tTT]; kernel_rfl
theorem l1_eq : b1 = l1_0 ++ (l1_1 ++ (l1_2 ++ (l1_3 ++ (l1_4 ++ (l1_5 ++ (l1_6 ++ (l1_7 ++ (l1_8 ++ [])))))))) := by
  kernel_rfl
theorem g1 (w : World) (os : OsState) : segRun treeTable PySem.Challenge.pw_yv0002_01 w 11 ann 1 (62 + (1 + (51 + (325 + (567 + (567 + (567 + (567 + (567 + (567 + (365 + 153))))))))))) (S1 w os).abs (piecesOf s1 env cE ⟨14, 0, 15, 23⟩ [topFrame q0]) = some (.next, (S2 w os).abs, cE, ⟨16, 0, 111, 21⟩) := by
  refine seg_go (segGo_of (g1_0 w os)) ?_
  refine in_block (g1_B w os) (Nat.lt_succ_self 1) (segRun_of (g1_1 w os)) ?_
  refine (congrArg (fun b => segRun treeTable PySem.Challenge.pw_yv0002_01 w 11 ann 1 _ (C1_0 w os).abs (restOf b e1 c1 ⟨16, 0, 111, 21⟩ [fr1 w os, topFrame q0]) = some _) l1_eq).mpr ?_
  refine in_app (g1_B w os) (Nat.lt_succ_self 1) (segRun_of (g1_p0 w os)) ?_
  refine in_app (g1_B w os) (Nat.lt_succ_self 1) (segRun_of (g1_p1 w os)) ?_
  refine in_app (g1_B w os) (Nat.lt_succ_self 1) (segRun_of (g1_p2 w os)) ?_
  refine in_app (g1_B w os) (Nat.lt_succ_self 1) (segRun_of (g1_p3 w os)) ?_
  refine in_app (g1_B w os) (Nat.lt_succ_self 1) (segRun_of (g1_p4 w os)) ?_
  refine in_app (g1_B w os) (Nat.lt_succ_self 1) (segRun_of (g1_p5 w os)) ?_
  refine in_app (g1_B w os) (Nat.lt_succ_self 1) (segRun_of (g1_p6 w os)) ?_
  refine in_app (g1_B w os) (Nat.lt_succ_self 1) (segRun_of (g1_p7 w os)) ?_
  refine in_app (g1_B w os) (Nat.lt_succ_self 1) (segRun_of (g1_p8 w os)) ?_
  exact segRun_of (g1_f w os)
noncomputable def o119 : O := fun P => ⟨(.type "dict"), none, (.dict #[k P (.ofString "__name__") 165 (.str (.ofString "pyaes.aes") 194), k P (.ofString "__doc__") 166 .none, k P (.ofString "__package__") 167 .none, k P (.ofString "__loader__") 168 (.builtin "__main__.__loader__#opaque"), k P (.ofString "__spec__") 169 .none, k P (.ofString "__annotations__") 170 (.ref 6), k P (.ofString "__builtins__") 171 (.ref 4), k P (.ofString "__file__") 173 (.str (.ofString "/claim/cut.py") 172), k P (.ofString "__cached__") 174 .none, k P (.ofString "_wall") 193 (.ref 21), k P (.ofString "PADDING_DEFAULT") 197 (.str (.ofString "default") 196), k P (.ofString "_compact_word") 204 (.ref 28), k P (.ofString "_string_to_bytes") 210 (.ref 33), k P (.ofString "_bytes_to_string") 217 (.ref 40), k P (.ofString "_concat_list") 225 (.ref 47), k P (.ofString "AES") 3904 (.ref 116), k P (.ofString "Counter") 3948 (.ref 151), k P (.ofString "AESBlockModeOfOperation") 4019 (.ref 209), k P (.ofString "AESStreamModeOfOperation") 4061 (.ref 246), k P (.ofString "AESSegmentModeOfOperation") 4105 (.ref 281)] 20), #[]⟩
noncomputable def o120 : O := fun P => ⟨.none, none, (.fields #[(.int 1 0), (.int 0 0), (.ref 20), (.int 6 0), (.int 0 0), (.ref 27), (.int 8 0), (.int 0 0), (.ref 32), (.int 12 0), (.int 0 0), (.ref 39), (.int 14 0), (.int 0 0), (.ref 46), (.int 16 0), (.int 0 0), (.ref 53), (.int 112 0), (.int 0 0), (.ref 126), (.int 126 0), (.int 0 0), (.ref 161), (.int 145 0), (.int 0 0), (.ref 219), (.int 155 0), (.int 0 0), (.ref 254)]), #[]⟩
noncomputable def o121 : O := fun P => ⟨(.type "dict"), none, (.dict #[k P (.ofString "__module__") 3912 (.str (.ofString "pyaes.aes") 194), k P (.ofString "__qualname__") 3914 (.str (.ofString "Counter") 3913), k P (.ofString "__firstlineno__") 3916 (.int 112 3915), k P (.ofString "__init__") 3923 (.ref 133), k P (.ofString "value") 3931 (.ref 141), k P (.ofString "increment") 3939 (.ref 148), k P (.ofString "__static_attributes__") 3941 (.ref 149)] 7), #[]⟩
noncomputable def o122 : O := fun P => ⟨.none, none, (.fields #[(.int 114 0), (.int 4 0), (.ref 132), (.int 116 0), (.int 21 0), (.ref 139), (.int 118 0), (.int 4 0), (.ref 147)]), #[]⟩
noncomputable def o123 : O := fun P => ⟨(.type "code"), none, (.fields #[(.str (.ofString "Counter") 3907), (.str (.ofString "Counter") 3908), (.str (.ofString "/claim/cut.py") 3909), (.int 112 0), (.int 0 0), (.int 0 0), (.int 0 0), (.int 0 0), (.ref 124), (.bool false), (.int 181 0), (.ref 125), .none, .none, .none, .none, (.int 3910 0), (.int 112 0), (.str (.ofString "/claim/cut.py") 3911)]), #[]⟩
noncomputable def o124 : O := fun P => ⟨(.type "frame"), none, .plain, #[(some (.ref 126)), (some (.ref 3)), (some (.ref 123)), none, (some (.str (.ofString "pyaes.aes") 194)), none, (some (.ref 0))]⟩
noncomputable def o125 : O := fun P => ⟨(.type "tuple"), none, (.seq #[(.int 1 3917)] 0), #[]⟩
noncomputable def f126 : FuncData := by
  refine (?g : (a : Arguments) → (b : List Stmt) → (s : Scope) → (a, b, s) = d (nth (sB (nth bE 8)) 0) → FuncData) ⟨_, _, _, _, _, _, _⟩ (_ :: _) ⟨_, _, _, _, _⟩ rfl
  exact fun a b s _ => ⟨(.ofString "__init__"), (.ofString "Counter.__init__"), a, .stmts b, s, 0, [], .none, .none, .none, .none, none, .none, .none, 0⟩
noncomputable def o127 : O := fun P => ⟨.none, none, (.func f126), #[]⟩
noncomputable def o128 : O := fun P => ⟨(.type "code"), none, (.fields #[(.str (.ofString "__init__") 3918), (.str (.ofString "Counter.__init__") 3919), (.str (.ofString "/claim/cut.py") 3920), (.int 114 0), (.int 2 0), (.int 0 0), (.int 0 0), (.int 3 0), (.ref 129), (.bool true), (.int 181 0), (.ref 130), .none, .none, .none, (.ref 131), (.int 3921 0), (.int 114 0), (.str (.ofString "/claim/cut.py") 3922)]), #[]⟩
noncomputable def f129 : FuncData := by
  refine (?g : (a : Arguments) → (b : List Stmt) → (s : Scope) → (a, b, s) = d (nth (sB (nth bE 8)) 0) → FuncData) ⟨_, _, _, _, _, _, _⟩ (_ :: _) ⟨_, _, _, _, _⟩ rfl
  exact fun a b s _ => ⟨(.ofString "__init__"), (.ofString "Counter.__init__"), a, .stmts b, s, 3, [], (.ref 128), .none, .none, (.str (.ofString "pyaes.aes") 194), none, (.ref 132), .none, 0⟩
noncomputable def o130 : O := fun P => ⟨(.type "function"), none, (.func f129), #[]⟩
noncomputable def o131 : O := fun P => ⟨(.type "tuple"), none, (.seq #[(.str (.ofString "s") 3927)] 0), #[]⟩
noncomputable def f132 : FuncData := by
  refine (?g : (a : Arguments) → (b : PySem.Expr) → (s : Scope) → (a, b, s) = m (nth (sB (nth bE 8)) 1) → FuncData) ⟨_, _, _, _, _, _, _⟩ (.Attribute _ _ _) ⟨_, _, _, _, _⟩ rfl
  exact fun a b s _ => ⟨(.ofString "<lambda>"), (.ofString "Counter.<lambda>"), a, .expr b, s, 0, [], .none, .none, .none, .none, none, .none, .none, 0⟩
noncomputable def o133 : O := fun P => ⟨.none, none, (.func f132), #[]⟩
noncomputable def o134 : O := fun P => ⟨(.type "code"), none, (.fields #[(.str (.ofString "<lambda>") 3924), (.str (.ofString "Counter.<lambda>") 3925), (.str (.ofString "/claim/cut.py") 3926), (.int 116 0), (.int 1 0), (.int 0 0), (.int 0 0), (.int 3 0), (.ref 134), (.bool true), (.int 181 0), (.ref 135), .none, (.ref 136), (.ref 137), (.ref 138), (.int 3928 0), (.int 116 0), (.str (.ofString "/claim/cut.py") 3929)]), #[]⟩
noncomputable def f135 : FuncData := by
  refine (?g : (a : Arguments) → (b : PySem.Expr) → (s : Scope) → (a, b, s) = m (nth (sB (nth bE 8)) 1) → FuncData) ⟨_, _, _, _, _, _, _⟩ (.Attribute _ _ _) ⟨_, _, _, _, _⟩ rfl
  exact fun a b s _ => ⟨(.ofString "<lambda>"), (.ofString "Counter.<lambda>"), a, .expr b, s, 3, [], .none, .none, .none, (.str (.ofString "pyaes.aes") 194), none, (.ref 139), .none, 0⟩
noncomputable def o136 : O := fun P => ⟨(.type "function"), none, (.func f135), #[]⟩
noncomputable def o137 : O := fun P => ⟨(.type "property"), none, (.fields #[(.ref 140), .none, .none, .none, (.str (.ofString "value") 3931), (.bool false)]), #[]⟩
noncomputable def o138 : O := fun P => ⟨(.type "tuple"), none, (.seq #[(.str (.ofString "self") 3935), (.str (.ofString "i") 3936)] 0), #[]⟩
noncomputable def f139 : FuncData := by
  refine (?g : (a : Arguments) → (b : List Stmt) → (s : Scope) → (a, b, s) = d (nth (sB (nth bE 8)) 2) → FuncData) ⟨_, _, _, _, _, _, _⟩ (_ :: _) ⟨_, _, _, _, _⟩ rfl
  exact fun a b s _ => ⟨(.ofString "increment"), (.ofString "Counter.increment"), a, .stmts b, s, 0, [], .none, .none, .none, .none, none, .none, .none, 0⟩
noncomputable def o140 : O := fun P => ⟨.none, none, (.func f139), #[]⟩
noncomputable def o141 : O := fun P => ⟨(.type "code"), none, (.fields #[(.str (.ofString "increment") 3932), (.str (.ofString "Counter.increment") 3933), (.str (.ofString "/claim/cut.py") 3934), (.int 118 0), (.int 1 0), (.int 0 0), (.int 0 0), (.int 3 0), (.ref 142), (.bool true), (.int 181 0), (.ref 143), .none, (.ref 144), (.ref 145), (.ref 146), (.int 3937 0), (.int 118 0), (.str (.ofString "/claim/cut.py") 3938)]), #[]⟩
noncomputable def f142 : FuncData := by
  refine (?g : (a : Arguments) → (b : List Stmt) → (s : Scope) → (a, b, s) = d (nth (sB (nth bE 8)) 2) → FuncData) ⟨_, _, _, _, _, _, _⟩ (_ :: _) ⟨_, _, _, _, _⟩ rfl
  exact fun a b s _ => ⟨(.ofString "increment"), (.ofString "Counter.increment"), a, .stmts b, s, 3, [], .none, .none, .none, (.str (.ofString "pyaes.aes") 194), none, (.ref 147), .none, 0⟩
noncomputable def o143 : O := fun P => ⟨(.type "function"), none, (.func f142), #[]⟩
noncomputable def o144 : O := fun P => ⟨(.type "tuple"), none, (.seq #[(.str (.ofString "_counter") 3940)] 0), #[]⟩
noncomputable def o145 : O := fun P => ⟨(.type "dict"), none, (.dict #[k P (.ofString "__module__") 3912 (.str (.ofString "pyaes.aes") 194), k P (.ofString "__firstlineno__") 3916 (.int 112 3915), k P (.ofString "__init__") 3923 (.ref 133), k P (.ofString "value") 3931 (.ref 141), k P (.ofString "increment") 3939 (.ref 148), k P (.ofString "__static_attributes__") 3941 (.ref 149), k P (.ofString "__dict__") 3943 (.ref 152), k P (.ofString "__weakref__") 3945 (.ref 153), k P (.ofString "__doc__") 3946 .none] 4), #[]⟩
noncomputable def o146 : O := fun P => ⟨(.type "type"), none, (.cls ⟨(.ofString "Counter"), [(.type "object")], [(.ref 151), (.type "object")], 150, (.ofString "Counter"), true, [], [], false, none, false⟩), #[(some (.ref 121)), none, (some (.str (.ofString "Counter") 3905)), (some (.str (.ofString "Counter") 3913)), (some (.builtin "object.__new__")), (some (.bool true))]⟩
noncomputable def o147 : O := fun P => ⟨(.type "getset_descriptor"), none, (.fields #[(.str (.ofString "__dict__") 3942), (.ref 151), (.builtin "function.__dict__"), (.builtin "function.__dict__#set")]), #[]⟩
noncomputable def o148 : O := fun P => ⟨(.type "getset_descriptor"), none, (.fields #[(.str (.ofString "__weakref__") 3944), (.ref 151), (.builtin "ExceptionGroup.__weakref__"), .none]), #[]⟩
noncomputable def o149 : O := fun P => ⟨(.type "super"), none, (.fields #[(.ref 151), (.ref 151), (.ref 151)]), #[]⟩
noncomputable def o150 : O := fun P => ⟨(.type "builtin_function_or_method"), none, (.fields #[(.builtin "object.__init_subclass__"), (.ref 151)]), #[]⟩
noncomputable def o151 : O := fun P => ⟨(.type "dict"), none, (.dict #[k P (.ofString "__module__") 3956 (.str (.ofString "pyaes.aes") 194), k P (.ofString "__qualname__") 3958 (.str (.ofString "AESBlockModeOfOperation") 3957), k P (.ofString "__firstlineno__") 3960 (.int 126 3959), k P (.ofString "__init__") 3968 (.ref 169), k P (.ofString "decrypt") 3976 (.ref 176), k P (.ofString "encrypt") 3984 (.ref 183), k P (.ofString "_can_consume") 3992 (.ref 190), k P (.ofString "_final_encrypt") 4001 (.ref 198), k P (.ofString "_final_decrypt") 4010 (.ref 206), k P (.ofString "__static_attributes__") 4012 (.ref 207)] 10), #[]⟩
noncomputable def o152 : O := fun P => ⟨.none, none, (.fields #[(.int 128 0), (.int 4 0), (.ref 168), (.int 131 0), (.int 4 0), (.ref 175), (.int 134 0), (.int 4 0), (.ref 182), (.int 137 0), (.int 4 0), (.ref 189), (.int 140 0), (.int 4 0), (.ref 197), (.int 143 0), (.int 4 0), (.ref 205)]), #[]⟩
noncomputable def o153 : O := fun P => ⟨(.type "code"), none, (.fields #[(.str (.ofString "AESBlockModeOfOperation") 3951), (.str (.ofString "AESBlockModeOfOperation") 3952), (.str (.ofString "/claim/cut.py") 3953), (.int 126 0), (.int 0 0), (.int 0 0), (.int 0 0), (.int 0 0), (.ref 159), (.bool false), (.int 181 0), (.ref 160), .none, .none, .none, .none, (.int 3954 0), (.int 126 0), (.str (.ofString "/claim/cut.py") 3955)]), #[]⟩
noncomputable def o154 : O := fun P => ⟨(.type "frame"), none, .plain, #[(some (.ref 161)), (some (.ref 3)), (some (.ref 158)), none, (some (.str (.ofString "pyaes.aes") 194)), none, (some (.ref 0))]⟩
noncomputable def o155 : O := fun P => ⟨(.type "tuple"), none, (.seq #[(.str (.ofString "self") 3964), (.str (.ofString "key") 3965)] 0), #[]⟩
noncomputable def f156 : FuncData := by
  refine (?g : (a : Arguments) → (b : List Stmt) → (s : Scope) → (a, b, s) = d (nth (sB (nth bE 9)) 0) → FuncData) ⟨_, _, _, _, _, _, _⟩ (_ :: _) ⟨_, _, _, _, _⟩ rfl
  exact fun a b s _ => ⟨(.ofString "__init__"), (.ofString "AESBlockModeOfOperation.__init__"), a, .stmts b, s, 0, [], .none, .none, .none, .none, none, .none, .none, 0⟩
noncomputable def o157 : O := fun P => ⟨.none, none, (.func f156), #[]⟩
noncomputable def o158 : O := fun P => ⟨(.type "code"), none, (.fields #[(.str (.ofString "__init__") 3961), (.str (.ofString "AESBlockModeOfOperation.__init__") 3962), (.str (.ofString "/claim/cut.py") 3963), (.int 128 0), (.int 2 0), (.int 0 0), (.int 0 0), (.int 3 0), (.ref 163), (.bool true), (.int 181 0), (.ref 164), .none, (.ref 165), (.ref 166), (.ref 167), (.int 3966 0), (.int 128 0), (.str (.ofString "/claim/cut.py") 3967)]), #[]⟩
noncomputable def f159 : FuncData := by
  refine (?g : (a : Arguments) → (b : List Stmt) → (s : Scope) → (a, b, s) = d (nth (sB (nth bE 9)) 0) → FuncData) ⟨_, _, _, _, _, _, _⟩ (_ :: _) ⟨_, _, _, _, _⟩ rfl
  exact fun a b s _ => ⟨(.ofString "__init__"), (.ofString "AESBlockModeOfOperation.__init__"), a, .stmts b, s, 3, [], .none, .none, .none, (.str (.ofString "pyaes.aes") 194), none, (.ref 168), .none, 0⟩
noncomputable def o160 : O := fun P => ⟨(.type "function"), none, (.func f159), #[]⟩
noncomputable def o161 : O := fun P => ⟨(.type "tuple"), none, (.seq #[(.str (.ofString "self") 3972), (.str (.ofString "ciphertext") 3973)] 0), #[]⟩
noncomputable def f162 : FuncData := by
  refine (?g : (a : Arguments) → (b : List Stmt) → (s : Scope) → (a, b, s) = d (nth (sB (nth bE 9)) 1) → FuncData) ⟨_, _, _, _, _, _, _⟩ (_ :: _) ⟨_, _, _, _, _⟩ rfl
  exact fun a b s _ => ⟨(.ofString "decrypt"), (.ofString "AESBlockModeOfOperation.decrypt"), a, .stmts b, s, 0, [], .none, .none, .none, .none, none, .none, .none, 0⟩
noncomputable def o163 : O := fun P => ⟨.none, none, (.func f162), #[]⟩
noncomputable def o164 : O := fun P => ⟨(.type "code"), none, (.fields #[(.str (.ofString "decrypt") 3969), (.str (.ofString "AESBlockModeOfOperation.decrypt") 3970), (.str (.ofString "/claim/cut.py") 3971), (.int 131 0), (.int 2 0), (.int 0 0), (.int 0 0), (.int 3 0), (.ref 170), (.bool true), (.int 181 0), (.ref 171), .none, (.ref 172), (.ref 173), (.ref 174), (.int 3974 0), (.int 131 0), (.str (.ofString "/claim/cut.py") 3975)]), #[]⟩
noncomputable def f165 : FuncData := by
  refine (?g : (a : Arguments) → (b : List Stmt) → (s : Scope) → (a, b, s) = d (nth (sB (nth bE 9)) 1) → FuncData) ⟨_, _, _, _, _, _, _⟩ (_ :: _) ⟨_, _, _, _, _⟩ rfl
  exact fun a b s _ => ⟨(.ofString "decrypt"), (.ofString "AESBlockModeOfOperation.decrypt"), a, .stmts b, s, 3, [], .none, .none, .none, (.str (.ofString "pyaes.aes") 194), none, (.ref 175), .none, 0⟩
noncomputable def o166 : O := fun P => ⟨(.type "function"), none, (.func f165), #[]⟩
noncomputable def o167 : O := fun P => ⟨(.type "tuple"), none, (.seq #[(.str (.ofString "self") 3980), (.str (.ofString "plaintext") 3981)] 0), #[]⟩
noncomputable def f168 : FuncData := by
  refine (?g : (a : Arguments) → (b : List Stmt) → (s : Scope) → (a, b, s) = d (nth (sB (nth bE 9)) 2) → FuncData) ⟨_, _, _, _, _, _, _⟩ (_ :: _) ⟨_, _, _, _, _⟩ rfl
  exact fun a b s _ => ⟨(.ofString "encrypt"), (.ofString "AESBlockModeOfOperation.encrypt"), a, .stmts b, s, 0, [], .none, .none, .none, .none, none, .none, .none, 0⟩
noncomputable def o169 : O := fun P => ⟨.none, none, (.func f168), #[]⟩
noncomputable def o170 : O := fun P => ⟨(.type "code"), none, (.fields #[(.str (.ofString "encrypt") 3977), (.str (.ofString "AESBlockModeOfOperation.encrypt") 3978), (.str (.ofString "/claim/cut.py") 3979), (.int 134 0), (.int 2 0), (.int 0 0), (.int 0 0), (.int 3 0), (.ref 177), (.bool true), (.int 181 0), (.ref 178), .none, (.ref 179), (.ref 180), (.ref 181), (.int 3982 0), (.int 134 0), (.str (.ofString "/claim/cut.py") 3983)]), #[]⟩
noncomputable def f171 : FuncData := by
  refine (?g : (a : Arguments) → (b : List Stmt) → (s : Scope) → (a, b, s) = d (nth (sB (nth bE 9)) 2) → FuncData) ⟨_, _, _, _, _, _, _⟩ (_ :: _) ⟨_, _, _, _, _⟩ rfl
  exact fun a b s _ => ⟨(.ofString "encrypt"), (.ofString "AESBlockModeOfOperation.encrypt"), a, .stmts b, s, 3, [], .none, .none, .none, (.str (.ofString "pyaes.aes") 194), none, (.ref 182), .none, 0⟩
noncomputable def o172 : O := fun P => ⟨(.type "function"), none, (.func f171), #[]⟩
noncomputable def o173 : O := fun P => ⟨(.type "tuple"), none, (.seq #[(.str (.ofString "self") 3988), (.str (.ofString "size") 3989)] 0), #[]⟩
noncomputable def f174 : FuncData := by
  refine (?g : (a : Arguments) → (b : List Stmt) → (s : Scope) → (a, b, s) = d (nth (sB (nth bE 9)) 3) → FuncData) ⟨_, _, _, _, _, _, _⟩ (_ :: _) ⟨_, _, _, _, _⟩ rfl
  exact fun a b s _ => ⟨(.ofString "_can_consume"), (.ofString "AESBlockModeOfOperation._can_consume"), a, .stmts b, s, 0, [], .none, .none, .none, .none, none, .none, .none, 0⟩
noncomputable def o175 : O := fun P => ⟨.none, none, (.func f174), #[]⟩
noncomputable def o176 : O := fun P => ⟨(.type "code"), none, (.fields #[(.str (.ofString "_can_consume") 3985), (.str (.ofString "AESBlockModeOfOperation._can_consume") 3986), (.str (.ofString "/claim/cut.py") 3987), (.int 137 0), (.int 2 0), (.int 0 0), (.int 0 0), (.int 3 0), (.ref 184), (.bool true), (.int 181 0), (.ref 185), .none, (.ref 186), (.ref 187), (.ref 188), (.int 3990 0), (.int 137 0), (.str (.ofString "/claim/cut.py") 3991)]), #[]⟩
noncomputable def f177 : FuncData := by
  refine (?g : (a : Arguments) → (b : List Stmt) → (s : Scope) → (a, b, s) = d (nth (sB (nth bE 9)) 3) → FuncData) ⟨_, _, _, _, _, _, _⟩ (_ :: _) ⟨_, _, _, _, _⟩ rfl
  exact fun a b s _ => ⟨(.ofString "_can_consume"), (.ofString "AESBlockModeOfOperation._can_consume"), a, .stmts b, s, 3, [], .none, .none, .none, (.str (.ofString "pyaes.aes") 194), none, (.ref 189), .none, 0⟩
noncomputable def o178 : O := fun P => ⟨(.type "function"), none, (.func f177), #[]⟩
noncomputable def o179 : O := fun P => ⟨(.type "tuple"), none, (.seq #[(.str (.ofString "default") 196)] 0), #[]⟩
noncomputable def o180 : O := fun P => ⟨(.type "tuple"), none, (.seq #[(.str (.ofString "self") 3996), (.str (.ofString "data") 3997), (.str (.ofString "padding") 3998)] 0), #[]⟩
noncomputable def f181 : FuncData := by
  refine (?g : (a : Arguments) → (b : List Stmt) → (s : Scope) → (a, b, s) = d (nth (sB (nth bE 9)) 4) → FuncData) ⟨_, _, _, _, _, _, _⟩ (_ :: _) ⟨_, _, _, _, _⟩ rfl
  exact fun a b s _ => ⟨(.ofString "_final_encrypt"), (.ofString "AESBlockModeOfOperation._final_encrypt"), a, .stmts b, s, 0, [], .none, .none, .none, .none, none, .none, .none, 0⟩
noncomputable def o182 : O := fun P => ⟨.none, none, (.func f181), #[]⟩
noncomputable def o183 : O := fun P => ⟨(.type "code"), none, (.fields #[(.str (.ofString "_final_encrypt") 3993), (.str (.ofString "AESBlockModeOfOperation._final_encrypt") 3994), (.str (.ofString "/claim/cut.py") 3995), (.int 140 0), (.int 3 0), (.int 0 0), (.int 0 0), (.int 3 0), (.ref 192), (.bool true), (.int 181 0), (.ref 193), .none, (.ref 194), (.ref 195), (.ref 196), (.int 3999 0), (.int 140 0), (.str (.ofString "/claim/cut.py") 4000)]), #[]⟩
noncomputable def f184 : FuncData := by
  refine (?g : (a : Arguments) → (b : List Stmt) → (s : Scope) → (a, b, s) = d (nth (sB (nth bE 9)) 4) → FuncData) ⟨_, _, _, _, _, _, _⟩ (_ :: _) ⟨_, _, _, _, _⟩ rfl
  exact fun a b s _ => ⟨(.ofString "_final_encrypt"), (.ofString "AESBlockModeOfOperation._final_encrypt"), a, .stmts b, s, 3, [], (.ref 191), .none, .none, (.str (.ofString "pyaes.aes") 194), none, (.ref 197), .none, 0⟩
noncomputable def o185 : O := fun P => ⟨(.type "function"), none, (.func f184), #[]⟩
noncomputable def o186 : O := fun P => ⟨(.type "tuple"), none, (.seq #[(.str (.ofString "self") 4005), (.str (.ofString "data") 4006), (.str (.ofString "padding") 4007)] 0), #[]⟩
noncomputable def f187 : FuncData := by
  refine (?g : (a : Arguments) → (b : List Stmt) → (s : Scope) → (a, b, s) = d (nth (sB (nth bE 9)) 5) → FuncData) ⟨_, _, _, _, _, _, _⟩ (_ :: _) ⟨_, _, _, _, _⟩ rfl
  exact fun a b s _ => ⟨(.ofString "_final_decrypt"), (.ofString "AESBlockModeOfOperation._final_decrypt"), a, .stmts b, s, 0, [], .none, .none, .none, .none, none, .none, .none, 0⟩
noncomputable def o188 : O := fun P => ⟨.none, none, (.func f187), #[]⟩
noncomputable def o189 : O := fun P => ⟨(.type "code"), none, (.fields #[(.str (.ofString "_final_decrypt") 4002), (.str (.ofString "AESBlockModeOfOperation._final_decrypt") 4003), (.str (.ofString "/claim/cut.py") 4004), (.int 143 0), (.int 3 0), (.int 0 0), (.int 0 0), (.int 3 0), (.ref 200), (.bool true), (.int 181 0), (.ref 201), .none, (.ref 202), (.ref 203), (.ref 204), (.int 4008 0), (.int 143 0), (.str (.ofString "/claim/cut.py") 4009)]), #[]⟩
noncomputable def f190 : FuncData := by
  refine (?g : (a : Arguments) → (b : List Stmt) → (s : Scope) → (a, b, s) = d (nth (sB (nth bE 9)) 5) → FuncData) ⟨_, _, _, _, _, _, _⟩ (_ :: _) ⟨_, _, _, _, _⟩ rfl
  exact fun a b s _ => ⟨(.ofString "_final_decrypt"), (.ofString "AESBlockModeOfOperation._final_decrypt"), a, .stmts b, s, 3, [], (.ref 199), .none, .none, (.str (.ofString "pyaes.aes") 194), none, (.ref 205), .none, 0⟩
noncomputable def o191 : O := fun P => ⟨(.type "function"), none, (.func f190), #[]⟩
noncomputable def o192 : O := fun P => ⟨(.type "tuple"), none, (.seq #[(.str (.ofString "_aes") 4011)] 0), #[]⟩
noncomputable def o193 : O := fun P => ⟨(.type "dict"), none, (.dict #[k P (.ofString "__module__") 3956 (.str (.ofString "pyaes.aes") 194), k P (.ofString "__firstlineno__") 3960 (.int 126 3959), k P (.ofString "__init__") 3968 (.ref 169), k P (.ofString "decrypt") 3976 (.ref 176), k P (.ofString "encrypt") 3984 (.ref 183), k P (.ofString "_can_consume") 3992 (.ref 190), k P (.ofString "_final_encrypt") 4001 (.ref 198), k P (.ofString "_final_decrypt") 4010 (.ref 206), k P (.ofString "__static_attributes__") 4012 (.ref 207), k P (.ofString "__dict__") 4014 (.ref 210), k P (.ofString "__weakref__") 4016 (.ref 211), k P (.ofString "__doc__") 4017 .none] 4), #[]⟩
noncomputable def o194 : O := fun P => ⟨(.type "type"), none, (.cls ⟨(.ofString "AESBlockModeOfOperation"), [(.type "object")], [(.ref 209), (.type "object")], 208, (.ofString "AESBlockModeOfOperation"), true, [], [(.ref 246)], false, none, false⟩), #[(some (.ref 156)), none, (some (.str (.ofString "AESBlockModeOfOperation") 3949)), (some (.str (.ofString "AESBlockModeOfOperation") 3957)), (some (.builtin "object.__new__")), (some (.bool true))]⟩
noncomputable def o195 : O := fun P => ⟨(.type "getset_descriptor"), none, (.fields #[(.str (.ofString "__dict__") 4013), (.ref 209), (.builtin "function.__dict__"), (.builtin "function.__dict__#set")]), #[]⟩
noncomputable def o196 : O := fun P => ⟨(.type "getset_descriptor"), none, (.fields #[(.str (.ofString "__weakref__") 4015), (.ref 209), (.builtin "ExceptionGroup.__weakref__"), .none]), #[]⟩
noncomputable def o197 : O := fun P => ⟨(.type "super"), none, (.fields #[(.ref 209), (.ref 209), (.ref 209)]), #[]⟩
noncomputable def o198 : O := fun P => ⟨(.type "builtin_function_or_method"), none, (.fields #[(.builtin "object.__init_subclass__"), (.ref 209)]), #[]⟩
noncomputable def o199 : O := fun P => ⟨(.type "tuple"), none, (.seq #[(.ref 209)] 0), #[]⟩
noncomputable def o200 : O := fun P => ⟨(.type "dict"), none, (.dict #[k P (.ofString "__module__") 4027 (.str (.ofString "pyaes.aes") 194), k P (.ofString "__qualname__") 4029 (.str (.ofString "AESStreamModeOfOperation") 4028), k P (.ofString "__firstlineno__") 4031 (.int 145 4030), k P (.ofString "_can_consume") 4039 (.ref 227), k P (.ofString "_final_encrypt") 4048 (.ref 235), k P (.ofString "_final_decrypt") 4057 (.ref 243), k P (.ofString "__static_attributes__") 4058 (.ref 244)] 7), #[]⟩
noncomputable def o201 : O := fun P => ⟨.none, none, (.fields #[(.int 147 0), (.int 4 0), (.ref 226), (.int 150 0), (.int 4 0), (.ref 234), (.int 153 0), (.int 4 0), (.ref 242)]), #[]⟩
noncomputable def o202 : O := fun P => ⟨(.type "code"), none, (.fields #[(.str (.ofString "AESStreamModeOfOperation") 4022), (.str (.ofString "AESStreamModeOfOperation") 4023), (.str (.ofString "/claim/cut.py") 4024), (.int 145 0), (.int 0 0), (.int 0 0), (.int 0 0), (.int 0 0), (.ref 217), (.bool false), (.int 181 0), (.ref 218), .none, .none, .none, .none, (.int 4025 0), (.int 145 0), (.str (.ofString "/claim/cut.py") 4026)]), #[]⟩
noncomputable def o203 : O := fun P => ⟨(.type "frame"), none, .plain, #[(some (.ref 219)), (some (.ref 3)), (some (.ref 216)), none, (some (.str (.ofString "pyaes.aes") 194)), none, (some (.ref 0))]⟩
noncomputable def o204 : O := fun P => ⟨(.type "tuple"), none, (.seq #[(.str (.ofString "self") 4035), (.str (.ofString "size") 4036)] 0), #[]⟩
noncomputable def f205 : FuncData := by
  refine (?g : (a : Arguments) → (b : List Stmt) → (s : Scope) → (a, b, s) = d (nth (sB (nth bE 10)) 0) → FuncData) ⟨_, _, _, _, _, _, _⟩ (_ :: _) ⟨_, _, _, _, _⟩ rfl
  exact fun a b s _ => ⟨(.ofString "_can_consume"), (.ofString "AESStreamModeOfOperation._can_consume"), a, .stmts b, s, 0, [], .none, .none, .none, .none, none, .none, .none, 0⟩
noncomputable def o206 : O := fun P => ⟨.none, none, (.func f205), #[]⟩
noncomputable def o207 : O := fun P => ⟨(.type "code"), none, (.fields #[(.str (.ofString "_can_consume") 4032), (.str (.ofString "AESStreamModeOfOperation._can_consume") 4033), (.str (.ofString "/claim/cut.py") 4034), (.int 147 0), (.int 2 0), (.int 0 0), (.int 0 0), (.int 3 0), (.ref 221), (.bool true), (.int 181 0), (.ref 222), .none, (.ref 223), (.ref 224), (.ref 225), (.int 4037 0), (.int 147 0), (.str (.ofString "/claim/cut.py") 4038)]), #[]⟩
noncomputable def f208 : FuncData := by
  refine (?g : (a : Arguments) → (b : List Stmt) → (s : Scope) → (a, b, s) = d (nth (sB (nth bE 10)) 0) → FuncData) ⟨_, _, _, _, _, _, _⟩ (_ :: _) ⟨_, _, _, _, _⟩ rfl
  exact fun a b s _ => ⟨(.ofString "_can_consume"), (.ofString "AESStreamModeOfOperation._can_consume"), a, .stmts b, s, 3, [], .none, .none, .none, (.str (.ofString "pyaes.aes") 194), none, (.ref 226), .none, 0⟩
noncomputable def o209 : O := fun P => ⟨(.type "function"), none, (.func f208), #[]⟩
noncomputable def o210 : O := fun P => ⟨(.type "tuple"), none, (.seq #[(.str (.ofString "self") 4043), (.str (.ofString "data") 4044), (.str (.ofString "padding") 4045)] 0), #[]⟩
noncomputable def f211 : FuncData := by
  refine (?g : (a : Arguments) → (b : List Stmt) → (s : Scope) → (a, b, s) = d (nth (sB (nth bE 10)) 1) → FuncData) ⟨_, _, _, _, _, _, _⟩ (_ :: _) ⟨_, _, _, _, _⟩ rfl
  exact fun a b s _ => ⟨(.ofString "_final_encrypt"), (.ofString "AESStreamModeOfOperation._final_encrypt"), a, .stmts b, s, 0, [], .none, .none, .none, .none, none, .none, .none, 0⟩
noncomputable def o212 : O := fun P => ⟨.none, none, (.func f211), #[]⟩
noncomputable def o213 : O := fun P => ⟨(.type "code"), none, (.fields #[(.str (.ofString "_final_encrypt") 4040), (.str (.ofString "AESStreamModeOfOperation._final_encrypt") 4041), (.str (.ofString "/claim/cut.py") 4042), (.int 150 0), (.int 3 0), (.int 0 0), (.int 0 0), (.int 3 0), (.ref 229), (.bool true), (.int 181 0), (.ref 230), .none, (.ref 231), (.ref 232), (.ref 233), (.int 4046 0), (.int 150 0), (.str (.ofString "/claim/cut.py") 4047)]), #[]⟩
noncomputable def f214 : FuncData := by
  refine (?g : (a : Arguments) → (b : List Stmt) → (s : Scope) → (a, b, s) = d (nth (sB (nth bE 10)) 1) → FuncData) ⟨_, _, _, _, _, _, _⟩ (_ :: _) ⟨_, _, _, _, _⟩ rfl
  exact fun a b s _ => ⟨(.ofString "_final_encrypt"), (.ofString "AESStreamModeOfOperation._final_encrypt"), a, .stmts b, s, 3, [], (.ref 228), .none, .none, (.str (.ofString "pyaes.aes") 194), none, (.ref 234), .none, 0⟩
noncomputable def o215 : O := fun P => ⟨(.type "function"), none, (.func f214), #[]⟩
noncomputable def o216 : O := fun P => ⟨(.type "tuple"), none, (.seq #[(.str (.ofString "self") 4052), (.str (.ofString "data") 4053), (.str (.ofString "padding") 4054)] 0), #[]⟩
noncomputable def f217 : FuncData := by
  refine (?g : (a : Arguments) → (b : List Stmt) → (s : Scope) → (a, b, s) = d (nth (sB (nth bE 10)) 2) → FuncData) ⟨_, _, _, _, _, _, _⟩ (_ :: _) ⟨_, _, _, _, _⟩ rfl
  exact fun a b s _ => ⟨(.ofString "_final_decrypt"), (.ofString "AESStreamModeOfOperation._final_decrypt"), a, .stmts b, s, 0, [], .none, .none, .none, .none, none, .none, .none, 0⟩
noncomputable def o218 : O := fun P => ⟨.none, none, (.func f217), #[]⟩
noncomputable def o219 : O := fun P => ⟨(.type "code"), none, (.fields #[(.str (.ofString "_final_decrypt") 4049), (.str (.ofString "AESStreamModeOfOperation._final_decrypt") 4050), (.str (.ofString "/claim/cut.py") 4051), (.int 153 0), (.int 3 0), (.int 0 0), (.int 0 0), (.int 3 0), (.ref 237), (.bool true), (.int 181 0), (.ref 238), .none, (.ref 239), (.ref 240), (.ref 241), (.int 4055 0), (.int 153 0), (.str (.ofString "/claim/cut.py") 4056)]), #[]⟩
noncomputable def f220 : FuncData := by
  refine (?g : (a : Arguments) → (b : List Stmt) → (s : Scope) → (a, b, s) = d (nth (sB (nth bE 10)) 2) → FuncData) ⟨_, _, _, _, _, _, _⟩ (_ :: _) ⟨_, _, _, _, _⟩ rfl
  exact fun a b s _ => ⟨(.ofString "_final_decrypt"), (.ofString "AESStreamModeOfOperation._final_decrypt"), a, .stmts b, s, 3, [], (.ref 236), .none, .none, (.str (.ofString "pyaes.aes") 194), none, (.ref 242), .none, 0⟩
noncomputable def o221 : O := fun P => ⟨(.type "function"), none, (.func f220), #[]⟩
noncomputable def o222 : O := fun P => ⟨(.type "dict"), none, (.dict #[k P (.ofString "__module__") 4027 (.str (.ofString "pyaes.aes") 194), k P (.ofString "__firstlineno__") 4031 (.int 145 4030), k P (.ofString "_can_consume") 4039 (.ref 227), k P (.ofString "_final_encrypt") 4048 (.ref 235), k P (.ofString "_final_decrypt") 4057 (.ref 243), k P (.ofString "__static_attributes__") 4058 (.ref 244), k P (.ofString "__doc__") 4059 .none] 2), #[]⟩
noncomputable def o223 : O := fun P => ⟨(.type "type"), none, (.cls ⟨(.ofString "AESStreamModeOfOperation"), [(.ref 209)], [(.ref 246), (.ref 209), (.type "object")], 245, (.ofString "AESStreamModeOfOperation"), true, [], [(.ref 281)], false, none, false⟩), #[(some (.ref 214)), none, (some (.str (.ofString "AESStreamModeOfOperation") 4020)), (some (.str (.ofString "AESStreamModeOfOperation") 4028)), (some (.builtin "object.__new__")), (some (.bool true))]⟩
noncomputable def o224 : O := fun P => ⟨(.type "super"), none, (.fields #[(.ref 246), (.ref 246), (.ref 246)]), #[]⟩
noncomputable def o225 : O := fun P => ⟨(.type "builtin_function_or_method"), none, (.fields #[(.builtin "object.__init_subclass__"), (.ref 246)]), #[]⟩
noncomputable def o226 : O := fun P => ⟨(.type "tuple"), none, (.seq #[(.ref 246)] 0), #[]⟩
noncomputable def o227 : O := fun P => ⟨(.type "dict"), none, (.dict #[k P (.ofString "__module__") 4069 (.str (.ofString "pyaes.aes") 194), k P (.ofString "__qualname__") 4071 (.str (.ofString "AESSegmentModeOfOperation") 4070), k P (.ofString "__firstlineno__") 4073 (.int 155 4072), k P (.ofString "segment_bytes") 4075 (.int 16 4074), k P (.ofString "_can_consume") 4083 (.ref 262), k P (.ofString "_final_encrypt") 4092 (.ref 270), k P (.ofString "_final_decrypt") 4101 (.ref 278), k P (.ofString "__static_attributes__") 4102 (.ref 279)] 8), #[]⟩
noncomputable def o228 : O := fun P => ⟨.none, none, (.fields #[(.int 158 0), (.int 4 0), (.ref 261), (.int 161 0), (.int 4 0), (.ref 269), (.int 164 0), (.int 4 0), (.ref 277)]), #[]⟩
noncomputable def o229 : O := fun P => ⟨(.type "code"), none, (.fields #[(.str (.ofString "AESSegmentModeOfOperation") 4064), (.str (.ofString "AESSegmentModeOfOperation") 4065), (.str (.ofString "/claim/cut.py") 4066), (.int 155 0), (.int 0 0), (.int 0 0), (.int 0 0), (.int 0 0), (.ref 252), (.bool false), (.int 181 0), (.ref 253), .none, .none, .none, .none, (.int 4067 0), (.int 155 0), (.str (.ofString "/claim/cut.py") 4068)]), #[]⟩
noncomputable def o230 : O := fun P => ⟨(.type "frame"), none, .plain, #[(some (.ref 254)), (some (.ref 3)), (some (.ref 251)), none, (some (.str (.ofString "pyaes.aes") 194)), none, (some (.ref 0))]⟩
noncomputable def o231 : O := fun P => ⟨(.type "tuple"), none, (.seq #[(.str (.ofString "self") 4079), (.str (.ofString "size") 4080)] 0), #[]⟩
noncomputable def f232 : FuncData := by
  refine (?g : (a : Arguments) → (b : List Stmt) → (s : Scope) → (a, b, s) = d (nth (sB (nth bE 11)) 1) → FuncData) ⟨_, _, _, _, _, _, _⟩ (_ :: _) ⟨_, _, _, _, _⟩ rfl
  exact fun a b s _ => ⟨(.ofString "_can_consume"), (.ofString "AESSegmentModeOfOperation._can_consume"), a, .stmts b, s, 0, [], .none, .none, .none, .none, none, .none, .none, 0⟩
noncomputable def o233 : O := fun P => ⟨.none, none, (.func f232), #[]⟩
noncomputable def o234 : O := fun P => ⟨(.type "code"), none, (.fields #[(.str (.ofString "_can_consume") 4076), (.str (.ofString "AESSegmentModeOfOperation._can_consume") 4077), (.str (.ofString "/claim/cut.py") 4078), (.int 158 0), (.int 2 0), (.int 0 0), (.int 0 0), (.int 3 0), (.ref 256), (.bool true), (.int 181 0), (.ref 257), .none, (.ref 258), (.ref 259), (.ref 260), (.int 4081 0), (.int 158 0), (.str (.ofString "/claim/cut.py") 4082)]), #[]⟩
noncomputable def f235 : FuncData := by
  refine (?g : (a : Arguments) → (b : List Stmt) → (s : Scope) → (a, b, s) = d (nth (sB (nth bE 11)) 1) → FuncData) ⟨_, _, _, _, _, _, _⟩ (_ :: _) ⟨_, _, _, _, _⟩ rfl
  exact fun a b s _ => ⟨(.ofString "_can_consume"), (.ofString "AESSegmentModeOfOperation._can_consume"), a, .stmts b, s, 3, [], .none, .none, .none, (.str (.ofString "pyaes.aes") 194), none, (.ref 261), .none, 0⟩
noncomputable def o236 : O := fun P => ⟨(.type "function"), none, (.func f235), #[]⟩
noncomputable def o237 : O := fun P => ⟨(.type "tuple"), none, (.seq #[(.str (.ofString "self") 4087), (.str (.ofString "data") 4088), (.str (.ofString "padding") 4089)] 0), #[]⟩
noncomputable def f238 : FuncData := by
  refine (?g : (a : Arguments) → (b : List Stmt) → (s : Scope) → (a, b, s) = d (nth (sB (nth bE 11)) 2) → FuncData) ⟨_, _, _, _, _, _, _⟩ (_ :: _) ⟨_, _, _, _, _⟩ rfl
  exact fun a b s _ => ⟨(.ofString "_final_encrypt"), (.ofString "AESSegmentModeOfOperation._final_encrypt"), a, .stmts b, s, 0, [], .none, .none, .none, .none, none, .none, .none, 0⟩
noncomputable def o239 : O := fun P => ⟨.none, none, (.func f238), #[]⟩
noncomputable def o240 : O := fun P => ⟨(.type "code"), none, (.fields #[(.str (.ofString "_final_encrypt") 4084), (.str (.ofString "AESSegmentModeOfOperation._final_encrypt") 4085), (.str (.ofString "/claim/cut.py") 4086), (.int 161 0), (.int 3 0), (.int 0 0), (.int 0 0), (.int 3 0), (.ref 264), (.bool true), (.int 181 0), (.ref 265), .none, (.ref 266), (.ref 267), (.ref 268), (.int 4090 0), (.int 161 0), (.str (.ofString "/claim/cut.py") 4091)]), #[]⟩
noncomputable def f241 : FuncData := by
  refine (?g : (a : Arguments) → (b : List Stmt) → (s : Scope) → (a, b, s) = d (nth (sB (nth bE 11)) 2) → FuncData) ⟨_, _, _, _, _, _, _⟩ (_ :: _) ⟨_, _, _, _, _⟩ rfl
  exact fun a b s _ => ⟨(.ofString "_final_encrypt"), (.ofString "AESSegmentModeOfOperation._final_encrypt"), a, .stmts b, s, 3, [], (.ref 263), .none, .none, (.str (.ofString "pyaes.aes") 194), none, (.ref 269), .none, 0⟩
noncomputable def o242 : O := fun P => ⟨(.type "function"), none, (.func f241), #[]⟩
noncomputable def o243 : O := fun P => ⟨(.type "tuple"), none, (.seq #[(.str (.ofString "self") 4096), (.str (.ofString "data") 4097), (.str (.ofString "padding") 4098)] 0), #[]⟩
noncomputable def f244 : FuncData := by
  refine (?g : (a : Arguments) → (b : List Stmt) → (s : Scope) → (a, b, s) = d (nth (sB (nth bE 11)) 3) → FuncData) ⟨_, _, _, _, _, _, _⟩ (_ :: _) ⟨_, _, _, _, _⟩ rfl
  exact fun a b s _ => ⟨(.ofString "_final_decrypt"), (.ofString "AESSegmentModeOfOperation._final_decrypt"), a, .stmts b, s, 0, [], .none, .none, .none, .none, none, .none, .none, 0⟩
noncomputable def o245 : O := fun P => ⟨.none, none, (.func f244), #[]⟩
noncomputable def o246 : O := fun P => ⟨(.type "code"), none, (.fields #[(.str (.ofString "_final_decrypt") 4093), (.str (.ofString "AESSegmentModeOfOperation._final_decrypt") 4094), (.str (.ofString "/claim/cut.py") 4095), (.int 164 0), (.int 3 0), (.int 0 0), (.int 0 0), (.int 3 0), (.ref 272), (.bool true), (.int 181 0), (.ref 273), .none, (.ref 274), (.ref 275), (.ref 276), (.int 4099 0), (.int 164 0), (.str (.ofString "/claim/cut.py") 4100)]), #[]⟩
noncomputable def f247 : FuncData := by
  refine (?g : (a : Arguments) → (b : List Stmt) → (s : Scope) → (a, b, s) = d (nth (sB (nth bE 11)) 3) → FuncData) ⟨_, _, _, _, _, _, _⟩ (_ :: _) ⟨_, _, _, _, _⟩ rfl
  exact fun a b s _ => ⟨(.ofString "_final_decrypt"), (.ofString "AESSegmentModeOfOperation._final_decrypt"), a, .stmts b, s, 3, [], (.ref 271), .none, .none, (.str (.ofString "pyaes.aes") 194), none, (.ref 277), .none, 0⟩
noncomputable def o248 : O := fun P => ⟨(.type "function"), none, (.func f247), #[]⟩
noncomputable def o249 : O := fun P => ⟨(.type "dict"), none, (.dict #[k P (.ofString "__module__") 4069 (.str (.ofString "pyaes.aes") 194), k P (.ofString "__firstlineno__") 4073 (.int 155 4072), k P (.ofString "segment_bytes") 4075 (.int 16 4074), k P (.ofString "_can_consume") 4083 (.ref 262), k P (.ofString "_final_encrypt") 4092 (.ref 270), k P (.ofString "_final_decrypt") 4101 (.ref 278), k P (.ofString "__static_attributes__") 4102 (.ref 279), k P (.ofString "__doc__") 4103 .none] 2), #[]⟩
noncomputable def o250 : O := fun P => ⟨(.type "type"), none, (.cls ⟨(.ofString "AESSegmentModeOfOperation"), [(.ref 246)], [(.ref 281), (.ref 246), (.ref 209), (.type "object")], 280, (.ofString "AESSegmentModeOfOperation"), true, [], [], false, none, false⟩), #[(some (.ref 249)), none, (some (.str (.ofString "AESSegmentModeOfOperation") 4062)), (some (.str (.ofString "AESSegmentModeOfOperation") 4070)), (some (.builtin "object.__new__")), (some (.bool true))]⟩
noncomputable def o251 : O := fun P => ⟨(.type "super"), none, (.fields #[(.ref 281), (.ref 281), (.ref 281)]), #[]⟩
noncomputable def o252 : O := fun P => ⟨(.type "builtin_function_or_method"), none, (.fields #[(.builtin "object.__init_subclass__"), (.ref 281)]), #[]⟩
noncomputable def s2 : List Stmt := (bE.drop 8).take 4
noncomputable def t3 : Params → BT := fun P => (nd (boot_o_0 P) (nd (boot_o_1 P) (nd (o119 P) (nd (boot_o_7 P) (nd (o0 P) (nd (o19 P) (nd (o52 P) (nd (o124 P) (nd (o230 P) nl nl) nl) (nd (o179 P) nl nl)) (nd (o89 P) (nd (o0 P) nl nl) (nd (o204 P) nl nl))) (nd (o34 P) (nd (o71 P) (nd (o1 P) (nd (o179 P) nl nl) nl) (nd (o192 P) nl nl)) (nd (o106 P) (nd (o164 P) nl nl) (nd (o216 P) nl nl)))) (nd (o1 P) (nd (o26 P) (nd (o61 P) (nd (o1 P) (nd (o179 P) nl nl) nl) (nd (o179 P) nl nl)) (nd (o99 P) (nd (o157 P) nl nl) (nd (o210 P) nl nl))) (nd (o42 P) (nd (o80 P) (nd (o146 P) (nd (o0 P) nl nl) nl) (nd (o37 P) nl nl)) (nd (o117 P) (nd (o172 P) nl nl) (nd (o224 P) nl nl))))) (nd (o0 P) (nd (o8 P) (nd (o1 P) (nd (o57 P) (nd (o127 P) (nd (o0 P) nl nl) nl) (nd (o0 P) nl nl)) (nd (o0 P) (nd (o0 P) nl nl) (nd (o209 P) nl nl))) (nd (o0 P) (nd (o75 P) (nd (o141 P) (nd (o0 P) nl nl) nl) (nd (o196 P) nl nl)) (nd (o113 P) (nd (o167 P) nl nl) (nd (o221 P) nl nl)))) (nd (o15 P) (nd (o29 P) (nd (o66 P) (nd (o134 P) (nd (o0 P) nl nl) nl) (nd (o0 P) nl nl)) (nd (o102 P) (nd (o1 P) nl nl) (nd (o215 P) nl nl))) (nd (o47 P) (nd (o85 P) (nd (o150 P) (nd (o252 P) nl nl) nl) (nd (o202 P) nl nl)) (nd (o121 P) (nd (o0 P) nl nl) (nd (o227 P) nl nl)))))) (nd (boot_o_5 P) (nd (boot_o_9 P) (nd (o6 P) (nd (o22 P) (nd (o54 P) (nd (o0 P) (nd (o1 P) nl nl) nl) (nd (o1 P) nl nl)) (nd (o93 P) (nd (o153 P) nl nl) (nd (o206 P) nl nl))) (nd (o37 P) (nd (o73 P) (nd (o0 P) (nd (o1 P) nl nl) nl) (nd (o194 P) nl nl)) (nd (o109 P) (nd (o0 P) nl nl) (nd (o218 P) nl nl)))) (nd (o0 P) (nd (o0 P) (nd (o64 P) (nd (o0 P) (nd (o1 P) nl nl) nl) (nd (o1 P) nl nl)) (nd (o1 P) (nd (o160 P) nl nl) (nd (o212 P) nl nl))) (nd (o45 P) (nd (o82 P) (nd (o148 P) (nd (o250 P) nl nl) nl) (nd (o0 P) nl nl)) (nd (o36 P) (nd (o1 P) nl nl) (nd (o226 P) nl nl))))) (nd (o2 P) (nd (o11 P) (nd (o0 P) (nd (o59 P) (nd (o130 P) (nd (o234 P) nl nl) nl) (nd (o183 P) nl nl)) (nd (o96 P) (nd (o155 P) nl nl) (nd (o0 P) nl nl))) (nd (o39 P) (nd (o78 P) (nd (o144 P) (nd (o246 P) nl nl) nl) (nd (o198 P) nl nl)) (nd (o115 P) (nd (o169 P) nl nl) (nd (o222 P) nl nl)))) (nd (o0 P) (nd (o31 P) (nd (o68 P) (nd (o137 P) (nd (o240 P) nl nl) nl) (nd (o189 P) nl nl)) (nd (o0 P) (nd (o0 P) nl nl) (nd (o0 P) nl nl))) (nd (o50 P) (nd (o87 P) (nd (o37 P) nl nl) (nd (o0 P) nl nl)) (nd (o122 P) (nd (o176 P) nl nl) (nd (o228 P) nl nl))))))) (nd (boot_o_2 P) (nd (boot_o_4 P) (nd (boot_o_8 P) (nd (o1 P) (nd (o20 P) (nd (o53 P) (nd (o125 P) (nd (o0 P) nl nl) nl) (nd (o0 P) nl nl)) (nd (o92 P) (nd (o152 P) nl nl) (nd (o0 P) nl nl))) (nd (o36 P) (nd (o72 P) (nd (o138 P) (nd (o0 P) nl nl) nl) (nd (o193 P) nl nl)) (nd (o107 P) (nd (o166 P) nl nl) (nd (o0 P) nl nl)))) (nd (o12 P) (nd (o28 P) (nd (o63 P) (nd (o131 P) (nd (o0 P) nl nl) nl) (nd (o0 P) nl nl)) (nd (o0 P) (nd (o158 P) nl nl) (nd (o0 P) nl nl))) (nd (o44 P) (nd (o81 P) (nd (o147 P) (nd (o249 P) nl nl) nl) (nd (o200 P) nl nl)) (nd (o118 P) (nd (o0 P) nl nl) (nd (o225 P) nl nl))))) (nd (o120 P) (nd (o9 P) (nd (o23 P) (nd (o58 P) (nd (o128 P) (nd (o233 P) nl nl) nl) (nd (o182 P) nl nl)) (nd (o1 P) (nd (o1 P) nl nl) (nd (o179 P) nl nl))) (nd (o91 P) (nd (o77 P) (nd (o143 P) (nd (o245 P) nl nl) nl) (nd (o197 P) nl nl)) (nd (o114 P) (nd (o0 P) nl nl) (nd (o0 P) nl nl)))) (nd (o17 P) (nd (o0 P) (nd (o67 P) (nd (o136 P) (nd (o239 P) nl nl) nl) (nd (o188 P) nl nl)) (nd (o104 P) (nd (o161 P) nl nl) (nd (o179 P) nl nl))) (nd (o49 P) (nd (o86 P) (nd (o36 P) nl nl) (nd (o203 P) nl nl)) (nd (o0 P) (nd (o175 P) nl nl) (nd (o0 P) nl nl)))))) (nd (boot_o_6 P) (nd (boot_o_10 P) (nd (o0 P) (nd (o0 P) (nd (o56 P) (nd (o1 P) (nd (o231 P) nl nl) nl) (nd (o180 P) nl nl)) (nd (o94 P) (nd (o154 P) nl nl) (nd (o207 P) nl nl))) (nd (o111 P) (nd (o74 P) (nd (o140 P) (nd (o243 P) nl nl) nl) (nd (o195 P) nl nl)) (nd (o112 P) (nd (o1 P) nl nl) (nd (o219 P) nl nl)))) (nd (o14 P) (nd (o1 P) (nd (o65 P) (nd (o133 P) (nd (o237 P) nl nl) nl) (nd (o186 P) nl nl)) (nd (o101 P) (nd (o0 P) nl nl) (nd (o213 P) nl nl))) (nd (o46 P) (nd (o84 P) (nd (o149 P) (nd (o251 P) nl nl) nl) (nd (o201 P) nl nl)) (nd (o37 P) (nd (o173 P) nl nl) (nd (o37 P) nl nl))))) (nd (o3 P) (nd (o0 P) (nd (o25 P) (nd (o60 P) (nd (o0 P) (nd (o236 P) nl nl) nl) (nd (o185 P) nl nl)) (nd (o97 P) (nd (o0 P) nl nl) (nd (o1 P) nl nl))) (nd (o40 P) (nd (o79 P) (nd (o145 P) (nd (o248 P) nl nl) nl) (nd (o199 P) nl nl)) (nd (o116 P) (nd (o170 P) nl nl) (nd (o223 P) nl nl)))) (nd (o1 P) (nd (o32 P) (nd (o70 P) (nd (o0 P) (nd (o242 P) nl nl) nl) (nd (o191 P) nl nl)) (nd (o1 P) (nd (o163 P) nl nl) (nd (o1 P) nl nl))) (nd (o51 P) (nd (o88 P) (nd (o151 P) nl nl) (nd (o1 P) nl nl)) (nd (o123 P) (nd (o178 P) nl nl) (nd (o229 P) nl nl))))))))
noncomputable def S3 (w : World) (os : OsState) : SharedT := ⟨t3 w.params, 284, { }, .mk [], { }, 4106, os⟩
theorem g2 (w : World) (os : OsState) : segRunT treeTable PySem.Challenge.pw_yv0002_01 w 11 ann 1 1409 (S2 w os) (piecesOf s2 env cE ⟨16, 0, 111, 21⟩ [topFrame q0]) = some (.next, S3 w os, cE, ⟨155, 0, 165, 16⟩) := by
  rewrite [tST, tTT]; kernel_rfl
noncomputable def o253 : O := fun P => ⟨(.type "dict"), none, (.dict #[k P (.ofString "__name__") 165 (.str (.ofString "pyaes.aes") 194), k P (.ofString "__doc__") 166 .none, k P (.ofString "__package__") 167 .none, k P (.ofString "__loader__") 168 (.builtin "__main__.__loader__#opaque"), k P (.ofString "__spec__") 169 .none, k P (.ofString "__annotations__") 170 (.ref 6), k P (.ofString "__builtins__") 171 (.ref 4), k P (.ofString "__file__") 173 (.str (.ofString "/claim/cut.py") 172), k P (.ofString "__cached__") 174 .none, k P (.ofString "_wall") 193 (.ref 21), k P (.ofString "PADDING_DEFAULT") 197 (.str (.ofString "default") 196), k P (.ofString "_compact_word") 204 (.ref 28), k P (.ofString "_string_to_bytes") 210 (.ref 33), k P (.ofString "_bytes_to_string") 217 (.ref 40), k P (.ofString "_concat_list") 225 (.ref 47), k P (.ofString "AES") 3904 (.ref 116), k P (.ofString "Counter") 3948 (.ref 151), k P (.ofString "AESBlockModeOfOperation") 4019 (.ref 209), k P (.ofString "AESStreamModeOfOperation") 4061 (.ref 246), k P (.ofString "AESSegmentModeOfOperation") 4105 (.ref 281), k P (.ofString "AESModeOfOperationECB") 4139 (.ref 307), k P (.ofString "AESModeOfOperationCBC") 4179 (.ref 337), k P (.ofString "AESModeOfOperationCFB") 4230 (.ref 375), k P (.ofString "AESModeOfOperationOFB") 4279 (.ref 409)] 24), #[]⟩
noncomputable def o254 : O := fun P => ⟨.none, none, (.fields #[(.int 1 0), (.int 0 0), (.ref 20), (.int 6 0), (.int 0 0), (.ref 27), (.int 8 0), (.int 0 0), (.ref 32), (.int 12 0), (.int 0 0), (.ref 39), (.int 14 0), (.int 0 0), (.ref 46), (.int 16 0), (.int 0 0), (.ref 53), (.int 112 0), (.int 0 0), (.ref 126), (.int 126 0), (.int 0 0), (.ref 161), (.int 145 0), (.int 0 0), (.ref 219), (.int 155 0), (.int 0 0), (.ref 254), (.int 166 0), (.int 0 0), (.ref 289), (.int 180 0), (.int 0 0), (.ref 315), (.int 207 0), (.int 0 0), (.ref 345), (.int 248 0), (.int 0 0), (.ref 383)]), #[]⟩
noncomputable def o255 : O := fun P => ⟨(.type "type"), none, (.cls ⟨(.ofString "AESBlockModeOfOperation"), [(.type "object")], [(.ref 209), (.type "object")], 208, (.ofString "AESBlockModeOfOperation"), true, [], [(.ref 246), (.ref 307), (.ref 337)], false, none, false⟩), #[(some (.ref 156)), none, (some (.str (.ofString "AESBlockModeOfOperation") 3949)), (some (.str (.ofString "AESBlockModeOfOperation") 3957)), (some (.builtin "object.__new__")), (some (.bool true))]⟩
noncomputable def o256 : O := fun P => ⟨(.type "type"), none, (.cls ⟨(.ofString "AESStreamModeOfOperation"), [(.ref 209)], [(.ref 246), (.ref 209), (.type "object")], 245, (.ofString "AESStreamModeOfOperation"), true, [], [(.ref 281), (.ref 409)], false, none, false⟩), #[(some (.ref 214)), none, (some (.str (.ofString "AESStreamModeOfOperation") 4020)), (some (.str (.ofString "AESStreamModeOfOperation") 4028)), (some (.builtin "object.__new__")), (some (.bool true))]⟩
noncomputable def o257 : O := fun P => ⟨(.type "type"), none, (.cls ⟨(.ofString "AESSegmentModeOfOperation"), [(.ref 246)], [(.ref 281), (.ref 246), (.ref 209), (.type "object")], 280, (.ofString "AESSegmentModeOfOperation"), true, [], [(.ref 375)], false, none, false⟩), #[(some (.ref 249)), none, (some (.str (.ofString "AESSegmentModeOfOperation") 4062)), (some (.str (.ofString "AESSegmentModeOfOperation") 4070)), (some (.builtin "object.__new__")), (some (.bool true))]⟩
noncomputable def o258 : O := fun P => ⟨(.type "dict"), none, (.dict #[k P (.ofString "__module__") 4113 (.str (.ofString "pyaes.aes") 194), k P (.ofString "__qualname__") 4115 (.str (.ofString "AESModeOfOperationECB") 4114), k P (.ofString "__firstlineno__") 4117 (.int 166 4116), k P (.ofString "name") 4119 (.str (.ofString "Electronic Codebook (ECB)") 4118), k P (.ofString "encrypt") 4127 (.ref 297), k P (.ofString "decrypt") 4135 (.ref 304), k P (.ofString "__static_attributes__") 4136 (.ref 305)] 7), #[]⟩
noncomputable def o259 : O := fun P => ⟨.none, none, (.fields #[(.int 169 0), (.int 4 0), (.ref 296), (.int 175 0), (.int 4 0), (.ref 303)]), #[]⟩
noncomputable def o260 : O := fun P => ⟨(.type "code"), none, (.fields #[(.str (.ofString "AESModeOfOperationECB") 4108), (.str (.ofString "AESModeOfOperationECB") 4109), (.str (.ofString "/claim/cut.py") 4110), (.int 166 0), (.int 0 0), (.int 0 0), (.int 0 0), (.int 0 0), (.ref 287), (.bool false), (.int 181 0), (.ref 288), .none, .none, .none, .none, (.int 4111 0), (.int 166 0), (.str (.ofString "/claim/cut.py") 4112)]), #[]⟩
noncomputable def o261 : O := fun P => ⟨(.type "frame"), none, .plain, #[(some (.ref 289)), (some (.ref 3)), (some (.ref 286)), none, (some (.str (.ofString "pyaes.aes") 194)), none, (some (.ref 0))]⟩
noncomputable def o262 : O := fun P => ⟨(.type "tuple"), none, (.seq #[(.str (.ofString "self") 4123), (.str (.ofString "plaintext") 4124)] 0), #[]⟩
noncomputable def f263 : FuncData := by
  refine (?g : (a : Arguments) → (b : List Stmt) → (s : Scope) → (a, b, s) = d (nth (sB (nth bE 12)) 1) → FuncData) ⟨_, _, _, _, _, _, _⟩ (_ :: _) ⟨_, _, _, _, _⟩ rfl
  exact fun a b s _ => ⟨(.ofString "encrypt"), (.ofString "AESModeOfOperationECB.encrypt"), a, .stmts b, s, 0, [], .none, .none, .none, .none, none, .none, .none, 0⟩
noncomputable def o264 : O := fun P => ⟨.none, none, (.func f263), #[]⟩
noncomputable def o265 : O := fun P => ⟨(.type "code"), none, (.fields #[(.str (.ofString "encrypt") 4120), (.str (.ofString "AESModeOfOperationECB.encrypt") 4121), (.str (.ofString "/claim/cut.py") 4122), (.int 169 0), (.int 2 0), (.int 0 0), (.int 0 0), (.int 3 0), (.ref 291), (.bool true), (.int 181 0), (.ref 292), .none, (.ref 293), (.ref 294), (.ref 295), (.int 4125 0), (.int 169 0), (.str (.ofString "/claim/cut.py") 4126)]), #[]⟩
noncomputable def f266 : FuncData := by
  refine (?g : (a : Arguments) → (b : List Stmt) → (s : Scope) → (a, b, s) = d (nth (sB (nth bE 12)) 1) → FuncData) ⟨_, _, _, _, _, _, _⟩ (_ :: _) ⟨_, _, _, _, _⟩ rfl
  exact fun a b s _ => ⟨(.ofString "encrypt"), (.ofString "AESModeOfOperationECB.encrypt"), a, .stmts b, s, 3, [], .none, .none, .none, (.str (.ofString "pyaes.aes") 194), none, (.ref 296), .none, 0⟩
noncomputable def o267 : O := fun P => ⟨(.type "function"), none, (.func f266), #[]⟩
noncomputable def o268 : O := fun P => ⟨(.type "tuple"), none, (.seq #[(.str (.ofString "self") 4131), (.str (.ofString "ciphertext") 4132)] 0), #[]⟩
noncomputable def f269 : FuncData := by
  refine (?g : (a : Arguments) → (b : List Stmt) → (s : Scope) → (a, b, s) = d (nth (sB (nth bE 12)) 2) → FuncData) ⟨_, _, _, _, _, _, _⟩ (_ :: _) ⟨_, _, _, _, _⟩ rfl
  exact fun a b s _ => ⟨(.ofString "decrypt"), (.ofString "AESModeOfOperationECB.decrypt"), a, .stmts b, s, 0, [], .none, .none, .none, .none, none, .none, .none, 0⟩
noncomputable def o270 : O := fun P => ⟨.none, none, (.func f269), #[]⟩
noncomputable def o271 : O := fun P => ⟨(.type "code"), none, (.fields #[(.str (.ofString "decrypt") 4128), (.str (.ofString "AESModeOfOperationECB.decrypt") 4129), (.str (.ofString "/claim/cut.py") 4130), (.int 175 0), (.int 2 0), (.int 0 0), (.int 0 0), (.int 3 0), (.ref 298), (.bool true), (.int 181 0), (.ref 299), .none, (.ref 300), (.ref 301), (.ref 302), (.int 4133 0), (.int 175 0), (.str (.ofString "/claim/cut.py") 4134)]), #[]⟩
noncomputable def f272 : FuncData := by
  refine (?g : (a : Arguments) → (b : List Stmt) → (s : Scope) → (a, b, s) = d (nth (sB (nth bE 12)) 2) → FuncData) ⟨_, _, _, _, _, _, _⟩ (_ :: _) ⟨_, _, _, _, _⟩ rfl
  exact fun a b s _ => ⟨(.ofString "decrypt"), (.ofString "AESModeOfOperationECB.decrypt"), a, .stmts b, s, 3, [], .none, .none, .none, (.str (.ofString "pyaes.aes") 194), none, (.ref 303), .none, 0⟩
noncomputable def o273 : O := fun P => ⟨(.type "function"), none, (.func f272), #[]⟩
noncomputable def o274 : O := fun P => ⟨(.type "dict"), none, (.dict #[k P (.ofString "__module__") 4113 (.str (.ofString "pyaes.aes") 194), k P (.ofString "__firstlineno__") 4117 (.int 166 4116), k P (.ofString "name") 4119 (.str (.ofString "Electronic Codebook (ECB)") 4118), k P (.ofString "encrypt") 4127 (.ref 297), k P (.ofString "decrypt") 4135 (.ref 304), k P (.ofString "__static_attributes__") 4136 (.ref 305), k P (.ofString "__doc__") 4137 .none] 2), #[]⟩
noncomputable def o275 : O := fun P => ⟨(.type "type"), none, (.cls ⟨(.ofString "AESModeOfOperationECB"), [(.ref 209)], [(.ref 307), (.ref 209), (.type "object")], 306, (.ofString "AESModeOfOperationECB"), true, [], [], false, none, false⟩), #[(some (.ref 284)), none, (some (.str (.ofString "AESModeOfOperationECB") 4106)), (some (.str (.ofString "AESModeOfOperationECB") 4114)), (some (.builtin "object.__new__")), (some (.bool true))]⟩
noncomputable def o276 : O := fun P => ⟨(.type "super"), none, (.fields #[(.ref 307), (.ref 307), (.ref 307)]), #[]⟩
noncomputable def o277 : O := fun P => ⟨(.type "builtin_function_or_method"), none, (.fields #[(.builtin "object.__init_subclass__"), (.ref 307)]), #[]⟩
noncomputable def o278 : O := fun P => ⟨(.type "dict"), none, (.dict #[k P (.ofString "__module__") 4147 (.str (.ofString "pyaes.aes") 194), k P (.ofString "__qualname__") 4149 (.str (.ofString "AESModeOfOperationCBC") 4148), k P (.ofString "__firstlineno__") 4151 (.int 180 4150), k P (.ofString "name") 4153 (.str (.ofString "Cipher-Block Chaining (CBC)") 4152), k P (.ofString "__init__") 4162 (.ref 324), k P (.ofString "encrypt") 4168 (.ref 329), k P (.ofString "decrypt") 4174 (.ref 334), k P (.ofString "__static_attributes__") 4176 (.ref 335)] 8), #[]⟩
noncomputable def o279 : O := fun P => ⟨.none, none, (.fields #[(.int 183 0), (.int 4 0), (.ref 323), (.int 192 0), (.int 4 0), (.ref 328), (.int 200 0), (.int 4 0), (.ref 333)]), #[]⟩
noncomputable def o280 : O := fun P => ⟨(.type "code"), none, (.fields #[(.str (.ofString "AESModeOfOperationCBC") 4142), (.str (.ofString "AESModeOfOperationCBC") 4143), (.str (.ofString "/claim/cut.py") 4144), (.int 180 0), (.int 0 0), (.int 0 0), (.int 0 0), (.int 0 0), (.ref 313), (.bool false), (.int 181 0), (.ref 314), .none, .none, .none, .none, (.int 4145 0), (.int 180 0), (.str (.ofString "/claim/cut.py") 4146)]), #[]⟩
noncomputable def o281 : O := fun P => ⟨(.type "frame"), none, .plain, #[(some (.ref 315)), (some (.ref 3)), (some (.ref 312)), none, (some (.str (.ofString "pyaes.aes") 194)), none, (some (.ref 0))]⟩
noncomputable def o282 : O := fun P => ⟨(.type "tuple"), none, (.seq #[.none] 0), #[]⟩
noncomputable def o283 : O := fun P => ⟨(.type "tuple"), none, (.seq #[(.str (.ofString "self") 4157), (.str (.ofString "key") 4158), (.str (.ofString "iv") 4159)] 0), #[]⟩
noncomputable def f284 : FuncData := by
  refine (?g : (a : Arguments) → (b : List Stmt) → (s : Scope) → (a, b, s) = d (nth (sB (nth bE 13)) 1) → FuncData) ⟨_, _, _, _, _, _, _⟩ (_ :: _) ⟨_, _, _, _, _⟩ rfl
  exact fun a b s _ => ⟨(.ofString "__init__"), (.ofString "AESModeOfOperationCBC.__init__"), a, .stmts b, s, 0, [], .none, .none, .none, .none, none, .none, .none, 0⟩
noncomputable def o285 : O := fun P => ⟨.none, none, (.func f284), #[]⟩
noncomputable def o286 : O := fun P => ⟨(.type "code"), none, (.fields #[(.str (.ofString "__init__") 4154), (.str (.ofString "AESModeOfOperationCBC.__init__") 4155), (.str (.ofString "/claim/cut.py") 4156), (.int 183 0), (.int 3 0), (.int 0 0), (.int 0 0), (.int 3 0), (.ref 318), (.bool true), (.int 181 0), (.ref 319), .none, (.ref 320), (.ref 321), (.ref 322), (.int 4160 0), (.int 183 0), (.str (.ofString "/claim/cut.py") 4161)]), #[]⟩
noncomputable def f287 : FuncData := by
  refine (?g : (a : Arguments) → (b : List Stmt) → (s : Scope) → (a, b, s) = d (nth (sB (nth bE 13)) 1) → FuncData) ⟨_, _, _, _, _, _, _⟩ (_ :: _) ⟨_, _, _, _, _⟩ rfl
  exact fun a b s _ => ⟨(.ofString "__init__"), (.ofString "AESModeOfOperationCBC.__init__"), a, .stmts b, s, 3, [], (.ref 317), .none, .none, (.str (.ofString "pyaes.aes") 194), none, (.ref 323), .none, 0⟩
noncomputable def o288 : O := fun P => ⟨(.type "function"), none, (.func f287), #[]⟩
noncomputable def f289 : FuncData := by
  refine (?g : (a : Arguments) → (b : List Stmt) → (s : Scope) → (a, b, s) = d (nth (sB (nth bE 13)) 2) → FuncData) ⟨_, _, _, _, _, _, _⟩ (_ :: _) ⟨_, _, _, _, _⟩ rfl
  exact fun a b s _ => ⟨(.ofString "encrypt"), (.ofString "AESModeOfOperationCBC.encrypt"), a, .stmts b, s, 0, [], .none, .none, .none, .none, none, .none, .none, 0⟩
noncomputable def o290 : O := fun P => ⟨.none, none, (.func f289), #[]⟩
noncomputable def o291 : O := fun P => ⟨(.type "code"), none, (.fields #[(.str (.ofString "encrypt") 4163), (.str (.ofString "AESModeOfOperationCBC.encrypt") 4164), (.str (.ofString "/claim/cut.py") 4165), (.int 192 0), (.int 2 0), (.int 0 0), (.int 0 0), (.int 3 0), (.ref 325), (.bool true), (.int 181 0), (.ref 326), .none, .none, .none, (.ref 327), (.int 4166 0), (.int 192 0), (.str (.ofString "/claim/cut.py") 4167)]), #[]⟩
noncomputable def f292 : FuncData := by
  refine (?g : (a : Arguments) → (b : List Stmt) → (s : Scope) → (a, b, s) = d (nth (sB (nth bE 13)) 2) → FuncData) ⟨_, _, _, _, _, _, _⟩ (_ :: _) ⟨_, _, _, _, _⟩ rfl
  exact fun a b s _ => ⟨(.ofString "encrypt"), (.ofString "AESModeOfOperationCBC.encrypt"), a, .stmts b, s, 3, [], .none, .none, .none, (.str (.ofString "pyaes.aes") 194), none, (.ref 328), .none, 0⟩
noncomputable def o293 : O := fun P => ⟨(.type "function"), none, (.func f292), #[]⟩
noncomputable def f294 : FuncData := by
  refine (?g : (a : Arguments) → (b : List Stmt) → (s : Scope) → (a, b, s) = d (nth (sB (nth bE 13)) 3) → FuncData) ⟨_, _, _, _, _, _, _⟩ (_ :: _) ⟨_, _, _, _, _⟩ rfl
  exact fun a b s _ => ⟨(.ofString "decrypt"), (.ofString "AESModeOfOperationCBC.decrypt"), a, .stmts b, s, 0, [], .none, .none, .none, .none, none, .none, .none, 0⟩
noncomputable def o295 : O := fun P => ⟨.none, none, (.func f294), #[]⟩
noncomputable def o296 : O := fun P => ⟨(.type "code"), none, (.fields #[(.str (.ofString "decrypt") 4169), (.str (.ofString "AESModeOfOperationCBC.decrypt") 4170), (.str (.ofString "/claim/cut.py") 4171), (.int 200 0), (.int 2 0), (.int 0 0), (.int 0 0), (.int 3 0), (.ref 330), (.bool true), (.int 181 0), (.ref 331), .none, .none, .none, (.ref 332), (.int 4172 0), (.int 200 0), (.str (.ofString "/claim/cut.py") 4173)]), #[]⟩
noncomputable def f297 : FuncData := by
  refine (?g : (a : Arguments) → (b : List Stmt) → (s : Scope) → (a, b, s) = d (nth (sB (nth bE 13)) 3) → FuncData) ⟨_, _, _, _, _, _, _⟩ (_ :: _) ⟨_, _, _, _, _⟩ rfl
  exact fun a b s _ => ⟨(.ofString "decrypt"), (.ofString "AESModeOfOperationCBC.decrypt"), a, .stmts b, s, 3, [], .none, .none, .none, (.str (.ofString "pyaes.aes") 194), none, (.ref 333), .none, 0⟩
noncomputable def o298 : O := fun P => ⟨(.type "function"), none, (.func f297), #[]⟩
noncomputable def o299 : O := fun P => ⟨(.type "tuple"), none, (.seq #[(.str (.ofString "_last_cipherblock") 4175)] 0), #[]⟩
noncomputable def o300 : O := fun P => ⟨(.type "dict"), none, (.dict #[k P (.ofString "__module__") 4147 (.str (.ofString "pyaes.aes") 194), k P (.ofString "__firstlineno__") 4151 (.int 180 4150), k P (.ofString "name") 4153 (.str (.ofString "Cipher-Block Chaining (CBC)") 4152), k P (.ofString "__init__") 4162 (.ref 324), k P (.ofString "encrypt") 4168 (.ref 329), k P (.ofString "decrypt") 4174 (.ref 334), k P (.ofString "__static_attributes__") 4176 (.ref 335), k P (.ofString "__doc__") 4177 .none] 2), #[]⟩
noncomputable def o301 : O := fun P => ⟨(.type "type"), none, (.cls ⟨(.ofString "AESModeOfOperationCBC"), [(.ref 209)], [(.ref 337), (.ref 209), (.type "object")], 336, (.ofString "AESModeOfOperationCBC"), true, [], [], false, none, false⟩), #[(some (.ref 310)), none, (some (.str (.ofString "AESModeOfOperationCBC") 4140)), (some (.str (.ofString "AESModeOfOperationCBC") 4148)), (some (.builtin "object.__new__")), (some (.bool true))]⟩
noncomputable def o302 : O := fun P => ⟨(.type "super"), none, (.fields #[(.ref 337), (.ref 337), (.ref 337)]), #[]⟩
noncomputable def o303 : O := fun P => ⟨(.type "builtin_function_or_method"), none, (.fields #[(.builtin "object.__init_subclass__"), (.ref 337)]), #[]⟩
noncomputable def o304 : O := fun P => ⟨(.type "tuple"), none, (.seq #[(.ref 281)] 0), #[]⟩
noncomputable def o305 : O := fun P => ⟨(.type "dict"), none, (.dict #[k P (.ofString "__module__") 4187 (.str (.ofString "pyaes.aes") 194), k P (.ofString "__qualname__") 4189 (.str (.ofString "AESModeOfOperationCFB") 4188), k P (.ofString "__firstlineno__") 4191 (.int 207 4190), k P (.ofString "name") 4193 (.str (.ofString "Cipher Feedback (CFB)") 4192), k P (.ofString "__init__") 4204 (.ref 354), k P (.ofString "segment_bytes") 4212 (.ref 362), k P (.ofString "encrypt") 4218 (.ref 367), k P (.ofString "decrypt") 4224 (.ref 372), k P (.ofString "__static_attributes__") 4227 (.ref 373)] 9), #[]⟩
noncomputable def o306 : O := fun P => ⟨.none, none, (.fields #[(.int 210 0), (.int 4 0), (.ref 353), (.int 221 0), (.int 29 0), (.ref 360), (.int 223 0), (.int 4 0), (.ref 366), (.int 236 0), (.int 4 0), (.ref 371)]), #[]⟩
noncomputable def o307 : O := fun P => ⟨(.type "code"), none, (.fields #[(.str (.ofString "AESModeOfOperationCFB") 4182), (.str (.ofString "AESModeOfOperationCFB") 4183), (.str (.ofString "/claim/cut.py") 4184), (.int 207 0), (.int 0 0), (.int 0 0), (.int 0 0), (.int 0 0), (.ref 343), (.bool false), (.int 181 0), (.ref 344), .none, .none, .none, .none, (.int 4185 0), (.int 207 0), (.str (.ofString "/claim/cut.py") 4186)]), #[]⟩
noncomputable def o308 : O := fun P => ⟨(.type "frame"), none, .plain, #[(some (.ref 345)), (some (.ref 3)), (some (.ref 342)), none, (some (.str (.ofString "pyaes.aes") 194)), none, (some (.ref 0))]⟩
noncomputable def o309 : O := fun P => ⟨(.type "tuple"), none, (.seq #[(.int 1 4194)] 0), #[]⟩
noncomputable def o310 : O := fun P => ⟨(.type "tuple"), none, (.seq #[(.str (.ofString "self") 4198), (.str (.ofString "key") 4199), (.str (.ofString "iv") 4200), (.str (.ofString "segment_size") 4201)] 0), #[]⟩
noncomputable def f311 : FuncData := by
  refine (?g : (a : Arguments) → (b : List Stmt) → (s : Scope) → (a, b, s) = d (nth (sB (nth bE 14)) 1) → FuncData) ⟨_, _, _, _, _, _, _⟩ (_ :: _) ⟨_, _, _, _, _⟩ rfl
  exact fun a b s _ => ⟨(.ofString "__init__"), (.ofString "AESModeOfOperationCFB.__init__"), a, .stmts b, s, 0, [], .none, .none, .none, .none, none, .none, .none, 0⟩
noncomputable def o312 : O := fun P => ⟨.none, none, (.func f311), #[]⟩
noncomputable def o313 : O := fun P => ⟨(.type "code"), none, (.fields #[(.str (.ofString "__init__") 4195), (.str (.ofString "AESModeOfOperationCFB.__init__") 4196), (.str (.ofString "/claim/cut.py") 4197), (.int 210 0), (.int 4 0), (.int 0 0), (.int 0 0), (.int 3 0), (.ref 348), (.bool true), (.int 181 0), (.ref 349), .none, (.ref 350), (.ref 351), (.ref 352), (.int 4202 0), (.int 210 0), (.str (.ofString "/claim/cut.py") 4203)]), #[]⟩
noncomputable def f314 : FuncData := by
  refine (?g : (a : Arguments) → (b : List Stmt) → (s : Scope) → (a, b, s) = d (nth (sB (nth bE 14)) 1) → FuncData) ⟨_, _, _, _, _, _, _⟩ (_ :: _) ⟨_, _, _, _, _⟩ rfl
  exact fun a b s _ => ⟨(.ofString "__init__"), (.ofString "AESModeOfOperationCFB.__init__"), a, .stmts b, s, 3, [], (.ref 347), .none, .none, (.str (.ofString "pyaes.aes") 194), none, (.ref 353), .none, 0⟩
noncomputable def o315 : O := fun P => ⟨(.type "function"), none, (.func f314), #[]⟩
noncomputable def o316 : O := fun P => ⟨(.type "tuple"), none, (.seq #[(.str (.ofString "s") 4208)] 0), #[]⟩
noncomputable def f317 : FuncData := by
  refine (?g : (a : Arguments) → (b : PySem.Expr) → (s : Scope) → (a, b, s) = m (nth (sB (nth bE 14)) 2) → FuncData) ⟨_, _, _, _, _, _, _⟩ (.Attribute _ _ _) ⟨_, _, _, _, _⟩ rfl
  exact fun a b s _ => ⟨(.ofString "<lambda>"), (.ofString "AESModeOfOperationCFB.<lambda>"), a, .expr b, s, 0, [], .none, .none, .none, .none, none, .none, .none, 0⟩
noncomputable def o318 : O := fun P => ⟨.none, none, (.func f317), #[]⟩
noncomputable def o319 : O := fun P => ⟨(.type "code"), none, (.fields #[(.str (.ofString "<lambda>") 4205), (.str (.ofString "AESModeOfOperationCFB.<lambda>") 4206), (.str (.ofString "/claim/cut.py") 4207), (.int 221 0), (.int 1 0), (.int 0 0), (.int 0 0), (.int 3 0), (.ref 355), (.bool true), (.int 181 0), (.ref 356), .none, (.ref 357), (.ref 358), (.ref 359), (.int 4209 0), (.int 221 0), (.str (.ofString "/claim/cut.py") 4210)]), #[]⟩
noncomputable def f320 : FuncData := by
  refine (?g : (a : Arguments) → (b : PySem.Expr) → (s : Scope) → (a, b, s) = m (nth (sB (nth bE 14)) 2) → FuncData) ⟨_, _, _, _, _, _, _⟩ (.Attribute _ _ _) ⟨_, _, _, _, _⟩ rfl
  exact fun a b s _ => ⟨(.ofString "<lambda>"), (.ofString "AESModeOfOperationCFB.<lambda>"), a, .expr b, s, 3, [], .none, .none, .none, (.str (.ofString "pyaes.aes") 194), none, (.ref 360), .none, 0⟩
noncomputable def o321 : O := fun P => ⟨(.type "function"), none, (.func f320), #[]⟩
noncomputable def o322 : O := fun P => ⟨(.type "property"), none, (.fields #[(.ref 361), .none, .none, .none, (.str (.ofString "segment_bytes") 4212), (.bool false)]), #[]⟩
noncomputable def f323 : FuncData := by
  refine (?g : (a : Arguments) → (b : List Stmt) → (s : Scope) → (a, b, s) = d (nth (sB (nth bE 14)) 3) → FuncData) ⟨_, _, _, _, _, _, _⟩ (_ :: _) ⟨_, _, _, _, _⟩ rfl
  exact fun a b s _ => ⟨(.ofString "encrypt"), (.ofString "AESModeOfOperationCFB.encrypt"), a, .stmts b, s, 0, [], .none, .none, .none, .none, none, .none, .none, 0⟩
noncomputable def o324 : O := fun P => ⟨.none, none, (.func f323), #[]⟩
noncomputable def o325 : O := fun P => ⟨(.type "code"), none, (.fields #[(.str (.ofString "encrypt") 4213), (.str (.ofString "AESModeOfOperationCFB.encrypt") 4214), (.str (.ofString "/claim/cut.py") 4215), (.int 223 0), (.int 2 0), (.int 0 0), (.int 0 0), (.int 3 0), (.ref 363), (.bool true), (.int 181 0), (.ref 364), .none, .none, .none, (.ref 365), (.int 4216 0), (.int 223 0), (.str (.ofString "/claim/cut.py") 4217)]), #[]⟩
noncomputable def f326 : FuncData := by
  refine (?g : (a : Arguments) → (b : List Stmt) → (s : Scope) → (a, b, s) = d (nth (sB (nth bE 14)) 3) → FuncData) ⟨_, _, _, _, _, _, _⟩ (_ :: _) ⟨_, _, _, _, _⟩ rfl
  exact fun a b s _ => ⟨(.ofString "encrypt"), (.ofString "AESModeOfOperationCFB.encrypt"), a, .stmts b, s, 3, [], .none, .none, .none, (.str (.ofString "pyaes.aes") 194), none, (.ref 366), .none, 0⟩
noncomputable def o327 : O := fun P => ⟨(.type "function"), none, (.func f326), #[]⟩
noncomputable def f328 : FuncData := by
  refine (?g : (a : Arguments) → (b : List Stmt) → (s : Scope) → (a, b, s) = d (nth (sB (nth bE 14)) 4) → FuncData) ⟨_, _, _, _, _, _, _⟩ (_ :: _) ⟨_, _, _, _, _⟩ rfl
  exact fun a b s _ => ⟨(.ofString "decrypt"), (.ofString "AESModeOfOperationCFB.decrypt"), a, .stmts b, s, 0, [], .none, .none, .none, .none, none, .none, .none, 0⟩
noncomputable def o329 : O := fun P => ⟨.none, none, (.func f328), #[]⟩
noncomputable def o330 : O := fun P => ⟨(.type "code"), none, (.fields #[(.str (.ofString "decrypt") 4219), (.str (.ofString "AESModeOfOperationCFB.decrypt") 4220), (.str (.ofString "/claim/cut.py") 4221), (.int 236 0), (.int 2 0), (.int 0 0), (.int 0 0), (.int 3 0), (.ref 368), (.bool true), (.int 181 0), (.ref 369), .none, .none, .none, (.ref 370), (.int 4222 0), (.int 236 0), (.str (.ofString "/claim/cut.py") 4223)]), #[]⟩
noncomputable def f331 : FuncData := by
  refine (?g : (a : Arguments) → (b : List Stmt) → (s : Scope) → (a, b, s) = d (nth (sB (nth bE 14)) 4) → FuncData) ⟨_, _, _, _, _, _, _⟩ (_ :: _) ⟨_, _, _, _, _⟩ rfl
  exact fun a b s _ => ⟨(.ofString "decrypt"), (.ofString "AESModeOfOperationCFB.decrypt"), a, .stmts b, s, 3, [], .none, .none, .none, (.str (.ofString "pyaes.aes") 194), none, (.ref 371), .none, 0⟩
noncomputable def o332 : O := fun P => ⟨(.type "function"), none, (.func f331), #[]⟩
noncomputable def o333 : O := fun P => ⟨(.type "tuple"), none, (.seq #[(.str (.ofString "_segment_bytes") 4225), (.str (.ofString "_shift_register") 4226)] 0), #[]⟩
noncomputable def o334 : O := fun P => ⟨(.type "dict"), none, (.dict #[k P (.ofString "__module__") 4187 (.str (.ofString "pyaes.aes") 194), k P (.ofString "__firstlineno__") 4191 (.int 207 4190), k P (.ofString "name") 4193 (.str (.ofString "Cipher Feedback (CFB)") 4192), k P (.ofString "__init__") 4204 (.ref 354), k P (.ofString "segment_bytes") 4212 (.ref 362), k P (.ofString "encrypt") 4218 (.ref 367), k P (.ofString "decrypt") 4224 (.ref 372), k P (.ofString "__static_attributes__") 4227 (.ref 373), k P (.ofString "__doc__") 4228 .none] 2), #[]⟩
noncomputable def o335 : O := fun P => ⟨(.type "type"), none, (.cls ⟨(.ofString "AESModeOfOperationCFB"), [(.ref 281)], [(.ref 375), (.ref 281), (.ref 246), (.ref 209), (.type "object")], 374, (.ofString "AESModeOfOperationCFB"), true, [], [], false, none, false⟩), #[(some (.ref 340)), none, (some (.str (.ofString "AESModeOfOperationCFB") 4180)), (some (.str (.ofString "AESModeOfOperationCFB") 4188)), (some (.builtin "object.__new__")), (some (.bool true))]⟩
noncomputable def o336 : O := fun P => ⟨(.type "super"), none, (.fields #[(.ref 375), (.ref 375), (.ref 375)]), #[]⟩
noncomputable def o337 : O := fun P => ⟨(.type "builtin_function_or_method"), none, (.fields #[(.builtin "object.__init_subclass__"), (.ref 375)]), #[]⟩
noncomputable def o338 : O := fun P => ⟨(.type "dict"), none, (.dict #[k P (.ofString "__module__") 4238 (.str (.ofString "pyaes.aes") 194), k P (.ofString "__qualname__") 4240 (.str (.ofString "AESModeOfOperationOFB") 4239), k P (.ofString "__firstlineno__") 4242 (.int 248 4241), k P (.ofString "name") 4244 (.str (.ofString "Output Feedback (OFB)") 4243), k P (.ofString "__init__") 4253 (.ref 392), k P (.ofString "encrypt") 4265 (.ref 399), k P (.ofString "decrypt") 4273 (.ref 406), k P (.ofString "__static_attributes__") 4276 (.ref 407)] 8), #[]⟩
noncomputable def o339 : O := fun P => ⟨.none, none, (.fields #[(.int 251 0), (.int 4 0), (.ref 391), (.int 261 0), (.int 4 0), (.ref 398), (.int 273 0), (.int 4 0), (.ref 405)]), #[]⟩
noncomputable def o340 : O := fun P => ⟨(.type "code"), none, (.fields #[(.str (.ofString "AESModeOfOperationOFB") 4233), (.str (.ofString "AESModeOfOperationOFB") 4234), (.str (.ofString "/claim/cut.py") 4235), (.int 248 0), (.int 0 0), (.int 0 0), (.int 0 0), (.int 0 0), (.ref 381), (.bool false), (.int 181 0), (.ref 382), .none, .none, .none, .none, (.int 4236 0), (.int 248 0), (.str (.ofString "/claim/cut.py") 4237)]), #[]⟩
noncomputable def o341 : O := fun P => ⟨(.type "frame"), none, .plain, #[(some (.ref 383)), (some (.ref 3)), (some (.ref 380)), none, (some (.str (.ofString "pyaes.aes") 194)), none, (some (.ref 0))]⟩
noncomputable def o342 : O := fun P => ⟨(.type "tuple"), none, (.seq #[(.str (.ofString "self") 4248), (.str (.ofString "key") 4249), (.str (.ofString "iv") 4250)] 0), #[]⟩
noncomputable def f343 : FuncData := by
  refine (?g : (a : Arguments) → (b : List Stmt) → (s : Scope) → (a, b, s) = d (nth (sB (nth bE 15)) 1) → FuncData) ⟨_, _, _, _, _, _, _⟩ (_ :: _) ⟨_, _, _, _, _⟩ rfl
  exact fun a b s _ => ⟨(.ofString "__init__"), (.ofString "AESModeOfOperationOFB.__init__"), a, .stmts b, s, 0, [], .none, .none, .none, .none, none, .none, .none, 0⟩
noncomputable def o344 : O := fun P => ⟨.none, none, (.func f343), #[]⟩
noncomputable def o345 : O := fun P => ⟨(.type "code"), none, (.fields #[(.str (.ofString "__init__") 4245), (.str (.ofString "AESModeOfOperationOFB.__init__") 4246), (.str (.ofString "/claim/cut.py") 4247), (.int 251 0), (.int 3 0), (.int 0 0), (.int 0 0), (.int 3 0), (.ref 386), (.bool true), (.int 181 0), (.ref 387), .none, (.ref 388), (.ref 389), (.ref 390), (.int 4251 0), (.int 251 0), (.str (.ofString "/claim/cut.py") 4252)]), #[]⟩
noncomputable def f346 : FuncData := by
  refine (?g : (a : Arguments) → (b : List Stmt) → (s : Scope) → (a, b, s) = d (nth (sB (nth bE 15)) 1) → FuncData) ⟨_, _, _, _, _, _, _⟩ (_ :: _) ⟨_, _, _, _, _⟩ rfl
  exact fun a b s _ => ⟨(.ofString "__init__"), (.ofString "AESModeOfOperationOFB.__init__"), a, .stmts b, s, 3, [], (.ref 385), .none, .none, (.str (.ofString "pyaes.aes") 194), none, (.ref 391), .none, 0⟩
noncomputable def o347 : O := fun P => ⟨(.type "function"), none, (.func f346), #[]⟩
noncomputable def o348 : O := fun P => ⟨(.type "tuple"), none, (.seq #[(.str (.ofString "self") 4257), (.str (.ofString "plaintext") 4258), (.str (.ofString "encrypted") 4259), (.str (.ofString "p") 4260), (.str (.ofString "precipherbyte") 4261), (.str (.ofString "cipherbyte") 4262)] 0), #[]⟩
noncomputable def f349 : FuncData := by
  refine (?g : (a : Arguments) → (b : List Stmt) → (s : Scope) → (a, b, s) = d (nth (sB (nth bE 15)) 2) → FuncData) ⟨_, _, _, _, _, _, _⟩ (_ :: _) ⟨_, _, _, _, _⟩ rfl
  exact fun a b s _ => ⟨(.ofString "encrypt"), (.ofString "AESModeOfOperationOFB.encrypt"), a, .stmts b, s, 0, [], .none, .none, .none, .none, none, .none, .none, 0⟩
noncomputable def o350 : O := fun P => ⟨.none, none, (.func f349), #[]⟩
noncomputable def o351 : O := fun P => ⟨(.type "code"), none, (.fields #[(.str (.ofString "encrypt") 4254), (.str (.ofString "AESModeOfOperationOFB.encrypt") 4255), (.str (.ofString "/claim/cut.py") 4256), (.int 261 0), (.int 2 0), (.int 0 0), (.int 0 0), (.int 3 0), (.ref 393), (.bool true), (.int 181 0), (.ref 394), .none, (.ref 395), (.ref 396), (.ref 397), (.int 4263 0), (.int 261 0), (.str (.ofString "/claim/cut.py") 4264)]), #[]⟩
noncomputable def f352 : FuncData := by
  refine (?g : (a : Arguments) → (b : List Stmt) → (s : Scope) → (a, b, s) = d (nth (sB (nth bE 15)) 2) → FuncData) ⟨_, _, _, _, _, _, _⟩ (_ :: _) ⟨_, _, _, _, _⟩ rfl
  exact fun a b s _ => ⟨(.ofString "encrypt"), (.ofString "AESModeOfOperationOFB.encrypt"), a, .stmts b, s, 3, [], .none, .none, .none, (.str (.ofString "pyaes.aes") 194), none, (.ref 398), .none, 0⟩
noncomputable def o353 : O := fun P => ⟨(.type "function"), none, (.func f352), #[]⟩
noncomputable def o354 : O := fun P => ⟨(.type "tuple"), none, (.seq #[(.str (.ofString "self") 4269), (.str (.ofString "ciphertext") 4270)] 0), #[]⟩
noncomputable def f355 : FuncData := by
  refine (?g : (a : Arguments) → (b : List Stmt) → (s : Scope) → (a, b, s) = d (nth (sB (nth bE 15)) 3) → FuncData) ⟨_, _, _, _, _, _, _⟩ (_ :: _) ⟨_, _, _, _, _⟩ rfl
  exact fun a b s _ => ⟨(.ofString "decrypt"), (.ofString "AESModeOfOperationOFB.decrypt"), a, .stmts b, s, 0, [], .none, .none, .none, .none, none, .none, .none, 0⟩
noncomputable def o356 : O := fun P => ⟨.none, none, (.func f355), #[]⟩
noncomputable def o357 : O := fun P => ⟨(.type "code"), none, (.fields #[(.str (.ofString "decrypt") 4266), (.str (.ofString "AESModeOfOperationOFB.decrypt") 4267), (.str (.ofString "/claim/cut.py") 4268), (.int 273 0), (.int 2 0), (.int 0 0), (.int 0 0), (.int 3 0), (.ref 400), (.bool true), (.int 181 0), (.ref 401), .none, (.ref 402), (.ref 403), (.ref 404), (.int 4271 0), (.int 273 0), (.str (.ofString "/claim/cut.py") 4272)]), #[]⟩
noncomputable def f358 : FuncData := by
  refine (?g : (a : Arguments) → (b : List Stmt) → (s : Scope) → (a, b, s) = d (nth (sB (nth bE 15)) 3) → FuncData) ⟨_, _, _, _, _, _, _⟩ (_ :: _) ⟨_, _, _, _, _⟩ rfl
  exact fun a b s _ => ⟨(.ofString "decrypt"), (.ofString "AESModeOfOperationOFB.decrypt"), a, .stmts b, s, 3, [], .none, .none, .none, (.str (.ofString "pyaes.aes") 194), none, (.ref 405), .none, 0⟩
noncomputable def o359 : O := fun P => ⟨(.type "function"), none, (.func f358), #[]⟩
noncomputable def o360 : O := fun P => ⟨(.type "tuple"), none, (.seq #[(.str (.ofString "_last_precipherblock") 4274), (.str (.ofString "_remaining_block") 4275)] 0), #[]⟩
noncomputable def o361 : O := fun P => ⟨(.type "dict"), none, (.dict #[k P (.ofString "__module__") 4238 (.str (.ofString "pyaes.aes") 194), k P (.ofString "__firstlineno__") 4242 (.int 248 4241), k P (.ofString "name") 4244 (.str (.ofString "Output Feedback (OFB)") 4243), k P (.ofString "__init__") 4253 (.ref 392), k P (.ofString "encrypt") 4265 (.ref 399), k P (.ofString "decrypt") 4273 (.ref 406), k P (.ofString "__static_attributes__") 4276 (.ref 407), k P (.ofString "__doc__") 4277 .none] 2), #[]⟩
noncomputable def o362 : O := fun P => ⟨(.type "type"), none, (.cls ⟨(.ofString "AESModeOfOperationOFB"), [(.ref 246)], [(.ref 409), (.ref 246), (.ref 209), (.type "object")], 408, (.ofString "AESModeOfOperationOFB"), true, [], [], false, none, false⟩), #[(some (.ref 378)), none, (some (.str (.ofString "AESModeOfOperationOFB") 4231)), (some (.str (.ofString "AESModeOfOperationOFB") 4239)), (some (.builtin "object.__new__")), (some (.bool true))]⟩
noncomputable def o363 : O := fun P => ⟨(.type "super"), none, (.fields #[(.ref 409), (.ref 409), (.ref 409)]), #[]⟩
noncomputable def o364 : O := fun P => ⟨(.type "builtin_function_or_method"), none, (.fields #[(.builtin "object.__init_subclass__"), (.ref 409)]), #[]⟩
noncomputable def s3 : List Stmt := (bE.drop 12).take 4
noncomputable def t4 : Params → BT := fun P => (nd (boot_o_0 P) (nd (boot_o_1 P) (nd (o253 P) (nd (boot_o_7 P) (nd (o0 P) (nd (o19 P) (nd (o52 P) (nd (o124 P) (nd (o230 P) nl nl) (nd (o340 P) nl nl)) (nd (o179 P) (nd (o1 P) nl nl) nl)) (nd (o89 P) (nd (o0 P) (nd (o0 P) nl nl) nl) (nd (o204 P) (nd (o0 P) nl nl) nl))) (nd (o34 P) (nd (o71 P) (nd (o1 P) (nd (o179 P) nl nl) (nd (o353 P) nl nl)) (nd (o192 P) (nd (o299 P) nl nl) nl)) (nd (o106 P) (nd (o164 P) (nd (o271 P) nl nl) nl) (nd (o216 P) (nd (o327 P) nl nl) nl)))) (nd (o1 P) (nd (o26 P) (nd (o61 P) (nd (o1 P) (nd (o179 P) nl nl) (nd (o345 P) nl nl)) (nd (o179 P) (nd (o290 P) nl nl) nl)) (nd (o99 P) (nd (o157 P) (nd (o264 P) nl nl) nl) (nd (o210 P) (nd (o318 P) nl nl) nl))) (nd (o42 P) (nd (o80 P) (nd (o146 P) (nd (o0 P) nl nl) (nd (o360 P) nl nl)) (nd (o37 P) (nd (o0 P) nl nl) nl)) (nd (o117 P) (nd (o172 P) (nd (o37 P) nl nl) nl) (nd (o224 P) (nd (o335 P) nl nl) nl))))) (nd (o0 P) (nd (o8 P) (nd (o1 P) (nd (o57 P) (nd (o127 P) (nd (o0 P) nl nl) (nd (o1 P) nl nl)) (nd (o0 P) (nd (o286 P) nl nl) nl)) (nd (o0 P) (nd (o0 P) (nd (o0 P) nl nl) nl) (nd (o209 P) (nd (o0 P) nl nl) nl))) (nd (o0 P) (nd (o75 P) (nd (o141 P) (nd (o0 P) nl nl) (nd (o0 P) nl nl)) (nd (o196 P) (nd (o303 P) nl nl) nl)) (nd (o113 P) (nd (o167 P) (nd (o275 P) nl nl) nl) (nd (o221 P) (nd (o330 P) nl nl) nl)))) (nd (o15 P) (nd (o29 P) (nd (o66 P) (nd (o134 P) (nd (o0 P) nl nl) (nd (o348 P) nl nl)) (nd (o0 P) (nd (o1 P) nl nl) nl)) (nd (o102 P) (nd (o1 P) (nd (o1 P) nl nl) nl) (nd (o215 P) (nd (o0 P) nl nl) nl))) (nd (o47 P) (nd (o85 P) (nd (o150 P) (nd (o252 P) nl nl) (nd (o364 P) nl nl)) (nd (o202 P) (nd (o309 P) nl nl) nl)) (nd (o121 P) (nd (o0 P) (nd (o280 P) nl nl) nl) (nd (o227 P) (nd (o37 P) nl nl) nl)))))) (nd (boot_o_5 P) (nd (boot_o_9 P) (nd (o6 P) (nd (o22 P) (nd (o54 P) (nd (o0 P) (nd (o1 P) nl nl) (nd (o282 P) nl nl)) (nd (o1 P) (nd (o0 P) nl nl) nl)) (nd (o93 P) (nd (o153 P) (nd (o260 P) nl nl) nl) (nd (o206 P) (nd (o313 P) nl nl) nl))) (nd (o37 P) (nd (o73 P) (nd (o0 P) (nd (o1 P) nl nl) (nd (o1 P) nl nl)) (nd (o255 P) (nd (o301 P) nl nl) nl)) (nd (o109 P) (nd (o0 P) (nd (o0 P) nl nl) nl) (nd (o218 P) (nd (o1 P) nl nl) nl)))) (nd (o0 P) (nd (o0 P) (nd (o64 P) (nd (o0 P) (nd (o1 P) nl nl) (nd (o0 P) nl nl)) (nd (o1 P) (nd (o293 P) nl nl) nl)) (nd (o1 P) (nd (o160 P) (nd (o267 P) nl nl) nl) (nd (o212 P) (nd (o321 P) nl nl) nl))) (nd (o45 P) (nd (o82 P) (nd (o148 P) (nd (o257 P) nl nl) (nd (o362 P) nl nl)) (nd (o0 P) (nd (o307 P) nl nl) nl)) (nd (o36 P) (nd (o1 P) (nd (o0 P) nl nl) nl) (nd (o226 P) (nd (o337 P) nl nl) nl))))) (nd (o2 P) (nd (o11 P) (nd (o0 P) (nd (o59 P) (nd (o130 P) (nd (o234 P) nl nl) (nd (o0 P) nl nl)) (nd (o183 P) (nd (o0 P) nl nl) nl)) (nd (o96 P) (nd (o155 P) (nd (o262 P) nl nl) nl) (nd (o0 P) (nd (o316 P) nl nl) nl))) (nd (o39 P) (nd (o78 P) (nd (o144 P) (nd (o246 P) nl nl) (nd (o357 P) nl nl)) (nd (o198 P) (nd (o37 P) nl nl) nl)) (nd (o115 P) (nd (o169 P) (nd (o277 P) nl nl) nl) (nd (o222 P) (nd (o333 P) nl nl) nl)))) (nd (o0 P) (nd (o31 P) (nd (o68 P) (nd (o137 P) (nd (o240 P) nl nl) (nd (o350 P) nl nl)) (nd (o189 P) (nd (o296 P) nl nl) nl)) (nd (o0 P) (nd (o0 P) (nd (o0 P) nl nl) nl) (nd (o0 P) (nd (o324 P) nl nl) nl))) (nd (o50 P) (nd (o87 P) (nd (o37 P) (nd (o37 P) nl nl) nl) (nd (o0 P) (nd (o1 P) nl nl) nl)) (nd (o122 P) (nd (o176 P) (nd (o282 P) nl nl) nl) (nd (o228 P) (nd (o0 P) nl nl) nl))))))) (nd (boot_o_2 P) (nd (boot_o_4 P) (nd (boot_o_8 P) (nd (o1 P) (nd (o20 P) (nd (o53 P) (nd (o125 P) (nd (o0 P) nl nl) (nd (o341 P) nl nl)) (nd (o0 P) (nd (o283 P) nl nl) nl)) (nd (o92 P) (nd (o152 P) (nd (o259 P) nl nl) nl) (nd (o0 P) (nd (o312 P) nl nl) nl))) (nd (o36 P) (nd (o72 P) (nd (o138 P) (nd (o0 P) nl nl) (nd (o0 P) nl nl)) (nd (o193 P) (nd (o300 P) nl nl) nl)) (nd (o107 P) (nd (o166 P) (nd (o273 P) nl nl) nl) (nd (o0 P) (nd (o0 P) nl nl) nl)))) (nd (o12 P) (nd (o28 P) (nd (o63 P) (nd (o131 P) (nd (o0 P) nl nl) (nd (o347 P) nl nl)) (nd (o0 P) (nd (o291 P) nl nl) nl)) (nd (o0 P) (nd (o158 P) (nd (o265 P) nl nl) nl) (nd (o0 P) (nd (o319 P) nl nl) nl))) (nd (o44 P) (nd (o81 P) (nd (o147 P) (nd (o249 P) nl nl) (nd (o361 P) nl nl)) (nd (o200 P) (nd (o306 P) nl nl) nl)) (nd (o118 P) (nd (o0 P) (nd (o278 P) nl nl) nl) (nd (o225 P) (nd (o336 P) nl nl) nl))))) (nd (o254 P) (nd (o9 P) (nd (o23 P) (nd (o58 P) (nd (o128 P) (nd (o233 P) nl nl) (nd (o342 P) nl nl)) (nd (o182 P) (nd (o288 P) nl nl) nl)) (nd (o1 P) (nd (o1 P) (nd (o1 P) nl nl) nl) (nd (o179 P) (nd (o1 P) nl nl) nl))) (nd (o91 P) (nd (o77 P) (nd (o143 P) (nd (o245 P) nl nl) (nd (o356 P) nl nl)) (nd (o197 P) (nd (o304 P) nl nl) nl)) (nd (o114 P) (nd (o0 P) (nd (o276 P) nl nl) nl) (nd (o0 P) (nd (o332 P) nl nl) nl)))) (nd (o17 P) (nd (o0 P) (nd (o67 P) (nd (o136 P) (nd (o239 P) nl nl) (nd (o0 P) nl nl)) (nd (o188 P) (nd (o295 P) nl nl) nl)) (nd (o104 P) (nd (o161 P) (nd (o268 P) nl nl) nl) (nd (o179 P) (nd (o1 P) nl nl) nl))) (nd (o49 P) (nd (o86 P) (nd (o36 P) (nd (o199 P) nl nl) nl) (nd (o203 P) (nd (o0 P) nl nl) nl)) (nd (o0 P) (nd (o175 P) (nd (o281 P) nl nl) nl) (nd (o0 P) (nd (o338 P) nl nl) nl)))))) (nd (boot_o_6 P) (nd (boot_o_10 P) (nd (o0 P) (nd (o0 P) (nd (o56 P) (nd (o1 P) (nd (o231 P) nl nl) (nd (o0 P) nl nl)) (nd (o180 P) (nd (o285 P) nl nl) nl)) (nd (o94 P) (nd (o154 P) (nd (o261 P) nl nl) nl) (nd (o207 P) (nd (o315 P) nl nl) nl))) (nd (o111 P) (nd (o74 P) (nd (o140 P) (nd (o243 P) nl nl) (nd (o354 P) nl nl)) (nd (o195 P) (nd (o302 P) nl nl) nl)) (nd (o112 P) (nd (o1 P) (nd (o274 P) nl nl) nl) (nd (o219 P) (nd (o329 P) nl nl) nl)))) (nd (o14 P) (nd (o1 P) (nd (o65 P) (nd (o133 P) (nd (o237 P) nl nl) (nd (o1 P) nl nl)) (nd (o186 P) (nd (o0 P) nl nl) nl)) (nd (o101 P) (nd (o0 P) (nd (o0 P) nl nl) nl) (nd (o213 P) (nd (o322 P) nl nl) nl))) (nd (o46 P) (nd (o84 P) (nd (o149 P) (nd (o251 P) nl nl) (nd (o363 P) nl nl)) (nd (o201 P) (nd (o308 P) nl nl) nl)) (nd (o37 P) (nd (o173 P) (nd (o279 P) nl nl) nl) (nd (o37 P) (nd (o226 P) nl nl) nl))))) (nd (o3 P) (nd (o0 P) (nd (o25 P) (nd (o60 P) (nd (o0 P) (nd (o236 P) nl nl) (nd (o344 P) nl nl)) (nd (o185 P) (nd (o1 P) nl nl) nl)) (nd (o97 P) (nd (o0 P) (nd (o0 P) nl nl) nl) (nd (o1 P) (nd (o0 P) nl nl) nl))) (nd (o40 P) (nd (o79 P) (nd (o145 P) (nd (o248 P) nl nl) (nd (o359 P) nl nl)) (nd (o199 P) (nd (o305 P) nl nl) nl)) (nd (o116 P) (nd (o170 P) (nd (o199 P) nl nl) nl) (nd (o256 P) (nd (o334 P) nl nl) nl)))) (nd (o1 P) (nd (o32 P) (nd (o70 P) (nd (o0 P) (nd (o242 P) nl nl) (nd (o351 P) nl nl)) (nd (o191 P) (nd (o298 P) nl nl) nl)) (nd (o1 P) (nd (o163 P) (nd (o270 P) nl nl) nl) (nd (o1 P) (nd (o325 P) nl nl) nl))) (nd (o51 P) (nd (o88 P) (nd (o151 P) (nd (o258 P) nl nl) nl) (nd (o1 P) (nd (o310 P) nl nl) nl)) (nd (o123 P) (nd (o178 P) (nd (o0 P) nl nl) nl) (nd (o229 P) (nd (o339 P) nl nl) nl))))))))
noncomputable def S4 (w : World) (os : OsState) : SharedT := ⟨t4 w.params, 412, { }, .mk [], { }, 4280, os⟩
theorem g3 (w : World) (os : OsState) : segRunT treeTable PySem.Challenge.pw_yv0002_01 w 11 ann 1 1374 (S3 w os) (piecesOf s3 env cE ⟨155, 0, 165, 16⟩ [topFrame q0]) = some (.next, S4 w os, cE, ⟨248, 0, 274, 39⟩) := by
  rewrite [tST, tTT]; kernel_rfl
noncomputable def o365 : O := fun P => ⟨(.type "dict"), none, (.dict #[k P (.ofString "__name__") 165 (.str (.ofString "law_yv0002_01") 4323), k P (.ofString "__doc__") 166 .none, k P (.ofString "__package__") 167 .none, k P (.ofString "__loader__") 168 (.builtin "__main__.__loader__#opaque"), k P (.ofString "__spec__") 169 .none, k P (.ofString "__annotations__") 170 (.ref 6), k P (.ofString "__builtins__") 171 (.ref 4), k P (.ofString "__file__") 173 (.str (.ofString "/claim/cut.py") 172), k P (.ofString "__cached__") 174 .none, k P (.ofString "_wall") 193 (.ref 21), k P (.ofString "PADDING_DEFAULT") 197 (.str (.ofString "default") 196), k P (.ofString "_compact_word") 204 (.ref 28), k P (.ofString "_string_to_bytes") 210 (.ref 33), k P (.ofString "_bytes_to_string") 217 (.ref 40), k P (.ofString "_concat_list") 225 (.ref 47), k P (.ofString "AES") 3904 (.ref 116), k P (.ofString "Counter") 3948 (.ref 151), k P (.ofString "AESBlockModeOfOperation") 4019 (.ref 209), k P (.ofString "AESStreamModeOfOperation") 4061 (.ref 246), k P (.ofString "AESSegmentModeOfOperation") 4105 (.ref 281), k P (.ofString "AESModeOfOperationECB") 4139 (.ref 307), k P (.ofString "AESModeOfOperationCBC") 4179 (.ref 337), k P (.ofString "AESModeOfOperationCFB") 4230 (.ref 375), k P (.ofString "AESModeOfOperationOFB") 4279 (.ref 409), k P (.ofString "AESModeOfOperationCTR") 4322 (.ref 441), k P (.ofString "_law_cell") 4332 (.ref 450), k P (.ofString "_law_row") 4344 (.ref 457), k P (.ofString "_law_sum") 4350 (.ref 462), k P (.ofString "_law_count") 4356 (.ref 467), k P (.ofString "_law_padded") 4364 (.ref 474), k P (.ofString "_law_rule") 4382 (.ref 481), k P (.ofString "_law_mode") 4393 (.ref 488), k P (.ofString "_law_refused") 4401 (.ref 495), k P (.ofString "law") 4407 (.ref 500)] 34), #[]⟩
noncomputable def o366 : O := fun P => ⟨.none, none, (.fields #[(.int 1 0), (.int 0 0), (.ref 20), (.int 6 0), (.int 0 0), (.ref 27), (.int 8 0), (.int 0 0), (.ref 32), (.int 12 0), (.int 0 0), (.ref 39), (.int 14 0), (.int 0 0), (.ref 46), (.int 16 0), (.int 0 0), (.ref 53), (.int 112 0), (.int 0 0), (.ref 126), (.int 126 0), (.int 0 0), (.ref 161), (.int 145 0), (.int 0 0), (.ref 219), (.int 155 0), (.int 0 0), (.ref 254), (.int 166 0), (.int 0 0), (.ref 289), (.int 180 0), (.int 0 0), (.ref 315), (.int 207 0), (.int 0 0), (.ref 345), (.int 248 0), (.int 0 0), (.ref 383), (.int 275 0), (.int 0 0), (.ref 417), (.int 297 0), (.int 0 0), (.ref 449), (.int 301 0), (.int 0 0), (.ref 456), (.int 310 0), (.int 0 0), (.ref 461), (.int 312 0), (.int 0 0), (.ref 466), (.int 315 0), (.int 0 0), (.ref 473), (.int 318 0), (.int 0 0), (.ref 480), (.int 339 0), (.int 0 0), (.ref 487), (.int 349 0), (.int 0 0), (.ref 494), (.int 355 0), (.int 0 0), (.ref 499)]), #[]⟩
noncomputable def o367 : O := fun P => ⟨(.type "type"), none, (.cls ⟨(.ofString "AESStreamModeOfOperation"), [(.ref 209)], [(.ref 246), (.ref 209), (.type "object")], 245, (.ofString "AESStreamModeOfOperation"), true, [], [(.ref 281), (.ref 409), (.ref 441)], false, none, false⟩), #[(some (.ref 214)), none, (some (.str (.ofString "AESStreamModeOfOperation") 4020)), (some (.str (.ofString "AESStreamModeOfOperation") 4028)), (some (.builtin "object.__new__")), (some (.bool true))]⟩
noncomputable def o368 : O := fun P => ⟨(.type "dict"), none, (.dict #[k P (.ofString "__module__") 4287 (.str (.ofString "pyaes.aes") 194), k P (.ofString "__qualname__") 4289 (.str (.ofString "AESModeOfOperationCTR") 4288), k P (.ofString "__firstlineno__") 4291 (.int 275 4290), k P (.ofString "name") 4293 (.str (.ofString "Counter (CTR)") 4292), k P (.ofString "__init__") 4302 (.ref 426), k P (.ofString "encrypt") 4308 (.ref 431), k P (.ofString "decrypt") 4316 (.ref 438), k P (.ofString "__static_attributes__") 4319 (.ref 439)] 8), #[]⟩
noncomputable def o369 : O := fun P => ⟨.none, none, (.fields #[(.int 278 0), (.int 4 0), (.ref 425), (.int 285 0), (.int 4 0), (.ref 430), (.int 294 0), (.int 4 0), (.ref 437)]), #[]⟩
noncomputable def o370 : O := fun P => ⟨(.type "code"), none, (.fields #[(.str (.ofString "AESModeOfOperationCTR") 4282), (.str (.ofString "AESModeOfOperationCTR") 4283), (.str (.ofString "/claim/cut.py") 4284), (.int 275 0), (.int 0 0), (.int 0 0), (.int 0 0), (.int 0 0), (.ref 415), (.bool false), (.int 181 0), (.ref 416), .none, .none, .none, .none, (.int 4285 0), (.int 275 0), (.str (.ofString "/claim/cut.py") 4286)]), #[]⟩
noncomputable def o371 : O := fun P => ⟨(.type "frame"), none, .plain, #[(some (.ref 417)), (some (.ref 3)), (some (.ref 414)), none, (some (.str (.ofString "pyaes.aes") 194)), none, (some (.ref 0))]⟩
noncomputable def o372 : O := fun P => ⟨(.type "tuple"), none, (.seq #[(.str (.ofString "self") 4297), (.str (.ofString "key") 4298), (.str (.ofString "counter") 4299)] 0), #[]⟩
noncomputable def f373 : FuncData := by
  refine (?g : (a : Arguments) → (b : List Stmt) → (s : Scope) → (a, b, s) = d (nth (sB (nth bE 16)) 1) → FuncData) ⟨_, _, _, _, _, _, _⟩ (_ :: _) ⟨_, _, _, _, _⟩ rfl
  exact fun a b s _ => ⟨(.ofString "__init__"), (.ofString "AESModeOfOperationCTR.__init__"), a, .stmts b, s, 0, [], .none, .none, .none, .none, none, .none, .none, 0⟩
noncomputable def o374 : O := fun P => ⟨.none, none, (.func f373), #[]⟩
noncomputable def o375 : O := fun P => ⟨(.type "code"), none, (.fields #[(.str (.ofString "__init__") 4294), (.str (.ofString "AESModeOfOperationCTR.__init__") 4295), (.str (.ofString "/claim/cut.py") 4296), (.int 278 0), (.int 3 0), (.int 0 0), (.int 0 0), (.int 3 0), (.ref 420), (.bool true), (.int 181 0), (.ref 421), .none, (.ref 422), (.ref 423), (.ref 424), (.int 4300 0), (.int 278 0), (.str (.ofString "/claim/cut.py") 4301)]), #[]⟩
noncomputable def f376 : FuncData := by
  refine (?g : (a : Arguments) → (b : List Stmt) → (s : Scope) → (a, b, s) = d (nth (sB (nth bE 16)) 1) → FuncData) ⟨_, _, _, _, _, _, _⟩ (_ :: _) ⟨_, _, _, _, _⟩ rfl
  exact fun a b s _ => ⟨(.ofString "__init__"), (.ofString "AESModeOfOperationCTR.__init__"), a, .stmts b, s, 3, [], (.ref 419), .none, .none, (.str (.ofString "pyaes.aes") 194), none, (.ref 425), .none, 0⟩
noncomputable def o377 : O := fun P => ⟨(.type "function"), none, (.func f376), #[]⟩
noncomputable def f378 : FuncData := by
  refine (?g : (a : Arguments) → (b : List Stmt) → (s : Scope) → (a, b, s) = d (nth (sB (nth bE 16)) 2) → FuncData) ⟨_, _, _, _, _, _, _⟩ (_ :: _) ⟨_, _, _, _, _⟩ rfl
  exact fun a b s _ => ⟨(.ofString "encrypt"), (.ofString "AESModeOfOperationCTR.encrypt"), a, .stmts b, s, 0, [], .none, .none, .none, .none, none, .none, .none, 0⟩
noncomputable def o379 : O := fun P => ⟨.none, none, (.func f378), #[]⟩
noncomputable def o380 : O := fun P => ⟨(.type "code"), none, (.fields #[(.str (.ofString "encrypt") 4303), (.str (.ofString "AESModeOfOperationCTR.encrypt") 4304), (.str (.ofString "/claim/cut.py") 4305), (.int 285 0), (.int 2 0), (.int 0 0), (.int 0 0), (.int 3 0), (.ref 427), (.bool true), (.int 181 0), (.ref 428), .none, .none, .none, (.ref 429), (.int 4306 0), (.int 285 0), (.str (.ofString "/claim/cut.py") 4307)]), #[]⟩
noncomputable def f381 : FuncData := by
  refine (?g : (a : Arguments) → (b : List Stmt) → (s : Scope) → (a, b, s) = d (nth (sB (nth bE 16)) 2) → FuncData) ⟨_, _, _, _, _, _, _⟩ (_ :: _) ⟨_, _, _, _, _⟩ rfl
  exact fun a b s _ => ⟨(.ofString "encrypt"), (.ofString "AESModeOfOperationCTR.encrypt"), a, .stmts b, s, 3, [], .none, .none, .none, (.str (.ofString "pyaes.aes") 194), none, (.ref 430), .none, 0⟩
noncomputable def o382 : O := fun P => ⟨(.type "function"), none, (.func f381), #[]⟩
noncomputable def o383 : O := fun P => ⟨(.type "tuple"), none, (.seq #[(.str (.ofString "self") 4312), (.str (.ofString "crypttext") 4313)] 0), #[]⟩
noncomputable def f384 : FuncData := by
  refine (?g : (a : Arguments) → (b : List Stmt) → (s : Scope) → (a, b, s) = d (nth (sB (nth bE 16)) 3) → FuncData) ⟨_, _, _, _, _, _, _⟩ (_ :: _) ⟨_, _, _, _, _⟩ rfl
  exact fun a b s _ => ⟨(.ofString "decrypt"), (.ofString "AESModeOfOperationCTR.decrypt"), a, .stmts b, s, 0, [], .none, .none, .none, .none, none, .none, .none, 0⟩
noncomputable def o385 : O := fun P => ⟨.none, none, (.func f384), #[]⟩
noncomputable def o386 : O := fun P => ⟨(.type "code"), none, (.fields #[(.str (.ofString "decrypt") 4309), (.str (.ofString "AESModeOfOperationCTR.decrypt") 4310), (.str (.ofString "/claim/cut.py") 4311), (.int 294 0), (.int 2 0), (.int 0 0), (.int 0 0), (.int 3 0), (.ref 432), (.bool true), (.int 181 0), (.ref 433), .none, (.ref 434), (.ref 435), (.ref 436), (.int 4314 0), (.int 294 0), (.str (.ofString "/claim/cut.py") 4315)]), #[]⟩
noncomputable def f387 : FuncData := by
  refine (?g : (a : Arguments) → (b : List Stmt) → (s : Scope) → (a, b, s) = d (nth (sB (nth bE 16)) 3) → FuncData) ⟨_, _, _, _, _, _, _⟩ (_ :: _) ⟨_, _, _, _, _⟩ rfl
  exact fun a b s _ => ⟨(.ofString "decrypt"), (.ofString "AESModeOfOperationCTR.decrypt"), a, .stmts b, s, 3, [], .none, .none, .none, (.str (.ofString "pyaes.aes") 194), none, (.ref 437), .none, 0⟩
noncomputable def o388 : O := fun P => ⟨(.type "function"), none, (.func f387), #[]⟩
noncomputable def o389 : O := fun P => ⟨(.type "tuple"), none, (.seq #[(.str (.ofString "_counter") 4317), (.str (.ofString "_remaining_counter") 4318)] 0), #[]⟩
noncomputable def o390 : O := fun P => ⟨(.type "dict"), none, (.dict #[k P (.ofString "__module__") 4287 (.str (.ofString "pyaes.aes") 194), k P (.ofString "__firstlineno__") 4291 (.int 275 4290), k P (.ofString "name") 4293 (.str (.ofString "Counter (CTR)") 4292), k P (.ofString "__init__") 4302 (.ref 426), k P (.ofString "encrypt") 4308 (.ref 431), k P (.ofString "decrypt") 4316 (.ref 438), k P (.ofString "__static_attributes__") 4319 (.ref 439), k P (.ofString "__doc__") 4320 .none] 2), #[]⟩
noncomputable def o391 : O := fun P => ⟨(.type "type"), none, (.cls ⟨(.ofString "AESModeOfOperationCTR"), [(.ref 246)], [(.ref 441), (.ref 246), (.ref 209), (.type "object")], 440, (.ofString "AESModeOfOperationCTR"), true, [], [], false, none, false⟩), #[(some (.ref 412)), none, (some (.str (.ofString "AESModeOfOperationCTR") 4280)), (some (.str (.ofString "AESModeOfOperationCTR") 4288)), (some (.builtin "object.__new__")), (some (.bool true))]⟩
noncomputable def o392 : O := fun P => ⟨(.type "super"), none, (.fields #[(.ref 441), (.ref 441), (.ref 441)]), #[]⟩
noncomputable def o393 : O := fun P => ⟨(.type "builtin_function_or_method"), none, (.fields #[(.builtin "object.__init_subclass__"), (.ref 441)]), #[]⟩
noncomputable def o394 : O := fun P => ⟨(.type "tuple"), none, (.seq #[(.str (.ofString "script") 4328), (.str (.ofString "k") 4329)] 0), #[]⟩
noncomputable def f395 : FuncData := by
  refine (?g : (a : Arguments) → (b : List Stmt) → (s : Scope) → (a, b, s) = d (nth bE 18) → FuncData) ⟨_, _, _, _, _, _, _⟩ (_ :: _) ⟨_, _, _, _, _⟩ rfl
  exact fun a b s _ => ⟨(.ofString "_law_cell"), (.ofString "_law_cell"), a, .stmts b, s, 0, [], .none, .none, .none, .none, none, .none, .none, 0⟩
noncomputable def o396 : O := fun P => ⟨.none, none, (.func f395), #[]⟩
noncomputable def o397 : O := fun P => ⟨(.type "code"), none, (.fields #[(.str (.ofString "_law_cell") 4325), (.str (.ofString "_law_cell") 4326), (.str (.ofString "/claim/cut.py") 4327), (.int 297 0), (.int 2 0), (.int 0 0), (.int 0 0), (.int 3 0), (.ref 444), (.bool true), (.int 181 0), (.ref 445), .none, (.ref 446), (.ref 447), (.ref 448), (.int 4330 0), (.int 297 0), (.str (.ofString "/claim/cut.py") 4331)]), #[]⟩
noncomputable def f398 : FuncData := by
  refine (?g : (a : Arguments) → (b : List Stmt) → (s : Scope) → (a, b, s) = d (nth bE 18) → FuncData) ⟨_, _, _, _, _, _, _⟩ (_ :: _) ⟨_, _, _, _, _⟩ rfl
  exact fun a b s _ => ⟨(.ofString "_law_cell"), (.ofString "_law_cell"), a, .stmts b, s, 3, [], .none, .none, .none, (.str (.ofString "law_yv0002_01") 4323), none, (.ref 449), .none, 0⟩
noncomputable def o399 : O := fun P => ⟨(.type "function"), none, (.func f398), #[]⟩
noncomputable def o400 : O := fun P => ⟨(.type "tuple"), none, (.seq #[(.str (.ofString "script") 4336), (.str (.ofString "start") 4337), (.str (.ofString "size") 4338), (.str (.ofString "row") 4339), (.str (.ofString "number") 4340), (.str (.ofString "k") 4341)] 0), #[]⟩
noncomputable def f401 : FuncData := by
  refine (?g : (a : Arguments) → (b : List Stmt) → (s : Scope) → (a, b, s) = d (nth bE 19) → FuncData) ⟨_, _, _, _, _, _, _⟩ (_ :: _) ⟨_, _, _, _, _⟩ rfl
  exact fun a b s _ => ⟨(.ofString "_law_row"), (.ofString "_law_row"), a, .stmts b, s, 0, [], .none, .none, .none, .none, none, .none, .none, 0⟩
noncomputable def o402 : O := fun P => ⟨.none, none, (.func f401), #[]⟩
noncomputable def o403 : O := fun P => ⟨(.type "code"), none, (.fields #[(.str (.ofString "_law_row") 4333), (.str (.ofString "_law_row") 4334), (.str (.ofString "/claim/cut.py") 4335), (.int 301 0), (.int 3 0), (.int 0 0), (.int 0 0), (.int 3 0), (.ref 451), (.bool true), (.int 181 0), (.ref 452), .none, (.ref 453), (.ref 454), (.ref 455), (.int 4342 0), (.int 301 0), (.str (.ofString "/claim/cut.py") 4343)]), #[]⟩
noncomputable def f404 : FuncData := by
  refine (?g : (a : Arguments) → (b : List Stmt) → (s : Scope) → (a, b, s) = d (nth bE 19) → FuncData) ⟨_, _, _, _, _, _, _⟩ (_ :: _) ⟨_, _, _, _, _⟩ rfl
  exact fun a b s _ => ⟨(.ofString "_law_row"), (.ofString "_law_row"), a, .stmts b, s, 3, [], .none, .none, .none, (.str (.ofString "law_yv0002_01") 4323), none, (.ref 456), .none, 0⟩
noncomputable def o405 : O := fun P => ⟨(.type "function"), none, (.func f404), #[]⟩
noncomputable def f406 : FuncData := by
  refine (?g : (a : Arguments) → (b : List Stmt) → (s : Scope) → (a, b, s) = d (nth bE 20) → FuncData) ⟨_, _, _, _, _, _, _⟩ (_ :: _) ⟨_, _, _, _, _⟩ rfl
  exact fun a b s _ => ⟨(.ofString "_law_sum"), (.ofString "_law_sum"), a, .stmts b, s, 0, [], .none, .none, .none, .none, none, .none, .none, 0⟩
noncomputable def o407 : O := fun P => ⟨.none, none, (.func f406), #[]⟩
noncomputable def o408 : O := fun P => ⟨(.type "code"), none, (.fields #[(.str (.ofString "_law_sum") 4345), (.str (.ofString "_law_sum") 4346), (.str (.ofString "/claim/cut.py") 4347), (.int 310 0), (.int 2 0), (.int 0 0), (.int 0 0), (.int 3 0), (.ref 458), (.bool true), (.int 181 0), (.ref 459), .none, .none, .none, (.ref 460), (.int 4348 0), (.int 310 0), (.str (.ofString "/claim/cut.py") 4349)]), #[]⟩
noncomputable def f409 : FuncData := by
  refine (?g : (a : Arguments) → (b : List Stmt) → (s : Scope) → (a, b, s) = d (nth bE 20) → FuncData) ⟨_, _, _, _, _, _, _⟩ (_ :: _) ⟨_, _, _, _, _⟩ rfl
  exact fun a b s _ => ⟨(.ofString "_law_sum"), (.ofString "_law_sum"), a, .stmts b, s, 3, [], .none, .none, .none, (.str (.ofString "law_yv0002_01") 4323), none, (.ref 461), .none, 0⟩
noncomputable def o410 : O := fun P => ⟨(.type "function"), none, (.func f409), #[]⟩
noncomputable def f411 : FuncData := by
  refine (?g : (a : Arguments) → (b : List Stmt) → (s : Scope) → (a, b, s) = d (nth bE 21) → FuncData) ⟨_, _, _, _, _, _, _⟩ (_ :: _) ⟨_, _, _, _, _⟩ rfl
  exact fun a b s _ => ⟨(.ofString "_law_count"), (.ofString "_law_count"), a, .stmts b, s, 0, [], .none, .none, .none, .none, none, .none, .none, 0⟩
noncomputable def o412 : O := fun P => ⟨.none, none, (.func f411), #[]⟩
noncomputable def o413 : O := fun P => ⟨(.type "code"), none, (.fields #[(.str (.ofString "_law_count") 4351), (.str (.ofString "_law_count") 4352), (.str (.ofString "/claim/cut.py") 4353), (.int 312 0), (.int 1 0), (.int 0 0), (.int 0 0), (.int 3 0), (.ref 463), (.bool true), (.int 181 0), (.ref 464), .none, .none, .none, (.ref 465), (.int 4354 0), (.int 312 0), (.str (.ofString "/claim/cut.py") 4355)]), #[]⟩
noncomputable def f414 : FuncData := by
  refine (?g : (a : Arguments) → (b : List Stmt) → (s : Scope) → (a, b, s) = d (nth bE 21) → FuncData) ⟨_, _, _, _, _, _, _⟩ (_ :: _) ⟨_, _, _, _, _⟩ rfl
  exact fun a b s _ => ⟨(.ofString "_law_count"), (.ofString "_law_count"), a, .stmts b, s, 3, [], .none, .none, .none, (.str (.ofString "law_yv0002_01") 4323), none, (.ref 466), .none, 0⟩
noncomputable def o415 : O := fun P => ⟨(.type "function"), none, (.func f414), #[]⟩
noncomputable def o416 : O := fun P => ⟨(.type "tuple"), none, (.seq #[(.str (.ofString "data") 4360), (.str (.ofString "pad") 4361)] 0), #[]⟩
noncomputable def f417 : FuncData := by
  refine (?g : (a : Arguments) → (b : List Stmt) → (s : Scope) → (a, b, s) = d (nth bE 22) → FuncData) ⟨_, _, _, _, _, _, _⟩ (_ :: _) ⟨_, _, _, _, _⟩ rfl
  exact fun a b s _ => ⟨(.ofString "_law_padded"), (.ofString "_law_padded"), a, .stmts b, s, 0, [], .none, .none, .none, .none, none, .none, .none, 0⟩
noncomputable def o418 : O := fun P => ⟨.none, none, (.func f417), #[]⟩
noncomputable def o419 : O := fun P => ⟨(.type "code"), none, (.fields #[(.str (.ofString "_law_padded") 4357), (.str (.ofString "_law_padded") 4358), (.str (.ofString "/claim/cut.py") 4359), (.int 315 0), (.int 1 0), (.int 0 0), (.int 0 0), (.int 3 0), (.ref 468), (.bool true), (.int 181 0), (.ref 469), .none, (.ref 470), (.ref 471), (.ref 472), (.int 4362 0), (.int 315 0), (.str (.ofString "/claim/cut.py") 4363)]), #[]⟩
noncomputable def f420 : FuncData := by
  refine (?g : (a : Arguments) → (b : List Stmt) → (s : Scope) → (a, b, s) = d (nth bE 22) → FuncData) ⟨_, _, _, _, _, _, _⟩ (_ :: _) ⟨_, _, _, _, _⟩ rfl
  exact fun a b s _ => ⟨(.ofString "_law_padded"), (.ofString "_law_padded"), a, .stmts b, s, 3, [], .none, .none, .none, (.str (.ofString "law_yv0002_01") 4323), none, (.ref 473), .none, 0⟩
noncomputable def o421 : O := fun P => ⟨(.type "function"), none, (.func f420), #[]⟩
noncomputable def o422 : O := fun P => ⟨(.type "tuple"), none, (.seq #[(.str (.ofString "mode") 4368), (.str (.ofString "aes") 4369), (.str (.ofString "first") 4370), (.str (.ofString "size") 4371), (.str (.ofString "start") 4372), (.str (.ofString "data") 4373), (.str (.ofString "out") 4374), (.str (.ofString "last") 4375), (.str (.ofString "step") 4376), (.str (.ofString "place") 4377), (.str (.ofString "part") 4378), (.str (.ofString "made") 4379)] 0), #[]⟩
noncomputable def f423 : FuncData := by
  refine (?g : (a : Arguments) → (b : List Stmt) → (s : Scope) → (a, b, s) = d (nth bE 23) → FuncData) ⟨_, _, _, _, _, _, _⟩ (_ :: _) ⟨_, _, _, _, _⟩ rfl
  exact fun a b s _ => ⟨(.ofString "_law_rule"), (.ofString "_law_rule"), a, .stmts b, s, 0, [], .none, .none, .none, .none, none, .none, .none, 0⟩
noncomputable def o424 : O := fun P => ⟨.none, none, (.func f423), #[]⟩
noncomputable def o425 : O := fun P => ⟨(.type "code"), none, (.fields #[(.str (.ofString "_law_rule") 4365), (.str (.ofString "_law_rule") 4366), (.str (.ofString "/claim/cut.py") 4367), (.int 318 0), (.int 6 0), (.int 0 0), (.int 0 0), (.int 3 0), (.ref 475), (.bool true), (.int 181 0), (.ref 476), .none, (.ref 477), (.ref 478), (.ref 479), (.int 4380 0), (.int 318 0), (.str (.ofString "/claim/cut.py") 4381)]), #[]⟩
noncomputable def f426 : FuncData := by
  refine (?g : (a : Arguments) → (b : List Stmt) → (s : Scope) → (a, b, s) = d (nth bE 23) → FuncData) ⟨_, _, _, _, _, _, _⟩ (_ :: _) ⟨_, _, _, _, _⟩ rfl
  exact fun a b s _ => ⟨(.ofString "_law_rule"), (.ofString "_law_rule"), a, .stmts b, s, 3, [], .none, .none, .none, (.str (.ofString "law_yv0002_01") 4323), none, (.ref 480), .none, 0⟩
noncomputable def o427 : O := fun P => ⟨(.type "function"), none, (.func f426), #[]⟩
noncomputable def o428 : O := fun P => ⟨(.type "tuple"), none, (.seq #[(.str (.ofString "mode") 4386), (.str (.ofString "key") 4387), (.str (.ofString "first") 4388), (.str (.ofString "size") 4389), (.str (.ofString "start") 4390)] 0), #[]⟩
noncomputable def f429 : FuncData := by
  refine (?g : (a : Arguments) → (b : List Stmt) → (s : Scope) → (a, b, s) = d (nth bE 24) → FuncData) ⟨_, _, _, _, _, _, _⟩ (_ :: _) ⟨_, _, _, _, _⟩ rfl
  exact fun a b s _ => ⟨(.ofString "_law_mode"), (.ofString "_law_mode"), a, .stmts b, s, 0, [], .none, .none, .none, .none, none, .none, .none, 0⟩
noncomputable def o430 : O := fun P => ⟨.none, none, (.func f429), #[]⟩
noncomputable def o431 : O := fun P => ⟨(.type "code"), none, (.fields #[(.str (.ofString "_law_mode") 4383), (.str (.ofString "_law_mode") 4384), (.str (.ofString "/claim/cut.py") 4385), (.int 339 0), (.int 5 0), (.int 0 0), (.int 0 0), (.int 3 0), (.ref 482), (.bool true), (.int 181 0), (.ref 483), .none, (.ref 484), (.ref 485), (.ref 486), (.int 4391 0), (.int 339 0), (.str (.ofString "/claim/cut.py") 4392)]), #[]⟩
noncomputable def f432 : FuncData := by
  refine (?g : (a : Arguments) → (b : List Stmt) → (s : Scope) → (a, b, s) = d (nth bE 24) → FuncData) ⟨_, _, _, _, _, _, _⟩ (_ :: _) ⟨_, _, _, _, _⟩ rfl
  exact fun a b s _ => ⟨(.ofString "_law_mode"), (.ofString "_law_mode"), a, .stmts b, s, 3, [], .none, .none, .none, (.str (.ofString "law_yv0002_01") 4323), none, (.ref 487), .none, 0⟩
noncomputable def o433 : O := fun P => ⟨(.type "function"), none, (.func f432), #[]⟩
noncomputable def o434 : O := fun P => ⟨(.type "tuple"), none, (.seq #[(.str (.ofString "call") 4397), (.str (.ofString "octets") 4398)] 0), #[]⟩
noncomputable def f435 : FuncData := by
  refine (?g : (a : Arguments) → (b : List Stmt) → (s : Scope) → (a, b, s) = d (nth bE 25) → FuncData) ⟨_, _, _, _, _, _, _⟩ (_ :: _) ⟨_, _, _, _, _⟩ rfl
  exact fun a b s _ => ⟨(.ofString "_law_refused"), (.ofString "_law_refused"), a, .stmts b, s, 0, [], .none, .none, .none, .none, none, .none, .none, 0⟩
noncomputable def o436 : O := fun P => ⟨.none, none, (.func f435), #[]⟩
noncomputable def o437 : O := fun P => ⟨(.type "code"), none, (.fields #[(.str (.ofString "_law_refused") 4394), (.str (.ofString "_law_refused") 4395), (.str (.ofString "/claim/cut.py") 4396), (.int 349 0), (.int 2 0), (.int 0 0), (.int 0 0), (.int 3 0), (.ref 489), (.bool true), (.int 181 0), (.ref 490), .none, (.ref 491), (.ref 492), (.ref 493), (.int 4399 0), (.int 349 0), (.str (.ofString "/claim/cut.py") 4400)]), #[]⟩
noncomputable def f438 : FuncData := by
  refine (?g : (a : Arguments) → (b : List Stmt) → (s : Scope) → (a, b, s) = d (nth bE 25) → FuncData) ⟨_, _, _, _, _, _, _⟩ (_ :: _) ⟨_, _, _, _, _⟩ rfl
  exact fun a b s _ => ⟨(.ofString "_law_refused"), (.ofString "_law_refused"), a, .stmts b, s, 3, [], .none, .none, .none, (.str (.ofString "law_yv0002_01") 4323), none, (.ref 494), .none, 0⟩
noncomputable def o439 : O := fun P => ⟨(.type "function"), none, (.func f438), #[]⟩
noncomputable def f440 : FuncData := by
  refine (?g : (a : Arguments) → (b : List Stmt) → (s : Scope) → (a, b, s) = d (nth bE 26) → FuncData) ⟨_, _, _, _, _, _, _⟩ (_ :: _) ⟨_, _, _, _, _⟩ rfl
  exact fun a b s _ => ⟨(.ofString "law"), (.ofString "law"), a, .stmts b, s, 0, [], .none, .none, .none, .none, none, .none, .none, 0⟩
noncomputable def o441 : O := fun P => ⟨.none, none, (.func f440), #[]⟩
noncomputable def o442 : O := fun P => ⟨(.type "code"), none, (.fields #[(.str (.ofString "law") 4402), (.str (.ofString "law") 4403), (.str (.ofString "/claim/cut.py") 4404), (.int 355 0), (.int 1 0), (.int 0 0), (.int 0 0), (.int 3 0), (.ref 496), (.bool true), (.int 181 0), (.ref 497), .none, .none, .none, (.ref 498), (.int 4405 0), (.int 355 0), (.str (.ofString "/claim/cut.py") 4406)]), #[]⟩
noncomputable def f443 : FuncData := by
  refine (?g : (a : Arguments) → (b : List Stmt) → (s : Scope) → (a, b, s) = d (nth bE 26) → FuncData) ⟨_, _, _, _, _, _, _⟩ (_ :: _) ⟨_, _, _, _, _⟩ rfl
  exact fun a b s _ => ⟨(.ofString "law"), (.ofString "law"), a, .stmts b, s, 3, [], .none, .none, .none, (.str (.ofString "law_yv0002_01") 4323), none, (.ref 499), .none, 0⟩
noncomputable def o444 : O := fun P => ⟨(.type "function"), none, (.func f443), #[]⟩
noncomputable def s4 : List Stmt := (bE.drop 16).take 11
noncomputable def t5 : Params → BT := fun P => (nd (boot_o_0 P) (nd (boot_o_1 P) (nd (o365 P) (nd (boot_o_7 P) (nd (o0 P) (nd (o19 P) (nd (o52 P) (nd (o124 P) (nd (o230 P) nl nl) (nd (o340 P) nl nl)) (nd (o179 P) (nd (o1 P) nl nl) (nd (o0 P) nl nl))) (nd (o89 P) (nd (o0 P) (nd (o0 P) nl nl) (nd (o0 P) nl nl)) (nd (o204 P) (nd (o0 P) nl nl) (nd (o424 P) nl nl)))) (nd (o34 P) (nd (o71 P) (nd (o1 P) (nd (o179 P) nl nl) (nd (o353 P) nl nl)) (nd (o192 P) (nd (o299 P) nl nl) (nd (o0 P) nl nl))) (nd (o106 P) (nd (o164 P) (nd (o271 P) nl nl) (nd (o382 P) nl nl)) (nd (o216 P) (nd (o327 P) nl nl) (nd (o439 P) nl nl))))) (nd (o1 P) (nd (o26 P) (nd (o61 P) (nd (o1 P) (nd (o179 P) nl nl) (nd (o345 P) nl nl)) (nd (o179 P) (nd (o290 P) nl nl) (nd (o402 P) nl nl))) (nd (o99 P) (nd (o157 P) (nd (o264 P) nl nl) (nd (o0 P) nl nl)) (nd (o210 P) (nd (o318 P) nl nl) (nd (o431 P) nl nl)))) (nd (o42 P) (nd (o80 P) (nd (o146 P) (nd (o0 P) nl nl) (nd (o360 P) nl nl)) (nd (o37 P) (nd (o0 P) nl nl) (nd (o0 P) nl nl))) (nd (o117 P) (nd (o172 P) (nd (o37 P) nl nl) (nd (o389 P) nl nl)) (nd (o224 P) (nd (o335 P) nl nl) nl))))) (nd (o0 P) (nd (o8 P) (nd (o1 P) (nd (o57 P) (nd (o127 P) (nd (o0 P) nl nl) (nd (o1 P) nl nl)) (nd (o0 P) (nd (o286 P) nl nl) (nd (o0 P) nl nl))) (nd (o0 P) (nd (o0 P) (nd (o0 P) nl nl) (nd (o282 P) nl nl)) (nd (o209 P) (nd (o0 P) nl nl) (nd (o1 P) nl nl)))) (nd (o0 P) (nd (o75 P) (nd (o141 P) (nd (o0 P) nl nl) (nd (o0 P) nl nl)) (nd (o196 P) (nd (o303 P) nl nl) (nd (o415 P) nl nl))) (nd (o113 P) (nd (o167 P) (nd (o275 P) nl nl) (nd (o0 P) nl nl)) (nd (o221 P) (nd (o330 P) nl nl) (nd (o442 P) nl nl))))) (nd (o15 P) (nd (o29 P) (nd (o66 P) (nd (o134 P) (nd (o0 P) nl nl) (nd (o348 P) nl nl)) (nd (o0 P) (nd (o1 P) nl nl) (nd (o1 P) nl nl))) (nd (o102 P) (nd (o1 P) (nd (o1 P) nl nl) (nd (o0 P) nl nl)) (nd (o215 P) (nd (o0 P) nl nl) (nd (o434 P) nl nl)))) (nd (o47 P) (nd (o85 P) (nd (o150 P) (nd (o252 P) nl nl) (nd (o364 P) nl nl)) (nd (o202 P) (nd (o309 P) nl nl) (nd (o0 P) nl nl))) (nd (o121 P) (nd (o0 P) (nd (o280 P) nl nl) (nd (o393 P) nl nl)) (nd (o227 P) (nd (o37 P) nl nl) nl)))))) (nd (boot_o_5 P) (nd (boot_o_9 P) (nd (o6 P) (nd (o22 P) (nd (o54 P) (nd (o0 P) (nd (o1 P) nl nl) (nd (o282 P) nl nl)) (nd (o1 P) (nd (o0 P) nl nl) (nd (o397 P) nl nl))) (nd (o93 P) (nd (o153 P) (nd (o260 P) nl nl) (nd (o370 P) nl nl)) (nd (o206 P) (nd (o313 P) nl nl) (nd (o427 P) nl nl)))) (nd (o37 P) (nd (o73 P) (nd (o0 P) (nd (o1 P) nl nl) (nd (o1 P) nl nl)) (nd (o255 P) (nd (o301 P) nl nl) (nd (o412 P) nl nl))) (nd (o109 P) (nd (o0 P) (nd (o0 P) nl nl) (nd (o1 P) nl nl)) (nd (o218 P) (nd (o1 P) nl nl) (nd (o1 P) nl nl))))) (nd (o0 P) (nd (o0 P) (nd (o64 P) (nd (o0 P) (nd (o1 P) nl nl) (nd (o0 P) nl nl)) (nd (o1 P) (nd (o293 P) nl nl) (nd (o405 P) nl nl))) (nd (o1 P) (nd (o160 P) (nd (o267 P) nl nl) (nd (o375 P) nl nl)) (nd (o212 P) (nd (o321 P) nl nl) (nd (o0 P) nl nl)))) (nd (o45 P) (nd (o82 P) (nd (o148 P) (nd (o257 P) nl nl) (nd (o362 P) nl nl)) (nd (o0 P) (nd (o307 P) nl nl) (nd (o419 P) nl nl))) (nd (o36 P) (nd (o1 P) (nd (o0 P) nl nl) (nd (o391 P) nl nl)) (nd (o226 P) (nd (o337 P) nl nl) nl))))) (nd (o2 P) (nd (o11 P) (nd (o0 P) (nd (o59 P) (nd (o130 P) (nd (o234 P) nl nl) (nd (o0 P) nl nl)) (nd (o183 P) (nd (o0 P) nl nl) (nd (o400 P) nl nl))) (nd (o96 P) (nd (o155 P) (nd (o262 P) nl nl) (nd (o1 P) nl nl)) (nd (o0 P) (nd (o316 P) nl nl) (nd (o0 P) nl nl)))) (nd (o39 P) (nd (o78 P) (nd (o144 P) (nd (o246 P) nl nl) (nd (o357 P) nl nl)) (nd (o198 P) (nd (o37 P) nl nl) (nd (o1 P) nl nl))) (nd (o115 P) (nd (o169 P) (nd (o277 P) nl nl) (nd (o386 P) nl nl)) (nd (o222 P) (nd (o333 P) nl nl) nl)))) (nd (o0 P) (nd (o31 P) (nd (o68 P) (nd (o137 P) (nd (o240 P) nl nl) (nd (o350 P) nl nl)) (nd (o189 P) (nd (o296 P) nl nl) (nd (o408 P) nl nl))) (nd (o0 P) (nd (o0 P) (nd (o0 P) nl nl) (nd (o379 P) nl nl)) (nd (o0 P) (nd (o324 P) nl nl) (nd (o436 P) nl nl)))) (nd (o50 P) (nd (o87 P) (nd (o37 P) (nd (o37 P) nl nl) (nd (o37 P) nl nl)) (nd (o0 P) (nd (o1 P) nl nl) (nd (o422 P) nl nl))) (nd (o122 P) (nd (o176 P) (nd (o282 P) nl nl) (nd (o1 P) nl nl)) (nd (o228 P) (nd (o0 P) nl nl) nl))))))) (nd (boot_o_2 P) (nd (boot_o_4 P) (nd (boot_o_8 P) (nd (o1 P) (nd (o20 P) (nd (o53 P) (nd (o125 P) (nd (o0 P) nl nl) (nd (o341 P) nl nl)) (nd (o0 P) (nd (o283 P) nl nl) (nd (o396 P) nl nl))) (nd (o92 P) (nd (o152 P) (nd (o259 P) nl nl) (nd (o369 P) nl nl)) (nd (o0 P) (nd (o312 P) nl nl) (nd (o425 P) nl nl)))) (nd (o36 P) (nd (o72 P) (nd (o138 P) (nd (o0 P) nl nl) (nd (o0 P) nl nl)) (nd (o193 P) (nd (o300 P) nl nl) (nd (o1 P) nl nl))) (nd (o107 P) (nd (o166 P) (nd (o273 P) nl nl) (nd (o0 P) nl nl)) (nd (o0 P) (nd (o0 P) nl nl) (nd (o0 P) nl nl))))) (nd (o12 P) (nd (o28 P) (nd (o63 P) (nd (o131 P) (nd (o0 P) nl nl) (nd (o347 P) nl nl)) (nd (o0 P) (nd (o291 P) nl nl) (nd (o403 P) nl nl))) (nd (o0 P) (nd (o158 P) (nd (o265 P) nl nl) (nd (o374 P) nl nl)) (nd (o0 P) (nd (o319 P) nl nl) (nd (o433 P) nl nl)))) (nd (o44 P) (nd (o81 P) (nd (o147 P) (nd (o249 P) nl nl) (nd (o361 P) nl nl)) (nd (o200 P) (nd (o306 P) nl nl) (nd (o418 P) nl nl))) (nd (o118 P) (nd (o0 P) (nd (o278 P) nl nl) (nd (o390 P) nl nl)) (nd (o225 P) (nd (o336 P) nl nl) nl))))) (nd (o366 P) (nd (o9 P) (nd (o23 P) (nd (o58 P) (nd (o128 P) (nd (o233 P) nl nl) (nd (o342 P) nl nl)) (nd (o182 P) (nd (o288 P) nl nl) (nd (o1 P) nl nl))) (nd (o1 P) (nd (o1 P) (nd (o1 P) nl nl) (nd (o0 P) nl nl)) (nd (o179 P) (nd (o1 P) nl nl) (nd (o428 P) nl nl)))) (nd (o91 P) (nd (o77 P) (nd (o143 P) (nd (o245 P) nl nl) (nd (o356 P) nl nl)) (nd (o197 P) (nd (o304 P) nl nl) (nd (o0 P) nl nl))) (nd (o114 P) (nd (o0 P) (nd (o276 P) nl nl) (nd (o385 P) nl nl)) (nd (o0 P) (nd (o332 P) nl nl) (nd (o444 P) nl nl))))) (nd (o17 P) (nd (o0 P) (nd (o67 P) (nd (o136 P) (nd (o239 P) nl nl) (nd (o0 P) nl nl)) (nd (o188 P) (nd (o295 P) nl nl) (nd (o407 P) nl nl))) (nd (o104 P) (nd (o161 P) (nd (o268 P) nl nl) (nd (o1 P) nl nl)) (nd (o179 P) (nd (o1 P) nl nl) (nd (o0 P) nl nl)))) (nd (o49 P) (nd (o86 P) (nd (o36 P) (nd (o199 P) nl nl) (nd (o226 P) nl nl)) (nd (o203 P) (nd (o0 P) nl nl) (nd (o1 P) nl nl))) (nd (o0 P) (nd (o175 P) (nd (o281 P) nl nl) (nd (o0 P) nl nl)) (nd (o0 P) (nd (o338 P) nl nl) nl)))))) (nd (boot_o_6 P) (nd (boot_o_10 P) (nd (o0 P) (nd (o0 P) (nd (o56 P) (nd (o1 P) (nd (o231 P) nl nl) (nd (o0 P) nl nl)) (nd (o180 P) (nd (o285 P) nl nl) (nd (o399 P) nl nl))) (nd (o94 P) (nd (o154 P) (nd (o261 P) nl nl) (nd (o371 P) nl nl)) (nd (o207 P) (nd (o315 P) nl nl) (nd (o0 P) nl nl)))) (nd (o111 P) (nd (o74 P) (nd (o140 P) (nd (o243 P) nl nl) (nd (o354 P) nl nl)) (nd (o195 P) (nd (o302 P) nl nl) (nd (o413 P) nl nl))) (nd (o112 P) (nd (o1 P) (nd (o274 P) nl nl) (nd (o383 P) nl nl)) (nd (o219 P) (nd (o329 P) nl nl) (nd (o441 P) nl nl))))) (nd (o14 P) (nd (o1 P) (nd (o65 P) (nd (o133 P) (nd (o237 P) nl nl) (nd (o1 P) nl nl)) (nd (o186 P) (nd (o0 P) nl nl) (nd (o0 P) nl nl))) (nd (o101 P) (nd (o0 P) (nd (o0 P) nl nl) (nd (o377 P) nl nl)) (nd (o213 P) (nd (o322 P) nl nl) (nd (o1 P) nl nl)))) (nd (o46 P) (nd (o84 P) (nd (o149 P) (nd (o251 P) nl nl) (nd (o363 P) nl nl)) (nd (o201 P) (nd (o308 P) nl nl) (nd (o421 P) nl nl))) (nd (o37 P) (nd (o173 P) (nd (o279 P) nl nl) (nd (o392 P) nl nl)) (nd (o37 P) (nd (o226 P) nl nl) nl))))) (nd (o3 P) (nd (o0 P) (nd (o25 P) (nd (o60 P) (nd (o0 P) (nd (o236 P) nl nl) (nd (o344 P) nl nl)) (nd (o185 P) (nd (o1 P) nl nl) (nd (o0 P) nl nl))) (nd (o97 P) (nd (o0 P) (nd (o0 P) nl nl) (nd (o372 P) nl nl)) (nd (o1 P) (nd (o0 P) nl nl) (nd (o430 P) nl nl)))) (nd (o40 P) (nd (o79 P) (nd (o145 P) (nd (o248 P) nl nl) (nd (o359 P) nl nl)) (nd (o199 P) (nd (o305 P) nl nl) (nd (o416 P) nl nl))) (nd (o116 P) (nd (o170 P) (nd (o199 P) nl nl) (nd (o388 P) nl nl)) (nd (o367 P) (nd (o334 P) nl nl) nl)))) (nd (o1 P) (nd (o32 P) (nd (o70 P) (nd (o0 P) (nd (o242 P) nl nl) (nd (o351 P) nl nl)) (nd (o191 P) (nd (o298 P) nl nl) (nd (o410 P) nl nl))) (nd (o1 P) (nd (o163 P) (nd (o270 P) nl nl) (nd (o380 P) nl nl)) (nd (o1 P) (nd (o325 P) nl nl) (nd (o437 P) nl nl)))) (nd (o51 P) (nd (o88 P) (nd (o151 P) (nd (o258 P) nl nl) (nd (o368 P) nl nl)) (nd (o1 P) (nd (o310 P) nl nl) (nd (o0 P) nl nl))) (nd (o123 P) (nd (o178 P) (nd (o0 P) nl nl) (nd (o394 P) nl nl)) (nd (o229 P) (nd (o339 P) nl nl) nl))))))))
noncomputable def S5 (w : World) (os : OsState) : SharedT := ⟨t5 w.params, 501, { }, .mk [], { }, 4408, os⟩
theorem g4 (w : World) (os : OsState) : segRunT treeTable PySem.Challenge.pw_yv0002_01 w 11 ann 1 617 (S4 w os) (piecesOf s4 env cE ⟨248, 0, 274, 39⟩ [topFrame q0]) = some (.next, S5 w os, cE, ⟨355, 0, 375, 115⟩) := by
  rewrite [tST, tTT]; kernel_rfl
noncomputable def H1 : Params → Heap := fun P => Heap.mk (Array.mk (boot_o_0 P :: boot_o_1 P :: boot_o_2 P :: o365 P :: boot_o_4 P :: boot_o_5 P :: boot_o_6 P :: boot_o_7 P :: boot_o_8 P :: boot_o_9 P :: boot_o_10 P :: o0 P :: o366 P :: o2 P :: o3 P :: o0 P :: o1 P :: o6 P :: o0 P :: o8 P :: o9 P :: o11 P :: o0 P :: o1 P :: o12 P :: o0 P :: o14 P :: o15 P :: o17 P :: o0 P :: o1 P :: o19 P :: o20 P :: o22 P :: o0 P :: o1 P :: o23 P :: o0 P :: o25 P :: o26 P :: o28 P :: o0 P :: o1 P :: o29 P :: o0 P :: o31 P :: o32 P :: o34 P :: o36 P :: o37 P :: o111 P :: o0 P :: o91 P :: o39 P :: o40 P :: o42 P :: o44 P :: o45 P :: o46 P :: o47 P :: o49 P :: o50 P :: o51 P :: o52 P :: o53 P :: o54 P :: o56 P :: o57 P :: o58 P :: o59 P :: o60 P :: o61 P :: o63 P :: o64 P :: o65 P :: o66 P :: o67 P :: o68 P :: o70 P :: o71 P :: o72 P :: o73 P :: o74 P :: o75 P :: o77 P :: o78 P :: o79 P :: o80 P :: o81 P :: o82 P :: o84 P :: o85 P :: o86 P :: o87 P :: o88 P :: o89 P :: o92 P :: o93 P :: o94 P :: o0 P :: o1 P :: o96 P :: o97 P :: o99 P :: o0 P :: o1 P :: o101 P :: o102 P :: o104 P :: o0 P :: o1 P :: o106 P :: o107 P :: o109 P :: o112 P :: o113 P :: o114 P :: o115 P :: o116 P :: o117 P :: o118 P :: o36 P :: o37 P :: o121 P :: o0 P :: o122 P :: o123 P :: o124 P :: o125 P :: o0 P :: o1 P :: o127 P :: o128 P :: o130 P :: o0 P :: o1 P :: o131 P :: o0 P :: o133 P :: o134 P :: o136 P :: o137 P :: o0 P :: o1 P :: o138 P :: o0 P :: o140 P :: o141 P :: o143 P :: o144 P :: o145 P :: o146 P :: o147 P :: o148 P :: o149 P :: o150 P :: o36 P :: o37 P :: o151 P :: o0 P :: o152 P :: o153 P :: o154 P :: o0 P :: o1 P :: o155 P :: o0 P :: o157 P :: o158 P :: o160 P :: o0 P :: o1 P :: o161 P :: o0 P :: o163 P :: o164 P :: o166 P :: o0 P :: o1 P :: o167 P :: o0 P :: o169 P :: o170 P :: o172 P :: o0 P :: o1 P :: o173 P :: o0 P :: o175 P :: o176 P :: o178 P :: o179 P :: o0 P :: o1 P :: o180 P :: o0 P :: o182 P :: o183 P :: o185 P :: o179 P :: o0 P :: o1 P :: o186 P :: o0 P :: o188 P :: o189 P :: o191 P :: o192 P :: o193 P :: o255 P :: o195 P :: o196 P :: o197 P :: o198 P :: o199 P :: o37 P :: o200 P :: o0 P :: o201 P :: o202 P :: o203 P :: o0 P :: o1 P :: o204 P :: o0 P :: o206 P :: o207 P :: o209 P :: o179 P :: o0 P :: o1 P :: o210 P :: o0 P :: o212 P :: o213 P :: o215 P :: o179 P :: o0 P :: o1 P :: o216 P :: o0 P :: o218 P :: o219 P :: o221 P :: o0 P :: o222 P :: o367 P :: o224 P :: o225 P :: o226 P :: o37 P :: o227 P :: o0 P :: o228 P :: o229 P :: o230 P :: o0 P :: o1 P :: o231 P :: o0 P :: o233 P :: o234 P :: o236 P :: o179 P :: o0 P :: o1 P :: o237 P :: o0 P :: o239 P :: o240 P :: o242 P :: o179 P :: o0 P :: o1 P :: o243 P :: o0 P :: o245 P :: o246 P :: o248 P :: o0 P :: o249 P :: o257 P :: o251 P :: o252 P :: o199 P :: o37 P :: o258 P :: o0 P :: o259 P :: o260 P :: o261 P :: o0 P :: o1 P :: o262 P :: o0 P :: o264 P :: o265 P :: o267 P :: o0 P :: o1 P :: o268 P :: o0 P :: o270 P :: o271 P :: o273 P :: o0 P :: o274 P :: o275 P :: o276 P :: o277 P :: o199 P :: o37 P :: o278 P :: o0 P :: o279 P :: o280 P :: o281 P :: o282 P :: o0 P :: o1 P :: o283 P :: o0 P :: o285 P :: o286 P :: o288 P :: o0 P :: o1 P :: o290 P :: o291 P :: o293 P :: o0 P :: o1 P :: o295 P :: o296 P :: o298 P :: o299 P :: o300 P :: o301 P :: o302 P :: o303 P :: o304 P :: o37 P :: o305 P :: o0 P :: o306 P :: o307 P :: o308 P :: o309 P :: o0 P :: o1 P :: o310 P :: o0 P :: o312 P :: o313 P :: o315 P :: o0 P :: o1 P :: o316 P :: o0 P :: o318 P :: o319 P :: o321 P :: o322 P :: o0 P :: o1 P :: o324 P :: o325 P :: o327 P :: o0 P :: o1 P :: o329 P :: o330 P :: o332 P :: o333 P :: o334 P :: o335 P :: o336 P :: o337 P :: o226 P :: o37 P :: o338 P :: o0 P :: o339 P :: o340 P :: o341 P :: o282 P :: o0 P :: o1 P :: o342 P :: o0 P :: o344 P :: o345 P :: o347 P :: o0 P :: o1 P :: o348 P :: o0 P :: o350 P :: o351 P :: o353 P :: o0 P :: o1 P :: o354 P :: o0 P :: o356 P :: o357 P :: o359 P :: o360 P :: o361 P :: o362 P :: o363 P :: o364 P :: o226 P :: o37 P :: o368 P :: o0 P :: o369 P :: o370 P :: o371 P :: o282 P :: o0 P :: o1 P :: o372 P :: o0 P :: o374 P :: o375 P :: o377 P :: o0 P :: o1 P :: o379 P :: o380 P :: o382 P :: o0 P :: o1 P :: o383 P :: o0 P :: o385 P :: o386 P :: o388 P :: o389 P :: o390 P :: o391 P :: o392 P :: o393 P :: o0 P :: o1 P :: o394 P :: o0 P :: o396 P :: o397 P :: o399 P :: o0 P :: o1 P :: o400 P :: o0 P :: o402 P :: o403 P :: o405 P :: o0 P :: o1 P :: o407 P :: o408 P :: o410 P :: o0 P :: o1 P :: o412 P :: o413 P :: o415 P :: o0 P :: o1 P :: o416 P :: o0 P :: o418 P :: o419 P :: o421 P :: o0 P :: o1 P :: o422 P :: o0 P :: o424 P :: o425 P :: o427 P :: o0 P :: o1 P :: o428 P :: o0 P :: o430 P :: o431 P :: o433 P :: o0 P :: o1 P :: o434 P :: o0 P :: o436 P :: o437 P :: o439 P :: o0 P :: o1 P :: o441 P :: o442 P :: o444 P :: [])) { }
theorem fin (w : World) (os : OsState) : topRun treeTable PySem.Challenge.pw_yv0002_01 w 11 ann 2 (S5 w os).abs ⟨doneF .next, cE, ⟨355, 0, 375, 115⟩, [topFrame q0]⟩ = some ⟨H1 w.params, .mk [], { }, 4408, os⟩ := by
  rewrite [tTR, tTT]; kernel_rfl
theorem bE_eq : bE = s0 ++ (s1 ++ (s2 ++ (s3 ++ (s4 ++ [])))) := by
  kernel_rfl
theorem run (w : World) (os : OsState) : topRun treeTable PySem.Challenge.pw_yv0002_01 w 11 ann (12 + (1 + (162 + ((62 + (1 + (51 + (325 + (567 + (567 + (567 + (567 + (567 + (567 + (365 + 153))))))))))) + (1409 + (1374 + (617 + 2))))))) ⟨boot_heap w.params, .mk [], boot_drawn, boot_toks, os⟩ (topStub PySem.Challenge.pw_yv0002_01) = some ⟨H1 w.params, .mk [], { }, 4408, os⟩ := by
  refine go_top (pre w os) ?_
  refine piece_block (block w os) ?_
  refine (congrArg (fun b => topRun treeTable PySem.Challenge.pw_yv0002_01 w 11 ann _ (S0 w os).abs (restOf b env cE ⟨0, 0, 0, 0⟩ [topFrame q0]) = some _) bE_eq).mpr ?_
  refine piece_app (segRun_of (g0 w os)) ?_
  refine piece_app (g1 w os) ?_
  refine piece_app (segRun_of (g2 w os)) ?_
  refine piece_app (segRun_of (g3 w os)) ?_
  refine piece_app (segRun_of (g4 w os)) ?_
  exact fin w os
noncomputable def ht : Params → Frag := fun P => ((nat_lit 2, boot_o_2 P) :: (nat_lit 3, o365 P) :: (nat_lit 15, o0 P) :: (nat_lit 17, o6 P) :: (nat_lit 18, o0 P) :: (nat_lit 20, o9 P) :: (nat_lit 21, o11 P) :: (nat_lit 22, o0 P) :: (nat_lit 24, o12 P) :: (nat_lit 25, o0 P) :: (nat_lit 27, o15 P) :: (nat_lit 28, o17 P) :: (nat_lit 29, o0 P) :: (nat_lit 32, o20 P) :: (nat_lit 33, o22 P) :: (nat_lit 34, o0 P) :: (nat_lit 36, o23 P) :: (nat_lit 37, o0 P) :: (nat_lit 39, o26 P) :: (nat_lit 40, o28 P) :: (nat_lit 41, o0 P) :: (nat_lit 43, o29 P) :: (nat_lit 44, o0 P) :: (nat_lit 46, o32 P) :: (nat_lit 47, o34 P) :: (nat_lit 48, o36 P) :: (nat_lit 55, o42 P) :: (nat_lit 56, o44 P) :: (nat_lit 59, o47 P) :: (nat_lit 62, o51 P) :: (nat_lit 65, o54 P) :: (nat_lit 68, o58 P) :: (nat_lit 71, o61 P) :: (nat_lit 74, o65 P) :: (nat_lit 77, o68 P) :: (nat_lit 80, o72 P) :: (nat_lit 83, o75 P) :: (nat_lit 86, o79 P) :: (nat_lit 89, o82 P) :: (nat_lit 92, o86 P) :: (nat_lit 95, o89 P) :: (nat_lit 98, o94 P) :: (nat_lit 99, o0 P) :: (nat_lit 102, o97 P) :: (nat_lit 103, o99 P) :: (nat_lit 104, o0 P) :: (nat_lit 107, o102 P) :: (nat_lit 108, o104 P) :: (nat_lit 109, o0 P) :: (nat_lit 112, o107 P) :: (nat_lit 113, o109 P) :: (nat_lit 114, o112 P) :: (nat_lit 115, o113 P) :: (nat_lit 116, o114 P) :: (nat_lit 117, o115 P) :: (nat_lit 118, o116 P) :: (nat_lit 121, o36 P) :: (nat_lit 128, o125 P) :: (nat_lit 129, o0 P) :: (nat_lit 132, o128 P) :: (nat_lit 133, o130 P) :: (nat_lit 134, o0 P) :: (nat_lit 136, o131 P) :: (nat_lit 137, o0 P) :: (nat_lit 139, o134 P) :: (nat_lit 140, o136 P) :: (nat_lit 141, o137 P) :: (nat_lit 142, o0 P) :: (nat_lit 144, o138 P) :: (nat_lit 145, o0 P) :: (nat_lit 147, o141 P) :: (nat_lit 148, o143 P) :: (nat_lit 149, o144 P) :: (nat_lit 150, o145 P) :: (nat_lit 151, o146 P) :: (nat_lit 152, o147 P) :: (nat_lit 153, o148 P) :: (nat_lit 156, o36 P) :: (nat_lit 163, o0 P) :: (nat_lit 165, o155 P) :: (nat_lit 166, o0 P) :: (nat_lit 168, o158 P) :: (nat_lit 169, o160 P) :: (nat_lit 170, o0 P) :: (nat_lit 172, o161 P) :: (nat_lit 173, o0 P) :: (nat_lit 175, o164 P) :: (nat_lit 176, o166 P) :: (nat_lit 177, o0 P) :: (nat_lit 179, o167 P) :: (nat_lit 180, o0 P) :: (nat_lit 182, o170 P) :: (nat_lit 183, o172 P) :: (nat_lit 184, o0 P) :: (nat_lit 186, o173 P) :: (nat_lit 187, o0 P) :: (nat_lit 189, o176 P) :: (nat_lit 190, o178 P) :: (nat_lit 191, o179 P) :: (nat_lit 192, o0 P) :: (nat_lit 194, o180 P) :: (nat_lit 195, o0 P) :: (nat_lit 197, o183 P) :: (nat_lit 198, o185 P) :: (nat_lit 199, o179 P) :: (nat_lit 200, o0 P) :: (nat_lit 202, o186 P) :: (nat_lit 203, o0 P) :: (nat_lit 205, o189 P) :: (nat_lit 206, o191 P) :: (nat_lit 207, o192 P) :: (nat_lit 208, o193 P) :: (nat_lit 209, o255 P) :: (nat_lit 210, o195 P) :: (nat_lit 211, o196 P) :: (nat_lit 214, o199 P) :: (nat_lit 221, o0 P) :: (nat_lit 223, o204 P) :: (nat_lit 224, o0 P) :: (nat_lit 226, o207 P) :: (nat_lit 227, o209 P) :: (nat_lit 228, o179 P) :: (nat_lit 229, o0 P) :: (nat_lit 231, o210 P) :: (nat_lit 232, o0 P) :: (nat_lit 234, o213 P) :: (nat_lit 235, o215 P) :: (nat_lit 236, o179 P) :: (nat_lit 237, o0 P) :: (nat_lit 239, o216 P) :: (nat_lit 240, o0 P) :: (nat_lit 242, o219 P) :: (nat_lit 243, o221 P) :: (nat_lit 244, o0 P) :: (nat_lit 245, o222 P) :: (nat_lit 246, o367 P) :: (nat_lit 249, o226 P) :: (nat_lit 256, o0 P) :: (nat_lit 258, o231 P) :: (nat_lit 259, o0 P) :: (nat_lit 261, o234 P) :: (nat_lit 262, o236 P) :: (nat_lit 263, o179 P) :: (nat_lit 264, o0 P) :: (nat_lit 266, o237 P) :: (nat_lit 267, o0 P) :: (nat_lit 269, o240 P) :: (nat_lit 270, o242 P) :: (nat_lit 271, o179 P) :: (nat_lit 272, o0 P) :: (nat_lit 274, o243 P) :: (nat_lit 275, o0 P) :: (nat_lit 277, o246 P) :: (nat_lit 278, o248 P) :: (nat_lit 279, o0 P) :: (nat_lit 280, o249 P) :: (nat_lit 281, o257 P) :: (nat_lit 284, o199 P) :: (nat_lit 291, o0 P) :: (nat_lit 293, o262 P) :: (nat_lit 294, o0 P) :: (nat_lit 296, o265 P) :: (nat_lit 297, o267 P) :: (nat_lit 298, o0 P) :: (nat_lit 300, o268 P) :: (nat_lit 301, o0 P) :: (nat_lit 303, o271 P) :: (nat_lit 304, o273 P) :: (nat_lit 305, o0 P) :: (nat_lit 306, o274 P) :: (nat_lit 307, o275 P) :: (nat_lit 310, o199 P) :: (nat_lit 317, o282 P) :: (nat_lit 318, o0 P) :: (nat_lit 320, o283 P) :: (nat_lit 321, o0 P) :: (nat_lit 323, o286 P) :: (nat_lit 324, o288 P) :: (nat_lit 325, o0 P) :: (nat_lit 328, o291 P) :: (nat_lit 329, o293 P) :: (nat_lit 330, o0 P) :: (nat_lit 333, o296 P) :: (nat_lit 334, o298 P) :: (nat_lit 335, o299 P) :: (nat_lit 336, o300 P) :: (nat_lit 337, o301 P) :: (nat_lit 340, o304 P) :: (nat_lit 347, o309 P) :: (nat_lit 348, o0 P) :: (nat_lit 350, o310 P) :: (nat_lit 351, o0 P) :: (nat_lit 353, o313 P) :: (nat_lit 354, o315 P) :: (nat_lit 355, o0 P) :: (nat_lit 357, o316 P) :: (nat_lit 358, o0 P) :: (nat_lit 360, o319 P) :: (nat_lit 361, o321 P) :: (nat_lit 362, o322 P) :: (nat_lit 363, o0 P) :: (nat_lit 366, o325 P) :: (nat_lit 367, o327 P) :: (nat_lit 368, o0 P) :: (nat_lit 371, o330 P) :: (nat_lit 372, o332 P) :: (nat_lit 373, o333 P) :: (nat_lit 374, o334 P) :: (nat_lit 375, o335 P) :: (nat_lit 378, o226 P) :: (nat_lit 385, o282 P) :: (nat_lit 386, o0 P) :: (nat_lit 388, o342 P) :: (nat_lit 389, o0 P) :: (nat_lit 391, o345 P) :: (nat_lit 392, o347 P) :: (nat_lit 393, o0 P) :: (nat_lit 395, o348 P) :: (nat_lit 396, o0 P) :: (nat_lit 398, o351 P) :: (nat_lit 399, o353 P) :: (nat_lit 400, o0 P) :: (nat_lit 402, o354 P) :: (nat_lit 403, o0 P) :: (nat_lit 405, o357 P) :: (nat_lit 406, o359 P) :: (nat_lit 407, o360 P) :: (nat_lit 408, o361 P) :: (nat_lit 409, o362 P) :: (nat_lit 412, o226 P) :: (nat_lit 419, o282 P) :: (nat_lit 420, o0 P) :: (nat_lit 422, o372 P) :: (nat_lit 423, o0 P) :: (nat_lit 425, o375 P) :: (nat_lit 426, o377 P) :: (nat_lit 427, o0 P) :: (nat_lit 430, o380 P) :: (nat_lit 431, o382 P) :: (nat_lit 432, o0 P) :: (nat_lit 434, o383 P) :: (nat_lit 435, o0 P) :: (nat_lit 437, o386 P) :: (nat_lit 438, o388 P) :: (nat_lit 439, o389 P) :: (nat_lit 440, o390 P) :: (nat_lit 441, o391 P) :: (nat_lit 444, o0 P) :: (nat_lit 446, o394 P) :: (nat_lit 447, o0 P) :: (nat_lit 449, o397 P) :: (nat_lit 450, o399 P) :: (nat_lit 451, o0 P) :: (nat_lit 453, o400 P) :: (nat_lit 454, o0 P) :: (nat_lit 456, o403 P) :: (nat_lit 457, o405 P) :: (nat_lit 458, o0 P) :: (nat_lit 461, o408 P) :: (nat_lit 462, o410 P) :: (nat_lit 463, o0 P) :: (nat_lit 466, o413 P) :: (nat_lit 467, o415 P) :: (nat_lit 475, o0 P) :: (nat_lit 477, o422 P) :: (nat_lit 478, o0 P) :: (nat_lit 480, o425 P) :: (nat_lit 481, o427 P) :: (nat_lit 482, o0 P) :: (nat_lit 484, o428 P) :: (nat_lit 485, o0 P) :: (nat_lit 487, o431 P) :: (nat_lit 488, o433 P) :: (nat_lit 489, o0 P) :: (nat_lit 491, o434 P) :: (nat_lit 492, o0 P) :: (nat_lit 494, o437 P) :: (nat_lit 495, o439 P) :: (nat_lit 496, o0 P) :: (nat_lit 499, o442 P) :: (nat_lit 500, o444 P) :: [])
noncomputable def as : List Addr := (2 :: 3 :: 15 :: 17 :: 18 :: 20 :: 21 :: 22 :: 24 :: 25 :: 27 :: 28 :: 29 :: 32 :: 33 :: 34 :: 36 :: 37 :: 39 :: 40 :: 41 :: 43 :: 44 :: 46 :: 47 :: 48 :: 55 :: 56 :: 59 :: 62 :: 65 :: 68 :: 71 :: 74 :: 77 :: 80 :: 83 :: 86 :: 89 :: 92 :: 95 :: 98 :: 99 :: 102 :: 103 :: 104 :: 107 :: 108 :: 109 :: 112 :: 113 :: 114 :: 115 :: 116 :: 117 :: 118 :: 121 :: 128 :: 129 :: 132 :: 133 :: 134 :: 136 :: 137 :: 139 :: 140 :: 141 :: 142 :: 144 :: 145 :: 147 :: 148 :: 149 :: 150 :: 151 :: 152 :: 153 :: 156 :: 163 :: 165 :: 166 :: 168 :: 169 :: 170 :: 172 :: 173 :: 175 :: 176 :: 177 :: 179 :: 180 :: 182 :: 183 :: 184 :: 186 :: 187 :: 189 :: 190 :: 191 :: 192 :: 194 :: 195 :: 197 :: 198 :: 199 :: 200 :: 202 :: 203 :: 205 :: 206 :: 207 :: 208 :: 209 :: 210 :: 211 :: 214 :: 221 :: 223 :: 224 :: 226 :: 227 :: 228 :: 229 :: 231 :: 232 :: 234 :: 235 :: 236 :: 237 :: 239 :: 240 :: 242 :: 243 :: 244 :: 245 :: 246 :: 249 :: 256 :: 258 :: 259 :: 261 :: 262 :: 263 :: 264 :: 266 :: 267 :: 269 :: 270 :: 271 :: 272 :: 274 :: 275 :: 277 :: 278 :: 279 :: 280 :: 281 :: 284 :: 291 :: 293 :: 294 :: 296 :: 297 :: 298 :: 300 :: 301 :: 303 :: 304 :: 305 :: 306 :: 307 :: 310 :: 317 :: 318 :: 320 :: 321 :: 323 :: 324 :: 325 :: 328 :: 329 :: 330 :: 333 :: 334 :: 335 :: 336 :: 337 :: 340 :: 347 :: 348 :: 350 :: 351 :: 353 :: 354 :: 355 :: 357 :: 358 :: 360 :: 361 :: 362 :: 363 :: 366 :: 367 :: 368 :: 371 :: 372 :: 373 :: 374 :: 375 :: 378 :: 385 :: 386 :: 388 :: 389 :: 391 :: 392 :: 393 :: 395 :: 396 :: 398 :: 399 :: 400 :: 402 :: 403 :: 405 :: 406 :: 407 :: 408 :: 409 :: 412 :: 419 :: 420 :: 422 :: 423 :: 425 :: 426 :: 427 :: 430 :: 431 :: 432 :: 434 :: 435 :: 437 :: 438 :: 439 :: 440 :: 441 :: 444 :: 446 :: 447 :: 449 :: 450 :: 451 :: 453 :: 454 :: 456 :: 457 :: 458 :: 461 :: 462 :: 463 :: 466 :: 467 :: 475 :: 477 :: 478 :: 480 :: 481 :: 482 :: 484 :: 485 :: 487 :: 488 :: 489 :: 491 :: 492 :: 494 :: 495 :: 496 :: 499 :: 500 :: [])
noncomputable def keep : List Nat := [0, 2, 3, 4, 5, 6, 7, 8, 9, 10, 11, 12, 13, 14, 15, 16, 18, 19, 20, 21, 22, 23, 24, 25, 26]
noncomputable def view_39 : Program := by
  refine (?g : (b : List Stmt) → b = pick PySem.Challenge.pw_yv0002_01.main.body keep → Program) [_, _, _, _, _, _, _, _, _, _, _, _, _, _, _, _, _, _, _, _, _, _, _, _, _] rfl
  exact fun b _ => { PySem.Challenge.pw_yv0002_01 with main := { PySem.Challenge.pw_yv0002_01.main with body := b } }
noncomputable def heap_39 : Params → Frag := by
  refine' fun P => (?g : (K : Frag) → ht P = K → Frag) _ ?h
  case g => exact fun K _ => K
  case h =>
    delta ht o365 o0 o6 o9 o11 o12 o15 o17 o20 o22 o23 o26 o28 o29 o32 o34 o36 o42 o44 o47 o51 o54 o58 o61 o65 o68 o72 o75 o79 o82 o86 o89 o94 o97 o99 o102 o104 o107 o109 o112 o113 o114 o115 o116 o125 o128 o130 o131 o134 o136 o137 o138 o141 o143 o144 o145 o146 o147 o148 o155 o158 o160 o161 o164 o166 o167 o170 o172 o173 o176 o178 o179 o180 o183 o185 o186 o189 o191 o192 o193 o255 o195 o196 o199 o204 o207 o209 o210 o213 o215 o216 o219 o221 o222 o367 o226 o231 o234 o236 o237 o240 o242 o243 o246 o248 o249 o257 o262 o265 o267 o268 o271 o273 o274 o275 o282 o283 o286 o288 o291 o293 o296 o298 o299 o300 o301 o304 o309 o310 o313 o315 o316 o319 o321 o322 o325 o327 o330 o332 o333 o334 o335 o342 o345 o347 o348 o351 o353 o354 o357 o359 o360 o361 o362 o372 o375 o377 o380 o382 o383 o386 o388 o389 o390 o391 o394 o397 o399 o400 o403 o405 o408 o410 o413 o415 o422 o425 o427 o428 o431 o433 o434 o437 o439 o442 o444
    delta f7 f10 f13 f16 f18 f21 f24 f27 f30 f33 f95 f98 f100 f103 f105 f108 f126 f129 f132 f135 f139 f142 f156 f159 f162 f165 f168 f171 f174 f177 f181 f184 f187 f190 f205 f208 f211 f214 f217 f220 f232 f235 f238 f241 f244 f247 f263 f266 f269 f272 f284 f287 f289 f292 f294 f297 f311 f314 f317 f320 f323 f326 f328 f331 f343 f346 f349 f352 f355 f358 f373 f376 f378 f381 f384 f387 f395 f398 f401 f404 f406 f409 f411 f414 f417 f420 f423 f426 f429 f432 f435 f438 f440 f443 k
    exact rfl
noncomputable def sF (w : World) (os : OsState) : Shared := ⟨H1 w.params, .mk [], { }, 4408, os⟩
theorem size (w : World) : ((boot_heap w.params).isNs mainGlobals && (Array.mk [] : Array GenState).size == 0, (boot_heap w.params).objs.size, (boot_heap w.params).nsMap mainGlobals "__annotations__") = (true, 11, ann) := by
  rewrite [PySem.W.Fast.te8920871248978507458]; kernel_rfl
theorem ble : Nat.ble (12 + (1 + (162 + ((62 + (1 + (51 + (325 + (567 + (567 + (567 + (567 + (567 + (567 + (365 + 153))))))))))) + (1409 + (1374 + (617 + 2))))))) 15938 = true := rfl
noncomputable def NN : Nat := 15938

theorem asEq : ∀ P, as = (heap_39 P).map (·.1) := fun _ => by kernel_rfl
theorem lk1 (w : World) (os : OsState) : (staticsOk (importedModules PySem.Challenge.pw_yv0002_01.main.body) (boot_heap w.params) (H1 w.params) && namesBound PySem.Challenge.pw_yv0002_01 (H1 w.params) && gensDone (sF w os) && laidKept (boot_heap w.params) (H1 w.params)) = true := by
  rewrite [PySem.W.Fast.te5923862056798008813]; kernel_rfl
theorem lk2 (w : World) (os : OsState) : seen ((recsOf view_39).map (·.name)) (ownsOf view_39) [] { sF w os with gens := #[] } = expectedOf view_39 := by
  rewrite [PySem.W.Fast.te5160383126252970620, PySem.W.R.mapR_eq, PySem.W.Fast.te3399658132070893891, PySem.W.Fast.te5991557255702980513]; kernel_rfl
theorem lk3 (w : World) : (H1 w.params).bltView = bltViewBooted := by kernel_rfl
theorem lk4 (w : World) (os : OsState) : ((H1 w.params).keysOk (looseW view_39 [PySem.Str.ofString "AES", PySem.Str.ofString "Counter", PySem.Str.ofString "AESBlockModeOfOperation", PySem.Str.ofString "AESStreamModeOfOperation", PySem.Str.ofString "AESSegmentModeOfOperation", PySem.Str.ofString "AESModeOfOperationECB", PySem.Str.ofString "AESModeOfOperationCBC", PySem.Str.ofString "AESModeOfOperationCFB", PySem.Str.ofString "AESModeOfOperationOFB", PySem.Str.ofString "AESModeOfOperationCTR"]) ((recsOf view_39).map (·.name)) ((litsOf view_39).map (·.1)) ((clssOf view_39 (looseW view_39 [PySem.Str.ofString "AES", PySem.Str.ofString "Counter", PySem.Str.ofString "AESBlockModeOfOperation", PySem.Str.ofString "AESStreamModeOfOperation", PySem.Str.ofString "AESSegmentModeOfOperation", PySem.Str.ofString "AESModeOfOperationECB", PySem.Str.ofString "AESModeOfOperationCBC", PySem.Str.ofString "AESModeOfOperationCFB", PySem.Str.ofString "AESModeOfOperationOFB", PySem.Str.ofString "AESModeOfOperationCTR"])).map (·.name)) && (H1 w.params).accountedOkI (importedModules PySem.Challenge.pw_yv0002_01.main.body) && (H1 w.params).isNs mainGlobals && (H1 w.params).isNs builtinsNs && tablesOk view_39 (H1 w.params) && (xlAt view_39 [] (sF w os) && recOk (RowW.records PySem.Challenge.rw_yv0002_01.row.toRowW) (sF w os)) && (if true then (sF w os).gens.size == 0 else !leftWithCleanup (sF w os).gens)) = true := by
  rewrite [PySem.W.Fast.te10880121769531294198, PySem.W.Fast.te821141287760084731, PySem.W.R.mapR_eq, PySem.W.Fast.te3399658132070893891, PySem.W.Fast.te7409074990110511671, PySem.W.Fast.te13664370479719496447, PySem.W.Fast.te14722251495701143533, PySem.W.Fast.te5923862056798008813, PySem.W.Fast.te10994771534591457954]; kernel_rfl
theorem lk5 (w : World) (os : OsState) : tabsOk view_39 (sF w os) = true := by
  rewrite [PySem.W.Fast.te479339242167458305]; kernel_rfl
theorem lk6 (w : World) (os : OsState) : pinSeenD view_39 (drecsOf view_39) (sF w os) = pinGoodD (drecsOf view_39) := by
  rewrite [PySem.W.Fast.te16090120013241838585, PySem.W.Fast.te3247288618530077131]; kernel_rfl
theorem lk7 (w : World) (os : OsState) : plainSeenE view_39 (looseW view_39 [PySem.Str.ofString "AES", PySem.Str.ofString "Counter", PySem.Str.ofString "AESBlockModeOfOperation", PySem.Str.ofString "AESStreamModeOfOperation", PySem.Str.ofString "AESSegmentModeOfOperation", PySem.Str.ofString "AESModeOfOperationECB", PySem.Str.ofString "AESModeOfOperationCBC", PySem.Str.ofString "AESModeOfOperationCFB", PySem.Str.ofString "AESModeOfOperationOFB", PySem.Str.ofString "AESModeOfOperationCTR"]) (sF w os) = plainGoodE view_39 (looseW view_39 [PySem.Str.ofString "AES", PySem.Str.ofString "Counter", PySem.Str.ofString "AESBlockModeOfOperation", PySem.Str.ofString "AESStreamModeOfOperation", PySem.Str.ofString "AESSegmentModeOfOperation", PySem.Str.ofString "AESModeOfOperationECB", PySem.Str.ofString "AESModeOfOperationCBC", PySem.Str.ofString "AESModeOfOperationCFB", PySem.Str.ofString "AESModeOfOperationOFB", PySem.Str.ofString "AESModeOfOperationCTR"]) := by
  rewrite [PySem.W.Fast.te2386780881361962483, PySem.W.Fast.te821141287760084731]; kernel_rfl
theorem lk8 (w : World) (os : OsState) : plainSeenD view_39 [PySem.Str.ofString "AES", PySem.Str.ofString "Counter", PySem.Str.ofString "AESBlockModeOfOperation", PySem.Str.ofString "AESStreamModeOfOperation", PySem.Str.ofString "AESSegmentModeOfOperation", PySem.Str.ofString "AESModeOfOperationECB", PySem.Str.ofString "AESModeOfOperationCBC", PySem.Str.ofString "AESModeOfOperationCFB", PySem.Str.ofString "AESModeOfOperationOFB", PySem.Str.ofString "AESModeOfOperationCTR"] (sF w os) = plainGoodD view_39 [PySem.Str.ofString "AES", PySem.Str.ofString "Counter", PySem.Str.ofString "AESBlockModeOfOperation", PySem.Str.ofString "AESStreamModeOfOperation", PySem.Str.ofString "AESSegmentModeOfOperation", PySem.Str.ofString "AESModeOfOperationECB", PySem.Str.ofString "AESModeOfOperationCBC", PySem.Str.ofString "AESModeOfOperationCFB", PySem.Str.ofString "AESModeOfOperationOFB", PySem.Str.ofString "AESModeOfOperationCTR"] := by
  rewrite [PySem.W.Fast.te11698064438423848299]; kernel_rfl
theorem lk9 (w : World) (os : OsState) : wideSeen view_39 (sF w os) = wideGood view_39 := by
  rewrite [PySem.W.Fast.te7317090234206586261]; kernel_rfl
theorem lk10 (w : World) (os : OsState) : clsSeenW view_39 [PySem.Str.ofString "AES", PySem.Str.ofString "Counter", PySem.Str.ofString "AESBlockModeOfOperation", PySem.Str.ofString "AESStreamModeOfOperation", PySem.Str.ofString "AESSegmentModeOfOperation", PySem.Str.ofString "AESModeOfOperationECB", PySem.Str.ofString "AESModeOfOperationCBC", PySem.Str.ofString "AESModeOfOperationCFB", PySem.Str.ofString "AESModeOfOperationOFB", PySem.Str.ofString "AESModeOfOperationCTR"] (sF w os) = clsGoodW view_39 [PySem.Str.ofString "AES", PySem.Str.ofString "Counter", PySem.Str.ofString "AESBlockModeOfOperation", PySem.Str.ofString "AESStreamModeOfOperation", PySem.Str.ofString "AESSegmentModeOfOperation", PySem.Str.ofString "AESModeOfOperationECB", PySem.Str.ofString "AESModeOfOperationCBC", PySem.Str.ofString "AESModeOfOperationCFB", PySem.Str.ofString "AESModeOfOperationOFB", PySem.Str.ofString "AESModeOfOperationCTR"] := by
  rewrite [PySem.W.Fast.te7369524293546568484]; kernel_rfl
theorem lk11 (w : World) (os : OsState) : (kHook heap_39 as asEq).obs (sF w os) = (kHook heap_39 as asEq).val w := by kernel_rfl
theorem lkB (w : World) (os : OsState) : openSeen view_39 [PySem.Str.ofString "AES", PySem.Str.ofString "Counter", PySem.Str.ofString "AESBlockModeOfOperation", PySem.Str.ofString "AESStreamModeOfOperation", PySem.Str.ofString "AESSegmentModeOfOperation", PySem.Str.ofString "AESModeOfOperationECB", PySem.Str.ofString "AESModeOfOperationCBC", PySem.Str.ofString "AESModeOfOperationCFB", PySem.Str.ofString "AESModeOfOperationOFB", PySem.Str.ofString "AESModeOfOperationCTR"] (importedModules PySem.Challenge.pw_yv0002_01.main.body) (fun s => xlAt view_39 [] s && recOk (RowW.records PySem.Challenge.rw_yv0002_01.row.toRowW) s) true (sF w os) = openGood view_39 [PySem.Str.ofString "AES", PySem.Str.ofString "Counter", PySem.Str.ofString "AESBlockModeOfOperation", PySem.Str.ofString "AESStreamModeOfOperation", PySem.Str.ofString "AESSegmentModeOfOperation", PySem.Str.ofString "AESModeOfOperationECB", PySem.Str.ofString "AESModeOfOperationCBC", PySem.Str.ofString "AESModeOfOperationCFB", PySem.Str.ofString "AESModeOfOperationOFB", PySem.Str.ofString "AESModeOfOperationCTR"] := by
  unfold openSeen openGood
  exact looks_pair (lk2 w os) (looks_pair (lk3 w) (looks_pair (lk4 w os) (looks_pair (lk5 w os) (looks_pair (lk6 w os) (looks_pair (lk7 w os) (looks_pair (lk8 w os) (looks_pair (lk9 w os) (lk10 w os))))))))
theorem looks (w : World) : (fun os => ((staticsOk (importedModules PySem.Challenge.pw_yv0002_01.main.body) (boot_heap w.params) (H1 w.params) && namesBound PySem.Challenge.pw_yv0002_01 (H1 w.params) && gensDone (sF w os) && laidKept (boot_heap w.params) (H1 w.params)), openSeen view_39 [PySem.Str.ofString "AES", PySem.Str.ofString "Counter", PySem.Str.ofString "AESBlockModeOfOperation", PySem.Str.ofString "AESStreamModeOfOperation", PySem.Str.ofString "AESSegmentModeOfOperation", PySem.Str.ofString "AESModeOfOperationECB", PySem.Str.ofString "AESModeOfOperationCBC", PySem.Str.ofString "AESModeOfOperationCFB", PySem.Str.ofString "AESModeOfOperationOFB", PySem.Str.ofString "AESModeOfOperationCTR"] (importedModules PySem.Challenge.pw_yv0002_01.main.body) (fun s => xlAt view_39 [] s && recOk (RowW.records PySem.Challenge.rw_yv0002_01.row.toRowW) s) true (sF w os), (kHook heap_39 as asEq).obs (sF w os))) = fun _ => (true, openGood view_39 [PySem.Str.ofString "AES", PySem.Str.ofString "Counter", PySem.Str.ofString "AESBlockModeOfOperation", PySem.Str.ofString "AESStreamModeOfOperation", PySem.Str.ofString "AESSegmentModeOfOperation", PySem.Str.ofString "AESModeOfOperationECB", PySem.Str.ofString "AESModeOfOperationCBC", PySem.Str.ofString "AESModeOfOperationCFB", PySem.Str.ofString "AESModeOfOperationOFB", PySem.Str.ofString "AESModeOfOperationCTR"], (kHook heap_39 as asEq).val w) :=
  funext fun os => looks_pair (lk1 w os) (looks_pair (lkB w os) (lk11 w os))
theorem open1 : opening PySem.Challenge.pw_yv0002_01 = plainProg PySem.Challenge.pw_yv0002_01.main.scope.names := by kernel_rfl
theorem open2 (s : Shared) : fenceModules? PySem.Challenge.pw_yv0002_01 s = some s := by kernel_rfl
theorem left : LeftO PySem.Challenge.pw_yv0002_01 view_39 [PySem.Str.ofString "AES", PySem.Str.ofString "Counter", PySem.Str.ofString "AESBlockModeOfOperation", PySem.Str.ofString "AESStreamModeOfOperation", PySem.Str.ofString "AESSegmentModeOfOperation", PySem.Str.ofString "AESModeOfOperationECB", PySem.Str.ofString "AESModeOfOperationCBC", PySem.Str.ofString "AESModeOfOperationCFB", PySem.Str.ofString "AESModeOfOperationOFB", PySem.Str.ofString "AESModeOfOperationCTR"] (fun s => xlAt view_39 [] s && recOk (RowW.records PySem.Challenge.rw_yv0002_01.row.toRowW) s) (kHook heap_39 as asEq).obs (kHook heap_39 as asEq).val NN :=
  LeftO.of_pieces (boot_open open1 (by rfl) open2) size run ble looks
theorem qd1 : namesOk view_39 (looseW view_39 [PySem.Str.ofString "AES", PySem.Str.ofString "Counter", PySem.Str.ofString "AESBlockModeOfOperation", PySem.Str.ofString "AESStreamModeOfOperation", PySem.Str.ofString "AESSegmentModeOfOperation", PySem.Str.ofString "AESModeOfOperationECB", PySem.Str.ofString "AESModeOfOperationCBC", PySem.Str.ofString "AESModeOfOperationCFB", PySem.Str.ofString "AESModeOfOperationOFB", PySem.Str.ofString "AESModeOfOperationCTR"]) (namesW view_39 [PySem.Str.ofString "AES", PySem.Str.ofString "Counter", PySem.Str.ofString "AESBlockModeOfOperation", PySem.Str.ofString "AESStreamModeOfOperation", PySem.Str.ofString "AESSegmentModeOfOperation", PySem.Str.ofString "AESModeOfOperationECB", PySem.Str.ofString "AESModeOfOperationCBC", PySem.Str.ofString "AESModeOfOperationCFB", PySem.Str.ofString "AESModeOfOperationOFB", PySem.Str.ofString "AESModeOfOperationCTR"]) = true := by
  rewrite [PySem.W.Fast.te17448422675489707002, PySem.W.Fast.te821141287760084731]; kernel_rfl
theorem qd2 : importsNone view_39 = true := by
  rewrite [PySem.W.Fast.te2458874890965802552]; kernel_rfl
theorem okT : OpenLaw.wellSaid PySem.Challenge.rw_yv0002_01 = true := by
  unfold OpenLaw.wellSaid
  repeat' (first | (with_reducible refine look_both ?_ ?_) | unfold OpenRow.wellSaid | unfold OpenRow.partSaid | unfold OpenScript.wellSaid | unfold looksOpen)
  all_goals as_aux_lemma =>
    try rewrite [PySem.W.R.allR_eq]
    try rewrite [PySem.W.R.filterR_eq]
    try rewrite [PySem.W.R.mapR_eq]
    try rewrite [PySem.W.R.anyR_eq]
    try rewrite [PySem.W.Fast.sDec_eq]
    try rewrite [PySem.W.Fast.named_eq]
    try rewrite [PySem.W.S.strDecS_eq]
    try rewrite [PySem.W.Fast.te11788848310118352699]
    try rewrite [PySem.W.Fast.te2368527892694137696]
    try rewrite [PySem.W.Fast.te9807087744658564304]
    try rewrite [PySem.W.Fast.te12862048085361865435]
    try rewrite [PySem.W.Fast.te8377067652309620493]
    try rewrite [PySem.W.Fast.te18344453789297297638]
    try rewrite [PySem.W.Fast.te3471404346716756564]
    try rewrite [PySem.W.Fast.te14412699480532031325]
    try rewrite [PySem.W.Fast.te8326940854005059898]
    try rewrite [PySem.W.Fast.te5923862056798008813]
    try rewrite [PySem.W.Fast.te17691160309236699985]
    try rewrite [PySem.W.Fast.te13343964577679436407]
    try rewrite [PySem.W.Fast.te17119622794617984870]
    try rewrite [PySem.W.Fast.te17868728402115742887]
    try rewrite [PySem.W.Fast.te9706382859710513879]
    try rewrite [PySem.W.Fast.te2357444279172408678]
    try rewrite [PySem.W.Fast.te4857012375875476094]
    try rewrite [PySem.W.Fast.te13582783067957832011]
    try rewrite [PySem.W.Fast.te5318747976498570220]
    try rewrite [PySem.W.Fast.te4579403493507170074]
    try rewrite [PySem.W.Fast.te4274047373036748609]
    try rewrite [PySem.W.Fast.te12749700546528644094]
    try rewrite [PySem.W.Fast.te10501279942588096481]
    try rewrite [PySem.W.Fast.te8179353310426384613]
    try rewrite [PySem.W.Fast.te797321630700447069]
    try rewrite [PySem.W.Fast.te9572597257264208301]
    try rewrite [PySem.W.Fast.te9558739934217749035]
    try rewrite [PySem.W.Fast.te16286561074155671207]
    try rewrite [PySem.W.Fast.te6984425678791042302]
    try rewrite [PySem.W.Fast.te17095254045102204799]
    try rewrite [PySem.W.Fast.te12879404354523853263]
    try rewrite [PySem.W.Fast.te482687673346738481]
    try rewrite [PySem.W.Fast.te7723801398212525404]
    try rewrite [PySem.W.Fast.te10792542408131684335]
    kernel_rfl
end Mine.hd

namespace Mine
/-- the words for a module's top are put off -/
theorem topOff : True := by
  w_top off
  exact trivial
end Mine

open PySem PySem.W PySem.Calls PyProof.Rows
set_option Elab.async false
set_option maxRecDepth 100000
namespace Mine

/-- what a call of one of the text's own defs does -/
def Tells (w : World) (f : Addr) (vs : List Value) (deep : Nat) (news : List (Addr × Obj)) (Out : Value → List (Addr × Obj) → Prop) : Prop :=
  ∀ (loose : List Str) (mean : ExcName → Option Value) (mg mb : Str → Option Value) (dp un : Nat) (gd : Option (List Code)) (cn : Str) (cs : Scope) (a : Addr) (ccd : Value) (cl : List (Str × Addr)) (outer : List Env) (A₀ : Around) (base h₀ : Heap) (L : Addr) (m : Str → Option Value) (s : Shared) (Q E : Value → Shared → Prop),
    Below A₀ base outer h₀ → Fr h₀ L s.heap m → (Mine.hd.heap_39 w.params).In h₀ → News h₀ L s.heap news → Top Mine.hd.view_39 loose mean mg mb h₀ → cs.kind = .function → dp + deep < recursionLimit → un + 8 * deep < cLine →
    (∀ v news' h' tk', Fr h₀ L h' m → News h₀ L h' news' → Out v news' → Q v { s with heap := h', toks := tk' }) →
    wpAny (model PySem.Challenge.rw_yv0002_01.row.prog w) (ktrTop dp un gd cn cs L a ccd cl outer) (call (.ref f) vs) Q E s
theorem Tells.use {w : World} {f : Addr} {vs : List Value} {deep : Nat} {news : List (Addr × Obj)} {Out : Value → List (Addr × Obj) → Prop} (C : Tells w f vs deep news Out)
    {loose : List Str} {mean : ExcName → Option Value} {mg mb : Str → Option Value} {dp un : Nat} {gd : Option (List Code)} {cn : Str} {cs : Scope} {a : Addr} {ccd : Value} {cl : List (Str × Addr)} {outer : List Env} {A₀ : Around} {base h₀ : Heap} {L : Addr} {m : Str → Option Value} {s : Shared} {Q E : Value → Shared → Prop}
    (B : Below A₀ base outer h₀) (F : Fr h₀ L s.heap m) (X : (Mine.hd.heap_39 w.params).In h₀) (N : News h₀ L s.heap news) (T : Top Mine.hd.view_39 loose mean mg mb h₀) (hk : cs.kind = .function) (hd : dp + deep < recursionLimit) (hu : un + 8 * deep < cLine)
    (ret : ∀ v news' h' tk', Fr h₀ L h' m → News h₀ L h' news' → Out v news' → Q v { s with heap := h', toks := tk' }) :
    wpAny (model PySem.Challenge.rw_yv0002_01.row.prog w) (ktrTop dp un gd cn cs L a ccd cl outer) (call (.ref f) vs) Q E s :=
  C _ _ _ _ _ _ _ _ _ _ _ _ _ _ _ _ _ _ _ _ _ B F X N T hk hd hu ret

/-- a list of ints in the ledger -/
def IL (news : List (Addr × Obj)) (l : Addr) (ns : List Int) : Prop := ∃ vs n, (l, listOf vs.toArray n) ∈ news ∧ IntsAre vs ns

section
variable {prog : Program} {w : World} {A : Around} {E : Value → Shared → Prop} {s : Shared} {h₀ : Heap} {L l : Addr} {m : Str → Option Value} {news : List (Addr × Obj)} {value slice : Expr} {k : Int} {u : Tok} {Q : Value → Shared → Prop}
/-- an item of a written list of the ledger -/
theorem item_led {its : Array Value} {n : Nat} {v : Value} (N : News h₀ L s.heap news) (hm : (l, listOf its n) ∈ news) (h0 : 0 ≤ k) (hhi : k < 2 ^ 63) (hx : its[k.toNat]? = some v) (h : Q v s)
    (hs : subscripted slice false (.ref l) (.int k u) = operate [.ref l, .int k u] (getItem (.ref l) (.int k u)) := by with_unfolding_all rfl) :
    wpAny (model prog w) A (subscriptTail value slice (.ref l) (.int k u)) Q E s :=
  have hL := News.isList N hm
  tail_any hL.typeIs slot_list_getitem.lookup (wpAny_getItem_list hL h0 hhi hx h) hs
/-- an item of a list of ints -/
theorem item_IL {ns : List Int} (N : News h₀ L s.heap news) (hm : IL news l ns) (h0 : 0 ≤ k) (h1 : k < ns.length) (hhi : k < 2 ^ 63) (h : ∀ t, Q (.int (ns.getD k.toNat 0) t) s)
    (hs : subscripted slice false (.ref l) (.int k u) = operate [.ref l, .int k u] (getItem (.ref l) (.int k u)) := by with_unfolding_all rfl) :
    wpAny (model prog w) A (subscriptTail value slice (.ref l) (.int k u)) Q E s := by
  obtain ⟨vs, n, hm, hi⟩ := hm
  have hlt : k.toNat < ns.length := by omega
  have e : ns[k.toNat]? = some (ns.getD k.toNat 0) := by rw [List.getD_eq_getElem?_getD, List.getElem?_eq_getElem hlt]; rfl
  obtain ⟨t, ht⟩ := hi.get _ _ e
  exact item_led N hm h0 hhi (by simpa using ht) (h t) hs
end

/-- a table of the class's -/
def isI : Value → Bool
  | .int _ _ => true
  | _ => false
def toI : Value → Int
  | .int i _ => i
  | _ => 0
theorem intsAre_map : ∀ {vs : List Value}, vs.all isI = true → IntsAre vs (vs.map toI)
  | [], _ => .nil
  | v :: r, h => by
    rw [List.all_cons, Bool.and_eq_true] at h
    cases v with
    | int i t => exact .cons i t (intsAre_map h.2)
    | _ => exact absurd h.1 (by simp [isI])
def rawOf (K : Frag) (a : Addr) : List Value := match K.lookup a with
  | some ⟨_, _, .seq xs _, _⟩ => xs.toList
  | _ => []
def tabOk (K : Frag) (a : Addr) (n : Nat) : Bool := match K.lookup a with
  | some ⟨.type "list", none, .seq xs 0, sl⟩ => xs.size == n && xs.toList.all isI && sl.size == 0
  | _ => false
@[irreducible] noncomputable def tab (P : Params) (a : Addr) : List Int := (rawOf (Mine.hd.heap_39 P) a).map toI
theorem tab_of {P : Params} {a : Addr} {n : Nat} (h : tabOk (Mine.hd.heap_39 P) a n = true) :
    ∃ vs : List Value, (Mine.hd.heap_39 P).lookup a = some ⟨.type "list", none, .seq vs.toArray 0, #[]⟩ ∧ IntsAre vs (tab P a) ∧ (tab P a).length = n := by
  unfold tabOk at h
  split at h
  · rename_i xs sl e
    simp only [Bool.and_eq_true, beq_iff_eq] at h
    obtain ⟨⟨h1, h2⟩, h3⟩ := h
    have h4 : sl = #[] := Array.eq_empty_of_size_eq_zero h3
    subst h4
    refine ⟨xs.toList, by rw [e], ?_, ?_⟩
    · unfold tab rawOf; rw [e]; exact intsAre_map h2
    · unfold tab rawOf; rw [e]; simpa using h1
  · cases h
theorem tab_S (P : Params) : tabOk (Mine.hd.heap_39 P) 59 256 = true := by kernel_rfl
theorem tab_T1 (P : Params) : tabOk (Mine.hd.heap_39 P) 65 256 = true := by kernel_rfl
theorem tab_T2 (P : Params) : tabOk (Mine.hd.heap_39 P) 68 256 = true := by kernel_rfl
theorem tab_T3 (P : Params) : tabOk (Mine.hd.heap_39 P) 71 256 = true := by kernel_rfl
theorem tab_T4 (P : Params) : tabOk (Mine.hd.heap_39 P) 74 256 = true := by kernel_rfl
theorem tab_U1 (P : Params) : tabOk (Mine.hd.heap_39 P) 89 256 = true := by kernel_rfl
theorem tab_U2 (P : Params) : tabOk (Mine.hd.heap_39 P) 92 256 = true := by kernel_rfl
theorem tab_U3 (P : Params) : tabOk (Mine.hd.heap_39 P) 95 256 = true := by kernel_rfl
theorem tab_U4 (P : Params) : tabOk (Mine.hd.heap_39 P) 98 256 = true := by kernel_rfl
theorem tab_rcon (P : Params) : tabOk (Mine.hd.heap_39 P) 56 30 = true := by kernel_rfl
theorem in_S (P : Params) : ∀ x ∈ tab P 59, 0 ≤ x ∧ x < 256 := by
  have h : ((rawOf (Mine.hd.heap_39 P) 59).map toI).all (fun x => decide (0 ≤ x) && decide (x < 256)) = true := by kernel_rfl
  intro x hx
  unfold tab at hx
  have := List.all_eq_true.mp h x hx
  simpa using this
theorem in_rcon (P : Params) : ∀ x ∈ tab P 56, 0 ≤ x ∧ x < 256 := by
  have h : ((rawOf (Mine.hd.heap_39 P) 56).map toI).all (fun x => decide (0 ≤ x) && decide (x < 256)) = true := by kernel_rfl
  intro x hx
  unfold tab at hx
  have := List.all_eq_true.mp h x hx
  simpa using this

section
variable {prog : Program} {w : World} {A : Around} {E : Value → Shared → Prop} {s : Shared} {h₀ : Heap} {L l : Addr} {m : Str → Option Value} {value slice : Expr} {k : Int} {u : Tok} {Q : Value → Shared → Prop}
theorem item_tab {n : Nat} (F : Fr h₀ L s.heap m) (X : (Mine.hd.heap_39 w.params).In h₀) (ho : tabOk (Mine.hd.heap_39 w.params) l n = true) (h0 : 0 ≤ k) (h1 : k < n) (hn : n ≤ 256) (h : ∀ t, Q (.int ((tab w.params l).getD k.toNat 0) t) s)
    (hs : subscripted slice false (.ref l) (.int k u) = operate [.ref l, .int k u] (getItem (.ref l) (.int k u)) := by with_unfolding_all rfl) :
    wpAny (model prog w) A (subscriptTail value slice (.ref l) (.int k u)) Q E s := by
  obtain ⟨vs, e, hi, hlen⟩ := tab_of ho
  have hlt : k.toNat < (tab w.params l).length := by omega
  have e' : (tab w.params l)[k.toNat]? = some ((tab w.params l).getD k.toNat 0) := by rw [List.getD_eq_getElem?_getD, List.getElem?_eq_getElem hlt]; rfl
  obtain ⟨t, ht⟩ := hi.get _ _ e'
  have hL := lstK (X.keeps F.keep) e
  exact tail_any hL.typeIs slot_list_getitem.lookup (wpAny_getItem_list hL h0 (by omega) (by simpa using ht) (h t)) hs
end

/-- `_compact_word` -/
def cword (a b c d : Int) : Int := Builtin.bitOr (Builtin.bitOr (Builtin.bitOr (a * 2 ^ 24) (b * 2 ^ 16)) (c * 2 ^ 8)) d

end Mine

set_option maxHeartbeats 8000000
namespace Mine
local macro_rules | `(tactic| walk_at $s:str) => `(tactic| k_extra $s)
local macro_rules | `(tactic| k_qdec) => `(tactic| first | exact Mine.hd.qd1 | exact Mine.hd.qd2)

/-- `_compact_word` of the ints of a list -/
def cwordL (ks : List Int) : Int := cword (ks.getD 0 0) (ks.getD 1 0) (ks.getD 2 0) (ks.getD 3 0)

theorem in_getD {ks : List Int} (h : KBa.In ks) (i : Nat) : 0 ≤ ks.getD i 0 ∧ ks.getD i 0 < 256 := KBw.getD_in h

section
theorem wordsP11 : True := by
  k_with_none
  k_with "subscriptTail" => (k_here; (with_reducible show wpAny _ _ (subscriptTail _ _ (Value.ref _) (Value.int _ _)) _ _ _); k_dflt (refine' item_IL ?qqN ?qqm ?qqa ?qqb ?qqc ?_; (case qqN => k_asm); (case qqm => assumption); (case qqa => decide); (case qqb => lia); (case qqc => decide); k_whole); intro _)
  k_with "subscriptTail" => (k_here; (with_reducible show wpAny _ _ (subscriptTail _ _ (Value.bytes _ _) (Value.int _ _)) _ _ _); (refine KBw.item_K (by assumption) (by lia) (by decide) (by lia) ?_); intro _ _ _ _)
  k_with "binaryOp LShift int int" => (k_here; (with_reducible refine lshift_int_small ?qqkb1 ?qqkb2 ?qqkb3 ?_); (case qqkb1 => decide); (case qqkb2 => decide); (case qqkb3 => (refine Nat.lt_of_lt_of_le (Int.natAbs_lt_natAbs_of_nonneg_of_lt (in_getD (by assumption) _).1 (in_getD (by assumption) _).2) ?_; decide)))
  exact trivial
theorem compactL (w : World) (news : List (Addr × Obj)) (l : Addr) (ks : List Int) (hl : IL news l ks) (h4 : ks.length = 4) (hi : KBa.In ks) :
   Tells w 28 [.ref l] 1 news fun v news' => news' = news ∧ ∃ t, v = .int (cwordL ks) t := by
  unfold Tells; k_fill; intro loose mean mg mb dp un gd cn cs a ccd cl outer A₀ base h₀ L m s Q E B F X N T hk hd hu hret
  refine wpAny_call ?_; k_dflt (refine' code_def (binds := [(Str.ofString "word", Value.ref l)]) ?k1 ?k2 ?k3 ?k4 ?k5 ?kA ?kF ?kK ?k6 ?k7 ?k8 ?k9 ?kB ?_ ?c2 ?c3 ?c4 ?c5; (case kA => exact rfl); (case kF => exact rfl); (case kK => assumption); (case k1 => exact B); (case k2 => exact F); (case k3 => exact X); (case k4 => exact N); (case k5 => exact T); (case k6 => k_is); (case k7 => k_is); (case k8 => ktr_room); (case k9 => first | exact BindsTo.of_eq rfl | exact binds_K (by k_in) rfl (by k_is) rfl rfl rfl); (case c5 => decide); (case kB => exact locs rfl); (case c2 => exact rfl); (case c3 => exact rfl); (case c4 => exact rfl)); intro g1 L1 h1 FG1 F1 N1 B1 X1 T1; (try dsimp only); (try k_fold)
  k_steps
  all_goals exact hret _ _ _ _ (by assumption) (by assumption) ⟨rfl, _, rfl⟩
theorem compactB (w : World) (news : List (Addr × Obj)) (b : Array UInt8) (tb : Tok) (ks : List Int) (hb : KBw.bInts b = ks) (h4 : ks.length = 4) (hi : KBa.In ks) :
   Tells w 28 [.bytes b tb] 1 news fun v news' => news' = news ∧ ∃ t, v = .int (cwordL ks) t := by
  unfold Tells; k_fill; intro loose mean mg mb dp un gd cn cs a ccd cl outer A₀ base h₀ L m s Q E B F X N T hk hd hu hret
  refine wpAny_call ?_; k_dflt (refine' code_def (binds := [(Str.ofString "word", Value.bytes b tb)]) ?k1 ?k2 ?k3 ?k4 ?k5 ?kA ?kF ?kK ?k6 ?k7 ?k8 ?k9 ?kB ?_ ?c2 ?c3 ?c4 ?c5; (case kA => exact rfl); (case kF => exact rfl); (case kK => assumption); (case k1 => exact B); (case k2 => exact F); (case k3 => exact X); (case k4 => exact N); (case k5 => exact T); (case k6 => k_is); (case k7 => k_is); (case k8 => ktr_room); (case k9 => first | exact BindsTo.of_eq rfl | exact binds_K (by k_in) rfl (by k_is) rfl rfl rfl); (case c5 => decide); (case kB => exact locs rfl); (case c2 => exact rfl); (case c3 => exact rfl); (case c4 => exact rfl)); intro g1 L1 h1 FG1 F1 N1 B1 X1 T1; (try dsimp only); (try k_fold)
  k_steps
  all_goals exact hret _ _ _ _ (by assumption) (by assumption) ⟨rfl, _, rfl⟩
end

section
variable {prog : Program} {w : World} {A : Around} {E : Value → Shared → Prop} {s : Shared} {h₀ : Heap} {L l : Addr} {m : Str → Option Value} {news : List (Addr × Obj)} {value slice : Expr} {k : Int} {u : Tok} {Q : Value → Shared → Prop}
/-- an item of a list of objects -/
theorem item_rows {rows : List Addr} {n : Nat} (N : News h₀ L s.heap news) (hm : (l, listOf (rows.map Value.ref).toArray n) ∈ news) (h0 : 0 ≤ k) (h1 : k < rows.length) (hhi : k < 2 ^ 63) (h : Q (.ref (rows.getD k.toNat 0)) s)
    (hs : subscripted slice false (.ref l) (.int k u) = operate [.ref l, .int k u] (getItem (.ref l) (.int k u)) := by with_unfolding_all rfl) :
    wpAny (model prog w) A (subscriptTail value slice (.ref l) (.int k u)) Q E s := by
  have hlt : k.toNat < rows.length := by lia
  exact item_led N hm h0 hhi (by rw [List.getElem?_toArray, List.getElem?_map, List.getD_eq_getElem?_getD, List.getElem?_eq_getElem hlt]; rfl) h hs
theorem len_rows {rows : List Addr} {n : Nat} (N : News h₀ L s.heap news) (hm : (l, listOf (rows.map Value.ref).toArray n) ∈ news) (hz : rows.length < 2 ^ 60) (h : ∀ t k, Q (.int rows.length t) { s with toks := k }) : wpAny (model prog w) A (call (.builtin "len") [.ref l]) Q E s := by
  have e : (rows.map Value.ref).toArray.size = rows.length := by simp
  exact len_list (News.isList N hm) (by rw [e]; lia) (by rw [e]; exact h _ _)
theorem len_IL {ns : List Int} (N : News h₀ L s.heap news) (hm : IL news l ns) (hz : ns.length < 2 ^ 60) (h : ∀ t k, Q (.int ns.length t) { s with toks := k }) : wpAny (model prog w) A (call (.builtin "len") [.ref l]) Q E s := by
  obtain ⟨vs, n, hm, hi⟩ := hm
  have e : vs.toArray.size = ns.length := by simp [hi.length]
  exact len_list (News.isList N hm) (by rw [e]; lia) (by rw [e]; exact h _ _)
/-- a run of a list of ints -/
theorem slice_IL {ns ms : List Int} {vl vu : Value} {lo hi : Option Int} (F : Fr h₀ L s.heap m) (N : News h₀ L s.heap news) (hm : IL news l ns) (hz : ns.length ≤ 16777216) (pl : IsPart vl lo) (pu : IsPart vu hi)
    (hr : ∀ vs, IntsAre vs ns → IntsAre (slicePick vs.toArray lo hi none).toList ms)
    (h : ∀ D h', Fr h₀ L h' m → (∀ ws : List Value, IntsAre ws ms → News h₀ L h' ((D, listOf ws.toArray 0) :: news) → (∀ p ∈ news, p.1 < D) → Q (.ref D) { s with heap := h' }))
    (hs : subscripted slice false (.ref l) (.ref s.heap.objs.size) = operate [.ref s.heap.objs.size, .ref l] (getItem (.ref l) (.ref s.heap.objs.size)) := by with_unfolding_all rfl) (ht : ∀ r, letTemporaryGo value (.ref l) r = pure () := by intro _; with_unfolding_all rfl) :
    wpAny (model prog w) A (subscriptTail value slice (.ref l) (.ref s.heap.objs.size)) Q E { s with heap := s.heap.push { cls := .type "slice", data := .fields #[vl, vu, .none] } } := by
  obtain ⟨vs, n, hm, hi'⟩ := hm
  refine kmk_slice F N (News.isList N hm) pl pu (fun D h' F' N' l1 => h D h' F' _ (hr vs hi') ?_ l1) hs ht (by rw [List.size_toArray, hi'.length, sizeLine_eq]; exact hz)
  rw [Array.toArray_toList]
  exact N'
theorem IL.here {ws : List Value} {ns : List Int} {n : Nat} (h : IntsAre ws ns) : IL ((l, listOf ws.toArray n) :: news) l ns := ⟨ws, n, .head _, h⟩
theorem IL.skip {ns : List Int} {p : Addr × Obj} (h : IL news l ns) : IL (p :: news) l ns := let ⟨a, b, c, d⟩ := h; ⟨a, b, .tail _ c, d⟩
theorem IL.mono {ns : List Int} {news' : List (Addr × Obj)} (h : IL news l ns) (hs : ∀ p ∈ news, p ∈ news') : IL news' l ns := let ⟨a, b, c, d⟩ := h; ⟨a, b, hs _ c, d⟩
end
theorem drop_led {h₀ h : Heap} {L : Addr} {news news' : List (Addr × Obj)} (N : News h₀ L h news') (hs : ∀ p ∈ news, p ∈ news') : News h₀ L h news := fun p hp => N p (hs p hp)
/-- names of a frame -/
theorem rd_ne {m : Str → Option Value} {x y : Str} {v w : Value} (h : y ≠ x) (hv : m y = some v) : (fun z => if z = x then some w else m z) y = some v := by simp [h, hv]
theorem rd_eq {m : Str → Option Value} {x : Str} {w : Value} : (fun z => if z = x then some w else m z) x = some w := by simp

/-- the end of a turn -/
def RPost (h₀ : Heap) (L : Addr) (s₁ : Shared) (I : Addr) (it : Obj) (J : (Str → Option Value) → List (Addr × Obj) → Prop) (Q : Flow → Shared → Prop) (f : Flow) (s₂ : Shared) : Prop := UnrPost h₀ L s₁ I it J Q f s₂
section
variable {prog : Program} {w : World} {A : Around} {E : Value → Shared → Prop} {s : Shared} {env : Env} {h₀ : Heap} {x : Str} {body : List Stmt} {Q : Flow → Shared → Prop}
theorem RPost.next {L I : Addr} {it : Obj} {J : (Str → Option Value) → List (Addr × Obj) → Prop} {s₁ : Shared} {h' : Heap} {tk : Nat} {m' : Str → Option Value} {all : List (Addr × Obj)} (F : Fr h₀ L h' m') (N : News h₀ L h' all) (news' : List (Addr × Obj))
    (sub : ∀ p ∈ (I, it) :: news', p ∈ all) (off : ∀ p ∈ news', p.1 ≠ I) (r : J m' news') : RPost h₀ L s₁ I it J Q .next { s₁ with heap := h', toks := tk } := UnrEnd.intro F N news' sub off r
/-- a loop over a range, by what holds between its turns -/
theorem rng_inv {r : Addr} {a₀ b₀ c : Int} {t₀ u₀ v₀ : Tok} {n : Nat} {m₀ : Str → Option Value} {news : List (Addr × Obj)} (J : Nat → (Str → Option Value) → List (Addr × Obj) → Prop)
    (hh : A.handled = none) (hr : IsRange s.heap r a₀ b₀ c t₀ u₀ v₀) (hsmall : Builtin.Range.small a₀ b₀ c = true) (hn : Builtin.Range.rangeSize a₀ b₀ c = (n : Int)) (F : Fr h₀ env.locals s.heap m₀) (N : News h₀ env.locals s.heap news) (hj : J 0 m₀ news)
    (turn : ∀ (I : Addr) (i : Nat) (it : Obj) t m₁ nx (s₁ : Shared), i < n → J i m₁ nx → (∀ p ∈ nx, p.1 ≠ I) → Fr h₀ env.locals s₁.heap (fun y => if y = x then some (.int (a₀ + (i : Int) * c) t) else m₁ y) → News h₀ env.locals s₁.heap ((I, it) :: nx) →
      (∃ h tk, s₁ = { s with heap := h, toks := tk }) → wpAny (model prog w) A (execs body env) (RPost h₀ env.locals s₁ I it (J (i + 1)) Q) E s₁)
    (done : ∀ m₁ nx h tk, J n m₁ nx → Fr h₀ env.locals h m₁ → News h₀ env.locals h nx → Q .next { s with heap := h, toks := tk }) :
    wpAny (model prog w) A (pyIter (.ref r)) (fun it s₂ => LoopAtV prog w A h₀ env x body Q E it s₂) E s := by
  refine krs_iter hh hr hsmall hn F N fun I hI => ?_
  have go : ∀ k i m₁ nx, i + k = n → J i m₁ nx → (∀ p ∈ nx, p.1 ≠ I) → KrsRest prog w A E h₀ env x body Q s I a₀ c n k i m₁ nx := by
    intro k
    induction k with
    | zero => intro i m₁ nx hk hJ _ h tk F' N'; obtain rfl : i = n := hk; exact done m₁ nx h tk hJ F' N'
    | succ k ih =>
      intro i m₁ nx hk hJ off t h tk F' N'
      refine wpAny_mono (turn I i _ t m₁ nx { s with heap := h, toks := tk } (by lia) hJ off F' N' ⟨_, _, rfl⟩) (fun f s₂ p => ?_) fun _ _ e => e
      have fin : ∀ it, UnrEnd h₀ env.locals { s with heap := h, toks := tk } I it (J (i + 1)) s₂ → UnrEnd h₀ env.locals { s with heap := h, toks := tk } I it (KrsRest prog w A E h₀ env x body Q s I a₀ c n k (i + 1)) s₂ := by
        rintro it ⟨h', tk', m', news', e, F2, N2, o2, j2⟩
        exact ⟨h', tk', m', news', e, F2, N2, o2, ih (i + 1) m' news' (by lia) j2 o2⟩
      cases f with
      | ret v => exact p
      | brk => exact p
      | next => exact fin _ p
      | cont => exact fin _ p
  exact go n 0 m₀ news (Nat.zero_add n) hj fun p hp => Nat.ne_of_lt (hI p hp)
end

/-- the end of an element -/
def CPost (h₀ : Heap) (L : Addr) (m : Str → Option Value) (s₁ : Shared) (led : List (Addr × Obj)) (P : Value → Prop) (y : Value) (s₂ : Shared) : Prop :=
  ∃ h' tk', s₂ = { s₁ with heap := h', toks := tk' } ∧ Fr h₀ L h' m ∧ News h₀ L h' led ∧ P y
theorem CPost.intro {h₀ : Heap} {L : Addr} {m : Str → Option Value} {s₁ : Shared} {led all : List (Addr × Obj)} {P : Value → Prop} {y : Value} {h' : Heap} {tk' : Nat} (F : Fr h₀ L h' m) (N : News h₀ L h' all) (hs : ∀ p ∈ led, p ∈ all) (hP : P y) : CPost h₀ L m s₁ led P y { s₁ with heap := h', toks := tk' } :=
  ⟨h', tk', rfl, F, drop_led N hs, hP⟩
/-- a comprehension over a range, each element by itself -/
theorem comp_all {prog : Program} {w : World} {A : Around} {h₀ : Heap} {L : Addr} {m : Str → Option Value} {env : Env} {elt : Expr} {x : Str} {scope : Scope} {cl : List (Str × Addr)} {s : Shared} {a : Int} {n : Nat} {news : List (Addr × Obj)} {Fin : List Value → List (Addr × Obj) → Prop} (P : Nat → Value → Prop)
    (turn : ∀ (i : Nat) t I oI C oC D ys m₂ (s₁ : Shared) (E' : Value → Shared → Prop), i < n → LCg.NsObj oC m₂ → m₂ x = some (.int (a + (i : Int)) t) → Fr h₀ L s₁.heap m → News h₀ L s₁.heap ((I, oI) :: (C, oC) :: (D, LCg.lst ys) :: news) → LCg.Off3 I C D news → ((@Ne Nat I C) ∧ (@Ne Nat I D) ∧ (@Ne Nat C D)) →
      wpAny (model prog w) A (eval elt (compEnvC scope cl C env)) (CPost h₀ L m s₁ ((I, oI) :: (C, oC) :: (D, LCg.lst ys) :: news) (P i)) E' s₁)
    (fin : ∀ ys, ys.length = n → (∀ i y, ys[i]? = some y → P i y) → Fin ys news) :
    LCg.CompRest prog w A h₀ L m env elt x scope cl s (fun _ => True) (fun i v => ∃ t, v = .int (a + (i : Int)) t) Fin n 0 [] news := by
  have go : ∀ k i (ys : List Value), i + k = n → ys.length = i → (∀ j y, ys[j]? = some y → P j y) → LCg.CompRest prog w A h₀ L m env elt x scope cl s (fun _ => True) (fun i v => ∃ t, v = .int (a + (i : Int)) t) Fin k i ys news := by
    intro k
    induction k with
    | zero => intro i ys hk hl hp; exact fin ys (by lia) hp
    | succ k ih =>
      rintro i ys hk hl hp v I oI C oC D m₂ h tk E' ⟨t, rfl⟩ hC hx F N off ne
      refine wpAny_mono (turn i t I oI C oC D ys m₂ { s with heap := h, toks := tk } E' (by lia) hC hx F N off ne) (fun y s₂ q => ?_) fun _ _ e => e
      obtain ⟨h', tk', rfl, F', N', py⟩ := q
      refine ⟨h', tk', news, rfl, F', N', off, trivial, ih (i + 1) (ys ++ [y]) (by lia) (by simp [hl]) fun j z hz => ?_⟩
      by_cases hj : j < ys.length
      · rw [List.getElem?_append_left hj] at hz; exact hp j z hz
      · rw [List.getElem?_append_right (by lia)] at hz
        have hj' : j - ys.length = 0 := by
          cases q : j - ys.length with
          | zero => rfl
          | succ q' => rw [q] at hz; simp at hz
        rw [hj'] at hz
        have : j = i := by lia
        subst this
        simp at hz; subst hz; exact py
  exact go n 0 [] (Nat.zero_add n) rfl (by intro j y h; simp at h)
section
variable {M : Model} {A : Around} {E : Value → Shared → Prop} {s : Shared} {h₀ : Heap} {L C c : Addr} {news : List (Addr × Obj)} {scope : Scope} {cl : List (Str × Addr)} {env : Env} {x : Str} {pos : Pos} {v : Value} {o : Obj} {Q : Value → Shared → Prop}
theorem ld_cell (N : News h₀ L s.heap news) (hc : cl.lookup x = some c) (hm : (c, o) ∈ news) (hd : o.data = .cell (some v)) (h : Q v s)
    (hk : (compEnvC scope cl C env).scope.kind = .function := by rfl) (hx : (compEnvC scope cl C env).kindOf x = some .cell := by rfl) (hb : (x == ("__debug__" : Str)) = false := by decide) :
    wpAny M A (eval (.Name x pos) (compEnvC scope cl C env)) Q E s := wpAny_Name (wpAny_loadName_cell hk hx hc ⟨o, N.get hm, hd⟩ h) hb
end

theorem In.take {ks : List Int} (h : KBa.In ks) (n : Nat) : KBa.In (ks.take n) := fun k hk => h k (List.mem_of_mem_take hk)
theorem In.drop {ks : List Int} (h : KBa.In ks) (n : Nat) : KBa.In (ks.drop n) := fun k hk => h k (List.mem_of_mem_drop hk)
section
variable {prog : Program} {w : World} {A : Around} {E : Value → Shared → Prop} {s : Shared} {h₀ : Heap} {L l : Addr} {m : Str → Option Value} {news : List (Addr × Obj)} {value slice : Expr} {x y : Int} {tx ty : Tok} {Q : Value → Shared → Prop}
theorem slice_run {ns : List Int} (F : Fr h₀ L s.heap m) (N : News h₀ L s.heap news) (hm : IL news l ns) (hz : ns.length ≤ 16777216) (hx : 0 ≤ x) (hy : 0 ≤ y)
    (h : ∀ D h', Fr h₀ L h' m → ∀ ws : List Value, IntsAre ws ((ns.drop x.toNat).take (min y.toNat ns.length - x.toNat)) → News h₀ L h' ((D, listOf ws.toArray 0) :: news) → (∀ p ∈ news, p.1 < D) → Q (.ref D) { s with heap := h' })
    (hs : subscripted slice false (.ref l) (.ref s.heap.objs.size) = operate [.ref s.heap.objs.size, .ref l] (getItem (.ref l) (.ref s.heap.objs.size)) := by with_unfolding_all rfl) (ht : ∀ r, letTemporaryGo value (.ref l) r = pure () := by intro _; with_unfolding_all rfl) :
    wpAny (model prog w) A (subscriptTail value slice (.ref l) (.ref s.heap.objs.size)) Q E { s with heap := s.heap.push { cls := .type "slice", data := .fields #[.int x tx, .int y ty, .none] } } :=
  slice_IL F N hm hz (.int _ _) (.int _ _) (fun _ hi => kmk_run hi hx hy) h hs ht
theorem slice_upto {ns : List Int} (F : Fr h₀ L s.heap m) (N : News h₀ L s.heap news) (hm : IL news l ns) (hz : ns.length ≤ 16777216) (hy : 0 ≤ y)
    (h : ∀ D h', Fr h₀ L h' m → ∀ ws : List Value, IntsAre ws (ns.take y.toNat) → News h₀ L h' ((D, listOf ws.toArray 0) :: news) → (∀ p ∈ news, p.1 < D) → Q (.ref D) { s with heap := h' })
    (hs : subscripted slice false (.ref l) (.ref s.heap.objs.size) = operate [.ref s.heap.objs.size, .ref l] (getItem (.ref l) (.ref s.heap.objs.size)) := by with_unfolding_all rfl) (ht : ∀ r, letTemporaryGo value (.ref l) r = pure () := by intro _; with_unfolding_all rfl) :
    wpAny (model prog w) A (subscriptTail value slice (.ref l) (.ref s.heap.objs.size)) Q E { s with heap := s.heap.push { cls := .type "slice", data := .fields #[.none, .int y ty, .none] } } :=
  slice_IL F N hm hz .none (.int _ _) (fun _ hi => kmk_upto hi hy) h hs ht
theorem slice_from {ns : List Int} (F : Fr h₀ L s.heap m) (N : News h₀ L s.heap news) (hm : IL news l ns) (hz : ns.length ≤ 16777216) (hx : 0 ≤ x)
    (h : ∀ D h', Fr h₀ L h' m → ∀ ws : List Value, IntsAre ws (ns.drop x.toNat) → News h₀ L h' ((D, listOf ws.toArray 0) :: news) → (∀ p ∈ news, p.1 < D) → Q (.ref D) { s with heap := h' })
    (hs : subscripted slice false (.ref l) (.ref s.heap.objs.size) = operate [.ref s.heap.objs.size, .ref l] (getItem (.ref l) (.ref s.heap.objs.size)) := by with_unfolding_all rfl) (ht : ∀ r, letTemporaryGo value (.ref l) r = pure () := by intro _; with_unfolding_all rfl) :
    wpAny (model prog w) A (subscriptTail value slice (.ref l) (.ref s.heap.objs.size)) Q E { s with heap := s.heap.push { cls := .type "slice", data := .fields #[.int x tx, .none, .none] } } :=
  slice_IL F N hm hz (.int _ _) .none (fun _ hi => kmk_from hi hx) h hs ht
end
section
variable {prog : Program} {w : World} {A : Around} {E : Value → Shared → Prop} {h₀ hp : Heap} {g : Array GenState} {d : Drawn} {tk : Nat} {os : OsState} {L : Addr} {m : Str → Option Value} {news : List (Addr × Obj)} {value slice : Expr} {b : Array UInt8} {t : Tok} {l u : Value} {lo hi : Option Int} {Q : Value → Shared → Prop} {ks : List Int}
theorem slice_b' (hF : Fr h₀ L hp m) (hN : News h₀ L hp news) (hk : KBw.bInts b = ks) (hl : IsPart l lo) (hu : IsPart u hi) (hz : ks.length ≤ 16777216)
    (h : ∀ h' t' k, Fr h₀ L h' m → News h₀ L h' news → KBw.bInts (KBy.picked b lo hi) = (ks.drop (lo.elim 0 (clipAt ks.length))).take (hi.elim ks.length (clipAt ks.length) - lo.elim 0 (clipAt ks.length)) → Q (.bytes (KBy.picked b lo hi) t') ⟨h', g, d, k, os⟩)
    (hs : subscripted slice false (.bytes b t) (.ref hp.objs.size) = operate [.ref hp.objs.size, .bytes b t] (getItem (.bytes b t) (.ref hp.objs.size)) := by with_unfolding_all rfl)
    (ht : ∀ r, letTemporaryGo value (.bytes b t) r = pure () := by intro _; with_unfolding_all rfl) :
    wpAny (model prog w) A (subscriptTail value slice (.bytes b t) (.ref hp.objs.size)) Q E ⟨hp.push { cls := .type "slice", data := .fields #[l, u, .none] }, g, d, tk, os⟩ :=
  KBc.slice_K (s := ⟨hp, g, d, tk, os⟩) hF hN hk hl hu hz h hs ht
end
section
variable {prog : Program} {w : World} {A : Around} {E : Value → Shared → Prop} {h₀ hp : Heap} {g : Array GenState} {d : Drawn} {k : Nat} {os : OsState} {L l : Addr} {m : Str → Option Value} {news : List (Addr × Obj)} {value slice : Expr} {x y : Int} {tx ty : Tok} {Q : Value → Shared → Prop}
theorem slice_run' {ns : List Int} (F : Fr h₀ L hp m) (N : News h₀ L hp news) (hm : IL news l ns) (hz : ns.length ≤ 16777216) (hx : 0 ≤ x) (hy : 0 ≤ y)
    (h : ∀ D h', Fr h₀ L h' m → ∀ ws : List Value, IntsAre ws ((ns.drop x.toNat).take (min y.toNat ns.length - x.toNat)) → News h₀ L h' ((D, listOf ws.toArray 0) :: news) → (∀ p ∈ news, p.1 < D) → Q (.ref D) ⟨h', g, d, k, os⟩)
    (hs : subscripted slice false (.ref l) (.ref hp.objs.size) = operate [.ref hp.objs.size, .ref l] (getItem (.ref l) (.ref hp.objs.size)) := by with_unfolding_all rfl) (ht : ∀ r, letTemporaryGo value (.ref l) r = pure () := by intro _; with_unfolding_all rfl) :
    wpAny (model prog w) A (subscriptTail value slice (.ref l) (.ref hp.objs.size)) Q E ⟨hp.push { cls := .type "slice", data := .fields #[.int x tx, .int y ty, .none] }, g, d, k, os⟩ :=
  slice_run (s := ⟨hp, g, d, k, os⟩) F N hm hz hx hy h hs ht
theorem slice_upto' {ns : List Int} (F : Fr h₀ L hp m) (N : News h₀ L hp news) (hm : IL news l ns) (hz : ns.length ≤ 16777216) (hy : 0 ≤ y)
    (h : ∀ D h', Fr h₀ L h' m → ∀ ws : List Value, IntsAre ws (ns.take y.toNat) → News h₀ L h' ((D, listOf ws.toArray 0) :: news) → (∀ p ∈ news, p.1 < D) → Q (.ref D) ⟨h', g, d, k, os⟩)
    (hs : subscripted slice false (.ref l) (.ref hp.objs.size) = operate [.ref hp.objs.size, .ref l] (getItem (.ref l) (.ref hp.objs.size)) := by with_unfolding_all rfl) (ht : ∀ r, letTemporaryGo value (.ref l) r = pure () := by intro _; with_unfolding_all rfl) :
    wpAny (model prog w) A (subscriptTail value slice (.ref l) (.ref hp.objs.size)) Q E ⟨hp.push { cls := .type "slice", data := .fields #[.none, .int y ty, .none] }, g, d, k, os⟩ :=
  slice_upto (s := ⟨hp, g, d, k, os⟩) F N hm hz hy h hs ht
theorem slice_from' {ns : List Int} (F : Fr h₀ L hp m) (N : News h₀ L hp news) (hm : IL news l ns) (hz : ns.length ≤ 16777216) (hx : 0 ≤ x)
    (h : ∀ D h', Fr h₀ L h' m → ∀ ws : List Value, IntsAre ws (ns.drop x.toNat) → News h₀ L h' ((D, listOf ws.toArray 0) :: news) → (∀ p ∈ news, p.1 < D) → Q (.ref D) ⟨h', g, d, k, os⟩)
    (hs : subscripted slice false (.ref l) (.ref hp.objs.size) = operate [.ref hp.objs.size, .ref l] (getItem (.ref l) (.ref hp.objs.size)) := by with_unfolding_all rfl) (ht : ∀ r, letTemporaryGo value (.ref l) r = pure () := by intro _; with_unfolding_all rfl) :
    wpAny (model prog w) A (subscriptTail value slice (.ref l) (.ref hp.objs.size)) Q E ⟨hp.push { cls := .type "slice", data := .fields #[.int x tx, .none, .none] }, g, d, k, os⟩ :=
  slice_from (s := ⟨hp, g, d, k, os⟩) F N hm hz hx h hs ht
end

/-- the round keys of a cipher object -/
structure KeAt (news : List (Addr × Obj)) (x dx ke kd : Addr) (q1 q2 : Int) (k1 k2 : Tok) (nke : Nat) (rows : List Addr) (KE : List (List Int)) : Prop where
  hx : (x, instObj 116 dx) ∈ news
  hdx : (dx, dictOf [⟨q1, .str (Str.ofString "_Ke") k1, .ref ke⟩, ⟨q2, .str (Str.ofString "_Kd") k2, .ref kd⟩] 2) ∈ news
  hke : (ke, listOf (rows.map Value.ref).toArray nke) ∈ news
  hlen : rows.length = KE.length
  hrow : ∀ i, i < KE.length → IL news (rows.getD i 0) (KE.getD i []) ∧ (KE.getD i []).length = 4
theorem KeAt.mono {news news' : List (Addr × Obj)} {x dx ke kd : Addr} {q1 q2 : Int} {k1 k2 : Tok} {nke : Nat} {rows : List Addr} {KE : List (List Int)} (h : KeAt news x dx ke kd q1 q2 k1 k2 nke rows KE) (hs : ∀ p ∈ news, p ∈ news') : KeAt news' x dx ke kd q1 q2 k1 k2 nke rows KE :=
  ⟨hs _ h.hx, hs _ h.hdx, hs _ h.hke, h.hlen, fun i hi => ⟨(h.hrow i hi).1.mono hs, (h.hrow i hi).2⟩⟩
section
variable {prog : Program} {w : World} {A : Around} {E : Value → Shared → Prop} {s : Shared} {h₀ : Heap} {L x dx ke kd : Addr} {m : Str → Option Value} {news : List (Addr × Obj)} {q1 q2 : Int} {k1 k2 : Tok} {nke : Nat} {rows : List Addr} {KE : List (List Int)} {expr : Bool} {Q : Value → Shared → Prop}
theorem ke_attr (F : Fr h₀ L s.heap m) (X : (Mine.hd.heap_39 w.params).In h₀) (N : News h₀ L s.heap news) (hK : KeAt news x dx ke kd q1 q2 k1 k2 nke rows KE) (h : ∀ k, Q (.ref ke) { s with toks := k }) : wpAny (model prog w) A (getAttr (.ref x) (Str.ofString "_Ke") expr) Q E s :=
  get_own (C := 116) (attr := none) F X (InstAt.of_news N hK.hx hK.hdx) (by kernel_rfl) (by kernel_rfl) (by kernel_rfl) (by kernel_rfl) (by rfl) (by rfl) (h _)
theorem ke_tab {name : Str} {a : Addr} (F : Fr h₀ L s.heap m) (X : (Mine.hd.heap_39 w.params).In h₀) (N : News h₀ L s.heap news) (hK : KeAt news x dx ke kd q1 q2 k1 k2 nke rows KE)
   (hg : plainGet (Mine.hd.heap_39 w.params) 116 name = true) (ha : findIn (Mine.hd.heap_39 w.params) (.ref 116) name = some (some (.ref a))) (hn : specialIn (Mine.hd.heap_39 w.params) (.ref a) "__get__" = some none) (hc : copiedNames.contains name = false) (hl : getL name [⟨q1, .str (Str.ofString "_Ke") k1, .ref ke⟩, ⟨q2, .str (Str.ofString "_Kd") k2, .ref kd⟩] = some none)
   (h : ∀ k, Q (.ref a) { s with toks := k }) : wpAny (model prog w) A (getAttr (.ref x) name expr) Q E s :=
  get_cls (C := 116) F X (InstAt.of_news N hK.hx hK.hdx) hg (by kernel_rfl) ha hn (by rfl) hc hl (h _)
theorem ke_S (F : Fr h₀ L s.heap m) (X : (Mine.hd.heap_39 w.params).In h₀) (N : News h₀ L s.heap news) (hK : KeAt news x dx ke kd q1 q2 k1 k2 nke rows KE) (h : ∀ k, Q (.ref 59) { s with toks := k }) : wpAny (model prog w) A (getAttr (.ref x) (Str.ofString "S") expr) Q E s :=
  ke_tab F X N hK (by kernel_rfl) (by kernel_rfl) (by kernel_rfl) (by decide +kernel) (by rfl) h
theorem ke_T1 (F : Fr h₀ L s.heap m) (X : (Mine.hd.heap_39 w.params).In h₀) (N : News h₀ L s.heap news) (hK : KeAt news x dx ke kd q1 q2 k1 k2 nke rows KE) (h : ∀ k, Q (.ref 65) { s with toks := k }) : wpAny (model prog w) A (getAttr (.ref x) (Str.ofString "T1") expr) Q E s :=
  ke_tab F X N hK (by kernel_rfl) (by kernel_rfl) (by kernel_rfl) (by decide +kernel) (by rfl) h
theorem ke_T2 (F : Fr h₀ L s.heap m) (X : (Mine.hd.heap_39 w.params).In h₀) (N : News h₀ L s.heap news) (hK : KeAt news x dx ke kd q1 q2 k1 k2 nke rows KE) (h : ∀ k, Q (.ref 68) { s with toks := k }) : wpAny (model prog w) A (getAttr (.ref x) (Str.ofString "T2") expr) Q E s :=
  ke_tab F X N hK (by kernel_rfl) (by kernel_rfl) (by kernel_rfl) (by decide +kernel) (by rfl) h
theorem ke_T3 (F : Fr h₀ L s.heap m) (X : (Mine.hd.heap_39 w.params).In h₀) (N : News h₀ L s.heap news) (hK : KeAt news x dx ke kd q1 q2 k1 k2 nke rows KE) (h : ∀ k, Q (.ref 71) { s with toks := k }) : wpAny (model prog w) A (getAttr (.ref x) (Str.ofString "T3") expr) Q E s :=
  ke_tab F X N hK (by kernel_rfl) (by kernel_rfl) (by kernel_rfl) (by decide +kernel) (by rfl) h
theorem ke_T4 (F : Fr h₀ L s.heap m) (X : (Mine.hd.heap_39 w.params).In h₀) (N : News h₀ L s.heap news) (hK : KeAt news x dx ke kd q1 q2 k1 k2 nke rows KE) (h : ∀ k, Q (.ref 74) { s with toks := k }) : wpAny (model prog w) A (getAttr (.ref x) (Str.ofString "T4") expr) Q E s :=
  ke_tab F X N hK (by kernel_rfl) (by kernel_rfl) (by kernel_rfl) (by decide +kernel) (by rfl) h
end
theorem KeAt.skip {news : List (Addr × Obj)} {p : Addr × Obj} {x dx ke kd : Addr} {q1 q2 : Int} {k1 k2 : Tok} {nke : Nat} {rows : List Addr} {KE : List (List Int)} (h : KeAt news x dx ke kd q1 q2 k1 k2 nke rows KE) : KeAt (p :: news) x dx ke kd q1 q2 k1 k2 nke rows KE :=
  h.mono fun _ hp => .tail _ hp
/-- a row of the round keys -/
theorem KeAt.row {news : List (Addr × Obj)} {x dx ke kd : Addr} {q1 q2 : Int} {k1 k2 : Tok} {nke : Nat} {rows : List Addr} {KE : List (List Int)} (h : KeAt news x dx ke kd q1 q2 k1 k2 nke rows KE) {i : Nat} (hi : i < KE.length) : IL news (rows.getD i 0) (KE.getD i []) := (h.hrow i hi).1
section
variable {prog : Program} {w : World} {A : Around} {E : Value → Shared → Prop} {s : Shared} {h₀ : Heap} {L x dx ke kd : Addr} {m : Str → Option Value} {news : List (Addr × Obj)} {q1 q2 : Int} {k1 k2 : Tok} {nke : Nat} {rows : List Addr} {KE : List (List Int)} {value slice : Expr} {k : Int} {u : Tok} {Q : Value → Shared → Prop}
theorem ke_len (N : News h₀ L s.heap news) (hK : KeAt news x dx ke kd q1 q2 k1 k2 nke rows KE) (hz : KE.length ≤ 15) (h : ∀ t k, Q (.int KE.length t) { s with toks := k }) : wpAny (model prog w) A (call (.builtin "len") [.ref ke]) Q E s := by
  refine len_rows N hK.hke (by rw [hK.hlen]; lia) ?_
  rw [hK.hlen]; exact h
theorem ke_item (N : News h₀ L s.heap news) (hK : KeAt news x dx ke kd q1 q2 k1 k2 nke rows KE) (h0 : 0 ≤ k) (h1 : k < KE.length) (hz : KE.length ≤ 15) (h : Q (.ref (rows.getD k.toNat 0)) s)
    (hs : subscripted slice false (.ref ke) (.int k u) = operate [.ref ke, .int k u] (getItem (.ref ke) (.int k u)) := by with_unfolding_all rfl) :
    wpAny (model prog w) A (subscriptTail value slice (.ref ke) (.int k u)) Q E s :=
  item_rows N hK.hke h0 (by rw [hK.hlen]; exact h1) (by lia) h hs
theorem ke_row (N : News h₀ L s.heap news) (hK : KeAt news x dx ke kd q1 q2 k1 k2 nke rows KE) {i : Nat} (hi : i < KE.length) (h0 : 0 ≤ k) (h1 : k < 4) (h : ∀ t, Q (.int ((KE.getD i []).getD k.toNat 0) t) s)
    (hs : subscripted slice false (.ref (rows.getD i 0)) (.int k u) = operate [.ref (rows.getD i 0), .int k u] (getItem (.ref (rows.getD i 0)) (.int k u)) := by with_unfolding_all rfl) :
    wpAny (model prog w) A (subscriptTail value slice (.ref (rows.getD i 0)) (.int k u)) Q E s :=
  item_IL N (hK.row hi) h0 (by rw [(hK.hrow i hi).2]; lia) (by lia) h hs
end

/-- sixteen octets, or four: a list of ints, or bytes -/
def Blk (news : List (Addr × Obj)) (v : Value) (ks : List Int) : Prop := (∃ l, v = .ref l ∧ IL news l ks) ∨ (∃ b t, v = .bytes b t ∧ KBw.bInts b = ks)
theorem Blk.mono {news news' : List (Addr × Obj)} {v : Value} {ks : List Int} (h : Blk news v ks) (hs : ∀ p ∈ news, p ∈ news') : Blk news' v ks :=
  h.imp (fun ⟨l, e, i⟩ => ⟨l, e, i.mono hs⟩) id
theorem Blk.skip {news : List (Addr × Obj)} {p : Addr × Obj} {v : Value} {ks : List Int} (h : Blk news v ks) : Blk (p :: news) v ks := h.mono fun _ hp => .tail _ hp
theorem clip_pos {n : Nat} {x : Int} (h : 0 ≤ x) : clipAt n x = min x.toNat n := by
  have := clipAt_nat n x.toNat
  rw [Int.toNat_of_nonneg h] at this
  exact this
section
variable {prog : Program} {w : World} {A : Around} {E : Value → Shared → Prop} {s : Shared} {h₀ : Heap} {L : Addr} {m : Str → Option Value} {news : List (Addr × Obj)} {value slice : Expr} {v : Value} {ks : List Int} {x y : Int} {tx ty : Tok} {Q : Value → Shared → Prop}
theorem len_blk (N : News h₀ L s.heap news) (hb : Blk news v ks) (hz : ks.length < 2 ^ 30) (h : ∀ t k, Q (.int ks.length t) { s with toks := k }) : wpAny (model prog w) A (call (.builtin "len") [v]) Q E s := by
  rcases hb with ⟨l, rfl, hl⟩ | ⟨b, t, rfl, hk⟩
  · exact len_IL N hl (by lia) h
  · exact KBw.len_K hk (by lia) (h _ _)
theorem slice_blk (he : ∃ n p a b q, value = .Name n p ∧ slice = .Slice (some a) (some b) none q) (F : Fr h₀ L s.heap m) (N : News h₀ L s.heap news) (hb : Blk news v ks) (hz : ks.length ≤ 1048576) (hx : 0 ≤ x) (hy : 0 ≤ y)
    (h : ∀ v' h' k led, Fr h₀ L h' m → News h₀ L h' led → (∀ p ∈ news, p ∈ led) → Blk led v' ((ks.drop x.toNat).take (min y.toNat ks.length - x.toNat)) → Q v' { s with heap := h', toks := k }) :
    wpAny (model prog w) A (subscriptTail value slice v (.ref s.heap.objs.size)) Q E { s with heap := s.heap.push { cls := .type "slice", data := .fields #[.int x tx, .int y ty, .none] } } := by
  obtain ⟨n, p, a, b, q, rfl, rfl⟩ := he
  rcases hb with ⟨l, rfl, hl⟩ | ⟨b, t, rfl, hk⟩
  · refine slice_run F N hl (by lia) hx hy ?_
    intro D h' F' ws hw N' l1
    exact h _ h' s.toks _ F' N' (fun p hp => .tail _ hp) (.inl ⟨D, rfl, ws, 0, .head _, hw⟩)
  · refine KBc.slice_K F N hk (.int _ _) (.int _ _) (by lia) ?_
    intro h' t' k F' N' e
    refine h _ h' k news F' N' (fun p hp => hp) (.inr ⟨_, t', rfl, ?_⟩)
    rw [e]
    simp only [Option.elim, clip_pos hx, clip_pos hy]
    rw [kmk_drop_min]
    congr 1
    lia
theorem slice_blk' {hp : Heap} {g : Array GenState} {d : Drawn} {tk : Nat} {os : OsState} (he : ∃ n p a b q, value = .Name n p ∧ slice = .Slice (some a) (some b) none q) (F : Fr h₀ L hp m) (N : News h₀ L hp news) (hb : Blk news v ks) (hz : ks.length ≤ 1048576) (hx : 0 ≤ x) (hy : 0 ≤ y)
    (h : ∀ v' h' k led, Fr h₀ L h' m → News h₀ L h' led → (∀ p ∈ news, p ∈ led) → Blk led v' ((ks.drop x.toNat).take (min y.toNat ks.length - x.toNat)) → Q v' ⟨h', g, d, k, os⟩) :
    wpAny (model prog w) A (subscriptTail value slice v (.ref hp.objs.size)) Q E ⟨hp.push { cls := .type "slice", data := .fields #[.int x tx, .int y ty, .none] }, g, d, tk, os⟩ :=
  slice_blk (s := ⟨hp, g, d, tk, os⟩) he F N hb hz hx hy h
end
theorem compactV (w : World) (news : List (Addr × Obj)) (v : Value) (ks : List Int) (hb : Blk news v ks) (h4 : ks.length = 4) (hi : KBa.In ks) :
   Tells w 28 [v] 1 news fun v news' => news' = news ∧ ∃ t, v = .int (cwordL ks) t := by
  rcases hb with ⟨l, rfl, hl⟩ | ⟨b, t, rfl, hk⟩
  · exact compactL w news l ks hl h4 hi
  · exact compactB w news b t ks hk h4 hi
/-- the values of a comprehension -/
theorem ints_of_all {f : Nat → Int} : ∀ {n : Nat} {ys : List Value}, ys.length = n → (∀ i y, ys[i]? = some y → ∃ t, y = Value.int (f i) t) → IntsAre ys ((List.range n).map f) := by
  intro n
  induction n with
  | zero => intro ys h _; rw [List.eq_nil_of_length_eq_zero h]; exact .nil
  | succ n ih =>
    intro ys h hp
    obtain ⟨zs, z, rfl⟩ : ∃ zs z, ys = zs ++ [z] := ⟨ys.dropLast, ys.getLast (by intro e; rw [e] at h; simp at h), by rw [List.dropLast_concat_getLast]⟩
    have hl : zs.length = n := by simpa using h
    rw [List.range_succ, List.map_append]
    refine IntsAre.append (ih hl fun i y e => hp i y (by rw [List.getElem?_append_left (by have := List.getElem?_eq_some_iff.mp e; obtain ⟨q, _⟩ := this; exact q)]; exact e)) ?_
    obtain ⟨t, rfl⟩ := hp n z (by rw [List.getElem?_append_right (by lia), hl]; simp)
    exact .cons _ t .nil
theorem and255 (x : Int) : 0 ≤ Builtin.bitAnd x 255 ∧ Builtin.bitAnd x 255 < 256 := by
  have h := kbt_mask x 8
  have e : (2 : Int) ^ 8 - 1 = 255 := by decide
  have e2 : (2 : Int) ^ 8 = 256 := by decide
  rw [e, e2] at h
  rw [h]
  exact ⟨Int.emod_nonneg _ (by decide), Int.emod_lt_of_pos _ (by decide)⟩
theorem allLt_ne {d : Addr} : ∀ {l : List (Addr × Obj)}, AllLt d l → ∀ p ∈ l, p.1 ≠ d
  | [], _, _, h => nomatch h
  | q :: r, hl, p, h => by
    rcases List.mem_cons.mp h with rfl | h
    · exact Nat.ne_of_lt hl.1
    · exact allLt_ne hl.2 p h
theorem allLt_mono {d e : Addr} (h : d ≤ e) : ∀ {l : List (Addr × Obj)}, AllLt d l → AllLt e l
  | [], _ => trivial
  | _ :: _, hl => ⟨Nat.lt_of_lt_of_le hl.1 h, allLt_mono h hl.2⟩
section
variable {prog : Program} {w : World} {A : Around} {E : Value → Shared → Prop} {s : Shared} {h₀ : Heap} {L l D : Addr} {m : Str → Option Value} {news news' : List (Addr × Obj)} {ns : List Int} {vs : List Value} {n : Nat} {k x : Int} {t u : Tok}
theorem copy_IL {Q : Value → Shared → Prop} (F : Fr h₀ L s.heap m) (N : News h₀ L s.heap news) (hm : IL news l ns) (hz : ns.length ≤ 16777216)
    (h : ∀ D c h' vs, IntsAre vs ns → Fr h₀ L h' m → News h₀ L h' ((D, listOf vs.toArray c) :: news) → (∀ q ∈ news, q.1 < D) → Q (.ref D) { s with heap := h' }) :
    wpAny (model prog w) A (call (.type "list") [.ref l]) Q E s := by
  obtain ⟨vs, n, hm, hi⟩ := hm
  exact list_copyK F N (News.isList N hm) (fun D c h' F' N' l1 => h D c h' vs hi F' N' l1) (by rw [List.size_toArray, hi.length, sizeLine_eq]; exact hz)
theorem set_IL {Q : Unit → Shared → Prop} (F : Fr h₀ L s.heap m) (N : News h₀ L s.heap news) (U : Upd D (listOf vs.toArray n) (listOf (vs.set k.toNat (.int x u)).toArray n) news news') (hi : IntsAre vs ns) (h0 : 0 ≤ k) (h1 : k < ns.length) (hfit : k < 2 ^ 63)
    (h : ∀ h', Fr h₀ L h' m → News h₀ L h' news' → IntsAre (vs.set k.toNat (.int x u)) (ns.set k.toNat x) → Q () { s with heap := h' }) :
    wpAny (model prog w) A (setItem (.ref D) (.int k t) (.int x u)) Q E s :=
  ksa_set F N U hi h0 h1 hfit fun h' F' N' a _ _ => h h' F' N' a
end
section
variable {prog : Program} {w : World} {A : Around} {E : Value → Shared → Prop} {s : Shared} {a b : Int} {t u : Tok} {Q : Value → Shared → Prop}
theorem mod_pos (hb : 0 < b) (h : Q (.int (a % b) s.toks) { s with toks := s.toks + 1 }) : wpAny (model prog w) A (binaryOp .Mod (.int a t) (.int b u)) Q E s :=
  mod_int' (by lia) (by rw [Int.fmod_eq_emod_of_nonneg _ (by lia)]; exact h)
end
theorem off_same {I : Addr} {a b : List (Addr × Obj)} (e : b.map (·.1) = a.map (·.1)) (h : ∀ p ∈ a, p.1 ≠ I) : ∀ p ∈ b, p.1 ≠ I := fun p hp => by
  have : p.1 ∈ a.map (·.1) := e ▸ List.mem_map.mpr ⟨p, hp, rfl⟩
  obtain ⟨q, hq, e'⟩ := List.mem_map.mp this
  exact e' ▸ h q hq
theorem list_of_getD {f : Nat → Int} {n : Nat} {as : List Int} (hl : as.length = n) (h : ∀ x, x < n → as.getD x 0 = f x) : as = (List.range n).map f := by
  refine List.ext_getElem (by simp [hl]) fun i h1 h2 => ?_
  have := h i (by lia)
  rw [List.getD_eq_getElem?_getD, List.getElem?_eq_getElem h1] at this
  simpa using this
theorem getD_set {as : List Int} {i x : Nat} {v : Int} (hi : i < as.length) : (as.set i v).getD x 0 = if x = i then v else as.getD x 0 := by
  simp only [List.getD_eq_getElem?_getD, List.getElem?_set]
  by_cases h : x = i
  · subst h; simp [hi]
  · have h' : ¬ i = x := fun e => h e.symm
    simp [h, h']
section
variable {prog : Program} {w : World} {A : Around} {E : Value → Shared → Prop} {s : Shared} {h₀ : Heap} {L D : Addr} {m : Str → Option Value} {news news' : List (Addr × Obj)} {vs : List Value} {ns : List Int} {n : Nat} {x : Int} {u : Tok}
theorem append_IL {Q : Value → Shared → Prop} (F : Fr h₀ L s.heap m) (N : News h₀ L s.heap news) (U : Upd D (listOf vs.toArray n) (listOf (vs ++ [Value.int x u]).toArray (n + 1)) news news') (hi : IntsAre vs ns) (hz : ns.length ≤ 16777216)
    (h : ∀ h', Fr h₀ L h' m → News h₀ L h' news' → IntsAre (vs ++ [Value.int x u]) (ns ++ [x]) → Q .none { s with heap := h' }) : wpAny (model prog w) A (call (.builtin "list.append") [Value.ref D, Value.int x u]) Q E s := by
  refine append_K F N (by rw [List.push_toArray]; exact U) (fun h' F' N' => h h' F' N' (hi.append (.cons _ _ .nil))) (by rw [List.size_toArray, hi.length, sizeLine_eq]; exact hz)
end

theorem stepsP4 : True := by
  k_with "STEPS" => (repeat' (first | (k_unfold; (try dsimp only)) | (((fail_if_success (with_reducible show wpAny _ _ (setAttr _ _ _) _ _ _)); (fail_if_success (with_reducible show wpAny _ _ (exec (Stmt.For _ _ _ _ _) _) _ _ _)); (fail_if_success (with_reducible show wpAny _ _ (exec (Stmt.While _ _ _ _) _) _ _ _)); (fail_if_success (with_reducible show wpAny _ _ (exec (Stmt.Assign _ (Expr.ListComp _ _ _ _) _) _) _ _ _)); (fail_if_success (with_reducible show wpAny _ _ (eval (Expr.ListComp _ _ _ _) _) _ _ _)); (fail_if_success (with_reducible show LCg.CompSrc _ _ _ _ _ _ _ _ _ _ _ _ _ _)); (fail_if_success (with_reducible show wpAny _ _ (pyIter _) _ _ _)); (fail_if_success (with_reducible show RPost _ _ _ _ _ _ _ _ _)); (fail_if_success (with_reducible show CPost _ _ _ _ _ _ _ _)); first | walk1 | (dsimp only; walk1)) <;> ((try dsimp only [List.cons_append, List.nil_append]); (try k_fold)))))
  exact trivial
/-- the first state -/
def enc0 (KE : List (List Int)) (ks : List Int) : List Int := (List.range 4).map fun i => Builtin.bitXor (cwordL ((ks.drop (4 * i)).take 4)) ((KE.getD 0 []).getD i 0)
theorem drop_2 {h₀ h : Heap} {L : Addr} {a b c : Addr × Obj} {r : List (Addr × Obj)} (N : News h₀ L h (a :: b :: c :: r)) : News h₀ L h (a :: b :: r) :=
  drop_led N fun p hp => by
    rcases List.mem_cons.mp hp with rfl | hp
    · exact .head _
    · rcases List.mem_cons.mp hp with rfl | hp
      · exact .tail _ (.head _)
      · exact .tail _ (.tail _ (.tail _ hp))
/-- a word of the next state -/
noncomputable def encCell (P : Params) (k t : List Int) (i : Nat) : Int :=
  Builtin.bitXor (Builtin.bitXor (Builtin.bitXor (Builtin.bitXor
    ((tab P 65).getD (Builtin.bitAnd ((t.getD i 0).fdiv (2 ^ 24)) 255).toNat 0)
    ((tab P 68).getD (Builtin.bitAnd ((t.getD ((i + 1) % 4) 0).fdiv (2 ^ 16)) 255).toNat 0))
    ((tab P 71).getD (Builtin.bitAnd ((t.getD ((i + 2) % 4) 0).fdiv (2 ^ 8)) 255).toNat 0))
    ((tab P 74).getD (Builtin.bitAnd (t.getD ((i + 3) % 4) 0) 255).toNat 0))
    (k.getD i 0)
noncomputable def encRnd (P : Params) (k t : List Int) : List Int := (List.range 4).map (encCell P k t)
/-- the state after j rounds -/
noncomputable def encR (P : Params) (KE : List (List Int)) (ks : List Int) : Nat → List Int
  | 0 => enc0 KE ks
  | j + 1 => encRnd P (KE.getD (j + 1) []) (encR P KE ks j)
noncomputable def encOut (P : Params) (k t : List Int) (i : Nat) : List Int :=
  [Builtin.bitAnd (Builtin.bitXor ((tab P 59).getD (Builtin.bitAnd ((t.getD i 0).fdiv (2 ^ 24)) 255).toNat 0) ((k.getD i 0).fdiv (2 ^ 24))) 255,
   Builtin.bitAnd (Builtin.bitXor ((tab P 59).getD (Builtin.bitAnd ((t.getD ((i + 1) % 4) 0).fdiv (2 ^ 16)) 255).toNat 0) ((k.getD i 0).fdiv (2 ^ 16))) 255,
   Builtin.bitAnd (Builtin.bitXor ((tab P 59).getD (Builtin.bitAnd ((t.getD ((i + 2) % 4) 0).fdiv (2 ^ 8)) 255).toNat 0) ((k.getD i 0).fdiv (2 ^ 8))) 255,
   Builtin.bitAnd (Builtin.bitXor ((tab P 59).getD (Builtin.bitAnd (t.getD ((i + 3) % 4) 0) 255).toNat 0) (k.getD i 0)) 255]
noncomputable def encPre (P : Params) (k t : List Int) (i : Nat) : List Int := (List.range i).flatMap (encOut P k t)
/-- what encrypt gives: sixteen octets -/
noncomputable def encOf (P : Params) (KE : List (List Int)) (ks : List Int) : List Int := encPre P (KE.getD (KE.length - 1) []) (encR P KE ks (KE.length - 2)) 4
theorem encPre_succ (P : Params) (k t : List Int) (i : Nat) : encPre P k t (i + 1) = encPre P k t i ++ encOut P k t i := by
  simp [encPre, List.range_succ, List.flatMap_append]
theorem encPre_len (P : Params) (k t : List Int) (i : Nat) : (encPre P k t i).length = 4 * i := by
  induction i with
  | zero => rfl
  | succ i ih => rw [encPre_succ, List.length_append, ih]; simp [encOut]; lia
theorem encPre_in (P : Params) (k t : List Int) (i : Nat) : KBa.In (encPre P k t i) := by
  intro x hx
  unfold encPre at hx
  obtain ⟨j, _, hj⟩ := List.mem_flatMap.mp hx
  simp only [encOut, List.mem_cons, List.not_mem_nil, or_false] at hj
  rcases hj with rfl | rfl | rfl | rfl <;> exact and255 _
theorem encOf_len (P : Params) (KE : List (List Int)) (ks : List Int) : (encOf P KE ks).length = 16 := encPre_len ..
theorem encOf_in (P : Params) (KE : List (List Int)) (ks : List Int) : KBa.In (encOf P KE ks) := fun x hx => encPre_in _ _ _ _ x hx
theorem encR_len (P : Params) (KE : List (List Int)) (ks : List Int) (j : Nat) : (encR P KE ks j).length = 4 := by
  cases j <;> simp [encR, enc0, encRnd]
def EncJ (P : Params) (KE : List (List Int)) (ks : List Int) (L1 : Addr) (o1 o2 : Obj) (news : List (Addr × Obj)) (j : Nat) (m : Str → Option Value) (nx : List (Addr × Obj)) : Prop :=
  ∃ (al tl : Addr) (va vt : List Value) (na nt : Nat) (as : List Int) (t1 t2 t3 t4 : Tok),
    nx = (tl, listOf vt.toArray nt) :: (al, listOf va.toArray na) :: (L1 + 1 + 1, o1) :: (L1 + 1, o2) :: news ∧ IntsAre va as ∧ as.length = 4 ∧ IntsAre vt (encR P KE ks j) ∧
    m (Str.ofString "a") = some (.ref al) ∧ m (Str.ofString "t") = some (.ref tl) ∧ m (Str.ofString "s1") = some (.int 1 t1) ∧ m (Str.ofString "s2") = some (.int 2 t2) ∧ m (Str.ofString "s3") = some (.int 3 t3) ∧ m (Str.ofString "rounds") = some (.int ((KE.length : Int) - 1) t4) ∧
    (@LT.lt Nat _ (L1 + 1 + 1) al) ∧ (@LT.lt Nat _ (L1 + 1) al) ∧ AllLt al news ∧ (@Ne Nat al tl)
def EncI (P : Params) (k T : List Int) (KE : List (List Int)) (L1 : Addr) (o1 o2 : Obj) (news : List (Addr × Obj)) (j : Nat) (al tl : Addr) (vt : List Value) (nt : Nat) (I : Addr) (it : Obj) (i : Nat) (m : Str → Option Value) (nx : List (Addr × Obj)) : Prop :=
  ∃ (va : List Value) (na : Nat) (as : List Int) (t1 t2 t3 t4 t5 : Tok),
    nx = (I, it) :: (tl, listOf vt.toArray nt) :: (al, listOf va.toArray na) :: (L1 + 1 + 1, o1) :: (L1 + 1, o2) :: news ∧ IntsAre va as ∧ as.length = 4 ∧ (∀ x, x < i → as.getD x 0 = encCell P k T x) ∧
    m (Str.ofString "a") = some (.ref al) ∧ m (Str.ofString "t") = some (.ref tl) ∧ m (Str.ofString "s1") = some (.int 1 t1) ∧ m (Str.ofString "s2") = some (.int 2 t2) ∧ m (Str.ofString "s3") = some (.int 3 t3) ∧ m (Str.ofString "rounds") = some (.int ((KE.length : Int) - 1) t4) ∧
    m (Str.ofString "r") = some (.int (1 + (j : Int) * 1) t5)
def EncO (P : Params) (k T : List Int) (KE : List (List Int)) (rest : List (Addr × Obj)) (rl tl : Addr) (i : Nat) (m : Str → Option Value) (nx : List (Addr × Obj)) : Prop :=
  ∃ (vr : List Value) (nr : Nat) (t1 t2 t3 t4 : Tok),
    nx = (rl, listOf vr.toArray nr) :: rest ∧ IntsAre vr (encPre P k T i) ∧
    m (Str.ofString "result") = some (.ref rl) ∧ m (Str.ofString "t") = some (.ref tl) ∧ m (Str.ofString "s1") = some (.int 1 t1) ∧ m (Str.ofString "s2") = some (.int 2 t2) ∧ m (Str.ofString "s3") = some (.int 3 t3) ∧ m (Str.ofString "rounds") = some (.int ((KE.length : Int) - 1) t4)
section
local macro_rules | `(tactic| ktr_rel) => `(tactic| first | assumption | exact rd_eq | (refine' rd_ne ?rn ?rv; (case rn => decide); (case rv => ktr_rel)) | (refine' IL.here ?ih; (case ih => assumption)) | (refine' IL.skip ?is; (case is => ktr_rel)) | (refine' KeAt.skip ?is; (case is => ktr_rel)) | (refine' Blk.skip ?is; (case is => ktr_rel)) | (refine' In.take ?is _; (case is => ktr_rel)) | (refine' In.drop ?is _; (case is => ktr_rel)))
local macro_rules | `(tactic| k_all) => `(tactic| exact allLt_ne (by assumption))
theorem wordsP41 : True := by
  k_with_none
  k_with "STEPS" => (repeat' (first | (k_unfold; (try dsimp only)) | (((fail_if_success (with_reducible show wpAny _ _ (setAttr _ _ _) _ _ _)); (fail_if_success (with_reducible show wpAny _ _ (exec (Stmt.For _ _ _ _ _) _) _ _ _)); (fail_if_success (with_reducible show wpAny _ _ (exec (Stmt.While _ _ _ _) _) _ _ _)); (fail_if_success (with_reducible show wpAny _ _ (exec (Stmt.Assign _ (Expr.ListComp _ _ _ _) _) _) _ _ _)); (fail_if_success (with_reducible show wpAny _ _ (eval (Expr.ListComp _ _ _ _) _) _ _ _)); (fail_if_success (with_reducible show LCg.CompSrc _ _ _ _ _ _ _ _ _ _ _ _ _ _)); (fail_if_success (with_reducible show wpAny _ _ (pyIter _) _ _ _)); (fail_if_success (with_reducible show RPost _ _ _ _ _ _ _ _ _)); (fail_if_success (with_reducible show CPost _ _ _ _ _ _ _ _)); first | walk1 | (dsimp only; walk1)) <;> ((try dsimp only [List.cons_append, List.nil_append]); (try k_fold)))))
  k_with "subscriptTail" => (k_here; (with_reducible show wpAny _ _ (subscriptTail _ _ (Value.ref _) (Value.int _ _)) _ _ _); k_dflt (refine' item_IL ?qqN ?qqm ?qqa ?qqb ?qqc ?_; (case qqN => k_asm); (case qqm => ktr_rel); (case qqa => lia); (case qqb => lia); (case qqc => lia); k_whole); intro _)
  k_with "call builtin:len" => (k_here; (with_reducible show wpAny _ _ (call (Value.builtin "len") [Value.ref _]) _ _ _); k_dflt (refine' len_IL ?qqN ?qqm ?qqz ?_; (case qqN => k_asm); (case qqm => ktr_rel); (case qqz => lia); k_whole); intro _ _)
  k_with "ite" => (k_here; first | (refine ite_neg (by (simp only [bne_iff_ne, beq_iff_eq, decide_eq_true_eq, ne_eq, Decidable.not_not]; lia)) ?_) | (refine ite_pos (by (simp only [bne_iff_ne, beq_iff_eq, decide_eq_true_eq, ne_eq, Decidable.not_not]; lia)) ?_))
  k_with "eval Name" => (k_here; name_kind "local"; (with_reducible show wpAny _ _ (eval (Expr.Name _ _) (compEnvC _ _ _ _)) _ _ _); k_dflt (refine LCgL.ld_own (by k_asm) (by k_mem) (by assumption) (by assumption) ?_))
  k_with "eval Name" => (k_here; name_kind "globalImplicit"; (with_reducible show wpAny _ _ (eval (Expr.Name _ _) (compEnvC _ _ _ _)) _ _ _); k_dflt (refine LCgL.ld_global (by k_asm) (by k_asm) (by k_asm) (by k_is) ?_))
  k_with "eval Name" => (k_here; name_kind "free"; (with_reducible show wpAny _ _ (eval (Expr.Name _ _) (compEnvC _ _ _ _)) _ _ _); k_dflt (refine' ld_cell ?qqN ?qqc ?qqm ?qqd ?_ ?qqe ?qqf ?qqg; (case qqe => rfl); (case qqf => rfl); (case qqg => decide); (case qqN => k_asm); (case qqc => rfl); (case qqm => k_mem); (case qqd => k_asm); k_whole))
  k_with "eval Name" => (k_here; name_kind "local"; (fail_if_success (with_reducible show wpAny _ _ (eval (Expr.Name _ _) (compEnvC _ _ _ _)) _ _ _)); (with_reducible rename Fr _ _ _ _ => kF); k_dflt (refine' nameX_L kF ?qqv ?_ ?qqa ?qqb; (case qqa => rfl); (case qqb => rfl); (case qqv => ktr_rel); k_whole))
  k_with "subscriptTail" => (k_here; (with_reducible show wpAny _ _ (subscriptTail _ (Expr.Slice (some _) (some _) none _) (Value.ref _) (Value.ref _)) _ _ _); k_dflt (refine' slice_run' ?qqF ?qqN ?qqm ?qqz ?qqa ?qqb ?_; (case qqF => k_asm); (case qqN => k_asm); (case qqm => ktr_rel); (case qqz => lia); (case qqa => lia); (case qqb => lia); k_whole); intro D' h' F' ws' hw' N' l1; (try k_lt l1); (try k_sweep))
  k_with "call builtin:len" => (k_here; k_dflt (refine' len_blk ?qqN ?qqm ?qqz ?_; (case qqN => k_asm); (case qqm => ktr_rel); (case qqz => lia); k_whole); intro _ _)
  k_with "subscriptTail" => (k_here; (with_reducible show wpAny _ _ (subscriptTail _ (Expr.Slice (some _) (some _) none _) _ (Value.ref _)) _ _ _); k_dflt (refine' slice_blk' ?qqe ?qqF ?qqN ?qqm ?qqz ?qqa ?qqb ?_; (case qqe => exact ⟨_, _, _, _, _, rfl, rfl⟩); (case qqF => k_asm); (case qqN => k_asm); (case qqm => ktr_rel); (case qqz => lia); (case qqa => lia); (case qqb => lia); k_whole); intro v' h' k' led' F' N' hs' hb')
  k_with "call ref" => (k_here; k_dflt (refine' Tells.use (compactV _ _ _ _ ?qqhl ?qqh4 ?qqhi) ?qqB ?qqF ?qqX ?qqN ?qqT ?qqhk ?qqhd ?qqhu ?_; (case qqB => k_asm); (case qqF => k_asm); (case qqX => k_asm); (case qqN => k_asm); (case qqT => k_asm); (case qqhk => rfl); (case qqhl => ktr_rel); (case qqh4 => (simp only [List.length_take, List.length_drop]; lia)); (case qqhi => ktr_rel); (case qqhd => first | lia | (dsimp only [ktrTop, Around.deeper]; lia)); (case qqhu => first | lia | (dsimp only [ktrTop, Around.deeper]; lia))); intro v' news' h' tk' F' Nq' hO'; (obtain ⟨hO1, t', hO2⟩ := hO'; subst hO1; subst hO2); (have N9' := drop_led Nq' (by assumption)); (try dsimp only); (try k_sweep))
  k_with "call type:list" => (k_here; (with_reducible show wpAny _ _ (call (Value.type "list") [Value.ref _]) _ _ _); k_dflt (refine' copy_IL ?qqF ?qqN ?qqm ?qqz ?_; (case qqF => k_asm); (case qqN => k_asm); (case qqm => ktr_rel); (case qqz => lia); k_whole); intro D' c' h' vs' hv' F' N' l1; (try k_lt l1); (try k_sweep))
  k_with "setItem ref int" => (k_here; (with_reducible show wpAny _ _ (setItem (Value.ref _) (Value.int _ _) (Value.int _ _)) _ _ _); k_dflt (refine' set_IL ?qqk1 ?qqk2 ?qqk3 ?qqk4 ?qqk5 ?qqk6 ?qqk7 ?_; (case qqk1 => k_asm); (case qqk2 => k_asm); (case qqk3 => k_upd); (case qqk4 => with_reducible assumption); (case qqk5 => lia); (case qqk6 => lia); (case qqk7 => lia); k_whole); intro h' F' N' hi'; (try k_sweep))
  k_with "subscriptTail" => (k_here; (with_reducible show wpAny _ _ (subscriptTail _ _ (Value.ref _) (Value.int _ _)) _ _ _); k_dflt (refine' item_tab ?qqF ?qqX ?qqo ?qqa ?qqb ?qqc ?_; (case qqF => k_asm); (case qqX => k_asm); (case qqo => with_reducible (first | exact tab_S _ | exact tab_T1 _ | exact tab_T2 _ | exact tab_T3 _ | exact tab_T4 _)); (case qqa => exact (and255 _).1); (case qqb => exact (and255 _).2); (case qqc => decide); k_whole); intro _)
  k_with "binaryOp Mod int int" => (k_here; (with_reducible refine mod_pos (by first | decide | lia) ?_))
  k_with "call builtin:list.append" => (k_here; (with_reducible show wpAny _ _ (call (Value.builtin _) [Value.ref _, Value.int _ _]) _ _ _); k_dflt (refine' append_IL ?qqk1 ?qqk2 ?qqk3 ?qqk4 ?qqk5 ?_; (case qqk1 => k_asm); (case qqk2 => k_asm); (case qqk3 => k_upd); (case qqk4 => with_reducible assumption); (case qqk5 => ((try simp only [List.length_append, List.length_cons, List.length_nil]); lia)); k_whole); intro h' F' N' hi'; (try k_sweep))
  k_with "call type:range" => (k_here; (first | (with_reducible show wpAny _ _ (call _ [_]) _ _ _) | (with_reducible show wpAny _ _ (call _ [_, _]) _ _ _)); (rename Fr _ _ _ _ => F'); (rename News _ _ _ _ => N'); (first | (with_unfolding_all refine range1_rows F' N' ?_) | (with_unfolding_all refine range2_rows F' N' ?_)); intro _ _ _ _ _ _ _ _ _)
  k_with "subscriptTail" => (k_here; (with_reducible show wpAny _ _ (subscriptTail _ (Expr.Slice _ _ none _) (Value.bytes _ _) (Value.ref _)) _ _ _); k_dflt (refine' slice_b' ?qqF ?qqN ?qqk ?qql ?qqu ?qqz ?_; (case qqF => k_asm); (case qqN => k_asm); (case qqk => kba_ints); (case qql => constructor); (case qqu => constructor); (case qqz => kba_size); k_whole); intro _ _ _ _ _ kbcK; (try simp only [Option.elim, KBc.clip_lit, clipAt_nat, List.drop_zero, Nat.sub_zero] at kbcK))
  k_with "callWith" => (k_here; plain_pass; (with_reducible show wpAny _ _ (callWith _ (Value.builtin _) (_ :: _) _ _) _ _ _); refine callWith_method1 ?_)
  k_with "call builtin:len" => (k_here; (with_reducible show wpAny _ _ (call (Value.builtin "len") [Value.ref _]) _ _ _); k_dflt (refine' ke_len ?qqN ?qqm ?qqz ?_; (case qqN => k_asm); (case qqm => ktr_rel); (case qqz => lia); k_whole); intro _ _)
  k_with "subscriptTail" => (k_here; (with_reducible show wpAny _ _ (subscriptTail _ _ (Value.ref _) (Value.int _ _)) _ _ _); k_dflt (refine' ke_item ?qqN ?qqm ?qqa ?qqb ?qqc ?_; (case qqN => k_asm); (case qqm => ktr_rel); (case qqa => lia); (case qqb => lia); (case qqc => lia); k_whole))
  k_with "subscriptTail" => (k_here; (with_reducible show wpAny _ _ (subscriptTail _ _ (Value.ref (List.getD _ _ _)) (Value.int _ _)) _ _ _); k_dflt (refine' ke_row ?qqN ?qqm ?qqa ?qqb ?qqc ?_; (case qqN => k_asm); (case qqm => ktr_rel); (case qqa => lia); (case qqb => lia); (case qqc => lia); k_whole); intro _)
  k_with "getAttr ref" => (k_here; (with_reducible show wpAny _ _ (getAttr (Value.ref _) (PySem.Str.ofString "_Ke") _) _ _ _); k_dflt (refine' ke_attr ?qqF ?qqX ?qqN ?qqK ?_; (case qqF => k_asm); (case qqX => k_asm); (case qqN => k_asm); (case qqK => ktr_rel); k_whole); intro _)
  k_with "getAttr ref" => (k_here; (with_reducible show wpAny _ _ (getAttr (Value.ref _) (PySem.Str.ofString "S") _) _ _ _); k_dflt (refine' ke_S ?qqF ?qqX ?qqN ?qqK ?_; (case qqF => k_asm); (case qqX => k_asm); (case qqN => k_asm); (case qqK => ktr_rel); k_whole); intro _)
  k_with "getAttr ref" => (k_here; (with_reducible show wpAny _ _ (getAttr (Value.ref _) (PySem.Str.ofString "T1") _) _ _ _); k_dflt (refine' ke_T1 ?qqF ?qqX ?qqN ?qqK ?_; (case qqF => k_asm); (case qqX => k_asm); (case qqN => k_asm); (case qqK => ktr_rel); k_whole); intro _)
  k_with "getAttr ref" => (k_here; (with_reducible show wpAny _ _ (getAttr (Value.ref _) (PySem.Str.ofString "T2") _) _ _ _); k_dflt (refine' ke_T2 ?qqF ?qqX ?qqN ?qqK ?_; (case qqF => k_asm); (case qqX => k_asm); (case qqN => k_asm); (case qqK => ktr_rel); k_whole); intro _)
  k_with "getAttr ref" => (k_here; (with_reducible show wpAny _ _ (getAttr (Value.ref _) (PySem.Str.ofString "T3") _) _ _ _); k_dflt (refine' ke_T3 ?qqF ?qqX ?qqN ?qqK ?_; (case qqF => k_asm); (case qqX => k_asm); (case qqN => k_asm); (case qqK => ktr_rel); k_whole); intro _)
  k_with "getAttr ref" => (k_here; (with_reducible show wpAny _ _ (getAttr (Value.ref _) (PySem.Str.ofString "T4") _) _ _ _); k_dflt (refine' ke_T4 ?qqF ?qqX ?qqN ?qqK ?_; (case qqF => k_asm); (case qqX => k_asm); (case qqN => k_asm); (case qqK => ktr_rel); k_whole); intro _)
  exact trivial
set_option maxHeartbeats 8000000 in
theorem encV (w : World) (news : List (Addr × Obj)) (x dx ke kd : Addr) (q1 q2 : Int) (k1 k2 : Tok) (nke : Nat) (rows : List Addr) (KE : List (List Int)) (v : Value) (ks : List Int) (hl : Blk news v ks) (h16 : ks.length = 16) (hi : KBa.In ks)
   (hK : KeAt news x dx ke kd q1 q2 k1 k2 nke rows KE) (hR : 2 ≤ KE.length ∧ KE.length ≤ 15) :
   Tells w 108 [.ref x, v] 2 news fun v news' => ∃ D vs n, v = .ref D ∧ news' = (D, listOf vs.toArray n) :: news ∧ IntsAre vs (encOf w.params KE ks) ∧ AllLt D news := by
  unfold Tells; k_fill; intro loose mean mg mb dp un gd cn cs a ccd cl outer A₀ base h₀ L m s Q E B F X N T hk hd hu hret
  refine wpAny_call ?_; k_dflt (refine' code_defC (binds := [(Str.ofString "self", Value.ref x), (Str.ofString "plaintext", v)]) ?k1 ?k2 ?k3 ?k4 ?k5 ?kA ?kF ?kK ?k6 ?k7 ?k8 ?k9 ?kB ?kD ?_ ?c2 ?c3 ?c4; (case kA => exact rfl); (case kF => exact rfl); (case kK => assumption); (case k1 => exact B); (case k2 => exact F); (case k3 => exact X); (case k4 => exact N); (case k5 => exact T); (case k6 => k_is); (case k7 => k_is); (case k8 => ktr_room); (case k9 => first | exact BindsTo.of_eq rfl | exact binds_K (by k_in) rfl (by k_is) rfl rfl rfl); (case kB => exact rfl); (case kD => decide +kernel); (case c2 => exact rfl); (case c3 => exact rfl); (case c4 => exact rfl)); intro g1 L1 h1 tk1 cells1 FG1 F1 N1 Y1 B1 X1 T1 l1
  obtain ⟨o1, o2, hE1, d1, d2⟩ := CellsAre.two Y1
  subst hE1
  replace d1 : o1.data = .cell (some v) := d1
  replace d2 : o2.data = .cell (some (.ref x)) := d2
  clear Y1
  simp only [List.cons_append, List.nil_append] at N1
  (try dsimp only); (try k_fold)
  k_extra "STEPS"
  rename Fr _ _ _ _ => F2
  rename News _ _ _ _ => N2
  k_dflt (refine LCg.Assign_ListComp_U (F₀ := F2) (by rfl) (by with_unfolding_all rfl) (by rfl) (by decide) (by rfl) (by decide) (by rfl) (by rfl) (by rfl) ?_)
  k_extra "STEPS"
  rename IsRange _ _ _ _ _ _ _ _ => R3
  rename Fr _ _ _ _ => F3
  rename News _ _ _ _ => N3
  k_dflt (refine LCg.CompSrc.range (n := 4) (by rfl) F3 N3 R3 (by first | decide | rfl) (by first | rfl | decide) (by first | size_fits | exact Nat.le_of_ble_eq_true rfl) ?_)
  intro g'
  refine comp_all (fun i y => ∃ t, y = .int (Builtin.bitXor (cwordL ((ks.drop (4 * i)).take 4)) ((KE.getD 0 []).getD i 0)) t) ?_ ?_
  · intro i t I oI C oC D ys m₂ s₁ E' hi4 hC hx2 F4 N4 off ne
    k_extra "STEPS"
    rename Fr _ _ _ _ => F5
    rename News _ _ _ _ => N5
    refine CPost.intro F5 N5 (fun _ h => h) ?_
    have e1 : (4 * (0 + (i : Int))).toNat = 4 * i := by lia
    have e2 : min (4 * (0 + (i : Int)) + 4).toNat ks.length - (4 * (0 + (i : Int))).toNat = 4 := by lia
    have e3 : (0 + (i : Int)).toNat = i := by lia
    rw [e2, e1, e3]
    exact ⟨_, rfl⟩
  · intro ys hy hp
    have hI : IntsAre ys (enc0 KE ks) := ints_of_all hy hp
    unfold LCg.FinA
    intro D' h' tk' F' N' o1'
    try simp only [List.nil_append, List.cons_append] at N'
    simp only [LCg.Off1] at o1'
    obtain ⟨n1, -, n2, n3, -⟩ := o1'
    try dsimp only
    k_extra "STEPS"
    k_dflt (refine For_invV g1 (by rfl) (by rfl) ?_)
    k_extra "STEPS"
    rename IsRange _ _ _ _ _ _ _ _ => R7
    rename Fr _ _ _ _ => F7
    rename News _ _ _ _ => N7
    refine rng_inv (EncJ w.params KE ks L1 o1 o2 news) (n := ((KE.length : Int) - 1 - 1).toNat) rfl R7 (small_one (by lia) (by lia) (by lia) (by lia)) (rangeSize_nat _ _) F7 (drop_2 N7) ⟨_, _, _, _, _, _, _, _, _, _, _, rfl, .cons _ _ (.cons _ _ (.cons _ _ (.cons _ _ .nil))), rfl, hI, by ktr_rel, by ktr_rel, by ktr_rel, by ktr_rel, by ktr_rel, by ktr_rel, by lia, by lia, ‹_ ∧ _ ∧ _ ∧ AllLt _ _›.2.2.2, n1⟩ ?_ ?_
    · intro I j it tr m₁ nx s₁ hin hJ off F8 N8 hs₁
      obtain ⟨al, tl, va, vt, na, nt, as, t1, t2, t3, t4, rfl, ha, ha4, ht, ma, mt, ms1, ms2, ms3, mr, p1, p2, p3, p4⟩ := hJ
      have q1 : @Ne Nat al I := off (al, _) (.tail _ (.head _))
      k_extra "STEPS"
      k_dflt (refine For_invV g1 (by rfl) (by rfl) ?_)
      k_extra "STEPS"
      rename IsRange _ _ _ _ _ _ _ _ => R9
      rename Fr _ _ _ _ => F9
      rename News _ _ _ _ => N9
      refine rng_inv (EncI w.params (KE.getD (j + 1) []) (encR w.params KE ks j) KE L1 o1 o2 news j al tl vt nt I it) (n := 4) rfl R9 (small_one (by lia) (by lia) (by lia) (by lia)) (rangeSize_nat _ _) F9 N9 ⟨_, _, _, _, _, _, _, _, rfl, ha, ha4, by lia, by ktr_rel, by ktr_rel, by ktr_rel, by ktr_rel, by ktr_rel, by ktr_rel, by ktr_rel⟩ ?_ ?_
      · intro I2 i it2 ti m₂ nx2 s₂ hin2 hJ2 off2 F10 N10 hs₂
        obtain ⟨va2, na2, as2, u1, u2, u3, u4, u5, rfl, hb, hb4, hbk, ma2, mt2, ms12, ms22, ms32, mr2, mrr⟩ := hJ2
        have hT4 := encR_len w.params KE ks j
        have q2 : @Ne Nat al I2 := off2 (al, _) (.tail _ (.tail _ (.head _)))
        k_extra "STEPS"
        rename Fr _ _ _ _ => F11
        rename News _ _ _ _ => N11
        refine RPost.next F11 N11 (_ :: _ :: _ :: (L1 + 1 + 1, o1) :: (L1 + 1, o2) :: news) (fun p hp => hp) (off_same (by rfl) off2) ⟨_, _, _, _, _, _, _, _, rfl, by assumption, by rw [List.length_set]; exact hb4, ?_, by ktr_rel, by ktr_rel, by ktr_rel, by ktr_rel, by ktr_rel, by ktr_rel, by ktr_rel⟩
        intro y hy
        have e0 : (0 + (i : Int) * 1).toNat = i := by lia
        have e1 : ((0 + (i : Int) * 1 + 1) % 4).toNat = (i + 1) % 4 := by lia
        have e2 : ((0 + (i : Int) * 1 + 2) % 4).toNat = (i + 2) % 4 := by lia
        have e3 : ((0 + (i : Int) * 1 + 3) % 4).toNat = (i + 3) % 4 := by lia
        have e4 : (1 + (j : Int) * 1).toNat = j + 1 := by lia
        rw [e0, getD_set (by lia), e1, e2, e3, e4]
        by_cases hyi : y = i
        · subst hyi; rw [if_pos rfl]; rfl
        · rw [if_neg hyi]; exact hbk y (by lia)
      · intro m₂ nx2 h2 tk2 hJ2 F10 N10
        obtain ⟨va2, na2, as2, u1, u2, u3, u4, u5, rfl, hb, hb4, hbk, ma2, mt2, ms12, ms22, ms32, mr2, mrr⟩ := hJ2
        have hA2 : as2 = encR w.params KE ks (j + 1) := list_of_getD hb4 hbk
        subst hA2
        clear F9 N9
        try dsimp only
        k_extra "STEPS"
        rename Fr _ _ _ _ => F11
        rename News _ _ _ _ => N11
        have D' := trivial; have F' := trivial; have N' := trivial; have N9' := trivial; have Nq' := trivial; have c' := trivial; have h' := trivial; have hO' := trivial; have hO1 := trivial; have hO2 := trivial; have hb' := trivial; have hi' := trivial; have hs' := trivial; have hv' := trivial; have hw' := trivial; have k' := trivial; have kF := trivial; have kbcK := trivial; have l1 := trivial; have led' := trivial; have news' := trivial; have t' := trivial; have tk' := trivial; have v' := trivial; have vs' := trivial; have ws' := trivial
        rename_i D5 c5 h5 vs5 hv5 F5' N5' l5 h6
        clear D' F' N' N9' Nq' c' h' hO' hO1 hO2 hb' hi' hs' hv' hw' k' kF kbcK l1 led' news' t' tk' v' vs' ws'
        refine RPost.next F11 N11 ((D5, listOf vs5.toArray c5) :: (al, listOf va2.toArray na2) :: (L1 + 1 + 1, o1) :: (L1 + 1, o2) :: news) ?_ ?_ ⟨_, _, _, _, _, _, _, _, _, _, _, rfl, hb, hb4, hv5, by ktr_rel, by ktr_rel, by ktr_rel, by ktr_rel, by ktr_rel, by ktr_rel, p1, p2, p3, by (have := l5.2.2.1); lia⟩
        · intro p hp
          simp only [List.mem_cons] at hp ⊢
          rcases hp with h | h | h | h | h | h <;> simp [h]
        · intro p hp
          rcases List.mem_cons.mp hp with rfl | hp
          · exact Nat.ne_of_gt l5.1
          · exact off_same (by rfl) (fun p hp => off p (.tail _ hp)) p hp
    · intro m₁ nx h6 tk6 hJ F8 N8
      obtain ⟨al, tl, va, vt, na, nt, as, t1, t2, t3, t4, rfl, ha, ha4, ht, ma, mt, ms1, ms2, ms3, mr, p1, p2, p3, p4⟩ := hJ
      clear F7 N7
      try dsimp only
      have hRn : ((KE.length : Int) - 1 - 1).toNat = KE.length - 2 := by lia
      rw [hRn] at ht
      have hT4 := encR_len w.params KE ks (KE.length - 2)
      k_extra "STEPS"
      k_dflt (refine For_invV g1 (by rfl) (by rfl) ?_)
      k_extra "STEPS"
      rename IsRange _ _ _ _ _ _ _ _ => R9
      rename Fr _ _ _ _ => F9
      rename News _ _ _ _ => N9
      rename _ ∧ _ ∧ _ ∧ _ ∧ AllLt _ _ => l9
      obtain ⟨l9a, l9b, l9c, l9d, l9e⟩ := l9
      refine rng_inv (EncO w.params (KE.getD (KE.length - 1) []) (encR w.params KE ks (KE.length - 2)) KE (_ :: _ :: (L1 + 1 + 1, o1) :: (L1 + 1, o2) :: news) _ tl) (n := 4) rfl R9 (small_one (by lia) (by lia) (by lia) (by lia)) (rangeSize_nat _ _) F9 N9 ⟨_, _, _, _, _, _, rfl, .nil, by ktr_rel, by ktr_rel, by ktr_rel, by ktr_rel, by ktr_rel, by ktr_rel⟩ ?_ ?_
      · intro I2 i it2 ti m₂ nx2 s₂ hin2 hJ2 off2 F10 N10 hs₂
        obtain ⟨vr, nr, u1, u2, u3, u4, rfl, hb, ma2, mt2, ms12, ms22, ms32, mr2⟩ := hJ2
        have hpl := encPre_len w.params (KE.getD (KE.length - 1) []) (encR w.params KE ks (KE.length - 2)) i
        have q2 : @Ne Nat _ I2 := off2 _ (.head _)
        dsimp only at q2
        have p5 : @Ne Nat al _ := Nat.ne_of_lt l9b
        have p6 : @Ne Nat tl _ := Nat.ne_of_lt l9a
        k_extra "STEPS"
        rename Fr _ _ _ _ => F11
        rename News _ _ _ _ => N11
        refine RPost.next F11 N11 (_ :: (tl, listOf vt.toArray nt) :: (al, listOf va.toArray na) :: (L1 + 1 + 1, o1) :: (L1 + 1, o2) :: news) (fun p hp => hp) (off_same (by rfl) off2) ⟨_, _, _, _, _, _, rfl, ?_, by ktr_rel, by ktr_rel, by ktr_rel, by ktr_rel, by ktr_rel, by ktr_rel⟩
        have e0 : (0 + (i : Int) * 1).toNat = i := by lia
        have e1 : ((0 + (i : Int) * 1 + 1) % 4).toNat = (i + 1) % 4 := by lia
        have e2 : ((0 + (i : Int) * 1 + 2) % 4).toNat = (i + 2) % 4 := by lia
        have e3 : ((0 + (i : Int) * 1 + 3) % 4).toNat = (i + 3) % 4 := by lia
        have e4 : ((KE.length : Int) - 1).toNat = KE.length - 1 := by lia
        rename IntsAre _ _ => hi9
        rw [encPre_succ]
        simp only [e0, e1, e2, e3, e4, List.append_assoc, List.cons_append, List.nil_append] at hi9 ⊢
        exact hi9
      · intro m₂ nx2 h2 tk2 hJ2 F10 N10
        obtain ⟨vr, nr, u1, u2, u3, u4, rfl, hb, ma2, mt2, ms12, ms22, ms32, mr2⟩ := hJ2
        clear F9 N9
        try dsimp only
        k_extra "STEPS"
        rename Fr _ _ _ _ => F11
        rename News _ _ _ _ => N11
        exact hret _ _ _ _ F11 (drop_led (news := (_, listOf vr.toArray nr) :: news) N11 (by intro p hp; rcases List.mem_cons.mp hp with rfl | hp; exact .head _; exact .tail _ (.tail _ (.tail _ (.tail _ (.tail _ hp)))))) ⟨_, _, _, rfl, rfl, hb, l9e⟩
end

/-- the ledger, the entry at d taken out and put ahead -/
def foc (d : Addr) (o : Obj) (led : List (Addr × Obj)) : List (Addr × Obj) := (d, o) :: led.filter fun p => p.1 != d
theorem foc_news {h₀ h : Heap} {L d : Addr} {o : Obj} {led : List (Addr × Obj)} (N : News h₀ L h led) (hm : (d, o) ∈ led) : News h₀ L h (foc d o led) := fun p hp => by
  rcases List.mem_cons.mp hp with rfl | hp
  · exact N _ hm
  · exact N p (List.mem_filter.mp hp).1
theorem foc_upd {d : Addr} {o o' : Obj} {led : List (Addr × Obj)} : Upd d o o' (foc d o led) (foc d o' led) :=
  .head fun p hp => by have := (List.mem_filter.mp hp).2; simpa using this
theorem foc_mem {d : Addr} {o : Obj} {led : List (Addr × Obj)} {p : Addr × Obj} (hp : p ∈ led) (hne : p.1 ≠ d) : p ∈ foc d o led := .tail _ (List.mem_filter.mpr ⟨hp, by simpa using hne⟩)
theorem foc_here {d : Addr} {o : Obj} {led : List (Addr × Obj)} : (d, o) ∈ foc d o led := .head _
theorem foc_adr {d I : Addr} {o o' : Obj} {led : List (Addr × Obj)} (hm : (d, o) ∈ led) (h : ∀ p ∈ led, p.1 ≠ I) : ∀ p ∈ foc d o' led, p.1 ≠ I := fun p hp => by
  rcases List.mem_cons.mp hp with rfl | hp
  · show d ≠ I
    exact h (d, o) hm
  · exact h p (List.mem_filter.mp hp).1
theorem foc_mem_of {a d : Addr} {oa o : Obj} {led : List (Addr × Obj)} {r : List Addr} (hp : (a, oa) ∈ led) (ha : a ∉ r) (hd : d ∈ r) : (a, oa) ∈ foc d o led :=
  foc_mem hp fun e => ha (by rw [show a = d from e]; exact hd)
theorem IL.foc {d l : Addr} {o : Obj} {led : List (Addr × Obj)} {ns : List Int} (h : IL led l ns) (hne : l ≠ d) : IL (foc d o led) l ns := let ⟨a, b, c, e⟩ := h; ⟨a, b, foc_mem c hne, e⟩
/-- rows of four ints -/
def RowsAt (led : List (Addr × Obj)) (rows : List Addr) (M : List (List Int)) : Prop := rows.length = M.length ∧ ∀ i, i < M.length → IL led (rows.getD i 0) (M.getD i []) ∧ (M.getD i []).length = 4
theorem getD_mem {rows : List Addr} {i : Nat} (h : i < rows.length) : rows.getD i 0 ∈ rows := by
  rw [List.getD_eq_getElem?_getD, List.getElem?_eq_getElem h]; exact List.getElem_mem h
theorem RowsAt.foc {d : Addr} {o : Obj} {led : List (Addr × Obj)} {rows : List Addr} {M : List (List Int)} (h : RowsAt led rows M) (hne : d ∉ rows) : RowsAt (foc d o led) rows M :=
  ⟨h.1, fun i hi => ⟨(h.2 i hi).1.foc fun e => hne (e ▸ getD_mem (by rw [h.1]; exact hi)), (h.2 i hi).2⟩⟩
theorem getD_inj {rows : List Addr} (hn : rows.Nodup) {i j : Nat} (hi : i < rows.length) (hj : j < rows.length) (e : rows.getD i 0 = rows.getD j 0) : i = j := by
  rw [List.getD_eq_getElem?_getD, List.getD_eq_getElem?_getD, List.getElem?_eq_getElem hi, List.getElem?_eq_getElem hj] at e
  exact (List.getElem_inj hn).mp e
/-- an item of the table turned -/
def mset (M : List (List Int)) (q c : Nat) (v : Int) : List (List Int) := M.set q ((M.getD q []).set c v)
theorem mset_len {M : List (List Int)} {q c : Nat} {v : Int} : (mset M q c v).length = M.length := List.length_set ..
theorem mset_get {M : List (List Int)} {q c i : Nat} {v : Int} (hq : q < M.length) : (mset M q c v).getD i [] = if i = q then (M.getD q []).set c v else M.getD i [] := by
  unfold mset
  simp only [List.getD_eq_getElem?_getD, List.getElem?_set]
  by_cases h : i = q
  · subst h; simp [hq]
  · have h' : ¬ q = i := fun e => h e.symm
    simp [h, h']
theorem RowsAt.set {led : List (Addr × Obj)} {rows : List Addr} {M : List (List Int)} {q c n : Nat} {v : Int} {u : Tok} {vs : List Value} (h : RowsAt led rows M) (hn : rows.Nodup) (hq : q < M.length) (hi : IntsAre vs (M.getD q [])) :
    RowsAt (Mine.foc (rows.getD q 0) (listOf (vs.set c (.int v u)).toArray n) led) rows (mset M q c v) := by
  refine ⟨by rw [mset_len]; exact h.1, fun i hi' => ?_⟩
  rw [mset_len] at hi'
  rw [mset_get hq]
  by_cases e : i = q
  · subst e
    rw [if_pos rfl]
    exact ⟨⟨_, _, foc_here, ints_set hi _⟩, by rw [List.length_set]; exact (h.2 i hi').2⟩
  · rw [if_neg e]
    exact ⟨(h.2 i hi').1.foc fun e' => e (getD_inj hn (by rw [h.1]; exact hi') (by rw [h.1]; exact hq) e'), (h.2 i hi').2⟩
/-- a cipher object in the making -/
structure ASt (led news : List (Addr × Obj)) (x dx kel kdl tkl : Addr) (q1 q2 : Int) (k1 k2 : Tok) (ne nd : Nat) (rE rD : List Addr) (KE KD : List (List Int)) (tk : List Int) : Prop where
  hx : (x, instObj 116 dx) ∈ led
  hdx : (dx, dictOf [⟨q1, .str (Str.ofString "_Ke") k1, .ref kel⟩, ⟨q2, .str (Str.ofString "_Kd") k2, .ref kdl⟩] 2) ∈ led
  hke : (kel, listOf (rE.map Value.ref).toArray ne) ∈ led
  hkd : (kdl, listOf (rD.map Value.ref).toArray nd) ∈ led
  rowsE : RowsAt led rE KE
  rowsD : RowsAt led rD KD
  htk : IL led tkl tk
  sub : ∀ p ∈ news, p ∈ led
  nd : (tkl :: x :: dx :: kel :: kdl :: (rE ++ rD)).Nodup
  fresh : ∀ p ∈ news, ∀ a ∈ tkl :: x :: dx :: kel :: kdl :: (rE ++ rD), (@Ne Nat p.1 a)
section
variable {led news : List (Addr × Obj)} {x dx kel kdl tkl : Addr} {q1 q2 : Int} {k1 k2 : Tok} {ne nd n : Nat} {rE rD : List Addr} {KE KD : List (List Int)} {tk : List Int} {v : Int} {u : Tok} {vs : List Value} {q c : Nat}
theorem ASt.ne_news (A : ASt led news x dx kel kdl tkl q1 q2 k1 k2 ne nd rE rD KE KD tk) {a : Addr} (ha : a ∈ tkl :: x :: dx :: kel :: kdl :: (rE ++ rD)) : ∀ p ∈ news, p.1 ≠ a := fun p hp => A.fresh p hp a ha
theorem nd_split {tkl x dx kel kdl : Addr} {rE rD : List Addr} (h : (tkl :: x :: dx :: kel :: kdl :: (rE ++ rD)).Nodup) :
    (tkl ≠ x ∧ tkl ≠ dx ∧ tkl ≠ kel ∧ tkl ≠ kdl ∧ tkl ∉ rE ∧ tkl ∉ rD) ∧ (x ∉ rE ∧ x ∉ rD) ∧ (dx ∉ rE ∧ dx ∉ rD) ∧ (kel ∉ rE ∧ kel ∉ rD) ∧ (kdl ∉ rE ∧ kdl ∉ rD) ∧ rE.Nodup ∧ rD.Nodup ∧ ∀ a ∈ rE, a ∉ rD := by
  simp only [List.nodup_cons, List.mem_cons, List.mem_append, not_or, List.nodup_append] at h
  obtain ⟨⟨a1, a2, a3, a4, a5, a6⟩, ⟨-, -, -, b1, b2⟩, ⟨-, -, c1, c2⟩, ⟨-, d1, d2⟩, ⟨e1, e2⟩, f1, f2, f3⟩ := h
  exact ⟨⟨a1, a2, a3, a4, a5, a6⟩, ⟨b1, b2⟩, ⟨c1, c2⟩, ⟨d1, d2⟩, ⟨e1, e2⟩, f1, f2, fun a ha hb => f3 a ha a hb rfl⟩
theorem ASt.setE (A : ASt led news x dx kel kdl tkl q1 q2 k1 k2 ne nd rE rD KE KD tk) (hq : q < KE.length) (hi : IntsAre vs (KE.getD q [])) :
    ASt (foc (rE.getD q 0) (listOf (vs.set c (.int v u)).toArray n) led) news x dx kel kdl tkl q1 q2 k1 k2 ne nd rE rD (mset KE q c v) KD tk := by
  obtain ⟨⟨-, -, -, -, a5, -⟩, ⟨b1, -⟩, ⟨c1, -⟩, ⟨d1, -⟩, ⟨e1, -⟩, f1, -, g⟩ := nd_split A.nd
  have hm : rE.getD q 0 ∈ rE := getD_mem (by rw [A.rowsE.1]; exact hq)
  refine ⟨foc_mem_of A.hx b1 hm, foc_mem_of A.hdx c1 hm, foc_mem_of A.hke d1 hm, foc_mem_of A.hkd e1 hm, A.rowsE.set f1 hq hi, A.rowsD.foc (g _ hm), A.htk.foc (fun e => a5 (by rw [e]; exact hm)), fun p hp => foc_mem (A.sub p hp) (A.ne_news (.tail _ (.tail _ (.tail _ (.tail _ (.tail _ (List.mem_append_left _ hm)))))) p hp), A.nd, A.fresh⟩
theorem ASt.setD (A : ASt led news x dx kel kdl tkl q1 q2 k1 k2 ne nd rE rD KE KD tk) (hq : q < KD.length) (hi : IntsAre vs (KD.getD q [])) :
    ASt (foc (rD.getD q 0) (listOf (vs.set c (.int v u)).toArray n) led) news x dx kel kdl tkl q1 q2 k1 k2 ne nd rE rD KE (mset KD q c v) tk := by
  obtain ⟨⟨-, -, -, -, -, a5⟩, ⟨-, b1⟩, ⟨-, c1⟩, ⟨-, d1⟩, ⟨-, e1⟩, -, f1, g⟩ := nd_split A.nd
  have hm : rD.getD q 0 ∈ rD := getD_mem (by rw [A.rowsD.1]; exact hq)
  refine ⟨foc_mem_of A.hx b1 hm, foc_mem_of A.hdx c1 hm, foc_mem_of A.hke d1 hm, foc_mem_of A.hkd e1 hm, A.rowsE.foc (fun h => g _ h hm), A.rowsD.set f1 hq hi, A.htk.foc (fun e => a5 (by rw [e]; exact hm)), fun p hp => foc_mem (A.sub p hp) (A.ne_news (.tail _ (.tail _ (.tail _ (.tail _ (.tail _ (List.mem_append_right _ hm)))))) p hp), A.nd, A.fresh⟩
theorem ASt.setT (A : ASt led news x dx kel kdl tkl q1 q2 k1 k2 ne nd rE rD KE KD tk) {tk' : List Int} {ws : List Value} (hi : IntsAre ws tk') :
    ASt (foc tkl (listOf ws.toArray n) led) news x dx kel kdl tkl q1 q2 k1 k2 ne nd rE rD KE KD tk' := by
  obtain ⟨⟨a1, a2, a3, a4, a5, a6⟩, -⟩ := nd_split A.nd
  exact ⟨foc_mem A.hx (Ne.symm a1), foc_mem A.hdx (Ne.symm a2), foc_mem A.hke (Ne.symm a3), foc_mem A.hkd (Ne.symm a4), A.rowsE.foc a5, A.rowsD.foc a6, ⟨_, _, foc_here, hi⟩, fun p hp => foc_mem (A.sub p hp) (A.ne_news (.head _) p hp), A.nd, A.fresh⟩
theorem ASt.mono {led' : List (Addr × Obj)} (A : ASt led news x dx kel kdl tkl q1 q2 k1 k2 ne nd rE rD KE KD tk) (hs : ∀ p ∈ led, p ∈ led') : ASt led' news x dx kel kdl tkl q1 q2 k1 k2 ne nd rE rD KE KD tk :=
  ⟨hs _ A.hx, hs _ A.hdx, hs _ A.hke, hs _ A.hkd, ⟨A.rowsE.1, fun i hi => ⟨(A.rowsE.2 i hi).1.mono hs, (A.rowsE.2 i hi).2⟩⟩, ⟨A.rowsD.1, fun i hi => ⟨(A.rowsD.2 i hi).1.mono hs, (A.rowsD.2 i hi).2⟩⟩, A.htk.mono hs, fun p hp => hs p (A.sub p hp), A.nd, A.fresh⟩
end

/-- the end of an element that makes objects -/
def CPostJ (h₀ : Heap) (L : Addr) (m : Str → Option Value) (s₁ : Shared) (I : Addr) (oI : Obj) (C : Addr) (oC : Obj) (D : Addr) (ys : List Value) (J : List Value → List (Addr × Obj) → Prop) (y : Value) (s₂ : Shared) : Prop :=
  ∃ h' tk' nx', s₂ = { s₁ with heap := h', toks := tk' } ∧ Fr h₀ L h' m ∧ News h₀ L h' ((I, oI) :: (C, oC) :: (D, LCg.lst ys) :: nx') ∧ LCg.Off3 I C D nx' ∧ J (ys ++ [y]) nx'
theorem CPostJ.intro {h₀ : Heap} {L : Addr} {m : Str → Option Value} {s₁ : Shared} {I : Addr} {oI : Obj} {C : Addr} {oC : Obj} {D : Addr} {ys : List Value} {J : List Value → List (Addr × Obj) → Prop} {y : Value} {h' : Heap} {tk' : Nat} {all : List (Addr × Obj)}
    (F : Fr h₀ L h' m) (N : News h₀ L h' all) (nx' : List (Addr × Obj)) (hs : ∀ p ∈ (I, oI) :: (C, oC) :: (D, LCg.lst ys) :: nx', p ∈ all) (off : LCg.Off3 I C D nx') (hJ : J (ys ++ [y]) nx') : CPostJ h₀ L m s₁ I oI C oC D ys J y { s₁ with heap := h', toks := tk' } :=
  ⟨h', tk', nx', rfl, F, drop_led N hs, off, hJ⟩
section
variable {prog : Program} {w : World} {A : Around} {E : Value → Shared → Prop} {s : Shared} {h₀ : Heap} {L : Addr} {m : Str → Option Value} {env : Env}
/-- a comprehension whose elements make objects, by what holds between them -/
theorem comp_inv {elt : Expr} {x : Str} {scope : Scope} {cl : List (Str × Addr)} {val : Nat → Int} {n : Nat} {news : List (Addr × Obj)} {Fin : List Value → List (Addr × Obj) → Prop} (J : Nat → List Value → List (Addr × Obj) → Prop) (hj : J 0 [] news)
    (turn : ∀ (i : Nat) t I oI C oC D ys nx m₂ (s₁ : Shared) (E' : Value → Shared → Prop), i < n → J i ys nx → LCg.NsObj oC m₂ → m₂ x = some (.int (val i) t) → Fr h₀ L s₁.heap m → News h₀ L s₁.heap ((I, oI) :: (C, oC) :: (D, LCg.lst ys) :: nx) → LCg.Off3 I C D nx → ((@Ne Nat I C) ∧ (@Ne Nat I D) ∧ (@Ne Nat C D)) →
      wpAny (model prog w) A (eval elt (compEnvC scope cl C env)) (CPostJ h₀ L m s₁ I oI C oC D ys (J (i + 1))) E' s₁)
    (fin : ∀ ys nx, J n ys nx → Fin ys nx) :
    LCg.CompRest prog w A h₀ L m env elt x scope cl s (fun _ => True) (fun i v => ∃ t, v = .int (val i) t) Fin n 0 [] news := by
  have go : ∀ k i (ys : List Value) nx, i + k = n → J i ys nx → LCg.CompRest prog w A h₀ L m env elt x scope cl s (fun _ => True) (fun i v => ∃ t, v = .int (val i) t) Fin k i ys nx := by
    intro k
    induction k with
    | zero => intro i ys nx hk hJ; obtain rfl : i = n := hk; exact fin ys nx hJ
    | succ k ih =>
      rintro i ys nx hk hJ v I oI C oC D m₂ h tk E' ⟨t, rfl⟩ hC hx F N off ne
      refine wpAny_mono (turn i t I oI C oC D ys nx m₂ { s with heap := h, toks := tk } E' (by lia) hJ hC hx F N off ne) (fun y s₂ q => ?_) fun _ _ e => e
      obtain ⟨h', tk', nx', rfl, F', N', off', hJ'⟩ := q
      exact ⟨h', tk', nx', rfl, F', N', off', trivial, ih (i + 1) (ys ++ [y]) nx' (by lia) hJ'⟩
  exact go n 0 [] news (Nat.zero_add n) hj
theorem step_walks {I : Addr} (hh : A.handled = none) (a c : Int) (n : Nat) : Walks prog w A I [I] [I] n (fun i v => ∃ t, v = .int (a + (i : Int) * c) t) (fun i h => IsRangeIter h I (a + (i : Nat) * c) ((n : Int) - (i : Nat)) c) :=
  let W : Walks prog w A I [I] [I] n (fun i v => i < n ∧ ∃ t, v = .int (a + i * c) t) (fun i h => IsRangeIter h I (a + (i : Nat) * c) ((n : Int) - (i : Nat)) c) := (Walks.range hh I a c n).bound
  { sub := W.sub, frame := W.frame, done := W.done, self := W.self, item := fun i s Q E hi st hQ => W.item i s Q E hi st fun v h' tk hP => hQ v h' tk hP.2 }
/-- name = [elt for x in range(a, b, c)] -/
theorem Assign_step {elt iter : Expr} {x y : Str} {px py : Pos} {scope : Scope} {cl : List (Str × Addr)} {pos spos : Pos} {Q : Flow → Shared → Prop} (F₀ : Fr h₀ L s.heap m) (hLe : env.locals = L)
    (hsw : swapsWith (.ListComp elt [⟨.Name x px, iter, [], 0⟩] scope pos) (some (.Name y py)) spos.line env = pure true)
    (hclos : closureFor scope env = pure cl) (hcell : ∀ z ∈ scope.names, z.2 ≠ .cell) (hkind : scope.kind = .function)
    (hnames : ∀ z ∈ scope.names, z.2 = .local → scope.names.lookup z.1 = some .local) (hx : scope.names.lookup x = some .local)
    (hy : env.kindOf y = some .local) (hp : (env.scope.kind == .class || (env.scope.kind == .module && env.locals != env.globals)) = false) (hh : A.handled = none)
    (h : wpAny (model prog w) A (eval iter env) (fun xv s₁ => ∃ r a b c t u v n news, xv = .ref r ∧ Fr h₀ L s₁.heap m ∧ News h₀ L s₁.heap news ∧ IsRange s₁.heap r a b c t u v ∧ Builtin.Range.small a b c = true ∧ Builtin.Range.rangeSize a b c = ((n : Nat) : Int) ∧ n ≤ sizeLine ∧
      ∀ s₂ : Shared, (∃ h, s₂ = { s₁ with heap := h }) → LCg.CompRest prog w A h₀ L m env elt x scope cl s₂ (fun _ => True) (fun i v => ∃ t, v = .int (a + (i : Int) * c) t) (LCg.FinA h₀ L m s₂ y Q) n 0 [] news) E s)
    (hs : ∀ x, foldedSetIterable iter env x = pure x := by intro _; rfl) :
    wpAny (model prog w) A (exec (.Assign [.Name y py] (.ListComp elt [⟨.Name x px, iter, [], 0⟩] scope pos) spos) env) Q E s := by
  subst hLe
  rw [exec_Assign_Name_used _ _ _ _ hsw]
  refine wpAny_bind (wpAny_standAt (wpAny_bind ?_))
  show wpAny _ A (do let _ ← comprehension (.ListComp elt [⟨.Name x px, iter, [], 0⟩] scope pos) scope env _ (newList []) false (eval iter env) (some (assign (.Name y py) env))) _ _ s
  refine wpAny_bind (wpAny_mono (wpAny_comprehension_free (use := some (assign (.Name y py) env)) (Q := fun _ s' => Q .next s') rfl hs hclos hkind hnames
    (wpAny_mono h (fun xv s₁ h₁ => ?_) fun _ _ e => e)) (fun _ s' hq => wpAny_pure (wpAny_pure hq)) fun _ _ e => e)
  obtain ⟨r, a, b, c, t, u, v, n, news, rfl, F, N, hr, hsm, hn, hsz, R⟩ := h₁
  refine wpAny_pyIter_range hr hsm ?_
  refine LCg.block_U (step_walks hh a c n) hsz (fun i h st => ⟨_, st⟩) (fun i h h' o nw st e e' _ _ _ => ?_) hcell hkind hx (by show IsRangeIter _ _ _ _ _; rw [hn]; simpa using Heap.get?_push_size _ rfl) (fun b hb => ?_)
    (F.keeps fun _ _ e => Heap.get?_push_of_some _ e) (N.grown fun _ _ e => Heap.get?_push_of_some _ e) (Nat.ne_of_lt F.ns.lt) (next_is_new F) (fun p hp => Nat.ne_of_lt (Heap.lt_size (N p hp).1)) trivial (R _ ⟨_, rfl⟩) ?_
  · have st' : h.get? s₁.heap.objs.size = some _ := st
    show h'.get? s₁.heap.objs.size = some _
    rw [e', ← e]; exact st'
  · rw [List.mem_singleton.mp hb]
    show s₁.heap.objs.size < (s₁.heap.push _).objs.size
    rw [Heap.size_push]; exact Nat.lt_succ_self _
  · intro D C h' tk m' ys news' F' N' o1 hn C₀ D₀ hCL hDL hCD offC fin
    show wpAny _ A (assign (.Name y py) env (.ref D)) _ _ _
    refine wpAny_assign_Name (wpAny_storeName_local hy F'.ns (fun h₂ hn₂ hs₂ => ?_) hp)
    have hL₀ : h₀.get? env.locals = none := Heap.get?_none_of_le F'.above
    have F₂ : Fr h₀ env.locals h₂ (fun z => if z = y then some (.ref D) else m z) := ⟨hn₂, fun b o e => hs₂.extBut b o (fun q => by rw [q, hL₀] at e; cases e) (F'.keep b o e), F'.above⟩
    refine ⟨m', hn.sameBut hs₂ hCL, fun h'' hs'' => fin D h'' _ (F₂.change hs'' hCL C₀) (fun p hp => ?_) o1⟩
    have z : h₂.get? p.1 = some p.2 := hs₂.extBut _ _ (N' p hp).2.1 (N' p hp).1
    refine ⟨hs''.extBut _ _ ?_ z, (N' p hp).2⟩
    rcases List.mem_cons.mp hp with rfl | hp
    · exact Ne.symm hCD
    · exact offC p hp
end

/-- the int of four octets, the first of them with its sign -/
def sval (ks : List Int) : Int := if ks.head?.any (fun k => decide (128 ≤ k)) then KFB.value ks - 256 ^ ks.length else KFB.value ks
section
variable {prog : Program} {w : World} {M : Model} {A : Around} {E : Value → Shared → Prop} {s : Shared} {h₀ : Heap} {L : Addr} {m : PySem.Str → Option Value} {news : List (Addr × Obj)}
theorem callWith_fieldsK {pos : Pos} {u : Addr} {first : List Value} {args : List (Bool × Sem Value)} {keywords : List (Option Str × Sem Value)} {Q : Value → Shared → Prop} (hplain : args.any (·.1) = false) (hkw : keywords.any (·.1.isNone) = false)
    (h : wpAny M A (evalArgs (.ref u) true args keywords) (fun x s₁ => KFB.StandsAt u s₁.heap ∧ wpAny M A (call (.ref u) (first ++ x.pos) x.kw) Q E s₁) E s) : wpAny M A (callWith pos (.ref u) first args keywords) Q E s := by
  unfold callWith
  refine wpAny_bind (wpAny_holding (wpAny_mono h (fun x s₁ h₁ => wpAny_bind (wpAny_standAt ?_)) fun _ _ x => x))
  obtain ⟨ho, hcall⟩ := h₁
  simp only [hplain, hkw, Bool.or_false]
  refine wpAny_bind (m := keeperOf (.ref u)) ?_
  unfold keeperOf
  refine wpAny_bind (wpAny_load ho ?_)
  simp only [KFB.bound, show (Value.type "builtin_function_or_method" != Value.type "method") = true by decide, show (Value.type "builtin_function_or_method" == Value.type "builtin_function_or_method" || Value.type "builtin_function_or_method" == Value.type "method-wrapper") = true by decide, if_true]
  refine wpAny_pure ?_
  exact wpAny_bind (wpAny_mono hcall (fun r s₂ hr => wpAny_bind (wpAny_holding (wpAny_point (wpAny_pure hr)))) fun _ _ x => x)
theorem callWith_boundK {pos : Pos} {u : Addr} {first : List Value} {env : Env} {e : Expr} {rest : List Expr} {kws : List Keyword} {Q : Value → Shared → Prop}
    (h : wpAny M A (spliced (backTo pos (starEach (e :: rest) env))) (fun vs s₁ => wpAny M A (evalAll ((backToKw pos (keywordEach kws env)).map (·.2)))
      (fun kvs s₂ => KFB.StandsAt u s₂.heap ∧ wpAny M A (call (.ref u) (first ++ vs) (((backToKw pos (keywordEach kws env)).filterMap (·.1)).zip kvs)) Q E s₂) E s₁) E s)
    (he : starEach (e :: rest) env = (false, eval e env) :: starEach rest env := by rfl) (hplain : (backTo pos (starEach (e :: rest) env)).any (·.1) = false := by rfl)
    (hall : (backToKw pos (keywordEach kws env)).all (·.1.isSome) = true := by rfl) (hkw : (backToKw pos (keywordEach kws env)).any (·.1.isNone) = false := by rfl) :
    wpAny M A (callWith pos (.ref u) first (backTo pos (starEach (e :: rest) env)) (backToKw pos (keywordEach kws env))) Q E s :=
  callWith_fieldsK hplain hkw (evalArgs_kw2 hall h he)
theorem grownZ {z : Int} {Q : Value → Shared → Prop} (hz : z.natAbs < 2 ^ 64) (h : Q (.int z s.toks) { s with toks := s.toks + 1 }) : wpAny M A (mkIntGrown z) Q E s := by
  unfold mkIntGrown
  have hl : ¬ (z.natAbs.log2 ≥ bitsLine) := by
    have hb : bitsLine = 134217728 := by first | rfl | decide
    by_cases h0 : z.natAbs = 0
    · rw [h0, hb]; decide
    · have h1 := (Nat.log2_lt h0).mpr hz
      lia
  rw [if_neg hl]
  exact wpAny_mkInt h
theorem head_any (b : Array UInt8) : (b.toList.head?.any (· ≥ 128)) = ((KBw.bInts b).head?.any fun k => decide (128 ≤ k)) := by
  have e : KBw.bInts b = b.toList.map fun c => ((c.toNat : Nat) : Int) := rfl
  rw [e, List.head?_map]
  cases b.toList.head? with
  | none => rfl
  | some c =>
    simp only [Option.any_some, Option.map_some, ge_iff_le]
    have : (128 : UInt8) ≤ c ↔ (128 : Int) ≤ ((c.toNat : Nat) : Int) := by
      rw [UInt8.le_iff_toNat_le]
      constructor
      · intro h; have : 128 ≤ c.toNat := h; lia
      · intro h; show 128 ≤ c.toNat; lia
    simp only [this]
theorem tree_sbig {b : Array UInt8} {t u : Tok} {P : Fin → Shared → Prop} (hl : b.size ≤ 4) (h : P (.done (.ret (.int (sval (KBw.bInts b)) s.toks))) { s with toks := s.toks + 1 }) :
    wpAny M A (Builtin.«int.from_bytes» ⟨[.type "int", .bytes b t, .str (PySem.Str.ofString "big") u], [(Str.ofString "signed", .bool true)]⟩) P E s := by
  have hv : ((b.toList.foldl (fun (acc : Nat) (b : UInt8) => acc * 256 + b.toNat) 0 : Nat) : Int) = KFB.value (KBw.bInts b) := KFB.fold_cast b.toList 0
  have h1 := KFB.fold_lt b.toList 0
  rw [Nat.zero_add, Nat.one_mul, Array.length_toList] at h1
  have h2 : 256 ^ b.size ≤ 256 ^ 4 := Nat.pow_le_pow_right (by decide) hl
  have h3 : ((256 : Int) ^ b.size) = ((256 ^ b.size : Nat) : Int) := by push_cast; rfl
  have hlen : (KBw.bInts b).length = b.size := KBw.ints_length _
  have hs : (sval (KBw.bInts b)).natAbs < 2 ^ 64 := by
    unfold sval
    rw [← hv, hlen, h3]
    split <;> lia
  unfold Builtin.«int.from_bytes»
  refine wpAny_bind (wpAny_of_eq (a := true) KFB.type_int ?_)
  refine KFB.if_not rfl ?_
  refine wpAny_bind (wpAny_of_eq (a := true) F.conv_sub_int ?_)
  refine KFB.if_not rfl ?_
  refine wpAny_bind (wpAny_of_eq (a := [some (.bytes b t), some (.str (PySem.Str.ofString "big") u), some (.bool true)]) (by kernel_rfl) ?_)
  refine wpAny_bind (wpAny_of_eq (a := PySem.Str.ofString "big") (by kernel_rfl) ?_)
  refine wpAny_bind (wpAny_of_eq (a := true) (by first | rfl | kernel_rfl) ?_)
  refine wpAny_bind (wpAny_of_eq (a := false) (by kernel_rfl) ?_)
  refine wpAny_bind (wpAny_of_eq (a := b) rfl ?_)
  show wpAny _ _ (mkIntGrown (if (true && b.toList.head?.any (· ≥ 128)) = true then b.toList.foldl (fun (acc : Int) (b : UInt8) => acc * 256 + (b.toNat : Int)) ((0 : Nat) : Int) - 256 ^ b.toList.length else b.toList.foldl (fun (acc : Int) (b : UInt8) => acc * 256 + (b.toNat : Int)) ((0 : Nat) : Int)) >>= fun v => _) _ _ _
  rw [KFB.foldI_eq, hv, Bool.true_and, head_any, Array.length_toList, ← hlen]
  show wpAny _ _ (mkIntGrown (sval (KBw.bInts b)) >>= fun v => _) _ _ _
  refine wpAny_bind (grownZ hs ?_)
  refine KFB.if_so (by decide +kernel) ?_
  exact wpAny_bind (wpAny_pure (wpAny_pure h))
theorem check_sfb {b : Array UInt8} {t u : Tok} {o : PySem.Str} : checkBoundCall "int.from_bytes" ⟨[.type "int", .bytes b t, .str o u], [(Str.ofString "signed", .bool true)]⟩ = pure () := by first | kernel_rfl | rfl
theorem call_sbig {x : Addr} {b : Array UInt8} {t u : Tok} {ks : List Int} {Q : Value → Shared → Prop} (N : News h₀ L s.heap news) (hm : (x, KFB.bound) ∈ news) (hb : KBw.bInts b = ks) (hl : ks.length ≤ 4)
    (h : ∀ t' k, Q (.int (sval ks) t') { s with toks := k }) : wpAny (model prog w) A (call (.ref x) [.bytes b t, .str (PySem.Str.ofString "big") u] [(Str.ofString "signed", .bool true)]) Q E s := by
  subst hb
  refine wpAny_call (codeAny_of_tree ?_)
  show wpAny _ A.in1 (callAny (.ref x) ⟨[.bytes b t, .str _ u], _⟩) _ _ s
  simp only [callAny]
  refine wpAny_bind (wpAny_load (KFB.at_of N hm) ?_)
  simp only [KFB.bound, show (Value.type "builtin_function_or_method" == Value.type "method" || Value.type "builtin_function_or_method" == Value.type "builtin_function_or_method" || Value.type "builtin_function_or_method" == Value.type "method-wrapper") = true by decide, if_true]
  refine KFB.if_so (by decide) ?_
  refine wpAny_bind (wpAny_of_eq (a := ()) check_sfb ?_)
  refine wpAny_bind (wpAny_pure (wpAny_pure ?_))
  exact ⟨KFB.quiet_fb, codeAny_builtin KFB.entry_fb (tree_sbig (by rw [← KBw.ints_length]; exact hl) (h _ _))⟩
end
/-- the rounds for a key of n octets -/
def RoundsOf (n R : Nat) : Prop := (n = 16 ∧ R = 10) ∨ (n = 24 ∧ R = 12) ∨ (n = 32 ∧ R = 14)
/-- the table of rounds was asked -/
def RoundsP (R : Nat) (s : Shared) (v : Value) (s' : Shared) : Prop := (∃ k, s' = { s with toks := k }) ∧ ∃ t, v = .int (R : Int) t
theorem rounds_mono {n R : Nat} {M : Model} {A : Around} {E : Value → Shared → Prop} {s : Shared} {x : Sem Value} {Q : Value → Shared → Prop} (_hR : RoundsOf n R) (hx : wpAny M A x (fun v s' => RoundsP R s v s') E s) (h : ∀ t k, Q (.int (R : Int) t) { s with toks := k }) : wpAny M A x Q E s :=
  wpAny_mono hx (fun v s' q => by obtain ⟨⟨k, rfl⟩, t, rfl⟩ := q; exact h t k) fun _ _ e => e
/-- rows in the making -/
def RowsJ (base : List (Addr × Obj)) (i : Nat) (ys : List Value) (nx : List (Addr × Obj)) : Prop :=
  ∃ rows : List Addr, ys = rows.map Value.ref ∧ rows.length = i ∧ (∀ p ∈ base, p ∈ nx) ∧ RowsAt nx rows (List.replicate i [0, 0, 0, 0]) ∧ rows.Nodup ∧ (∀ p ∈ base, ∀ a ∈ rows, (@Ne Nat p.1 a)) ∧ ∀ a ∈ rows, ∃ o, (a, o) ∈ nx
theorem RowsJ.nil (base : List (Addr × Obj)) : RowsJ base 0 [] base :=
  ⟨[], rfl, rfl, fun _ h => h, ⟨rfl, fun i hi => absurd hi (Nat.not_lt_zero _)⟩, .nil, fun _ _ _ h => absurd h List.not_mem_nil, fun _ h => absurd h List.not_mem_nil⟩
theorem getD_snoc {α : Type} (l : List α) (x d : α) {i n : Nat} (hl : l.length = n) (hi : i < n + 1) : (l ++ [x]).getD i d = if i = n then x else l.getD i d := by
  simp only [List.getD_eq_getElem?_getD]
  by_cases h : i = n
  · subst h; rw [List.getElem?_append_right (by lia)]; simp [hl]
  · rw [List.getElem?_append_left (by lia), if_neg h]
theorem RowsJ.snoc {base nx : List (Addr × Obj)} {i : Nat} {ys vs : List Value} {D : Addr} {n : Nat} (h : RowsJ base i ys nx) (hv : IntsAre vs [0, 0, 0, 0]) (hD : ∀ p ∈ nx, p.1 ≠ D) :
    RowsJ base (i + 1) (ys ++ [.ref D]) ((D, listOf vs.toArray n) :: nx) := by
  obtain ⟨rows, rfl, hl, hs, hr, hn, hf, hm⟩ := h
  have hlr : (List.replicate i ([0, 0, 0, 0] : List Int)).length = i := List.length_replicate
  refine ⟨rows ++ [D], by simp, by simp [hl], fun p hp => .tail _ (hs p hp), ⟨by simp [hl], fun j hj => ?_⟩, ?_, fun p hp a ha => ?_, fun a ha => ?_⟩
  · rw [List.length_replicate] at hj
    rw [getD_snoc rows D 0 hl hj, List.replicate_succ', getD_snoc _ _ [] hlr hj]
    by_cases e : j = i
    · rw [if_pos e, if_pos e]; exact ⟨⟨vs, n, .head _, hv⟩, rfl⟩
    · rw [if_neg e, if_neg e]
      have := hr.2 j (by rw [hlr]; lia)
      exact ⟨this.1.mono fun p hp => .tail _ hp, this.2⟩
  · rw [List.nodup_append]
    refine ⟨hn, by simp, fun a ha b hb e => ?_⟩
    obtain ⟨o, ho⟩ := hm a ha
    rw [List.mem_singleton] at hb
    exact hD _ ho (e.trans hb)
  · rcases List.mem_append.mp ha with ha | ha
    · exact hf p hp a ha
    · rw [List.mem_singleton] at ha; subst ha; exact hD p (hs p hp)
  · rcases List.mem_append.mp ha with ha | ha
    · obtain ⟨o, ho⟩ := hm a ha; exact ⟨o, .tail _ ho⟩
    · rw [List.mem_singleton] at ha; subst ha; exact ⟨_, .head _⟩
section
variable {prog : Program} {w : World} {A : Around} {E : Value → Shared → Prop} {s : Shared} {K : Frag} {x C dx L : Addr} {h₀ : Heap} {m : Str → Option Value} {led : List (Addr × Obj)} {es es' : List DictEntry} {n n' : Nat} {name : Str} {v : Value}
/-- a field set, the dictionary taken out of an abstract ledger -/
theorem set_foc {Q : Unit → Shared → Prop} (F : Fr h₀ L s.heap m) (X₀ : K.In h₀) (N : News h₀ L s.heap led) (hx : (x, instObj C dx) ∈ led) (hd : (dx, dictOf es n) ∈ led)
    (hs : findIn K (.ref C) "__setattr__" = some (some (.builtin "object.__setattr__"))) (hp : plainOver K C = true) (ht : takerIn K C name = some none) (hh : hasDictIn K C = true) (hl : (getL name es).isSome = true)
    (e : (putL name (PyData.keyHash w.params name) (.str name (s.toks + 1)) v es, putN name es n) = (es', n')) (hz : es'.length ≤ 1000)
    (h : ∀ h', Fr h₀ L h' m → News h₀ L h' (foc dx (dictOf es' n') led) → Q () { s with heap := h', toks := s.toks + 2 }) :
    wpAny (model prog w) A (setAttr (.ref x) name v) Q E s :=
  set_dict F X₀ (foc_news N hd) (InstAt.of_news N hx hd) rfl hs hp ht hh hl e foc_upd hz h
end

theorem RowsAt.lift {led led' : List (Addr × Obj)} {rows : List Addr} {M : List (List Int)} {d : Addr} (h : RowsAt led rows M) (hd : d ∉ rows) (hs : ∀ p ∈ led, p.1 ≠ d → p ∈ led') : RowsAt led' rows M :=
  ⟨h.1, fun i hi => ⟨(fun ⟨vs, n, hm, hv⟩ => ⟨vs, n, hs _ hm (fun e => hd (by rw [← show rows.getD i 0 = d from e]; exact getD_mem (by rw [h.1]; exact hi))), hv⟩) (h.2 i hi).1, (h.2 i hi).2⟩⟩
theorem off1_ne {D : Addr} : ∀ {nx : List (Addr × Obj)}, LCg.Off1 D nx → ∀ p ∈ nx, p.1 ≠ D
  | [], _, _, h => nomatch h
  | q :: r, hl, p, h => by
    rcases List.mem_cons.mp h with rfl | h
    · exact hl.1
    · exact off1_ne hl.2 p h
theorem ASt.make {base news nx nx2 nx3 : List (Addr × Obj)} {x dx D1 D2 D3 : Addr} {q1 q2 : Int} {k1 k2 : Tok} {rE rD : List Addr} {KE KD : List (List Int)} {vs : List Value} {tk : List Int} {n : Nat} {e1 e2 : List DictEntry} {m1 m2 : Nat}
    (hx : (x, instObj 116 dx) ∈ base) (hd : (dx, dictOf [] 0) ∈ base) (hxd : x ≠ dx) (hn : ∀ p ∈ news, p ∈ base) (l1 : ∀ p ∈ news, p.1 ≠ dx) (l2 : ∀ p ∈ news, p.1 ≠ x)
    (hsE : ∀ p ∈ base, p ∈ nx) (hRE : RowsAt nx rE KE) (hnE : rE.Nodup) (hfE : ∀ p ∈ base, ∀ a ∈ rE, (@Ne Nat p.1 a)) (hmE : ∀ a ∈ rE, ∃ o, (a, o) ∈ nx) (o1 : ∀ p ∈ nx, p.1 ≠ D1)
    (hsD : ∀ p ∈ foc dx (dictOf e1 m1) ((D1, LCg.lst (rE.map Value.ref)) :: nx), p ∈ nx2) (hRD : RowsAt nx2 rD KD) (hnD : rD.Nodup) (hfD : ∀ p ∈ foc dx (dictOf e1 m1) ((D1, LCg.lst (rE.map Value.ref)) :: nx), ∀ a ∈ rD, (@Ne Nat p.1 a)) (hmD : ∀ a ∈ rD, ∃ o, (a, o) ∈ nx2) (o2 : ∀ p ∈ nx2, p.1 ≠ D2)
    (hs3 : ∀ p ∈ foc dx (dictOf [⟨q1, .str (Str.ofString "_Ke") k1, .ref D1⟩, ⟨q2, .str (Str.ofString "_Kd") k2, .ref D2⟩] 2) ((D2, LCg.lst (rD.map Value.ref)) :: nx2), p ∈ nx3) (o3 : ∀ p ∈ nx3, p.1 ≠ D3) (hv : IntsAre vs tk) :
    ASt ((D3, listOf vs.toArray n) :: nx3) news x dx D1 D2 D3 q1 q2 k1 k2 (rE.map Value.ref).length (rD.map Value.ref).length rE rD KE KD tk := by
  have up12 : ∀ p ∈ (D1, LCg.lst (rE.map Value.ref)) :: nx, p.1 ≠ dx → p ∈ nx2 := fun p hp h => hsD p (foc_mem hp h)
  have up23 : ∀ p ∈ (D2, LCg.lst (rD.map Value.ref)) :: nx2, p.1 ≠ dx → p ∈ nx3 := fun p hp h => hs3 p (foc_mem hp h)
  have up13 : ∀ p ∈ (D1, LCg.lst (rE.map Value.ref)) :: nx, p.1 ≠ dx → p ∈ nx3 := fun p hp h => up23 p (.tail _ (up12 p hp h)) h
  have dE : dx ∉ rE := fun h => hfE _ hd dx h rfl
  have dD : dx ∉ rD := fun h => hfD _ foc_here dx h rfl
  have d1 : dx ≠ D1 := o1 _ (hsE _ hd)
  have d2 : dx ≠ D2 := o2 _ (hsD _ foc_here)
  have d3 : dx ≠ D3 := o3 _ (hs3 _ foc_here)
  have x1 : x ≠ D1 := o1 _ (hsE _ hx)
  have x2' : (x, instObj 116 dx) ∈ nx2 := up12 _ (.tail _ (hsE _ hx)) hxd
  have x3' : (x, instObj 116 dx) ∈ nx3 := up13 _ (.tail _ (hsE _ hx)) hxd
  have x2 : x ≠ D2 := o2 _ x2'
  have x3 : x ≠ D3 := o3 _ x3'
  have k12' : (D1, LCg.lst (rE.map Value.ref)) ∈ nx2 := up12 _ (.head _) (Ne.symm d1)
  have k13' : (D1, LCg.lst (rE.map Value.ref)) ∈ nx3 := up13 _ (.head _) (Ne.symm d1)
  have k23' : (D2, LCg.lst (rD.map Value.ref)) ∈ nx3 := up23 _ (.head _) (Ne.symm d2)
  have k12 : D1 ≠ D2 := o2 _ k12'
  have k13 : D1 ≠ D3 := o3 _ k13'
  have k23 : D2 ≠ D3 := o3 _ k23'
  have E1 : ∀ a ∈ rE, a ≠ dx ∧ a ≠ x ∧ a ≠ D1 ∧ a ≠ D2 ∧ a ≠ D3 ∧ a ∉ rD := fun a ha => by
    obtain ⟨o, ho⟩ := hmE a ha
    have ad : a ≠ dx := fun e => dE (e ▸ ha)
    refine ⟨ad, fun e => hfE _ hx a ha e.symm, o1 _ ho, o2 _ (up12 _ (.tail _ ho) ad), o3 _ (up13 _ (.tail _ ho) ad), fun h => hfD _ (foc_mem (List.mem_cons_of_mem _ ho) ad) a h rfl⟩
  have E2 : ∀ a ∈ rD, a ≠ dx ∧ a ≠ x ∧ a ≠ D1 ∧ a ≠ D2 ∧ a ≠ D3 := fun a ha => by
    obtain ⟨o, ho⟩ := hmD a ha
    have ad : a ≠ dx := fun e => dD (e ▸ ha)
    exact ⟨ad, fun e => hfD _ (foc_mem (List.mem_cons_of_mem _ (hsE _ hx)) hxd) a ha e.symm, fun e => hfD _ (foc_mem (List.mem_cons_self ..) (Ne.symm d1)) a ha e.symm, o2 _ ho, o3 _ (up23 _ (.tail _ ho) ad)⟩
  refine ⟨.tail _ x3', .tail _ (hs3 _ foc_here), .tail _ k13', .tail _ k23', (hRE.lift dE fun p hp h => .tail _ (up13 p (.tail _ hp) h)), (hRD.lift dD fun p hp h => .tail _ (up23 p (.tail _ hp) h)), ⟨vs, n, .head _, hv⟩, fun p hp => .tail _ (up13 p (.tail _ (hsE _ (hn p hp))) (l1 p hp)), ?_, ?_⟩
  · simp only [List.nodup_cons, List.mem_cons, List.mem_append, not_or, List.nodup_append]
    refine ⟨⟨Ne.symm x3, Ne.symm d3, Ne.symm k13, Ne.symm k23, fun h => (E1 _ h).2.2.2.2.1 rfl, fun h => (E2 _ h).2.2.2.2 rfl⟩, ⟨hxd, x1, x2, fun h => (E1 _ h).2.1 rfl, fun h => (E2 _ h).2.1 rfl⟩, ⟨d1, d2, dE, dD⟩, ⟨k12, fun h => (E1 _ h).2.2.1 rfl, fun h => (E2 _ h).2.2.1 rfl⟩, ⟨fun h => (E1 _ h).2.2.2.1 rfl, fun h => (E2 _ h).2.2.2.1 rfl⟩, hnE, hnD, fun a ha b hb e => (E1 a ha).2.2.2.2.2 (e ▸ hb)⟩
  · intro p hp a ha
    have hp1 := hsE _ (hn p hp)
    have hpd := l1 p hp
    have hp2 := up12 _ (.tail _ hp1) hpd
    have hp3 := up13 _ (.tail _ hp1) hpd
    simp only [List.mem_cons, List.mem_append] at ha
    rcases ha with rfl | rfl | rfl | rfl | rfl | ha | ha
    · exact o3 _ hp3
    · exact l2 p hp
    · exact hpd
    · exact o1 _ hp1
    · exact o2 _ hp2
    · exact hfE _ (hn p hp) a ha
    · exact hfD _ (foc_mem (List.mem_cons_of_mem _ hp1) hpd) a ha

theorem getD_of_mem {rows : List Addr} {a : Addr} (h : a ∈ rows) : ∃ i, i < rows.length ∧ rows.getD i 0 = a := by
  obtain ⟨i, hi, e⟩ := List.getElem_of_mem h
  exact ⟨i, hi, by rw [List.getD_eq_getElem?_getD, List.getElem?_eq_getElem hi]; exact e⟩
theorem RowsAt.adr {led : List (Addr × Obj)} {rows : List Addr} {M : List (List Int)} (h : RowsAt led rows M) {a : Addr} (ha : a ∈ rows) : ∃ o, (a, o) ∈ led := by
  obtain ⟨i, hi, rfl⟩ := getD_of_mem ha
  obtain ⟨⟨vs, n, hm, _⟩, _⟩ := h.2 i (by rw [← h.1]; exact hi)
  exact ⟨_, hm⟩
section
variable {led news : List (Addr × Obj)} {x dx kel kdl tkl : Addr} {q1 q2 : Int} {k1 k2 : Tok} {ne nd n : Nat} {rE rD : List Addr} {KE KD : List (List Int)} {tk : List Int} {v : Int} {u : Tok} {vs : List Value} {q c : Nat} {I : Addr} {it : Obj}
theorem ASt.adr (A : ASt led news x dx kel kdl tkl q1 q2 k1 k2 ne nd rE rD KE KD tk) {a : Addr} (ha : a ∈ tkl :: x :: dx :: kel :: kdl :: (rE ++ rD)) : ∃ o, (a, o) ∈ led := by
  simp only [List.mem_cons, List.mem_append] at ha
  rcases ha with rfl | rfl | rfl | rfl | rfl | ha | ha
  · obtain ⟨vs, n, hm, _⟩ := A.htk; exact ⟨_, hm⟩
  · exact ⟨_, A.hx⟩
  · exact ⟨_, A.hdx⟩
  · exact ⟨_, A.hke⟩
  · exact ⟨_, A.hkd⟩
  · exact A.rowsE.adr ha
  · exact A.rowsD.adr ha
/-- the loop's iterator among what stays -/
theorem ASt.push (A : ASt led news x dx kel kdl tkl q1 q2 k1 k2 ne nd rE rD KE KD tk) (off : ∀ p ∈ led, p.1 ≠ I) : ASt ((I, it) :: led) ((I, it) :: news) x dx kel kdl tkl q1 q2 k1 k2 ne nd rE rD KE KD tk := by
  have A' := A.mono (led' := (I, it) :: led) (fun p hp => .tail _ hp)
  refine ⟨A'.hx, A'.hdx, A'.hke, A'.hkd, A'.rowsE, A'.rowsD, A'.htk, ?_, A'.nd, ?_⟩
  · intro p hp
    rcases List.mem_cons.mp hp with rfl | hp
    · exact .head _
    · exact .tail _ (A.sub p hp)
  · intro p hp a ha
    rcases List.mem_cons.mp hp with rfl | hp
    · obtain ⟨o, ho⟩ := A.adr ha
      exact fun e => off _ ho (Eq.symm e)
    · exact A.fresh p hp a ha
/-- and taken out again -/
theorem ASt.pop (A : ASt led ((I, it) :: news) x dx kel kdl tkl q1 q2 k1 k2 ne nd rE rD KE KD tk) (off : ∀ p ∈ news, p.1 ≠ I) : ASt (led.filter fun p => p.1 != I) news x dx kel kdl tkl q1 q2 k1 k2 ne nd rE rD KE KD tk := by
  have ne : ∀ a ∈ tkl :: x :: dx :: kel :: kdl :: (rE ++ rD), a ≠ I := fun a ha e => A.fresh (I, it) (.head _) a ha (Eq.symm e)
  have key : ∀ {a : Addr} {o : Obj}, a ≠ I → (a, o) ∈ led → (a, o) ∈ led.filter fun p => p.1 != I := fun h hm => List.mem_filter.mpr ⟨hm, by simpa using h⟩
  have up : ∀ p ∈ led, p.1 ≠ I → p ∈ led.filter fun p => p.1 != I := fun p hp h => List.mem_filter.mpr ⟨hp, by simpa using h⟩
  have hE : I ∉ rE := fun h => ne I (by simp [h]) rfl
  have hD : I ∉ rD := fun h => ne I (by simp [h]) rfl
  refine ⟨key (ne _ (by simp)) A.hx, key (ne _ (by simp)) A.hdx, key (ne _ (by simp)) A.hke, key (ne _ (by simp)) A.hkd, A.rowsE.lift hE up, A.rowsD.lift hD up, ?_, fun p hp => up p (A.sub p (.tail _ hp)) (off p hp), A.nd, fun p hp => A.fresh p (.tail _ hp)⟩
  obtain ⟨vs, n, hm, hi⟩ := A.htk
  exact ⟨vs, n, key (ne _ (by simp)) hm, hi⟩
theorem ASt.next {h₀ h' : Heap} {L : Addr} {m' : Str → Option Value} {s₁ : Shared} {tk' : Nat} {J : (Str → Option Value) → List (Addr × Obj) → Prop} {Q : Flow → Shared → Prop} (F : Fr h₀ L h' m') (N : News h₀ L h' led) (A : ASt led ((I, it) :: news) x dx kel kdl tkl q1 q2 k1 k2 ne nd rE rD KE KD tk) (off : ∀ p ∈ news, p.1 ≠ I)
   (r : ∀ nx, ASt nx news x dx kel kdl tkl q1 q2 k1 k2 ne nd rE rD KE KD tk → J m' nx) : RPost h₀ L s₁ I it J Q .next { s₁ with heap := h', toks := tk' } := by
  refine RPost.next F N (led.filter fun p => p.1 != I) ?_ ?_ (r _ (A.pop off))
  · intro p hp
    rcases List.mem_cons.mp hp with rfl | hp
    · exact A.sub _ (.head _)
    · exact (List.mem_filter.mp hp).1
  · intro p hp
    have := (List.mem_filter.mp hp).2
    simpa using this
end
section
variable {prog : Program} {w : World} {Ar : Around} {E : Value → Shared → Prop} {s : Shared} {h₀ : Heap} {L : Addr} {m : Str → Option Value} {led news : List (Addr × Obj)} {x dx kel kdl tkl : Addr} {q1 q2 : Int} {k1 k2 : Tok} {ne nd n : Nat} {rE rD : List Addr} {KE KD : List (List Int)} {tk : List Int} {expr : Bool} {value slice : Expr} {k v : Int} {t u : Tok} {Q : Value → Shared → Prop}
theorem ast_Ke (F : Fr h₀ L s.heap m) (X : (Mine.hd.heap_39 w.params).In h₀) (N : News h₀ L s.heap led) (A : ASt led news x dx kel kdl tkl q1 q2 k1 k2 ne nd rE rD KE KD tk) (h : ∀ k, Q (.ref kel) { s with toks := k }) : wpAny (model prog w) Ar (getAttr (.ref x) (Str.ofString "_Ke") expr) Q E s :=
  get_own (C := 116) (attr := none) F X (InstAt.of_news N A.hx A.hdx) (by kernel_rfl) (by kernel_rfl) (by kernel_rfl) (by kernel_rfl) (by rfl) (by rfl) (h _)
theorem ast_Kd (F : Fr h₀ L s.heap m) (X : (Mine.hd.heap_39 w.params).In h₀) (N : News h₀ L s.heap led) (A : ASt led news x dx kel kdl tkl q1 q2 k1 k2 ne nd rE rD KE KD tk) (h : ∀ k, Q (.ref kdl) { s with toks := k }) : wpAny (model prog w) Ar (getAttr (.ref x) (Str.ofString "_Kd") expr) Q E s :=
  get_own (C := 116) (attr := none) F X (InstAt.of_news N A.hx A.hdx) (by kernel_rfl) (by kernel_rfl) (by kernel_rfl) (by kernel_rfl) (by kernel_rfl) (by rfl) (h _)
theorem ast_tab {name : Str} {a : Addr} (F : Fr h₀ L s.heap m) (X : (Mine.hd.heap_39 w.params).In h₀) (N : News h₀ L s.heap led) (A : ASt led news x dx kel kdl tkl q1 q2 k1 k2 ne nd rE rD KE KD tk)
   (hg : plainGet (Mine.hd.heap_39 w.params) 116 name = true) (ha : findIn (Mine.hd.heap_39 w.params) (.ref 116) name = some (some (.ref a))) (hn : specialIn (Mine.hd.heap_39 w.params) (.ref a) "__get__" = some none) (hc : copiedNames.contains name = false)
   (hl : getL name [⟨q1, .str (Str.ofString "_Ke") k1, .ref kel⟩, ⟨q2, .str (Str.ofString "_Kd") k2, .ref kdl⟩] = some none)
   (h : ∀ k, Q (.ref a) { s with toks := k }) : wpAny (model prog w) Ar (getAttr (.ref x) name expr) Q E s :=
  get_cls (C := 116) F X (InstAt.of_news N A.hx A.hdx) hg (by kernel_rfl) ha hn (by rfl) hc hl (h _)
theorem ast_S (F : Fr h₀ L s.heap m) (X : (Mine.hd.heap_39 w.params).In h₀) (N : News h₀ L s.heap led) (A : ASt led news x dx kel kdl tkl q1 q2 k1 k2 ne nd rE rD KE KD tk) (h : ∀ k, Q (.ref 59) { s with toks := k }) : wpAny (model prog w) Ar (getAttr (.ref x) (Str.ofString "S") expr) Q E s :=
  ast_tab F X N A (by kernel_rfl) (by kernel_rfl) (by kernel_rfl) (by decide +kernel) (by rfl) h
theorem ast_rcon (F : Fr h₀ L s.heap m) (X : (Mine.hd.heap_39 w.params).In h₀) (N : News h₀ L s.heap led) (A : ASt led news x dx kel kdl tkl q1 q2 k1 k2 ne nd rE rD KE KD tk) (h : ∀ k, Q (.ref 56) { s with toks := k }) : wpAny (model prog w) Ar (getAttr (.ref x) (Str.ofString "rcon") expr) Q E s :=
  ast_tab F X N A (by kernel_rfl) (by kernel_rfl) (by kernel_rfl) (by decide +kernel) (by rfl) h
theorem ast_U1 (F : Fr h₀ L s.heap m) (X : (Mine.hd.heap_39 w.params).In h₀) (N : News h₀ L s.heap led) (A : ASt led news x dx kel kdl tkl q1 q2 k1 k2 ne nd rE rD KE KD tk) (h : ∀ k, Q (.ref 89) { s with toks := k }) : wpAny (model prog w) Ar (getAttr (.ref x) (Str.ofString "U1") expr) Q E s :=
  ast_tab F X N A (by kernel_rfl) (by kernel_rfl) (by kernel_rfl) (by decide +kernel) (by rfl) h
theorem ast_U2 (F : Fr h₀ L s.heap m) (X : (Mine.hd.heap_39 w.params).In h₀) (N : News h₀ L s.heap led) (A : ASt led news x dx kel kdl tkl q1 q2 k1 k2 ne nd rE rD KE KD tk) (h : ∀ k, Q (.ref 92) { s with toks := k }) : wpAny (model prog w) Ar (getAttr (.ref x) (Str.ofString "U2") expr) Q E s :=
  ast_tab F X N A (by kernel_rfl) (by kernel_rfl) (by kernel_rfl) (by decide +kernel) (by rfl) h
theorem ast_U3 (F : Fr h₀ L s.heap m) (X : (Mine.hd.heap_39 w.params).In h₀) (N : News h₀ L s.heap led) (A : ASt led news x dx kel kdl tkl q1 q2 k1 k2 ne nd rE rD KE KD tk) (h : ∀ k, Q (.ref 95) { s with toks := k }) : wpAny (model prog w) Ar (getAttr (.ref x) (Str.ofString "U3") expr) Q E s :=
  ast_tab F X N A (by kernel_rfl) (by kernel_rfl) (by kernel_rfl) (by decide +kernel) (by rfl) h
theorem ast_U4 (F : Fr h₀ L s.heap m) (X : (Mine.hd.heap_39 w.params).In h₀) (N : News h₀ L s.heap led) (A : ASt led news x dx kel kdl tkl q1 q2 k1 k2 ne nd rE rD KE KD tk) (h : ∀ k, Q (.ref 98) { s with toks := k }) : wpAny (model prog w) Ar (getAttr (.ref x) (Str.ofString "U4") expr) Q E s :=
  ast_tab F X N A (by kernel_rfl) (by kernel_rfl) (by kernel_rfl) (by decide +kernel) (by rfl) h
theorem ast_itemE (N : News h₀ L s.heap led) (A : ASt led news x dx kel kdl tkl q1 q2 k1 k2 ne nd rE rD KE KD tk) (h0 : 0 ≤ k) (h1 : k < KE.length) (hz : KE.length ≤ 15) (h : Q (.ref (rE.getD k.toNat 0)) s)
    (hs : subscripted slice false (.ref kel) (.int k u) = operate [.ref kel, .int k u] (getItem (.ref kel) (.int k u)) := by with_unfolding_all rfl) :
    wpAny (model prog w) Ar (subscriptTail value slice (.ref kel) (.int k u)) Q E s :=
  item_rows N A.hke h0 (by rw [A.rowsE.1]; exact h1) (by lia) h hs
theorem ast_itemD (N : News h₀ L s.heap led) (A : ASt led news x dx kel kdl tkl q1 q2 k1 k2 ne nd rE rD KE KD tk) (h0 : 0 ≤ k) (h1 : k < KD.length) (hz : KD.length ≤ 15) (h : Q (.ref (rD.getD k.toNat 0)) s)
    (hs : subscripted slice false (.ref kdl) (.int k u) = operate [.ref kdl, .int k u] (getItem (.ref kdl) (.int k u)) := by with_unfolding_all rfl) :
    wpAny (model prog w) Ar (subscriptTail value slice (.ref kdl) (.int k u)) Q E s :=
  item_rows N A.hkd h0 (by rw [A.rowsD.1]; exact h1) (by lia) h hs
theorem ast_rowD {i : Nat} (N : News h₀ L s.heap led) (A : ASt led news x dx kel kdl tkl q1 q2 k1 k2 ne nd rE rD KE KD tk) (hi : i < KD.length) (h0 : 0 ≤ k) (h1 : k < 4) (h : ∀ t, Q (.int ((KD.getD i []).getD k.toNat 0) t) s)
    (hs : subscripted slice false (.ref (rD.getD i 0)) (.int k u) = operate [.ref (rD.getD i 0), .int k u] (getItem (.ref (rD.getD i 0)) (.int k u)) := by with_unfolding_all rfl) :
    wpAny (model prog w) Ar (subscriptTail value slice (.ref (rD.getD i 0)) (.int k u)) Q E s :=
  item_IL N (A.rowsD.2 i hi).1 h0 (by rw [(A.rowsD.2 i hi).2]; lia) (by lia) h hs
theorem ast_tk (N : News h₀ L s.heap led) (A : ASt led news x dx kel kdl tkl q1 q2 k1 k2 ne nd rE rD KE KD tk) (h0 : 0 ≤ k) (h1 : k < tk.length) (hz : tk.length ≤ 8) (h : ∀ t, Q (.int (tk.getD k.toNat 0) t) s)
    (hs : subscripted slice false (.ref tkl) (.int k u) = operate [.ref tkl, .int k u] (getItem (.ref tkl) (.int k u)) := by with_unfolding_all rfl) :
    wpAny (model prog w) Ar (subscriptTail value slice (.ref tkl) (.int k u)) Q E s :=
  item_IL N A.htk h0 h1 (by lia) h hs
theorem ast_setE {Q : Unit → Shared → Prop} {q : Nat} (F : Fr h₀ L s.heap m) (N : News h₀ L s.heap led) (A : ASt led news x dx kel kdl tkl q1 q2 k1 k2 ne nd rE rD KE KD tk) (hq : q < KE.length) (h0 : 0 ≤ k) (h4 : k < 4)
   (h : ∀ h' led', Fr h₀ L h' m → News h₀ L h' led' → ASt led' news x dx kel kdl tkl q1 q2 k1 k2 ne nd rE rD (mset KE q k.toNat v) KD tk → Q () { s with heap := h' }) :
   wpAny (model prog w) Ar (setItem (.ref (rE.getD q 0)) (.int k t) (.int v u)) Q E s := by
  obtain ⟨⟨vs, n, hm, hi⟩, hl⟩ := A.rowsE.2 q hq
  exact set_IL F (foc_news N hm) foc_upd hi h0 (by rw [hl]; lia) (by lia) fun h' F' N' _ => h h' _ F' N' (A.setE hq hi)
theorem ast_setD {Q : Unit → Shared → Prop} {q : Nat} (F : Fr h₀ L s.heap m) (N : News h₀ L s.heap led) (A : ASt led news x dx kel kdl tkl q1 q2 k1 k2 ne nd rE rD KE KD tk) (hq : q < KD.length) (h0 : 0 ≤ k) (h4 : k < 4)
   (h : ∀ h' led', Fr h₀ L h' m → News h₀ L h' led' → ASt led' news x dx kel kdl tkl q1 q2 k1 k2 ne nd rE rD KE (mset KD q k.toNat v) tk → Q () { s with heap := h' }) :
   wpAny (model prog w) Ar (setItem (.ref (rD.getD q 0)) (.int k t) (.int v u)) Q E s := by
  obtain ⟨⟨vs, n, hm, hi⟩, hl⟩ := A.rowsD.2 q hq
  exact set_IL F (foc_news N hm) foc_upd hi h0 (by rw [hl]; lia) (by lia) fun h' F' N' _ => h h' _ F' N' (A.setD hq hi)
theorem ast_setT {Q : Unit → Shared → Prop} (F : Fr h₀ L s.heap m) (N : News h₀ L s.heap led) (A : ASt led news x dx kel kdl tkl q1 q2 k1 k2 ne nd rE rD KE KD tk) (h0 : 0 ≤ k) (h1 : k < tk.length) (hz : tk.length ≤ 8)
   (h : ∀ h' led', Fr h₀ L h' m → News h₀ L h' led' → ASt led' news x dx kel kdl tkl q1 q2 k1 k2 ne nd rE rD KE KD (tk.set k.toNat v) → Q () { s with heap := h' }) :
   wpAny (model prog w) Ar (setItem (.ref tkl) (.int k t) (.int v u)) Q E s := by
  obtain ⟨vs, n, hm, hi⟩ := A.htk
  exact set_IL F (foc_news N hm) foc_upd hi h0 h1 (by lia) fun h' F' N' hi' => h h' _ F' N' (A.setT hi')
theorem item_rcon (F : Fr h₀ L s.heap m) (X : (Mine.hd.heap_39 w.params).In h₀) (h0 : 0 ≤ k) (h1 : k < 30) (h : ∀ t, Q (.int ((tab w.params 56).getD k.toNat 0) t) s)
    (hs : subscripted slice false (.ref 56) (.int k u) = operate [.ref 56, .int k u] (getItem (.ref 56) (.int k u)) := by with_unfolding_all rfl) :
    wpAny (model prog w) Ar (subscriptTail value slice (.ref 56) (.int k u)) Q E s :=
  item_tab F X (tab_rcon _) h0 h1 (by decide) h hs
end
/-- the words of the key -/
def tk0 (ks : List Int) : List Int := (List.range (ks.length / 4)).map fun i => sval ((ks.drop (4 * i)).take 4)
theorem tk0_len (ks : List Int) : (tk0 ks).length = ks.length / 4 := by simp [tk0]
/-- j words copied into the table from the place t on -/
def cps (KE : List (List Int)) (tk : List Int) (t : Nat) : Nat → List (List Int)
  | 0 => KE
  | j + 1 => mset (cps KE tk t j) ((t + j) / 4) ((t + j) % 4) (tk.getD j 0)
theorem cps_len {KE : List (List Int)} {tk : List Int} {t j : Nat} : (cps KE tk t j).length = KE.length := by
  induction j with
  | zero => rfl
  | succ j ih => exact mset_len.trans ih
/-- each word with the one before it -/
def xs (a : Nat) (tk : List Int) : Nat → List Int
  | 0 => tk
  | i + 1 => (xs a tk i).set (a + i) (Builtin.bitXor ((xs a tk i).getD (a + i) 0) ((xs a tk i).getD (a + i - 1) 0))
theorem xs_len {a i : Nat} {tk : List Int} : (xs a tk i).length = tk.length := by
  induction i with
  | zero => rfl
  | succ i ih => exact List.length_set.trans ih
noncomputable def gS (P : Params) (i : Int) : Int := (tab P 59).getD (Builtin.bitAnd i 255).toNat 0
noncomputable def tkX (P : Params) (tt : Int) (r : Nat) : Int :=
  Builtin.bitXor (Builtin.bitXor (Builtin.bitXor (Builtin.bitXor (gS P (tt.fdiv (2 ^ 16)) * 2 ^ 24) (gS P (tt.fdiv (2 ^ 8)) * 2 ^ 16)) (gS P tt * 2 ^ 8)) (gS P (tt.fdiv (2 ^ 24)))) ((tab P 56).getD r 0 * 2 ^ 24)
noncomputable def tkY (P : Params) (tt : Int) : Int :=
  Builtin.bitXor (Builtin.bitXor (Builtin.bitXor (gS P tt) (gS P (tt.fdiv (2 ^ 8)) * 2 ^ 8)) (gS P (tt.fdiv (2 ^ 16)) * 2 ^ 16)) (gS P (tt.fdiv (2 ^ 24)) * 2 ^ 24)
noncomputable def rot (P : Params) (K : Nat) (tk : List Int) (r : Nat) : List Int := tk.set 0 (Builtin.bitXor (tk.getD 0 0) (tkX P (tk.getD (K - 1) 0) r))
noncomputable def mid8 (P : Params) (u : List Int) : List Int := u.set 4 (Builtin.bitXor (u.getD 4 0) (tkY P (u.getD 3 0)))
/-- the words of the key, turned -/
noncomputable def tkTurn (P : Params) (K : Nat) (tk : List Int) (r : Nat) : List Int := if K = 8 then xs 5 (mid8 P (xs 1 (rot P K tk r) 3)) 3 else xs 1 (rot P K tk r) (K - 1)
theorem rot_len {P : Params} {K r : Nat} {tk : List Int} : (rot P K tk r).length = tk.length := List.length_set
theorem mid8_len {P : Params} {u : List Int} : (mid8 P u).length = u.length := List.length_set
theorem tkTurn_len {P : Params} {K r : Nat} {tk : List Int} : (tkTurn P K tk r).length = tk.length := by
  unfold tkTurn
  split
  · rw [xs_len, mid8_len, xs_len, rot_len]
  · rw [xs_len, rot_len]
/-- the table and the words after f turns -/
noncomputable def stp (P : Params) (ks : List Int) : Nat → List (List Int) × List Int
  | 0 => (cps (List.replicate (ks.length / 4 + 7) [0, 0, 0, 0]) (tk0 ks) 0 (ks.length / 4), tk0 ks)
  | f + 1 => (cps (stp P ks f).1 (tkTurn P (ks.length / 4) (stp P ks f).2 f) (ks.length / 4 * (1 + f)) (min (ks.length / 4) (4 * (ks.length / 4 + 7) - ks.length / 4 * (1 + f))), tkTurn P (ks.length / 4) (stp P ks f).2 f)
def nf (K : Nat) : Nat := if K = 4 then 10 else if K = 6 then 8 else 7
/-- the round keys of a key -/
noncomputable def keOf (P : Params) (ks : List Int) : List (List Int) := (stp P ks (nf (ks.length / 4))).1
theorem stp_len2 {P : Params} {ks : List Int} {f : Nat} : (stp P ks f).2.length = ks.length / 4 := by
  induction f with
  | zero => exact tk0_len ks
  | succ f ih => exact tkTurn_len.trans ih
theorem stp_len1 {P : Params} {ks : List Int} {f : Nat} : (stp P ks f).1.length = ks.length / 4 + 7 := by
  induction f with
  | zero => exact cps_len.trans List.length_replicate
  | succ f ih => exact cps_len.trans ih
theorem keOf_len {P : Params} {ks : List Int} : (keOf P ks).length = ks.length / 4 + 7 := stp_len1
section
variable {prog : Program} {w : World} {A : Around} {E : Value → Shared → Prop} {s : Shared} {a b : Int} {t u : Tok} {Q : Value → Shared → Prop}
theorem div_pos (hb : 0 < b) (hp : b.natAbs.log2 < 9000) (h : Q (.int (a / b) s.toks) { s with toks := s.toks + 1 }) : wpAny (model prog w) A (binaryOp .FloorDiv (.int a t) (.int b u)) Q E s :=
  floordiv_int (by lia) (by rw [Int.fdiv_eq_ediv_of_nonneg _ (by lia)]; exact h) (Or.inl (PyProof.noPylong_of_log2 hp))
end

theorem rs_mul {n c : Nat} (hc : 1 ≤ c) : Builtin.Range.rangeSize 0 ((n : Int) * (c : Int)) c = (n : Int) := by
  rw [PyProof.Rows.rangeSize_pos (by lia) (Int.mul_nonneg (by lia) (by lia))]
  rw [show (n : Int) * c + c - 1 = ((c : Int) - 1) + n * c by lia, Int.add_mul_ediv_right _ _ (by lia), Int.ediv_eq_zero_of_lt (by lia) (by lia)]
  lia
theorem small_step {n c : Nat} (hc : 1 ≤ c) (h : n * c ≤ 1048576) (hc2 : c ≤ 1048576) : Builtin.Range.small 0 ((n : Int) * (c : Int)) c = true := by
  unfold Builtin.Range.small
  rw [rs_mul hc]
  have h1 : n ≤ n * c := Nat.le_mul_of_pos_right n hc
  have h2 : (n : Int) * (c : Int) = ((n * c : Nat) : Int) := by push_cast; rfl
  rw [h2]
  simp only [Builtin.Range.rangeFitsLong, Bool.and_eq_true, Bool.or_eq_true, decide_eq_true_eq, beq_iff_eq, show (c : Int) > 0 by lia, if_true]
  lia
theorem rs4 {n m : Nat} (h : m = 4 * n) : Builtin.Range.rangeSize 0 (m : Int) 4 = (n : Int) := by
  have := rs_mul (n := n) (c := 4) (by lia)
  rw [show (m : Int) = (n : Int) * ((4 : Nat) : Int) by lia]
  exact this
theorem small4 {n m : Nat} (h : m = 4 * n) (hn : n ≤ 8) : Builtin.Range.small 0 (m : Int) 4 = true := by
  have := small_step (n := n) (c := 4) (by lia) (by lia) (by lia)
  rw [show (m : Int) = (n : Int) * ((4 : Nat) : Int) by lia]
  exact this
/-- the names of the making of a cipher -/
def FrA (x : Addr) (R K : Nat) (tkl : Addr) (m : PySem.Str → Option Value) : Prop :=
  m (Str.ofString "self") = some (.ref x) ∧ (∃ t, m (Str.ofString "rounds") = some (.int (R : Int) t)) ∧ (∃ t, m (Str.ofString "round_key_count") = some (.int (((R : Int) + 1) * 4) t)) ∧ (∃ t, m (Str.ofString "KC") = some (.int (K : Int) t)) ∧ m (Str.ofString "tk") = some (.ref tkl)
theorem FrA.set {x tkl : Addr} {R K : Nat} {m : PySem.Str → Option Value} {y : PySem.Str} {v : Value} (h : FrA x R K tkl m) (h1 : Str.ofString "self" ≠ y) (h2 : Str.ofString "rounds" ≠ y) (h3 : Str.ofString "round_key_count" ≠ y) (h4 : Str.ofString "KC" ≠ y) (h5 : Str.ofString "tk" ≠ y) :
    FrA x R K tkl (fun z => if z = y then some v else m z) := by
  obtain ⟨a, ⟨tb, b⟩, ⟨tc, c⟩, ⟨td, d⟩, e⟩ := h
  exact ⟨rd_ne h1 a, ⟨tb, rd_ne h2 b⟩, ⟨tc, rd_ne h3 c⟩, ⟨td, rd_ne h4 d⟩, rd_ne h5 e⟩

theorem stp0 {P : Params} {ks : List Int} {K : Nat} (h : ks.length / 4 = K) : stp P ks 0 = (cps (List.replicate (K + 7) [0, 0, 0, 0]) (tk0 ks) 0 K, tk0 ks) := by subst h; rfl
theorem stpS {P : Params} {ks : List Int} {K f : Nat} (h : ks.length / 4 = K) : stp P ks (f + 1) = (cps (stp P ks f).1 (tkTurn P K (stp P ks f).2 f) (K * (1 + f)) (min K (4 * (K + 7) - K * (1 + f))), tkTurn P K (stp P ks f).2 f) := by subst h; rfl
/-- the place reached after f turns -/
def tAt (K f : Nat) : Nat := min (4 * (K + 7)) (K * (1 + f))
theorem tAt_lt {K f : Nat} (hK : K = 4 ∨ K = 6 ∨ K = 8) (h : tAt K f < 4 * (K + 7)) (hf : f ≤ nf K) : tAt K f = K * (1 + f) ∧ f + 1 ≤ nf K ∧ f < 10 ∧ tAt K (f + 1) = K * (1 + f) + min K (4 * (K + 7) - K * (1 + f)) ∧ K * (1 + f) < 60 ∧ 4 ≤ K * (1 + f) := by
  unfold tAt nf at *
  rcases hK with rfl | rfl | rfl <;> simp at hf ⊢ <;> lia
theorem tAt_ge {K f : Nat} (hK : K = 4 ∨ K = 6 ∨ K = 8) (h : ¬ tAt K f < 4 * (K + 7)) (hf : f ≤ nf K) : f = nf K ∧ tAt K f = 4 * (K + 7) := by
  unfold tAt nf at *
  rcases hK with rfl | rfl | rfl <;> simp at hf ⊢ <;> lia
theorem tAt_0 {K : Nat} : tAt K 0 = K := by unfold tAt; lia
section
variable {prog : Program} {w : World} {Ar : Around} {E : Value → Shared → Prop} {s : Shared} {h₀ : Heap} {L : Addr} {m : Str → Option Value} {led news : List (Addr × Obj)} {x dx kel kdl tkl : Addr} {q1 q2 : Int} {k1 k2 : Tok} {ne nd n : Nat} {rE rD : List Addr} {KE KD : List (List Int)} {tk : List Int} {k v : Int} {t u : Tok} {Q : Value → Shared → Prop}
theorem getItem_tk (N : News h₀ L s.heap led) (A : ASt led news x dx kel kdl tkl q1 q2 k1 k2 ne nd rE rD KE KD tk) (h0 : 0 ≤ k) (h1 : k < tk.length) (hz : tk.length ≤ 8) (h : ∀ t, Q (.int (tk.getD k.toNat 0) t) s) :
    wpAny (model prog w) Ar (getItem (.ref tkl) (.int k u)) Q E s := by
  obtain ⟨vs, n, hm, hi⟩ := A.htk
  have hlt : k.toNat < tk.length := by lia
  have e : tk[k.toNat]? = some (tk.getD k.toNat 0) := by rw [List.getD_eq_getElem?_getD, List.getElem?_eq_getElem hlt]; rfl
  obtain ⟨t, ht⟩ := hi.get _ _ e
  exact wpAny_getItem_list (News.isList N hm) h0 (by lia) (by simpa using ht) (h t)
end

theorem stepsP8 : True := by
  k_with "STEPSI" => (repeat' (first | (k_unfold; (try dsimp only)) | (((fail_if_success (with_reducible show wpAny _ _ (setAttr _ _ _) _ _ _)); (fail_if_success (with_reducible show wpAny _ _ (exec (Stmt.For _ _ _ _ _) _) _ _ _)); (fail_if_success (with_reducible show wpAny _ _ (exec (Stmt.While _ _ _ _) _) _ _ _)); (fail_if_success (with_reducible show wpAny _ _ (exec (Stmt.Assign _ (Expr.ListComp _ _ _ _) _) _) _ _ _)); (fail_if_success (with_reducible show wpAny _ _ (eval (Expr.ListComp _ _ _ _) _) _ _ _)); (fail_if_success (with_reducible show LCg.CompSrc _ _ _ _ _ _ _ _ _ _ _ _ _ _)); (fail_if_success (with_reducible show wpAny _ _ (pyIter _) _ _ _)); (fail_if_success (with_reducible show RPost _ _ _ _ _ _ _ _ _)); (fail_if_success (with_reducible show CPost _ _ _ _ _ _ _ _)); (fail_if_success (with_reducible show Exists _)); (fail_if_success (with_reducible show CPostJ _ _ _ _ _ _ _ _ _ _ _ _ _)); (fail_if_success (with_reducible show WhileStep2 _ _ _ _ _ _ _ _)); (fail_if_success (with_reducible show wpAny _ _ (exec (Stmt.If _ _ _ _) _) _ _ _)); first | walk1 | (dsimp only; walk1)) <;> ((try dsimp only [List.cons_append, List.nil_append]); (try k_fold)))))
  k_with "STEPSD" => (repeat' (first | (k_unfold; (try dsimp only)) | (((fail_if_success (with_reducible show wpAny _ _ (setAttr _ _ _) _ _ _)); (fail_if_success (with_reducible show wpAny _ _ (exec (Stmt.For _ _ _ _ _) _) _ _ _)); (fail_if_success (with_reducible show wpAny _ _ (exec (Stmt.While _ _ _ _) _) _ _ _)); (fail_if_success (with_reducible show wpAny _ _ (exec (Stmt.Assign _ (Expr.ListComp _ _ _ _) _) _) _ _ _)); (fail_if_success (with_reducible show wpAny _ _ (eval (Expr.ListComp _ _ _ _) _) _ _ _)); (fail_if_success (with_reducible show LCg.CompSrc _ _ _ _ _ _ _ _ _ _ _ _ _ _)); (fail_if_success (with_reducible show wpAny _ _ (pyIter _) _ _ _)); (fail_if_success (with_reducible show RPost _ _ _ _ _ _ _ _ _)); (fail_if_success (with_reducible show CPost _ _ _ _ _ _ _ _)); (fail_if_success (with_reducible show wpAny _ _ (subscriptTail (Expr.Attribute _ _ _) _ _ _) _ _ _)); first | walk1 | (dsimp only; walk1)) <;> ((try dsimp only [List.cons_append, List.nil_append]); (try k_fold)))))
  k_with "STEPSX" => (repeat' (first | (k_unfold; (try dsimp only)) | (((fail_if_success (with_reducible show wpAny _ _ (setAttr _ _ _) _ _ _)); (fail_if_success (with_reducible show wpAny _ _ (exec (Stmt.For _ _ _ _ _) _) _ _ _)); (fail_if_success (with_reducible show wpAny _ _ (exec (Stmt.While _ _ _ _) _) _ _ _)); (fail_if_success (with_reducible show wpAny _ _ (exec (Stmt.Assign _ (Expr.ListComp _ _ _ _) _) _) _ _ _)); (fail_if_success (with_reducible show wpAny _ _ (eval (Expr.ListComp _ _ _ _) _) _ _ _)); (fail_if_success (with_reducible show LCg.CompSrc _ _ _ _ _ _ _ _ _ _ _ _ _ _)); (fail_if_success (with_reducible show wpAny _ _ (pyIter _) _ _ _)); (fail_if_success (with_reducible show RPost _ _ _ _ _ _ _ _ _)); (fail_if_success (with_reducible show CPost _ _ _ _ _ _ _ _)); (fail_if_success (with_reducible show Exists _)); (fail_if_success (with_reducible show CPostJ _ _ _ _ _ _ _ _ _ _ _ _ _)); (fail_if_success (with_reducible show WhileStep2 _ _ _ _ _ _ _ _)); first | walk1 | (dsimp only; walk1)) <;> ((try dsimp only [List.cons_append, List.nil_append]); (try k_fold)))))
  k_with "STEPS" => (repeat' (first | (k_unfold; (try dsimp only)) | (((fail_if_success (with_reducible show wpAny _ _ (setAttr _ _ _) _ _ _)); (fail_if_success (with_reducible show wpAny _ _ (exec (Stmt.For _ _ _ _ _) _) _ _ _)); (fail_if_success (with_reducible show wpAny _ _ (exec (Stmt.While _ _ _ _) _) _ _ _)); (fail_if_success (with_reducible show wpAny _ _ (exec (Stmt.Assign _ (Expr.ListComp _ _ _ _) _) _) _ _ _)); (fail_if_success (with_reducible show wpAny _ _ (eval (Expr.ListComp _ _ _ _) _) _ _ _)); (fail_if_success (with_reducible show LCg.CompSrc _ _ _ _ _ _ _ _ _ _ _ _ _ _)); (fail_if_success (with_reducible show wpAny _ _ (pyIter _) _ _ _)); (fail_if_success (with_reducible show RPost _ _ _ _ _ _ _ _ _)); (fail_if_success (with_reducible show CPost _ _ _ _ _ _ _ _)); first | walk1 | (dsimp only; walk1)) <;> ((try dsimp only [List.cons_append, List.nil_append]); (try k_fold)))))
  exact trivial
theorem not_in_key {n : Nat} (h : n = 16 ∨ n = 24 ∨ n = 32) : ¬ ((!([16, 24, 32] : List Int).any fun x => x == (n : Int)) = true) := by
  rcases h with rfl | rfl | rfl <;> decide
section
local macro_rules | `(tactic| ktr_rel) => `(tactic| first | assumption | exact rd_eq | (refine' rd_ne ?rn ?rv; (case rn => decide); (case rv => ktr_rel)) | (refine' IL.here ?ih; (case ih => assumption)) | (refine' IL.skip ?is; (case is => ktr_rel)) | (refine' KeAt.skip ?is; (case is => ktr_rel)) | (refine' Blk.skip ?is; (case is => ktr_rel)) | (refine' In.take ?is _; (case is => ktr_rel)) | (refine' In.drop ?is _; (case is => ktr_rel)))
local macro_rules | `(tactic| k_all) => `(tactic| exact allLt_ne (by assumption))
local macro_rules | `(tactic| k_mem) => `(tactic| with_reducible assumption)
theorem wordsP81 : True := by
  k_with_none
  k_with "STEPSI" => (repeat' (first | (k_unfold; (try dsimp only)) | (((fail_if_success (with_reducible show wpAny _ _ (setAttr _ _ _) _ _ _)); (fail_if_success (with_reducible show wpAny _ _ (exec (Stmt.For _ _ _ _ _) _) _ _ _)); (fail_if_success (with_reducible show wpAny _ _ (exec (Stmt.While _ _ _ _) _) _ _ _)); (fail_if_success (with_reducible show wpAny _ _ (exec (Stmt.Assign _ (Expr.ListComp _ _ _ _) _) _) _ _ _)); (fail_if_success (with_reducible show wpAny _ _ (eval (Expr.ListComp _ _ _ _) _) _ _ _)); (fail_if_success (with_reducible show LCg.CompSrc _ _ _ _ _ _ _ _ _ _ _ _ _ _)); (fail_if_success (with_reducible show wpAny _ _ (pyIter _) _ _ _)); (fail_if_success (with_reducible show RPost _ _ _ _ _ _ _ _ _)); (fail_if_success (with_reducible show CPost _ _ _ _ _ _ _ _)); (fail_if_success (with_reducible show Exists _)); (fail_if_success (with_reducible show CPostJ _ _ _ _ _ _ _ _ _ _ _ _ _)); (fail_if_success (with_reducible show WhileStep2 _ _ _ _ _ _ _ _)); (fail_if_success (with_reducible show wpAny _ _ (exec (Stmt.If _ _ _ _) _) _ _ _)); first | walk1 | (dsimp only; walk1)) <;> ((try dsimp only [List.cons_append, List.nil_append]); (try k_fold)))))
  k_with "STEPSD" => (repeat' (first | (k_unfold; (try dsimp only)) | (((fail_if_success (with_reducible show wpAny _ _ (setAttr _ _ _) _ _ _)); (fail_if_success (with_reducible show wpAny _ _ (exec (Stmt.For _ _ _ _ _) _) _ _ _)); (fail_if_success (with_reducible show wpAny _ _ (exec (Stmt.While _ _ _ _) _) _ _ _)); (fail_if_success (with_reducible show wpAny _ _ (exec (Stmt.Assign _ (Expr.ListComp _ _ _ _) _) _) _ _ _)); (fail_if_success (with_reducible show wpAny _ _ (eval (Expr.ListComp _ _ _ _) _) _ _ _)); (fail_if_success (with_reducible show LCg.CompSrc _ _ _ _ _ _ _ _ _ _ _ _ _ _)); (fail_if_success (with_reducible show wpAny _ _ (pyIter _) _ _ _)); (fail_if_success (with_reducible show RPost _ _ _ _ _ _ _ _ _)); (fail_if_success (with_reducible show CPost _ _ _ _ _ _ _ _)); (fail_if_success (with_reducible show wpAny _ _ (subscriptTail (Expr.Attribute _ _ _) _ _ _) _ _ _)); first | walk1 | (dsimp only; walk1)) <;> ((try dsimp only [List.cons_append, List.nil_append]); (try k_fold)))))
  k_with "STEPSX" => (repeat' (first | (k_unfold; (try dsimp only)) | (((fail_if_success (with_reducible show wpAny _ _ (setAttr _ _ _) _ _ _)); (fail_if_success (with_reducible show wpAny _ _ (exec (Stmt.For _ _ _ _ _) _) _ _ _)); (fail_if_success (with_reducible show wpAny _ _ (exec (Stmt.While _ _ _ _) _) _ _ _)); (fail_if_success (with_reducible show wpAny _ _ (exec (Stmt.Assign _ (Expr.ListComp _ _ _ _) _) _) _ _ _)); (fail_if_success (with_reducible show wpAny _ _ (eval (Expr.ListComp _ _ _ _) _) _ _ _)); (fail_if_success (with_reducible show LCg.CompSrc _ _ _ _ _ _ _ _ _ _ _ _ _ _)); (fail_if_success (with_reducible show wpAny _ _ (pyIter _) _ _ _)); (fail_if_success (with_reducible show RPost _ _ _ _ _ _ _ _ _)); (fail_if_success (with_reducible show CPost _ _ _ _ _ _ _ _)); (fail_if_success (with_reducible show Exists _)); (fail_if_success (with_reducible show CPostJ _ _ _ _ _ _ _ _ _ _ _ _ _)); (fail_if_success (with_reducible show WhileStep2 _ _ _ _ _ _ _ _)); first | walk1 | (dsimp only; walk1)) <;> ((try dsimp only [List.cons_append, List.nil_append]); (try k_fold)))))
  k_with "STEPS" => (repeat' (first | (k_unfold; (try dsimp only)) | (((fail_if_success (with_reducible show wpAny _ _ (setAttr _ _ _) _ _ _)); (fail_if_success (with_reducible show wpAny _ _ (exec (Stmt.For _ _ _ _ _) _) _ _ _)); (fail_if_success (with_reducible show wpAny _ _ (exec (Stmt.While _ _ _ _) _) _ _ _)); (fail_if_success (with_reducible show wpAny _ _ (exec (Stmt.Assign _ (Expr.ListComp _ _ _ _) _) _) _ _ _)); (fail_if_success (with_reducible show wpAny _ _ (eval (Expr.ListComp _ _ _ _) _) _ _ _)); (fail_if_success (with_reducible show LCg.CompSrc _ _ _ _ _ _ _ _ _ _ _ _ _ _)); (fail_if_success (with_reducible show wpAny _ _ (pyIter _) _ _ _)); (fail_if_success (with_reducible show RPost _ _ _ _ _ _ _ _ _)); (fail_if_success (with_reducible show CPost _ _ _ _ _ _ _ _)); first | walk1 | (dsimp only; walk1)) <;> ((try dsimp only [List.cons_append, List.nil_append]); (try k_fold)))))
  k_with "subscriptTail" => (k_here; (with_reducible show wpAny _ _ (subscriptTail _ _ (Value.ref _) (Value.int _ _)) _ _ _); k_dflt (refine' item_IL ?qqN ?qqm ?qqa ?qqb ?qqc ?_; (case qqN => k_asm); (case qqm => ktr_rel); (case qqa => lia); (case qqb => lia); (case qqc => lia); k_whole); intro _)
  k_with "call builtin:len" => (k_here; (with_reducible show wpAny _ _ (call (Value.builtin "len") [Value.ref _]) _ _ _); k_dflt (refine' len_IL ?qqN ?qqm ?qqz ?_; (case qqN => k_asm); (case qqm => ktr_rel); (case qqz => lia); k_whole); intro _ _)
  k_with "ite" => (k_here; first | (refine ite_neg (by (simp only [bne_iff_ne, beq_iff_eq, decide_eq_true_eq, ne_eq, Decidable.not_not]; lia)) ?_) | (refine ite_pos (by (simp only [bne_iff_ne, beq_iff_eq, decide_eq_true_eq, ne_eq, Decidable.not_not]; lia)) ?_))
  k_with "eval Name" => (k_here; name_kind "local"; (with_reducible show wpAny _ _ (eval (Expr.Name _ _) (compEnvC _ _ _ _)) _ _ _); k_dflt (refine LCgL.ld_own (by k_asm) (by k_mem) (by assumption) (by assumption) ?_))
  k_with "eval Name" => (k_here; name_kind "globalImplicit"; (with_reducible show wpAny _ _ (eval (Expr.Name _ _) (compEnvC _ _ _ _)) _ _ _); k_dflt (refine LCgL.ld_global (by k_asm) (by k_asm) (by k_asm) (by k_is) ?_))
  k_with "eval Name" => (k_here; name_kind "free"; (with_reducible show wpAny _ _ (eval (Expr.Name _ _) (compEnvC _ _ _ _)) _ _ _); k_dflt (refine' ld_cell ?qqN ?qqc ?qqm ?qqd ?_ ?qqe ?qqf ?qqg; (case qqe => rfl); (case qqf => rfl); (case qqg => decide); (case qqN => k_asm); (case qqc => rfl); (case qqm => k_mem); (case qqd => k_asm); k_whole))
  k_with "eval Name" => (k_here; name_kind "local"; (fail_if_success (with_reducible show wpAny _ _ (eval (Expr.Name _ _) (compEnvC _ _ _ _)) _ _ _)); (with_reducible rename Fr _ _ _ _ => kF); k_dflt (refine' nameX_L kF ?qqv ?_ ?qqa ?qqb; (case qqa => rfl); (case qqb => rfl); (case qqv => ktr_rel); k_whole))
  k_with "subscriptTail" => (k_here; (with_reducible show wpAny _ _ (subscriptTail _ (Expr.Slice (some _) (some _) none _) (Value.ref _) (Value.ref _)) _ _ _); k_dflt (refine' slice_run' ?qqF ?qqN ?qqm ?qqz ?qqa ?qqb ?_; (case qqF => k_asm); (case qqN => k_asm); (case qqm => ktr_rel); (case qqz => lia); (case qqa => lia); (case qqb => lia); k_whole); intro D' h' F' ws' hw' N' l1; (try k_lt l1); (try k_sweep))
  k_with "call builtin:len" => (k_here; k_dflt (refine' len_blk ?qqN ?qqm ?qqz ?_; (case qqN => k_asm); (case qqm => ktr_rel); (case qqz => lia); k_whole); intro _ _)
  k_with "subscriptTail" => (k_here; (with_reducible show wpAny _ _ (subscriptTail _ (Expr.Slice (some _) (some _) none _) _ (Value.ref _)) _ _ _); k_dflt (refine' slice_blk' ?qqe ?qqF ?qqN ?qqm ?qqz ?qqa ?qqb ?_; (case qqe => exact ⟨_, _, _, _, _, rfl, rfl⟩); (case qqF => k_asm); (case qqN => k_asm); (case qqm => ktr_rel); (case qqz => lia); (case qqa => lia); (case qqb => lia); k_whole); intro v' h' k' led' F' N' hs' hb')
  k_with "call ref" => (k_here; k_dflt (refine' Tells.use (compactV _ _ _ _ ?qqhl ?qqh4 ?qqhi) ?qqB ?qqF ?qqX ?qqN ?qqT ?qqhk ?qqhd ?qqhu ?_; (case qqB => k_asm); (case qqF => k_asm); (case qqX => k_asm); (case qqN => k_asm); (case qqT => k_asm); (case qqhk => rfl); (case qqhl => ktr_rel); (case qqh4 => (simp only [List.length_take, List.length_drop]; lia)); (case qqhi => ktr_rel); (case qqhd => first | lia | (dsimp only [ktrTop, Around.deeper]; lia)); (case qqhu => first | lia | (dsimp only [ktrTop, Around.deeper]; lia))); intro v' news' h' tk' F' Nq' hO'; (obtain ⟨hO1, t', hO2⟩ := hO'; subst hO1; subst hO2); (have N9' := drop_led Nq' (by assumption)); (try dsimp only); (try k_sweep))
  k_with "call type:list" => (k_here; (with_reducible show wpAny _ _ (call (Value.type "list") [Value.ref _]) _ _ _); k_dflt (refine' copy_IL ?qqF ?qqN ?qqm ?qqz ?_; (case qqF => k_asm); (case qqN => k_asm); (case qqm => ktr_rel); (case qqz => lia); k_whole); intro D' c' h' vs' hv' F' N' l1; (try k_lt l1); (try k_sweep))
  k_with "setItem ref int" => (k_here; (with_reducible show wpAny _ _ (setItem (Value.ref _) (Value.int _ _) (Value.int _ _)) _ _ _); k_dflt (refine' set_IL ?qqk1 ?qqk2 ?qqk3 ?qqk4 ?qqk5 ?qqk6 ?qqk7 ?_; (case qqk1 => k_asm); (case qqk2 => k_asm); (case qqk3 => k_upd); (case qqk4 => with_reducible assumption); (case qqk5 => lia); (case qqk6 => lia); (case qqk7 => lia); k_whole); intro h' F' N' hi'; (try k_sweep))
  k_with "subscriptTail" => (k_here; (with_reducible show wpAny _ _ (subscriptTail _ _ (Value.ref _) (Value.int _ _)) _ _ _); k_dflt (refine' item_tab ?qqF ?qqX ?qqo ?qqa ?qqb ?qqc ?_; (case qqF => k_asm); (case qqX => k_asm); (case qqo => with_reducible (first | exact tab_S _ | exact tab_T1 _ | exact tab_T2 _ | exact tab_T3 _ | exact tab_T4 _)); (case qqa => exact (and255 _).1); (case qqb => exact (and255 _).2); (case qqc => decide); k_whole); intro _)
  k_with "binaryOp Mod int int" => (k_here; (with_reducible refine mod_pos (by first | decide | lia) ?_))
  k_with "call builtin:list.append" => (k_here; (with_reducible show wpAny _ _ (call (Value.builtin _) [Value.ref _, Value.int _ _]) _ _ _); k_dflt (refine' append_IL ?qqk1 ?qqk2 ?qqk3 ?qqk4 ?qqk5 ?_; (case qqk1 => k_asm); (case qqk2 => k_asm); (case qqk3 => k_upd); (case qqk4 => with_reducible assumption); (case qqk5 => ((try simp only [List.length_append, List.length_cons, List.length_nil]); lia)); k_whole); intro h' F' N' hi'; (try k_sweep))
  k_with "call type:range" => (k_here; (first | (with_reducible show wpAny _ _ (call _ [_]) _ _ _) | (with_reducible show wpAny _ _ (call _ [_, _]) _ _ _)); (rename Fr _ _ _ _ => F'); (rename News _ _ _ _ => N'); (first | (with_unfolding_all refine range1_rows F' N' ?_) | (with_unfolding_all refine range2_rows F' N' ?_)); intro _ _ _ _ _ _ _ _ _)
  k_with "subscriptTail" => (k_here; (with_reducible show wpAny _ _ (subscriptTail _ (Expr.Slice _ _ none _) (Value.bytes _ _) (Value.ref _)) _ _ _); k_dflt (refine' slice_b' ?qqF ?qqN ?qqk ?qql ?qqu ?qqz ?_; (case qqF => k_asm); (case qqN => k_asm); (case qqk => kba_ints); (case qql => constructor); (case qqu => constructor); (case qqz => kba_size); k_whole); intro _ _ _ _ _ kbcK; (try simp only [Option.elim, KBc.clip_lit, clipAt_nat, List.drop_zero, Nat.sub_zero] at kbcK))
  k_with "call builtin:len" => (k_here; (with_reducible show wpAny _ _ (call (Value.builtin "len") [Value.ref _]) _ _ _); k_dflt (refine' ke_len ?qqN ?qqm ?qqz ?_; (case qqN => k_asm); (case qqm => ktr_rel); (case qqz => lia); k_whole); intro _ _)
  k_with "subscriptTail" => (k_here; (with_reducible show wpAny _ _ (subscriptTail _ _ (Value.ref _) (Value.int _ _)) _ _ _); k_dflt (refine' ke_item ?qqN ?qqm ?qqa ?qqb ?qqc ?_; (case qqN => k_asm); (case qqm => ktr_rel); (case qqa => lia); (case qqb => lia); (case qqc => lia); k_whole))
  k_with "subscriptTail" => (k_here; (with_reducible show wpAny _ _ (subscriptTail _ _ (Value.ref (List.getD _ _ _)) (Value.int _ _)) _ _ _); k_dflt (refine' ke_row ?qqN ?qqm ?qqa ?qqb ?qqc ?_; (case qqN => k_asm); (case qqm => ktr_rel); (case qqa => lia); (case qqb => lia); (case qqc => lia); k_whole); intro _)
  k_with "getAttr ref" => (k_here; (with_reducible show wpAny _ _ (getAttr (Value.ref _) (PySem.Str.ofString "_Ke") _) _ _ _); k_dflt (refine' ke_attr ?qqF ?qqX ?qqN ?qqK ?_; (case qqF => k_asm); (case qqX => k_asm); (case qqN => k_asm); (case qqK => ktr_rel); k_whole); intro _)
  k_with "getAttr ref" => (k_here; (with_reducible show wpAny _ _ (getAttr (Value.ref _) (PySem.Str.ofString "S") _) _ _ _); k_dflt (refine' ke_S ?qqF ?qqX ?qqN ?qqK ?_; (case qqF => k_asm); (case qqX => k_asm); (case qqN => k_asm); (case qqK => ktr_rel); k_whole); intro _)
  k_with "getAttr ref" => (k_here; (with_reducible show wpAny _ _ (getAttr (Value.ref _) (PySem.Str.ofString "T1") _) _ _ _); k_dflt (refine' ke_T1 ?qqF ?qqX ?qqN ?qqK ?_; (case qqF => k_asm); (case qqX => k_asm); (case qqN => k_asm); (case qqK => ktr_rel); k_whole); intro _)
  k_with "getAttr ref" => (k_here; (with_reducible show wpAny _ _ (getAttr (Value.ref _) (PySem.Str.ofString "T2") _) _ _ _); k_dflt (refine' ke_T2 ?qqF ?qqX ?qqN ?qqK ?_; (case qqF => k_asm); (case qqX => k_asm); (case qqN => k_asm); (case qqK => ktr_rel); k_whole); intro _)
  k_with "getAttr ref" => (k_here; (with_reducible show wpAny _ _ (getAttr (Value.ref _) (PySem.Str.ofString "T3") _) _ _ _); k_dflt (refine' ke_T3 ?qqF ?qqX ?qqN ?qqK ?_; (case qqF => k_asm); (case qqX => k_asm); (case qqN => k_asm); (case qqK => ktr_rel); k_whole); intro _)
  k_with "getAttr ref" => (k_here; (with_reducible show wpAny _ _ (getAttr (Value.ref _) (PySem.Str.ofString "T4") _) _ _ _); k_dflt (refine' ke_T4 ?qqF ?qqX ?qqN ?qqK ?_; (case qqF => k_asm); (case qqX => k_asm); (case qqN => k_asm); (case qqK => ktr_rel); k_whole); intro _)
  k_with "ite" => (k_here; (refine ite_neg (not_in_key (by with_reducible assumption)) ?_))
  k_with "subscriptTail" => (k_here; (with_reducible show wpAny _ _ (subscriptTail _ _ (Value.ref _) (Value.int _ _)) _ _ _); k_dflt (refine' ast_tk ?qqN ?qqA ?qqa ?qqb ?qqc ?_; (case qqN => k_asm); (case qqA => with_reducible assumption); (case qqa => lia); (case qqb => lia); (case qqc => lia); k_whole); intro _)
  k_with "subscriptTail" => (k_here; (with_reducible show wpAny _ _ (subscriptTail _ _ (Value.ref _) (Value.int _ _)) _ _ _); k_dflt (refine' ast_itemE ?qqN ?qqA ?qqa ?qqb ?qqc ?_; (case qqN => k_asm); (case qqA => with_reducible assumption); (case qqa => lia); (case qqb => lia); (case qqc => lia); k_whole))
  k_with "subscriptTail" => (k_here; (with_reducible show wpAny _ _ (subscriptTail _ _ (Value.ref _) (Value.int _ _)) _ _ _); k_dflt (refine' ast_itemD ?qqN ?qqA ?qqa ?qqb ?qqc ?_; (case qqN => k_asm); (case qqA => with_reducible assumption); (case qqa => lia); (case qqb => lia); (case qqc => lia); k_whole))
  k_with "subscriptTail" => (k_here; (with_reducible show wpAny _ _ (subscriptTail _ _ (Value.ref (List.getD _ _ _)) (Value.int _ _)) _ _ _); k_dflt (refine' ast_rowD ?qqN ?qqA ?qqa ?qqb ?qqc ?_; (case qqN => k_asm); (case qqA => with_reducible assumption); (case qqa => lia); (case qqb => lia); (case qqc => lia); k_whole); intro _)
  k_with "subscriptTail" => (k_here; (with_reducible show wpAny _ _ (subscriptTail _ _ (Value.ref _) (Value.int _ _)) _ _ _); k_dflt (refine' item_tab ?qqF ?qqX ?qqo ?qqa ?qqb ?qqc ?_; (case qqF => k_asm); (case qqX => k_asm); (case qqo => with_reducible (first | exact tab_U1 _ | exact tab_U2 _ | exact tab_U3 _ | exact tab_U4 _)); (case qqa => exact (and255 _).1); (case qqb => exact (and255 _).2); (case qqc => decide); k_whole); intro _)
  k_with "subscriptTail" => (k_here; (with_reducible show wpAny _ _ (subscriptTail _ _ (Value.ref _) (Value.int _ _)) _ _ _); k_dflt (refine' item_rcon ?qqF ?qqX ?qqa ?qqb ?_; (case qqF => k_asm); (case qqX => k_asm); (case qqa => lia); (case qqb => lia); k_whole); intro _)
  k_with "setItem ref int" => (k_here; (with_reducible show wpAny _ _ (setItem (Value.ref (List.getD _ _ _)) (Value.int _ _) (Value.int _ _)) _ _ _); k_dflt (refine' ast_setE ?qqF ?qqN ?qqA ?qqq ?qqa ?qqb ?_; (case qqF => k_asm); (case qqN => k_asm); (case qqA => with_reducible assumption); (case qqq => lia); (case qqa => lia); (case qqb => lia); k_whole); intro h' led' F' N' A'; (try k_sweep))
  k_with "setItem ref int" => (k_here; (with_reducible show wpAny _ _ (setItem (Value.ref (List.getD _ _ _)) (Value.int _ _) (Value.int _ _)) _ _ _); k_dflt (refine' ast_setD ?qqF ?qqN ?qqA ?qqq ?qqa ?qqb ?_; (case qqF => k_asm); (case qqN => k_asm); (case qqA => with_reducible assumption); (case qqq => lia); (case qqa => lia); (case qqb => lia); k_whole); intro h' led' F' N' A'; (try k_sweep))
  k_with "setItem ref int" => (k_here; (with_reducible show wpAny _ _ (setItem (Value.ref _) (Value.int _ _) (Value.int _ _)) _ _ _); k_dflt (refine' ast_setT ?qqF ?qqN ?qqA ?qqa ?qqb ?qqc ?_; (case qqF => k_asm); (case qqN => k_asm); (case qqA => with_reducible assumption); (case qqa => lia); (case qqb => lia); (case qqc => lia); k_whole); intro h' led' F' N' A'; (try k_sweep))
  k_with "getAttr ref" => (k_here; (with_reducible show wpAny _ _ (getAttr (Value.ref _) (PySem.Str.ofString "_Ke") _) _ _ _); k_dflt (refine' ast_Ke ?qqF ?qqX ?qqN ?qqA ?_; (case qqF => k_asm); (case qqX => k_asm); (case qqN => k_asm); (case qqA => with_reducible assumption); k_whole); intro _)
  k_with "getAttr ref" => (k_here; (with_reducible show wpAny _ _ (getAttr (Value.ref _) (PySem.Str.ofString "_Kd") _) _ _ _); k_dflt (refine' ast_Kd ?qqF ?qqX ?qqN ?qqA ?_; (case qqF => k_asm); (case qqX => k_asm); (case qqN => k_asm); (case qqA => with_reducible assumption); k_whole); intro _)
  k_with "getAttr ref" => (k_here; (with_reducible show wpAny _ _ (getAttr (Value.ref _) (PySem.Str.ofString "S") _) _ _ _); k_dflt (refine' ast_S ?qqF ?qqX ?qqN ?qqA ?_; (case qqF => k_asm); (case qqX => k_asm); (case qqN => k_asm); (case qqA => with_reducible assumption); k_whole); intro _)
  k_with "getAttr ref" => (k_here; (with_reducible show wpAny _ _ (getAttr (Value.ref _) (PySem.Str.ofString "rcon") _) _ _ _); k_dflt (refine' ast_rcon ?qqF ?qqX ?qqN ?qqA ?_; (case qqF => k_asm); (case qqX => k_asm); (case qqN => k_asm); (case qqA => with_reducible assumption); k_whole); intro _)
  k_with "getAttr ref" => (k_here; (with_reducible show wpAny _ _ (getAttr (Value.ref _) (PySem.Str.ofString "U1") _) _ _ _); k_dflt (refine' ast_U1 ?qqF ?qqX ?qqN ?qqA ?_; (case qqF => k_asm); (case qqX => k_asm); (case qqN => k_asm); (case qqA => with_reducible assumption); k_whole); intro _)
  k_with "getAttr ref" => (k_here; (with_reducible show wpAny _ _ (getAttr (Value.ref _) (PySem.Str.ofString "U2") _) _ _ _); k_dflt (refine' ast_U2 ?qqF ?qqX ?qqN ?qqA ?_; (case qqF => k_asm); (case qqX => k_asm); (case qqN => k_asm); (case qqA => with_reducible assumption); k_whole); intro _)
  k_with "getAttr ref" => (k_here; (with_reducible show wpAny _ _ (getAttr (Value.ref _) (PySem.Str.ofString "U3") _) _ _ _); k_dflt (refine' ast_U3 ?qqF ?qqX ?qqN ?qqA ?_; (case qqF => k_asm); (case qqX => k_asm); (case qqN => k_asm); (case qqA => with_reducible assumption); k_whole); intro _)
  k_with "getAttr ref" => (k_here; (with_reducible show wpAny _ _ (getAttr (Value.ref _) (PySem.Str.ofString "U4") _) _ _ _); k_dflt (refine' ast_U4 ?qqF ?qqX ?qqN ?qqA ?_; (case qqF => k_asm); (case qqX => k_asm); (case qqN => k_asm); (case qqA => with_reducible assumption); k_whole); intro _)
  k_with "binaryOp Mult int int" => (k_here; (with_reducible refine PySem.mul_int ?_ (PySem.IntMulOk.of_right (by decide))))
  k_with "binaryOp FloorDiv int int" => (k_here; (with_reducible refine div_pos (by decide) (by decide) ?_))
  k_with "binaryOp LShift int int" => (k_here; (with_reducible refine lshift_int_small ?qqkb1 ?qqkb2 ?qqkb3 ?_); (case qqkb1 => decide); (case qqkb2 => decide); (case qqkb3 => (refine Nat.lt_of_lt_of_le (Int.natAbs_lt_natAbs_of_nonneg_of_lt (in_getD (by assumption) _).1 (in_getD (by assumption) _).2) ?_; decide)))
  k_with "callWith ref" => (k_here; (with_reducible show wpAny _ _ (callWith _ (Value.ref _) _ (backTo _ (starEach (_ :: _) _)) (backToKw _ (keywordEach (_ :: _) _))) _ _ _); kfb_any; k_dflt (refine callWith_boundK ?_))
  k_with "call ref" => (k_here; kfb_any; k_dflt (refine call_sbig (by k_asm) (by k_mem) (by kba_ints2) ?_ ?_; ((simp only [List.length_take, List.length_drop]; lia)); k_whole); intro _ _)
  k_with "getItem ref int" => (k_here; (with_reducible show wpAny _ _ (getItem (Value.ref _) (Value.int _ _)) _ _ _); k_dflt (refine' getItem_tk ?qqN ?qqA ?qqa ?qqb ?qqc ?_; (case qqN => k_asm); (case qqA => with_reducible assumption); (case qqa => lia); (case qqb => lia); (case qqc => lia); k_whole); intro _)
  k_with "loadName" => (k_here; (with_reducible rename Fr _ _ _ _ => kF); k_dflt (refine' wpAny_loadName_local ?qqa ?qqb (Fr.ns kF) ?qqv ?_; (case qqa => rfl); (case qqb => rfl); (case qqv => ktr_rel); k_whole))
  exact trivial
set_option maxHeartbeats 8000000 in
theorem aesV (w : World) (news : List (Addr × Obj)) (b : Array UInt8) (t : Tok) (ks : List Int) (hk : KBw.bInts b = ks) (hin : KBa.In ks) (R : Nat) (hR : RoundsOf ks.length R) :
   Tells w 116 [.bytes b t] 2 news fun v news' => ∃ x dx ke kd q1 q2 k1 k2 nke rows, v = .ref x ∧ KeAt news' x dx ke kd q1 q2 k1 k2 nke rows (keOf w.params ks) ∧ (∀ p ∈ news, p ∈ news') ∧ ∀ p ∈ news, ∀ a ∈ x :: dx :: ke :: rows, (@Ne Nat p.1 a) := by
  have hl : ks.length = 16 ∨ ks.length = 24 ∨ ks.length = 32 := by unfold RoundsOf at hR; lia
  unfold Tells; k_fill; intro loose mean mg mb dp un gd cn cs a ccd cl outer A₀ base h₀ L m s Q E B F X N T hk hd hu hret
  refine call_cls F X N (fI := 103) (by kernel_rfl) (by kernel_rfl) (by kernel_rfl) ?_
  intro x dx h1 F1 N1 l1 l2
  k_dflt (refine' code_defC (binds := [(Str.ofString "self", Value.ref x), (Str.ofString "key", Value.bytes b t)]) ?k1 ?k2 ?k3 ?k4 ?k5 ?kA ?kF ?kK ?k6 ?k7 ?k8 ?k9 ?kB ?kD ?_ ?c2 ?c3 ?c4; (case kA => exact rfl); (case kF => exact rfl); (case kK => assumption); (case k1 => exact B); (case k2 => exact F1); (case k3 => exact X); (case k4 => exact N1); (case k5 => exact T); (case k6 => k_is); (case k7 => k_is); (case k8 => ktr_room); (case k9 => first | exact BindsTo.of_eq rfl | exact binds_K (by k_in) rfl (by k_is) rfl rfl rfl); (case kB => exact rfl); (case kD => decide +kernel); (case c2 => exact rfl); (case c3 => exact rfl); (case c4 => exact rfl)); intro g1 L1 h2 tk1 cells1 FG1 F2 N2 Y1 B1 X1 T1 l3
  obtain ⟨o1, hE1, d1⟩ := CellsAre.one Y1
  subst hE1
  replace d1 : o1.data = .cell (some (.bytes b t)) := d1
  clear Y1
  simp only [List.cons_append, List.nil_append] at N2
  (try dsimp only); (try k_fold)
  have hRR := hR
  unfold RoundsOf at hRR
  k_extra "STEPSD"
  k_dflt (refine' rounds_mono hR ?hx ?_)
  case hx =>
    repeat' ((fail_if_success (with_reducible show RoundsP _ _ _ _)); (first | (exfalso; lia) | walk1))
    all_goals exact ⟨⟨_, rfl⟩, _, congrArg (Value.int · _) (by lia)⟩
  intro tR kR
  k_extra "STEPS"
  walk1
  rename Fr _ _ _ _ => F3
  rename News _ _ _ _ => N3
  k_dflt (refine LCg.ListComp_U (F₀ := F3) (by rfl) (by decide) (by rfl) (by decide) (by rfl) ?_)
  k_extra "STEPS"
  rename IsRange _ _ _ _ _ _ _ _ => R4
  rename Fr _ _ _ _ => F4
  rename News _ _ _ _ => N4
  k_dflt (refine LCg.CompSrc.range (n := R + 1) (by rfl) F4 N4 R4 (small_one (by lia) (by lia) (by lia) (by lia)) (by first | exact rangeSize_nat _ _ | (rw [rangeSize_nat]; lia)) (by rw [sizeLine_eq]; lia) ?_)
  intro g'
  refine comp_inv (RowsJ _) (RowsJ.nil _) ?_ ?_
  · intro i ti I oI C oC D ys nx m₂ s₁ E' hi4 hJ hC hx2 F5 N5 off ne
    obtain ⟨ne1, ne2, ne3⟩ := ne
    k_extra "STEPS"
    rename Fr _ _ _ _ => F6
    rename News _ _ _ _ => N6
    rename IntsAre _ _ => hi6
    rename _ < _ ∧ _ < _ ∧ _ < _ ∧ _ < _ ∧ AllLt _ nx => l6
    obtain ⟨l6a, l6b, l6c, l6d, l6e⟩ := l6
    refine CPostJ.intro F6 N6 _ ?_ ?_ (hJ.snoc (n := 0) hi6 (allLt_ne l6e))
    · intro p hp
      simp only [List.mem_cons] at hp ⊢
      rcases hp with h | h | h | h | h <;> simp [h]
    · exact ⟨⟨Nat.ne_of_gt l6b, Nat.ne_of_gt l6c, Nat.ne_of_gt l6d⟩, off⟩
  intro ys nx hJ
  unfold LCg.FinE
  intro D1 h5 tk5 F5 N5 o5
  try dsimp only
  obtain ⟨rE, rfl, hrE, hsE, hRE, hnE, hfE, hmE⟩ := hJ
  have hx5 : (x, instObj 116 dx) ∈ (D1, LCg.lst (rE.map Value.ref)) :: nx := .tail _ (hsE _ (.tail _ (.tail _ (.head _))))
  have hd5 : (dx, dictOf [] 0) ∈ (D1, LCg.lst (rE.map Value.ref)) :: nx := .tail _ (hsE _ (.tail _ (.tail _ (.tail _ (.head _)))))
  clear F4 N4
  k_extra "STEPS"
  rename Fr g1 L1 h5 _ => F6
  refine set_foc (K := Mine.hd.heap_39 w.params) (C := 116) (es' := [⟨PyData.keyHash w.params (Str.ofString "_Ke"), .str (Str.ofString "_Ke") (tk5 + 1), .ref D1⟩]) (n' := 1) F6 X1 N5 hx5 hd5 (by kernel_rfl) (by kernel_rfl) (by kernel_rfl) (by kernel_rfl) (by rfl) (by rfl) (Nat.le_of_ble_eq_true rfl) ?_
  intro h6 F7 N6
  k_extra "STEPS"
  walk1
  rename Fr g1 L1 h6 _ => F8
  k_dflt (refine LCg.ListComp_U (F₀ := F8) (by rfl) (by decide) (by rfl) (by decide) (by rfl) ?_)
  k_extra "STEPS"
  clear R4
  rename IsRange _ _ _ _ _ _ _ _ => R4
  rename Fr _ _ _ _ => F9
  rename News _ _ _ _ => N9
  k_dflt (refine LCg.CompSrc.range (n := R + 1) (by rfl) F9 N9 R4 (small_one (by lia) (by lia) (by lia) (by lia)) (by first | exact rangeSize_nat _ _ | (rw [rangeSize_nat]; lia)) (by rw [sizeLine_eq]; lia) ?_)
  intro g''
  refine comp_inv (RowsJ _) (RowsJ.nil _) ?_ ?_
  · intro i ti I oI C oC D ys nx m₂ s₁ E' hi4 hJ hC hx2 F5 N5 off ne
    obtain ⟨ne1, ne2, ne3⟩ := ne
    k_extra "STEPS"
    rename Fr _ _ _ _ => F6
    rename News _ _ _ _ => N6
    rename IntsAre _ _ => hi6
    rename _ < _ ∧ _ < _ ∧ _ < _ ∧ _ < _ ∧ AllLt _ nx => l6
    obtain ⟨l6a, l6b, l6c, l6d, l6e⟩ := l6
    refine CPostJ.intro F6 N6 _ ?_ ?_ (hJ.snoc (n := 0) hi6 (allLt_ne l6e))
    · intro p hp
      simp only [List.mem_cons] at hp ⊢
      rcases hp with h | h | h | h | h <;> simp [h]
    · exact ⟨⟨Nat.ne_of_gt l6b, Nat.ne_of_gt l6c, Nat.ne_of_gt l6d⟩, off⟩
  intro ys nx2 hJ
  unfold LCg.FinE
  intro D2 h7 tk7 F10 N10 o7
  try dsimp only
  obtain ⟨rD, rfl, hrD, hsD, hRD, hnD, hfD, hmD⟩ := hJ
  have hxdx : x ≠ dx := Nat.ne_of_gt l2
  have hx7 : (x, instObj 116 dx) ∈ (D2, LCg.lst (rD.map Value.ref)) :: nx2 := .tail _ (hsD _ (foc_mem hx5 hxdx))
  have hd7 : (dx, dictOf [⟨PyData.keyHash w.params (Str.ofString "_Ke"), .str (Str.ofString "_Ke") (tk5 + 1), .ref D1⟩] 1) ∈ (D2, LCg.lst (rD.map Value.ref)) :: nx2 := .tail _ (hsD _ foc_here)
  clear F9 N9
  k_extra "STEPS"
  rename Fr g1 L1 h7 _ => F11
  refine set_foc (K := Mine.hd.heap_39 w.params) (C := 116) (es' := [⟨PyData.keyHash w.params (Str.ofString "_Ke"), .str (Str.ofString "_Ke") (tk5 + 1), .ref D1⟩, ⟨PyData.keyHash w.params (Str.ofString "_Kd"), .str (Str.ofString "_Kd") (tk7 + 1), .ref D2⟩]) (n' := 2) F11 X1 N10 hx7 hd7 (by kernel_rfl) (by kernel_rfl) (by kernel_rfl) (by kernel_rfl) (by kernel_rfl) (by kernel_rfl) (Nat.le_of_ble_eq_true rfl) ?_
  intro h8 F12 N12
  have hx8 := foc_mem (o := dictOf [⟨PyData.keyHash w.params (Str.ofString "_Ke"), .str (Str.ofString "_Ke") (tk5 + 1), .ref D1⟩, ⟨PyData.keyHash w.params (Str.ofString "_Kd"), .str (Str.ofString "_Kd") (tk7 + 1), .ref D2⟩] 2) hx7 hxdx
  clear F6 N5 F11 N10 hx7 hd7 F1 N1
  obtain ⟨K, hK4, hKR, hKK⟩ : ∃ K : Nat, ks.length = 4 * K ∧ R = K + 6 ∧ (K = 4 ∨ K = 6 ∨ K = 8) := ⟨ks.length / 4, by lia, by lia, by lia⟩
  have hcell : (L1 + 1, o1) ∈ foc dx (dictOf [⟨PyData.keyHash w.params (Str.ofString "_Ke"), .str (Str.ofString "_Ke") (tk5 + 1), .ref D1⟩, ⟨PyData.keyHash w.params (Str.ofString "_Kd"), .str (Str.ofString "_Kd") (tk7 + 1), .ref D2⟩] 2) ((D2, LCg.lst (rD.map Value.ref)) :: nx2) := by
    have hd : L1 + 1 ≠ dx := Nat.ne_of_gt (Nat.lt_succ_of_lt (l3 _ (.tail _ (.head _))))
    exact foc_mem (.tail _ (hsD _ (foc_mem (.tail _ (hsE _ (.tail _ (.head _)))) hd))) hd
  revert N12 hx8 hcell
  generalize hLED : foc dx (dictOf [⟨PyData.keyHash w.params (Str.ofString "_Ke"), .str (Str.ofString "_Ke") (tk5 + 1), .ref D1⟩, ⟨PyData.keyHash w.params (Str.ofString "_Kd"), .str (Str.ofString "_Kd") (tk7 + 1), .ref D2⟩] 2) ((D2, LCg.lst (rD.map Value.ref)) :: nx2) = LED
  intro N12 hx8 hcell
  k_extra "STEPS"
  rename Fr _ _ _ _ => F13
  rename News _ _ _ _ => N13
  k_dflt (refine Assign_step F13 (by rfl) (by with_unfolding_all rfl) (by rfl) (by decide) (by rfl) (by decide) (by rfl) (by rfl) (by rfl) (by rfl) ?_)
  k_extra "STEPSX"
  rename IsRange _ _ _ _ _ _ _ _ => R14
  rename Fr _ _ _ _ => F14
  rename News _ _ _ _ => N14
  refine ⟨_, _, _, _, _, _, _, K, _, rfl, F14, N14, R14, small4 hK4 (by lia), rs4 hK4, ?_, ?_⟩
  · rw [sizeLine_eq]; lia
  intro s2 hs2
  obtain ⟨g3, hs2⟩ := hs2
  subst hs2
  refine comp_inv (fun i ys nx => nx = LED ∧ IntsAre ys ((List.range i).map fun j => sval ((ks.drop (4 * j)).take 4))) ⟨rfl, .nil⟩ ?_ ?_
  · intro i ti I oI C oC D ys nx m₂ s₁ E' hi4 hJ hC hx2 F15 N15 off ne
    obtain ⟨ne1, ne2, ne3⟩ := ne
    obtain ⟨hJ1, hys⟩ := hJ
    rw [hJ1] at N15 off
    have hcellM : List.Mem (L1 + 1, o1) LED := hcell
    clear F14 N14
    k_extra "STEPSX"
    rename Fr _ _ _ _ => F16
    rename News _ _ _ _ => N16
    rename KBw.bInts _ = _ => kbcK
    have e1 : clipAt ks.length (0 + (i : Int) * 4) = 4 * i := by rw [clip_pos (by lia)]; lia
    have e2 : clipAt ks.length (0 + (i : Int) * 4 + 4) = 4 * i + 4 := by rw [clip_pos (by lia)]; lia
    rw [e1, e2, show 4 * i + 4 - 4 * i = 4 by lia] at kbcK
    k_dflt (refine call_sbig N16 (by k_mem) kbcK ?_ ?_)
    · simp only [List.length_take, List.length_drop]; lia
    intro t9 k9
    k_unfold
    try dsimp only
    refine CPostJ.intro F16 N16 LED (fun p hp => .tail _ hp) off ⟨rfl, ?_⟩
    rw [List.range_succ, List.map_append]
    exact hys.append (.cons _ _ .nil)
  intro ys nx3 hJ
  obtain ⟨rfl, htk⟩ := hJ
  unfold LCg.FinA
  intro D3 h9 tk9 F15 N15 o9
  try dsimp only
  have hD : 4 * K / 4 = K := by lia
  have hT0 : IntsAre ys (tk0 ks) := by unfold tk0; rw [hK4, hD]; exact htk
  obtain ⟨q1, q2, k1, k2, ne, nd, A0⟩ : ∃ q1 q2 k1 k2 ne nd, ASt ((D3, LCg.lst ys) :: nx3) news x dx D1 D2 D3 q1 q2 k1 k2 ne nd rE rD (List.replicate (R + 1) [0, 0, 0, 0]) (List.replicate (R + 1) [0, 0, 0, 0]) (tk0 ks) :=
    ⟨_, _, _, _, _, _, ASt.make (e2 := []) (m2 := 0) (vs := ys) (n := ys.length) (.tail _ (.tail _ (.head _))) (.tail _ (.tail _ (.tail _ (.head _)))) hxdx (fun p hp => .tail _ (.tail _ (.tail _ (.tail _ hp)))) (fun p hp => Nat.ne_of_lt (l1 p hp)) (fun p hp => Nat.ne_of_lt (Nat.lt_trans (l1 p hp) l2)) hsE hRE hnE hfE hmE (off1_ne o5) hsD hRD hnD hfD hmD (off1_ne o7) (fun p hp => hLED ▸ hp) (off1_ne o9) hT0⟩
  have eKC : ((ks.length : Nat) : Int) / 4 = (K : Int) := by lia
  rw [eKC] at F15
  dsimp only at F15
  obtain ⟨m9, F16, hF9⟩ : ∃ m9, Fr g1 L1 h9 m9 ∧ FrA x R K D3 m9 := by
    refine ⟨_, F15, ?_, ?_, ?_, ?_, ?_⟩
    · kernel_rfl
    · exact ⟨_, (Eq.trans (if_neg (by decide)) (Eq.trans (if_neg (by decide)) (Eq.trans (if_neg (by decide)) (if_pos rfl)))) ⟩
    · exact ⟨_, (Eq.trans (if_neg (by decide)) (Eq.trans (if_neg (by decide)) (if_pos rfl)))⟩
    · exact ⟨_, (Eq.trans (if_neg (by decide)) (if_pos rfl))⟩
    · exact if_pos rfl
  have hT : (tk0 ks).length = K := by rw [tk0_len]; lia
  clear F15 hsE hRE hnE hfE hmE o5 hsD hRD hnD hfD hmD o7 hLED o9 hT0 htk hx8 hcell R14 R4 hx5 hd5
  obtain ⟨mS, ⟨t1, mR⟩, ⟨t2, mC⟩, ⟨t3, mK⟩, mT⟩ := hF9
  have hF9 : FrA x R K D3 m9 := ⟨mS, ⟨t1, mR⟩, ⟨t2, mC⟩, ⟨t3, mK⟩, mT⟩
  k_extra "STEPSX"
  k_dflt (refine For_invV g1 (by rfl) (by rfl) ?_)
  k_extra "STEPSX"
  rename IsRange _ _ _ _ _ _ _ _ => R7
  rename Fr _ _ _ _ => F7
  rename News _ _ _ _ => N7
  refine rng_inv (fun i m nx => FrA x R K D3 m ∧ ∃ KD, ASt nx news x dx D1 D2 D3 q1 q2 k1 k2 ne nd rE rD (cps (List.replicate (R + 1) [0, 0, 0, 0]) (tk0 ks) 0 i) KD (tk0 ks) ∧ KD.length = R + 1) (n := K) rfl R7 (small_one (by lia) (by lia) (by lia) (by lia)) (by rw [rangeSize_nat]; lia) F7 N7 ⟨hF9, _, A0, List.length_replicate⟩ ?_ ?_
  · clear mS mR mC mK mT A0 F7 N7
    intro I i it ti m₁ nx s₁ hi hJ off F8 N8 hs₁
    obtain ⟨hF, KD, A, hKD⟩ := hJ
    obtain ⟨mS, ⟨t1, mR⟩, ⟨t2, mC⟩, ⟨t3, mK⟩, mT⟩ := hF
    have A' := A.push (it := it) off
    have hKE : (cps (List.replicate (R + 1) [0, 0, 0, 0]) (tk0 ks) 0 i).length = R + 1 := by rw [cps_len, List.length_replicate]
    k_extra "STEPSX"
    rename Fr _ _ _ _ => F9
    rename News _ _ _ _ => N9
    rename ASt _ _ _ _ _ _ _ _ _ _ _ _ _ _ _ _ _ _ => A9
    have e1 : ((0 + (i : Int) * 1) / 4).toNat = (0 + i) / 4 := by lia
    have e2 : ((0 + (i : Int) * 1) % 4).toNat = (0 + i) % 4 := by lia
    have e3 : (0 + (i : Int) * 1).toNat = i := by lia
    rw [e1, e2, e3] at A9
    exact A9.next F9 N9 (fun p hp => off p (A.sub p hp)) fun nx' A'' => ⟨FrA.set ⟨mS, ⟨t1, mR⟩, ⟨t2, mC⟩, ⟨t3, mK⟩, mT⟩ (by decide) (by decide) (by decide) (by decide) (by decide), _, A'', by rw [mset_len]; exact hKD⟩
  clear mS mR mC mK mT A0 F7 N7 R7 hF9
  intro m₁ nx h10 tk10 hJ F8 N8
  obtain ⟨hF9, KD, A, hKD⟩ := hJ
  obtain ⟨mS, ⟨t1, mR⟩, ⟨t2, mC⟩, ⟨t3, mK⟩, mT⟩ := hF9
  try dsimp only
  k_extra "STEPSX"
  rename Fr _ _ _ _ => F10
  rename News _ _ _ _ => N10
  have hKd : ks.length / 4 = K := by lia
  subst hKR
  have hTl : ∀ f, (stp w.params ks f).2.length = K := fun f => by rw [stp_len2, hKd]
  have hEl : ∀ f, (stp w.params ks f).1.length = K + 7 := fun f => by rw [stp_len1, hKd]
  have hS : KBa.In (tab w.params 59) := in_S _
  have hrc : KBa.In (tab w.params 56) := in_rcon _
  refine While_inv2 (fun n m nx => ∃ f KD, n = nf K - f ∧ f ≤ nf K ∧ FrA x (K + 6) K D3 m ∧ (∃ t, m (Str.ofString "t") = some (.int ((tAt K f : Nat) : Int) t)) ∧ (∃ t, m (Str.ofString "rconpointer") = some (.int (f : Int) t)) ∧ ASt nx news x dx D1 D2 D3 q1 q2 k1 k2 ne nd rE rD (stp w.params ks f).1 KD (stp w.params ks f).2 ∧ KD.length = K + 6 + 1) (n₀ := nf K) F10 N10 ⟨0, KD, rfl, Nat.zero_le _, (FrA.set (FrA.set ⟨mS, ⟨t1, mR⟩, ⟨t2, mC⟩, ⟨t3, mK⟩, mT⟩ (by decide) (by decide) (by decide) (by decide) (by decide)) (by decide) (by decide) (by decide) (by decide) (by decide)), ⟨_, by rw [tAt_0]; exact if_pos rfl⟩, ⟨_, Eq.trans (if_neg (by decide)) (if_pos rfl)⟩, by rw [stp0 hKd]; exact A, hKD⟩ ?_
  clear F10 N10 A hKD mS mR mC mK mT
  intro n m₂ nx2 h11 tk11 F11 N11 hJ
  obtain ⟨f, KD, rfl, hf, ⟨mS, ⟨t1, mR⟩, ⟨t2, mC⟩, ⟨t3, mK⟩, mT⟩, ⟨t4, mt⟩, ⟨t5, mr⟩, A, hKD⟩ := hJ
  have hTf := hTl f
  have hEf := hEl f
  by_cases hlt : tAt K f < 4 * (K + 7)
  · obtain ⟨b1, b2, b3, b4, b5, b6⟩ := tAt_lt hKK hlt hf
    rw [b1] at mt
    have b7 : K * (1 + f) < 4 * (K + 7) := b1 ▸ hlt
    have hst := stpS (P := w.params) (f := f) hKd
    generalize hTT : K * (1 + f) = TT at *
    have c1 : 4 ≤ K := by lia
    have c2 : K ≤ 8 := by lia
    clear b1 hlt hRR hl hR hTl hEl hK4 hKd
    k_extra "STEPSI"
    rename Fr _ _ _ _ => F12
    rename News _ _ _ _ => N12
    rename ASt _ _ _ _ _ _ _ _ _ _ _ _ _ _ _ _ _ _ => A12
    rw [show ((K : Int) - 1).toNat = K - 1 by lia] at A12
    change ASt _ news x dx D1 D2 D3 q1 q2 k1 k2 ne nd rE rD (stp w.params ks f).1 KD (rot w.params K (stp w.params ks f).2 f) at A12
    clear A
    refine wpAny_mono (Q := fun fl s' => fl = .next ∧ ∃ h tk m nx, s' = { s with heap := h, toks := tk } ∧ Fr g1 L1 h m ∧ News g1 L1 h nx ∧ FrA x (K + 6) K D3 m ∧ (∃ t, m (Str.ofString "t") = some (.int (TT : Int) t)) ∧ (∃ t, m (Str.ofString "rconpointer") = some (.int ((f : Int) + 1) t)) ∧ ASt nx news x dx D1 D2 D3 q1 q2 k1 k2 ne nd rE rD (stp w.params ks f).1 KD (tkTurn w.params K (stp w.params ks f).2 f)) ?_ ?_ fun _ _ e => e
    · obtain ⟨m3, F13, hF3, mt3, mr3⟩ : ∃ m3, Fr g1 L1 _ m3 ∧ FrA x (K + 6) K D3 m3 ∧ m3 (Str.ofString "t") = some (.int (TT : Int) t4) ∧ (∃ t, m3 (Str.ofString "rconpointer") = some (.int ((f : Int) + 1) t)) :=
        ⟨_, F12, FrA.set (FrA.set ⟨mS, ⟨t1, mR⟩, ⟨t2, mC⟩, ⟨t3, mK⟩, mT⟩ (by decide) (by decide) (by decide) (by decide) (by decide)) (by decide) (by decide) (by decide) (by decide) (by decide), Eq.trans (if_neg (by decide)) (Eq.trans (if_neg (by decide)) mt), ⟨_, if_pos rfl⟩⟩
      clear F12 mS mR mC mK mT mt mr
      obtain ⟨⟨mS, ⟨t1, mR⟩, ⟨t2, mC⟩, ⟨t3, mK⟩, mT⟩, mt, ⟨t5, mr⟩, A⟩ : FrA x (K + 6) K D3 m3 ∧ m3 (Str.ofString "t") = some (.int (TT : Int) t4) ∧ (∃ t, m3 (Str.ofString "rconpointer") = some (.int ((f : Int) + 1) t)) ∧ ASt _ news x dx D1 D2 D3 q1 q2 k1 k2 ne nd rE rD (stp w.params ks f).1 KD (rot w.params K (stp w.params ks f).2 f) := ⟨hF3, mt3, mr3, A12⟩
      clear hF3 mt3 mr3 A12
      by_cases hK8 : K = 8
      · skip
        k_extra "STEPSX"
        k_dflt (refine For_invV g1 (by rfl) (by rfl) ?_)
        k_extra "STEPSX"
        rename IsRange _ _ _ _ _ _ _ _ => R7
        rename Fr _ _ _ _ => F7
        rename News _ _ _ _ => N7
        refine rng_inv (fun i m nx => FrA x (K + 6) K D3 m ∧ (∃ t, m (Str.ofString "t") = some (.int (TT : Int) t)) ∧ (∃ t, m (Str.ofString "rconpointer") = some (.int ((f : Int) + 1) t)) ∧ ASt nx news x dx D1 D2 D3 q1 q2 k1 k2 ne nd rE rD (stp w.params ks f).1 KD (xs 1 (rot w.params K (stp w.params ks f).2 f) i)) (n := 3) rfl R7 (small_one (by lia) (by lia) (by lia) (by lia)) (by rw [rangeSize_nat]; lia) F7 N7 ⟨⟨mS, ⟨t1, mR⟩, ⟨t2, mC⟩, ⟨t3, mK⟩, mT⟩, ⟨_, mt⟩, ⟨_, mr⟩, A⟩ ?_ ?_
        · clear mS mR mC mK mT mt mr A F7 N7
          intro I i it ti m₁ nx s₁ hi hJ off F8 N8 hs₁
          obtain ⟨⟨mS, ⟨t1, mR⟩, ⟨t2, mC⟩, ⟨t3, mK⟩, mT⟩, ⟨t4, mt⟩, ⟨t5, mr⟩, A⟩ := hJ
          have A' := A.push (it := it) off
          have hTl2 : (xs 1 (rot w.params K (stp w.params ks f).2 f) i).length = K := by rw [xs_len]; exact rot_len.trans hTf
          k_extra "STEPSX"
          rename Fr _ _ _ _ => F9
          rename News _ _ _ _ => N9
          rename ASt _ _ _ _ _ _ _ _ _ _ _ _ _ _ _ _ _ _ => A9
          rw [show (1 + (i : Int) * 1).toNat = 1 + i by lia, show (1 + (i : Int) * 1 - 1).toNat = 1 + i - 1 by lia] at A9
          exact A9.next F9 N9 (fun p hp => off p (A.sub p hp)) fun nx' A'' => ⟨FrA.set ⟨mS, ⟨t1, mR⟩, ⟨t2, mC⟩, ⟨t3, mK⟩, mT⟩ (by decide) (by decide) (by decide) (by decide) (by decide), ⟨_, Eq.trans (if_neg (by decide)) mt⟩, ⟨_, Eq.trans (if_neg (by decide)) mr⟩, A''⟩
        clear mS mR mC mK mT mt mr A F7 N7 R7
        intro m₁ nx h12 tk12 hJ F8 N8
        obtain ⟨⟨mS, ⟨t1, mR⟩, ⟨t2, mC⟩, ⟨t3, mK⟩, mT⟩, ⟨t4, mt⟩, ⟨t5, mr⟩, A⟩ := hJ
        try dsimp only
        have hTl3 : (xs 1 (rot w.params K (stp w.params ks f).2 f) 3).length = K := by rw [xs_len]; exact rot_len.trans hTf
        k_extra "STEPSX"
        rename Fr _ _ _ _ => F10
        rename News _ _ _ _ => N10
        rename ASt _ _ _ _ _ _ _ _ _ _ _ _ _ _ _ _ _ _ => A10
        rw [show ((K : Int) / 2).toNat = 4 by lia, show ((K : Int) / 2 - 1).toNat = 3 by lia] at A10
        change ASt _ news x dx D1 D2 D3 q1 q2 k1 k2 ne nd rE rD (stp w.params ks f).1 KD (mid8 w.params (xs 1 (rot w.params K (stp w.params ks f).2 f) 3)) at A10
        clear A
        k_extra "STEPSX"
        k_dflt (refine For_invV g1 (by rfl) (by rfl) ?_)
        k_extra "STEPSX"
        rename IsRange _ _ _ _ _ _ _ _ => R7
        rename Fr _ _ _ _ => F7
        rename News _ _ _ _ => N7
        refine rng_inv (fun i m nx => FrA x (K + 6) K D3 m ∧ (∃ t, m (Str.ofString "t") = some (.int (TT : Int) t)) ∧ (∃ t, m (Str.ofString "rconpointer") = some (.int ((f : Int) + 1) t)) ∧ ASt nx news x dx D1 D2 D3 q1 q2 k1 k2 ne nd rE rD (stp w.params ks f).1 KD (xs 5 (mid8 w.params (xs 1 (rot w.params K (stp w.params ks f).2 f) 3)) i)) (n := 3) rfl R7 (small_one (by lia) (by lia) (by lia) (by lia)) (by rw [rangeSize_nat]; lia) F7 N7 ⟨FrA.set ⟨mS, ⟨t1, mR⟩, ⟨t2, mC⟩, ⟨t3, mK⟩, mT⟩ (by decide) (by decide) (by decide) (by decide) (by decide), ⟨_, Eq.trans (if_neg (by decide)) mt⟩, ⟨_, Eq.trans (if_neg (by decide)) mr⟩, A10⟩ ?_ ?_
        · clear mS mR mC mK mT mt mr A10 F7 N7
          intro I i it ti m₁ nx s₁ hi hJ off F8 N8 hs₁
          obtain ⟨⟨mS, ⟨t1, mR⟩, ⟨t2, mC⟩, ⟨t3, mK⟩, mT⟩, ⟨t4, mt⟩, ⟨t5, mr⟩, A⟩ := hJ
          have A' := A.push (it := it) off
          have hTl2 : (xs 5 (mid8 w.params (xs 1 (rot w.params K (stp w.params ks f).2 f) 3)) i).length = K := by rw [xs_len]; exact mid8_len.trans (xs_len.trans (rot_len.trans hTf))
          k_extra "STEPSX"
          rename Fr _ _ _ _ => F9
          rename News _ _ _ _ => N9
          rename ASt _ _ _ _ _ _ _ _ _ _ _ _ _ _ _ _ _ _ => A9
          rw [show ((K : Int) / 2 + 1 + (i : Int) * 1).toNat = 5 + i by lia, show ((K : Int) / 2 + 1 + (i : Int) * 1 - 1).toNat = 5 + i - 1 by lia] at A9
          exact A9.next F9 N9 (fun p hp => off p (A.sub p hp)) fun nx' A'' => ⟨FrA.set ⟨mS, ⟨t1, mR⟩, ⟨t2, mC⟩, ⟨t3, mK⟩, mT⟩ (by decide) (by decide) (by decide) (by decide) (by decide), ⟨_, Eq.trans (if_neg (by decide)) mt⟩, ⟨_, Eq.trans (if_neg (by decide)) mr⟩, A''⟩
        clear mS mR mC mK mT mt mr A10 F7 N7 R7
        intro m₁ nx h12 tk12 hJ F8 N8
        obtain ⟨⟨mS, ⟨t1, mR⟩, ⟨t2, mC⟩, ⟨t3, mK⟩, mT⟩, ⟨t4, mt⟩, ⟨t5, mr⟩, A⟩ := hJ
        try dsimp only
        k_extra "STEPSX"
        exact ⟨_, _, _, _, rfl, F8, N8, ⟨mS, ⟨t1, mR⟩, ⟨t2, mC⟩, ⟨t3, mK⟩, mT⟩, ⟨_, mt⟩, ⟨_, mr⟩, (by rw [show tkTurn w.params K (stp w.params ks f).2 f = xs 5 (mid8 w.params (xs 1 (rot w.params K (stp w.params ks f).2 f) 3)) 3 from if_pos hK8]; exact A)⟩
      · skip
        k_extra "STEPSX"
        k_dflt (refine For_invV g1 (by rfl) (by rfl) ?_)
        k_extra "STEPSX"
        rename IsRange _ _ _ _ _ _ _ _ => R7
        rename Fr _ _ _ _ => F7
        rename News _ _ _ _ => N7
        refine rng_inv (fun i m nx => FrA x (K + 6) K D3 m ∧ (∃ t, m (Str.ofString "t") = some (.int (TT : Int) t)) ∧ (∃ t, m (Str.ofString "rconpointer") = some (.int ((f : Int) + 1) t)) ∧ ASt nx news x dx D1 D2 D3 q1 q2 k1 k2 ne nd rE rD (stp w.params ks f).1 KD (xs 1 (rot w.params K (stp w.params ks f).2 f) i)) (n := K - 1) rfl R7 (small_one (by lia) (by lia) (by lia) (by lia)) (by rw [rangeSize_nat]; lia) F7 N7 ⟨⟨mS, ⟨t1, mR⟩, ⟨t2, mC⟩, ⟨t3, mK⟩, mT⟩, ⟨_, mt⟩, ⟨_, mr⟩, A⟩ ?_ ?_
        · clear mS mR mC mK mT mt mr A F7 N7
          intro I i it ti m₁ nx s₁ hi hJ off F8 N8 hs₁
          obtain ⟨⟨mS, ⟨t1, mR⟩, ⟨t2, mC⟩, ⟨t3, mK⟩, mT⟩, ⟨t4, mt⟩, ⟨t5, mr⟩, A⟩ := hJ
          have A' := A.push (it := it) off
          have hTl2 : (xs 1 (rot w.params K (stp w.params ks f).2 f) i).length = K := by rw [xs_len]; exact rot_len.trans hTf
          k_extra "STEPSX"
          rename Fr _ _ _ _ => F9
          rename News _ _ _ _ => N9
          rename ASt _ _ _ _ _ _ _ _ _ _ _ _ _ _ _ _ _ _ => A9
          rw [show (1 + (i : Int) * 1).toNat = 1 + i by lia, show (1 + (i : Int) * 1 - 1).toNat = 1 + i - 1 by lia] at A9
          exact A9.next F9 N9 (fun p hp => off p (A.sub p hp)) fun nx' A'' => ⟨FrA.set ⟨mS, ⟨t1, mR⟩, ⟨t2, mC⟩, ⟨t3, mK⟩, mT⟩ (by decide) (by decide) (by decide) (by decide) (by decide), ⟨_, Eq.trans (if_neg (by decide)) mt⟩, ⟨_, Eq.trans (if_neg (by decide)) mr⟩, A''⟩
        clear mS mR mC mK mT mt mr A F7 N7 R7
        intro m₁ nx h12 tk12 hJ F8 N8
        obtain ⟨⟨mS, ⟨t1, mR⟩, ⟨t2, mC⟩, ⟨t3, mK⟩, mT⟩, ⟨t4, mt⟩, ⟨t5, mr⟩, A⟩ := hJ
        try dsimp only
        k_extra "STEPSX"
        exact ⟨_, _, _, _, rfl, F8, N8, ⟨mS, ⟨t1, mR⟩, ⟨t2, mC⟩, ⟨t3, mK⟩, mT⟩, ⟨_, mt⟩, ⟨_, mr⟩, (by rw [show tkTurn w.params K (stp w.params ks f).2 f = xs 1 (rot w.params K (stp w.params ks f).2 f) (K - 1) from if_neg hK8]; exact A)⟩
    clear F12 N12 A12 mS mR mC mK mT mt mr
    intro fl s' hs'
    obtain ⟨rfl, h12, tk12, m4, nx4, rfl, F12, N12, ⟨mS, ⟨t1, mR⟩, ⟨t2, mC⟩, ⟨t3, mK⟩, mT⟩, ⟨t4, mt⟩, ⟨t5, mr⟩, A⟩ := hs'
    try dsimp only
    k_extra "STEPSX"
    rename Fr _ _ _ _ => F13
    rename News _ _ _ _ => N13
    have hTk : (tkTurn w.params K (stp w.params ks f).2 f).length = K := tkTurn_len.trans hTf
    rw [show Prod.mk (cps (stp w.params ks f).1 (tkTurn w.params K (stp w.params ks f).2 f) TT (min K (4 * (K + 7) - TT))) (tkTurn w.params K (stp w.params ks f).2 f) = _ from rfl] at hst
    generalize htk' : tkTurn w.params K (stp w.params ks f).2 f = tk' at hst hTk A
    refine While_inv2 (fun n m nx => ∃ j KD, n = min K (4 * (K + 7) - TT) - j ∧ j ≤ min K (4 * (K + 7) - TT) ∧ FrA x (K + 6) K D3 m ∧ (∃ t, m (Str.ofString "t") = some (.int ((TT : Int) + (j : Int)) t)) ∧ (∃ t, m (Str.ofString "j") = some (.int (j : Int) t)) ∧ (∃ t, m (Str.ofString "rconpointer") = some (.int ((f : Int) + 1) t)) ∧ ASt nx news x dx D1 D2 D3 q1 q2 k1 k2 ne nd rE rD (cps (stp w.params ks f).1 tk' TT j) KD tk' ∧ KD.length = K + 6 + 1) (n₀ := min K (4 * (K + 7) - TT)) F13 N13
      ⟨0, KD, rfl, Nat.zero_le _, FrA.set ⟨mS, ⟨t1, mR⟩, ⟨t2, mC⟩, ⟨t3, mK⟩, mT⟩ (by decide) (by decide) (by decide) (by decide) (by decide), ⟨t4, Eq.trans (if_neg (by decide)) (mt.trans (congrArg some (congrArg (Value.int · _) (by lia))))⟩, ⟨_, if_pos rfl⟩, ⟨_, Eq.trans (if_neg (by decide)) mr⟩, A, hKD⟩ ?_
    clear F13 N13 mS mR mC mK mT mt mr A hKD
    intro n m₂ nx2 h13 tk13 F14 N14 hJ
    obtain ⟨j, KD2, rfl, hj, ⟨mS, ⟨t1, mR⟩, ⟨t2, mC⟩, ⟨t3, mK⟩, mT⟩, ⟨t4, mt⟩, ⟨t6, mj⟩, ⟨t5, mr⟩, A, hKD⟩ := hJ
    have hEl2 : (cps (stp w.params ks f).1 tk' TT j).length = K + 7 := cps_len.trans hEf
    by_cases hlt : j < min K (4 * (K + 7) - TT)
    · have c3 : j < K := by lia
      have c4 : TT + j < 4 * (K + 7) := by lia
      k_extra "STEPSX"
      rename Fr _ _ _ _ => F15
      rename News _ _ _ _ => N15
      rename ASt _ _ _ _ _ _ _ _ _ _ _ _ _ _ _ _ _ _ => A9
      rw [show (((TT : Int) + (j : Int)) / 4).toNat = (TT + j) / 4 by lia, show (((TT : Int) + (j : Int)) % 4).toNat = (TT + j) % 4 by lia, show (j : Int).toNat = j by lia] at A9
      exact ⟨_, _, _, _, min K (4 * (K + 7) - TT) - (j + 1), rfl, F15, N15, by lia, j + 1, _, rfl, by lia, FrA.set (FrA.set ⟨mS, ⟨t1, mR⟩, ⟨t2, mC⟩, ⟨t3, mK⟩, mT⟩ (by decide) (by decide) (by decide) (by decide) (by decide)) (by decide) (by decide) (by decide) (by decide) (by decide), ⟨_, (if_pos rfl).trans (congrArg some (congrArg (Value.int · _) (by lia)))⟩, ⟨_, Eq.trans (if_neg (by decide)) ((if_pos rfl).trans (congrArg some (congrArg (Value.int · _) (by lia))))⟩, ⟨_, Eq.trans (if_neg (by decide)) (Eq.trans (if_neg (by decide)) mr)⟩, A9, (by rw [mset_len]; exact hKD)⟩
    have hj2 : j = min K (4 * (K + 7) - TT) := by lia
    by_cases c3 : j < K
    · have c4 : ¬ TT + j < 4 * (K + 7) := by lia
      k_extra "STEPSX"
      rename Fr _ _ _ _ => F14
      rename News _ _ _ _ => N14
      exact ⟨_, _, _, _, nf K - (f + 1), rfl, F14, N14, by lia, f + 1, KD2, rfl, b2, ⟨mS, ⟨t1, mR⟩, ⟨t2, mC⟩, ⟨t3, mK⟩, mT⟩, ⟨t4, mt.trans (congrArg some (congrArg (Value.int · _) (by lia)))⟩, ⟨t5, mr.trans (congrArg some (congrArg (Value.int · _) (by lia)))⟩, (by rw [hst, ← hj2]; exact A), hKD⟩
    · k_extra "STEPSX"
      rename Fr _ _ _ _ => F14
      rename News _ _ _ _ => N14
      exact ⟨_, _, _, _, nf K - (f + 1), rfl, F14, N14, by lia, f + 1, KD2, rfl, b2, ⟨mS, ⟨t1, mR⟩, ⟨t2, mC⟩, ⟨t3, mK⟩, mT⟩, ⟨t4, mt.trans (congrArg some (congrArg (Value.int · _) (by lia)))⟩, ⟨t5, mr.trans (congrArg some (congrArg (Value.int · _) (by lia)))⟩, (by rw [hst, ← hj2]; exact A), hKD⟩
  obtain ⟨d1, d2⟩ := tAt_ge hKK hlt hf
  rw [d2] at mt
  subst d1
  rw [show (stp w.params ks (nf K)).1 = keOf w.params ks by unfold keOf; rw [hKd]] at A hEf
  clear hlt hf
  k_extra "STEPSX"
  k_dflt (refine For_invV g1 (by rfl) (by rfl) ?_)
  k_extra "STEPSX"
  rename IsRange _ _ _ _ _ _ _ _ => R7
  rename Fr _ _ _ _ => F7
  rename News _ _ _ _ => N7
  refine rng_inv (fun i m nx => FrA x (K + 6) K D3 m ∧ ∃ KD, ASt nx news x dx D1 D2 D3 q1 q2 k1 k2 ne nd rE rD (keOf w.params ks) KD (stp w.params ks (nf K)).2 ∧ KD.length = K + 6 + 1) (n := K + 5) rfl R7 (small_one (by lia) (by lia) (by lia) (by lia)) (by rw [rangeSize_nat]; lia) F7 N7 ⟨⟨mS, ⟨t1, mR⟩, ⟨t2, mC⟩, ⟨t3, mK⟩, mT⟩, _, A, hKD⟩ ?_ ?_
  · clear mS mR mC mK mT mt mr A F7 N7 R7 hKD
    intro I i it ti m₁ nx s₁ hi hJ off F8 N8 hs₁
    obtain ⟨⟨mS, ⟨t1, mR⟩, ⟨t2, mC⟩, ⟨t3, mK⟩, mT⟩, KD, A0, hKD⟩ := hJ
    have A := A0.push (it := it) off
    k_extra "STEPSX"
    k_dflt (refine For_invV g1 (by rfl) (by rfl) ?_)
    k_extra "STEPSX"
    rename IsRange _ _ _ _ _ _ _ _ => R7
    rename Fr _ _ _ _ => F7
    rename News _ _ _ _ => N7
    refine rng_inv (fun j m nx => FrA x (K + 6) K D3 m ∧ (∃ t, m (Str.ofString "r") = some (.int (1 + (i : Int) * 1) t)) ∧ ∃ KD, ASt nx ((I, it) :: news) x dx D1 D2 D3 q1 q2 k1 k2 ne nd rE rD (keOf w.params ks) KD (stp w.params ks (nf K)).2 ∧ KD.length = K + 6 + 1) (n := 4) rfl R7 (small_one (by lia) (by lia) (by lia) (by lia)) (by rw [rangeSize_nat]; lia) F7 N7 ⟨FrA.set ⟨mS, ⟨t1, mR⟩, ⟨t2, mC⟩, ⟨t3, mK⟩, mT⟩ (by decide) (by decide) (by decide) (by decide) (by decide), ⟨_, if_pos rfl⟩, _, A, hKD⟩ ?_ ?_
    · clear mS mR mC mK mT A F7 N7 R7 hKD
      intro I2 j it2 tj m₂ nx2 s₂ hj hJ off2 F10 N10 hs₂
      obtain ⟨⟨mS, ⟨t1, mR⟩, ⟨t2, mC⟩, ⟨t3, mK⟩, mT⟩, ⟨t4, mr⟩, KD, A2, hKD⟩ := hJ
      have A := A2.push (it := it2) off2
      k_extra "STEPSX"
      rename Fr _ _ _ _ => F9
      rename News _ _ _ _ => N9
      rename ASt _ _ _ _ _ _ _ _ _ _ _ _ _ _ _ _ _ _ => A9
      exact A9.next F9 N9 (fun p hp => off2 p (A2.sub p hp)) fun nx' A'' => ⟨FrA.set (FrA.set ⟨mS, ⟨t1, mR⟩, ⟨t2, mC⟩, ⟨t3, mK⟩, mT⟩ (by decide) (by decide) (by decide) (by decide) (by decide)) (by decide) (by decide) (by decide) (by decide) (by decide), ⟨_, Eq.trans (if_neg (by decide)) (Eq.trans (if_neg (by decide)) mr)⟩, _, A'', (by rw [mset_len]; exact hKD)⟩
    clear mS mR mC mK mT A F7 N7 R7 hKD
    intro m₂ nx2 h12 tk12 hJ F10 N10
    obtain ⟨⟨mS, ⟨t1, mR⟩, ⟨t2, mC⟩, ⟨t3, mK⟩, mT⟩, ⟨t4, mr⟩, KD, A, hKD⟩ := hJ
    try dsimp only
    k_extra "STEPSX"
    rename Fr _ _ _ _ => F9
    rename News _ _ _ _ => N9
    exact A.next F9 N9 (fun p hp => off p (A0.sub p hp)) fun nx' A'' => ⟨⟨mS, ⟨t1, mR⟩, ⟨t2, mC⟩, ⟨t3, mK⟩, mT⟩, _, A'', hKD⟩
  clear mS mR mC mK mT mt mr A F7 N7 R7 hKD
  intro m₁ nx h12 tk12 hJ F8 N8
  obtain ⟨⟨mS, ⟨t1, mR⟩, ⟨t2, mC⟩, ⟨t3, mK⟩, mT⟩, KD, A, hKD⟩ := hJ
  try dsimp only
  k_extra "STEPSX"
  rename Fr _ _ _ _ => F20
  rename News _ _ _ _ => N20
  refine hret _ nx _ _ F20 N20 ⟨x, dx, D1, D2, q1, q2, k1, k2, ne, rE, rfl, ⟨A.hx, A.hdx, A.hke, A.rowsE.1, fun i hi => A.rowsE.2 i hi⟩, A.sub, fun p hp a ha => A.fresh p hp a ?_⟩
  simp only [List.mem_cons, List.mem_append] at ha ⊢
  rcases ha with h | h | h | h <;> simp [h]
end

theorem stepsP9 : True := by
  k_with "STEPSX" => (repeat' (first | (k_unfold; (try dsimp only)) | (((fail_if_success (with_reducible show wpAny _ _ (setAttr _ _ _) _ _ _)); (fail_if_success (with_reducible show wpAny _ _ (exec (Stmt.For _ _ _ _ _) _) _ _ _)); (fail_if_success (with_reducible show wpAny _ _ (exec (Stmt.While _ _ _ _) _) _ _ _)); (fail_if_success (with_reducible show wpAny _ _ (exec (Stmt.Assign _ (Expr.ListComp _ _ _ _) _) _) _ _ _)); (fail_if_success (with_reducible show wpAny _ _ (eval (Expr.ListComp _ _ _ _) _) _ _ _)); (fail_if_success (with_reducible show LCg.CompSrc _ _ _ _ _ _ _ _ _ _ _ _ _ _)); (fail_if_success (with_reducible show wpAny _ _ (pyIter _) _ _ _)); (fail_if_success (with_reducible show RPost _ _ _ _ _ _ _ _ _)); (fail_if_success (with_reducible show CPost _ _ _ _ _ _ _ _)); (fail_if_success (with_reducible show Exists _)); (fail_if_success (with_reducible show CPostJ _ _ _ _ _ _ _ _ _ _ _ _ _)); (fail_if_success (with_reducible show WhileStep2 _ _ _ _ _ _ _ _)); first | walk1 | (dsimp only; walk1)) <;> ((try dsimp only [List.cons_append, List.nil_append]); (try k_fold)))))
  exact trivial
/-- what a call does, where the ground holds more -/
def TellsH (H : Heap → Prop) (w : World) (f : Addr) (vs : List Value) (deep : Nat) (news : List (Addr × Obj)) (Out : Value → List (Addr × Obj) → Prop) : Prop :=
  ∀ (loose : List Str) (mean : ExcName → Option Value) (mg mb : Str → Option Value) (dp un : Nat) (gd : Option (List Code)) (cn : Str) (cs : Scope) (a : Addr) (ccd : Value) (cl : List (Str × Addr)) (outer : List Env) (A₀ : Around) (base h₀ : Heap) (L : Addr) (m : Str → Option Value) (s : Shared) (Q E : Value → Shared → Prop),
    Below A₀ base outer h₀ → Fr h₀ L s.heap m → (Mine.hd.heap_39 w.params).In h₀ → News h₀ L s.heap news → Top Mine.hd.view_39 loose mean mg mb h₀ → cs.kind = .function → dp + deep < recursionLimit → un + 8 * deep < cLine → H h₀ →
    (∀ v news' h' tk', Fr h₀ L h' m → News h₀ L h' news' → Out v news' → Q v { s with heap := h', toks := tk' }) →
    wpAny (model PySem.Challenge.rw_yv0002_01.row.prog w) (ktrTop dp un gd cn cs L a ccd cl outer) (call (.ref f) vs) Q E s
theorem TellsH.use {H : Heap → Prop} {w : World} {f : Addr} {vs : List Value} {deep : Nat} {news : List (Addr × Obj)} {Out : Value → List (Addr × Obj) → Prop} (C : TellsH H w f vs deep news Out)
    {loose : List Str} {mean : ExcName → Option Value} {mg mb : Str → Option Value} {dp un : Nat} {gd : Option (List Code)} {cn : Str} {cs : Scope} {a : Addr} {ccd : Value} {cl : List (Str × Addr)} {outer : List Env} {A₀ : Around} {base h₀ : Heap} {L : Addr} {m : Str → Option Value} {s : Shared} {Q E : Value → Shared → Prop}
    (B : Below A₀ base outer h₀) (F : Fr h₀ L s.heap m) (X : (Mine.hd.heap_39 w.params).In h₀) (N : News h₀ L s.heap news) (T : Top Mine.hd.view_39 loose mean mg mb h₀) (hk : cs.kind = .function) (hd : dp + deep < recursionLimit) (hu : un + 8 * deep < cLine) (hH : H h₀)
    (ret : ∀ v news' h' tk', Fr h₀ L h' m → News h₀ L h' news' → Out v news' → Q v { s with heap := h', toks := tk' }) :
    wpAny (model PySem.Challenge.rw_yv0002_01.row.prog w) (ktrTop dp un gd cn cs L a ccd cl outer) (call (.ref f) vs) Q E s :=
  C _ _ _ _ _ _ _ _ _ _ _ _ _ _ _ _ _ _ _ _ _ B F X N T hk hd hu hH ret
section
variable {prog : Program} {w : World} {A : Around} {E : Value → Shared → Prop} {s : Shared} {h₀ : Heap} {L l : Addr} {m : Str → Option Value} {value slice : Expr} {k : Int} {u : Tok} {Q : Value → Shared → Prop} {vs : List Value} {ns : List Int}
theorem item_sl (F : Fr h₀ L s.heap m) (hL : h₀.IsList l vs.toArray) (hI : IntsAre vs ns) (h0 : 0 ≤ k) (h1 : k < ns.length) (hz : ns.length ≤ 1000) (h : ∀ t, Q (.int (ns.getD k.toNat 0) t) s)
    (hs : subscripted slice false (.ref l) (.int k u) = operate [.ref l, .int k u] (getItem (.ref l) (.int k u)) := by with_unfolding_all rfl) :
    wpAny (model prog w) A (subscriptTail value slice (.ref l) (.int k u)) Q E s := by
  have hlt : k.toNat < ns.length := by lia
  have e' : ns[k.toNat]? = some (ns.getD k.toNat 0) := by rw [List.getD_eq_getElem?_getD, List.getElem?_eq_getElem hlt]; rfl
  obtain ⟨t, ht⟩ := hI.get _ _ e'
  have hL' := stays_list F.keep hL
  exact tail_any hL'.typeIs slot_list_getitem.lookup (wpAny_getItem_list hL' h0 (by lia) (by simpa using ht) (h t)) hs
theorem len_sl (F : Fr h₀ L s.heap m) (hL : h₀.IsList l vs.toArray) (hI : IntsAre vs ns) (hz : ns.length ≤ 1000) (h : ∀ t k, Q (.int ns.length t) { s with toks := k }) : wpAny (model prog w) A (call (.builtin "len") [.ref l]) Q E s := by
  have e : vs.toArray.size = ns.length := by simp [hI.length]
  exact len_list (stays_list F.keep hL) (by rw [e]; lia) (by rw [e]; exact h _ _)
end
section
local macro_rules | `(tactic| ktr_rel) => `(tactic| first | assumption | exact rd_eq | (refine' rd_ne ?rn ?rv; (case rn => decide); (case rv => ktr_rel)) | (refine' IL.here ?ih; (case ih => assumption)) | (refine' IL.skip ?is; (case is => ktr_rel)) | (refine' KeAt.skip ?is; (case is => ktr_rel)) | (refine' Blk.skip ?is; (case is => ktr_rel)) | (refine' In.take ?is _; (case is => ktr_rel)) | (refine' In.drop ?is _; (case is => ktr_rel)))
local macro_rules | `(tactic| k_all) => `(tactic| exact allLt_ne (by assumption))
theorem wordsP91 : True := by
  k_with_none
  k_with "STEPSX" => (repeat' (first | (k_unfold; (try dsimp only)) | (((fail_if_success (with_reducible show wpAny _ _ (setAttr _ _ _) _ _ _)); (fail_if_success (with_reducible show wpAny _ _ (exec (Stmt.For _ _ _ _ _) _) _ _ _)); (fail_if_success (with_reducible show wpAny _ _ (exec (Stmt.While _ _ _ _) _) _ _ _)); (fail_if_success (with_reducible show wpAny _ _ (exec (Stmt.Assign _ (Expr.ListComp _ _ _ _) _) _) _ _ _)); (fail_if_success (with_reducible show wpAny _ _ (eval (Expr.ListComp _ _ _ _) _) _ _ _)); (fail_if_success (with_reducible show LCg.CompSrc _ _ _ _ _ _ _ _ _ _ _ _ _ _)); (fail_if_success (with_reducible show wpAny _ _ (pyIter _) _ _ _)); (fail_if_success (with_reducible show RPost _ _ _ _ _ _ _ _ _)); (fail_if_success (with_reducible show CPost _ _ _ _ _ _ _ _)); (fail_if_success (with_reducible show Exists _)); (fail_if_success (with_reducible show CPostJ _ _ _ _ _ _ _ _ _ _ _ _ _)); (fail_if_success (with_reducible show WhileStep2 _ _ _ _ _ _ _ _)); first | walk1 | (dsimp only; walk1)) <;> ((try dsimp only [List.cons_append, List.nil_append]); (try k_fold)))))
  k_with "subscriptTail" => (k_here; (with_reducible show wpAny _ _ (subscriptTail _ _ (Value.ref _) (Value.int _ _)) _ _ _); k_dflt (refine' item_IL ?qqN ?qqm ?qqa ?qqb ?qqc ?_; (case qqN => k_asm); (case qqm => ktr_rel); (case qqa => lia); (case qqb => lia); (case qqc => lia); k_whole); intro _)
  k_with "call builtin:len" => (k_here; (with_reducible show wpAny _ _ (call (Value.builtin "len") [Value.ref _]) _ _ _); k_dflt (refine' len_IL ?qqN ?qqm ?qqz ?_; (case qqN => k_asm); (case qqm => ktr_rel); (case qqz => lia); k_whole); intro _ _)
  k_with "ite" => (k_here; first | (refine ite_neg (by (simp only [bne_iff_ne, beq_iff_eq, decide_eq_true_eq, ne_eq, Decidable.not_not]; lia)) ?_) | (refine ite_pos (by (simp only [bne_iff_ne, beq_iff_eq, decide_eq_true_eq, ne_eq, Decidable.not_not]; lia)) ?_))
  k_with "eval Name" => (k_here; name_kind "local"; (with_reducible show wpAny _ _ (eval (Expr.Name _ _) (compEnvC _ _ _ _)) _ _ _); k_dflt (refine LCgL.ld_own (by k_asm) (by k_mem) (by assumption) (by assumption) ?_))
  k_with "eval Name" => (k_here; name_kind "globalImplicit"; (with_reducible show wpAny _ _ (eval (Expr.Name _ _) (compEnvC _ _ _ _)) _ _ _); k_dflt (refine LCgL.ld_global (by k_asm) (by k_asm) (by k_asm) (by k_is) ?_))
  k_with "eval Name" => (k_here; name_kind "free"; (with_reducible show wpAny _ _ (eval (Expr.Name _ _) (compEnvC _ _ _ _)) _ _ _); k_dflt (refine' ld_cell ?qqN ?qqc ?qqm ?qqd ?_ ?qqe ?qqf ?qqg; (case qqe => rfl); (case qqf => rfl); (case qqg => decide); (case qqN => k_asm); (case qqc => rfl); (case qqm => k_mem); (case qqd => k_asm); k_whole))
  k_with "eval Name" => (k_here; name_kind "local"; (fail_if_success (with_reducible show wpAny _ _ (eval (Expr.Name _ _) (compEnvC _ _ _ _)) _ _ _)); (with_reducible rename Fr _ _ _ _ => kF); k_dflt (refine' nameX_L kF ?qqv ?_ ?qqa ?qqb; (case qqa => rfl); (case qqb => rfl); (case qqv => ktr_rel); k_whole))
  k_with "subscriptTail" => (k_here; (with_reducible show wpAny _ _ (subscriptTail _ (Expr.Slice (some _) (some _) none _) (Value.ref _) (Value.ref _)) _ _ _); k_dflt (refine' slice_run' ?qqF ?qqN ?qqm ?qqz ?qqa ?qqb ?_; (case qqF => k_asm); (case qqN => k_asm); (case qqm => ktr_rel); (case qqz => lia); (case qqa => lia); (case qqb => lia); k_whole); intro D' h' F' ws' hw' N' l1; (try k_lt l1); (try k_sweep))
  k_with "call builtin:len" => (k_here; k_dflt (refine' len_blk ?qqN ?qqm ?qqz ?_; (case qqN => k_asm); (case qqm => ktr_rel); (case qqz => lia); k_whole); intro _ _)
  k_with "subscriptTail" => (k_here; (with_reducible show wpAny _ _ (subscriptTail _ (Expr.Slice (some _) (some _) none _) _ (Value.ref _)) _ _ _); k_dflt (refine' slice_blk' ?qqe ?qqF ?qqN ?qqm ?qqz ?qqa ?qqb ?_; (case qqe => exact ⟨_, _, _, _, _, rfl, rfl⟩); (case qqF => k_asm); (case qqN => k_asm); (case qqm => ktr_rel); (case qqz => lia); (case qqa => lia); (case qqb => lia); k_whole); intro v' h' k' led' F' N' hs' hb')
  k_with "call ref" => (k_here; k_dflt (refine' Tells.use (compactV _ _ _ _ ?qqhl ?qqh4 ?qqhi) ?qqB ?qqF ?qqX ?qqN ?qqT ?qqhk ?qqhd ?qqhu ?_; (case qqB => k_asm); (case qqF => k_asm); (case qqX => k_asm); (case qqN => k_asm); (case qqT => k_asm); (case qqhk => rfl); (case qqhl => ktr_rel); (case qqh4 => (simp only [List.length_take, List.length_drop]; lia)); (case qqhi => ktr_rel); (case qqhd => first | lia | (dsimp only [ktrTop, Around.deeper]; lia)); (case qqhu => first | lia | (dsimp only [ktrTop, Around.deeper]; lia))); intro v' news' h' tk' F' Nq' hO'; (obtain ⟨hO1, t', hO2⟩ := hO'; subst hO1; subst hO2); (have N9' := drop_led Nq' (by assumption)); (try dsimp only); (try k_sweep))
  k_with "call type:list" => (k_here; (with_reducible show wpAny _ _ (call (Value.type "list") [Value.ref _]) _ _ _); k_dflt (refine' copy_IL ?qqF ?qqN ?qqm ?qqz ?_; (case qqF => k_asm); (case qqN => k_asm); (case qqm => ktr_rel); (case qqz => lia); k_whole); intro D' c' h' vs' hv' F' N' l1; (try k_lt l1); (try k_sweep))
  k_with "setItem ref int" => (k_here; (with_reducible show wpAny _ _ (setItem (Value.ref _) (Value.int _ _) (Value.int _ _)) _ _ _); k_dflt (refine' set_IL ?qqk1 ?qqk2 ?qqk3 ?qqk4 ?qqk5 ?qqk6 ?qqk7 ?_; (case qqk1 => k_asm); (case qqk2 => k_asm); (case qqk3 => k_upd); (case qqk4 => with_reducible assumption); (case qqk5 => lia); (case qqk6 => lia); (case qqk7 => lia); k_whole); intro h' F' N' hi'; (try k_sweep))
  k_with "subscriptTail" => (k_here; (with_reducible show wpAny _ _ (subscriptTail _ _ (Value.ref _) (Value.int _ _)) _ _ _); k_dflt (refine' item_tab ?qqF ?qqX ?qqo ?qqa ?qqb ?qqc ?_; (case qqF => k_asm); (case qqX => k_asm); (case qqo => with_reducible (first | exact tab_S _ | exact tab_T1 _ | exact tab_T2 _ | exact tab_T3 _ | exact tab_T4 _)); (case qqa => exact (and255 _).1); (case qqb => exact (and255 _).2); (case qqc => decide); k_whole); intro _)
  k_with "binaryOp Mod int int" => (k_here; (with_reducible refine mod_pos (by first | decide | lia) ?_))
  k_with "call builtin:list.append" => (k_here; (with_reducible show wpAny _ _ (call (Value.builtin _) [Value.ref _, Value.int _ _]) _ _ _); k_dflt (refine' append_IL ?qqk1 ?qqk2 ?qqk3 ?qqk4 ?qqk5 ?_; (case qqk1 => k_asm); (case qqk2 => k_asm); (case qqk3 => k_upd); (case qqk4 => with_reducible assumption); (case qqk5 => ((try simp only [List.length_append, List.length_cons, List.length_nil]); lia)); k_whole); intro h' F' N' hi'; (try k_sweep))
  k_with "call type:range" => (k_here; (first | (with_reducible show wpAny _ _ (call _ [_]) _ _ _) | (with_reducible show wpAny _ _ (call _ [_, _]) _ _ _)); (rename Fr _ _ _ _ => F'); (rename News _ _ _ _ => N'); (first | (with_unfolding_all refine range1_rows F' N' ?_) | (with_unfolding_all refine range2_rows F' N' ?_)); intro _ _ _ _ _ _ _ _ _)
  k_with "subscriptTail" => (k_here; (with_reducible show wpAny _ _ (subscriptTail _ (Expr.Slice _ _ none _) (Value.bytes _ _) (Value.ref _)) _ _ _); k_dflt (refine' slice_b' ?qqF ?qqN ?qqk ?qql ?qqu ?qqz ?_; (case qqF => k_asm); (case qqN => k_asm); (case qqk => kba_ints); (case qql => constructor); (case qqu => constructor); (case qqz => kba_size); k_whole); intro _ _ _ _ _ kbcK; (try simp only [Option.elim, KBc.clip_lit, clipAt_nat, List.drop_zero, Nat.sub_zero] at kbcK))
  k_with "subscriptTail" => (k_here; (with_reducible show wpAny _ _ (subscriptTail _ _ (Value.ref _) (Value.int _ _)) _ _ _); k_dflt (refine' item_sl ?qqF ?qqhL ?qqhI ?qqa ?qqb ?qqc ?_; (case qqF => k_asm); (case qqhL => with_reducible assumption); (case qqhI => with_reducible assumption); (case qqa => lia); (case qqb => lia); (case qqc => lia); k_whole); intro _)
  k_with "call builtin:len" => (k_here; (with_reducible show wpAny _ _ (call (Value.builtin "len") [Value.ref _]) _ _ _); k_dflt (refine' len_sl ?qqF ?qqhL ?qqhI ?qqc ?_; (case qqF => k_asm); (case qqhL => with_reducible assumption); (case qqhI => with_reducible assumption); (case qqc => lia); k_whole); intro _ _)
  k_with "binaryOp Mult int int" => (k_here; (with_reducible refine PySem.mul_int ?_ (PySem.IntMulOk.of_left (by decide))))
  exact trivial
set_option maxHeartbeats 8000000 in
theorem cellV (w : World) (news : List (Addr × Obj)) (sl : Addr) (vs : List Value) (ns : List Int) (hI : IntsAre vs ns) (hlay : PyData.layable0 (.list (ns.map .int)) = true) (hlen : ns.length ≤ 63) (k : Int) (tk : Tok) (hk0 : 0 ≤ k) (hk1 : k < 1000) :
   TellsH (fun h => h.IsList sl vs.toArray) w 450 [.ref sl, .int k tk] 1 news fun v news' => news' = news ∧ ∃ z t, v = .int z t ∧ 0 ≤ z ∧ Builtin.Int.intBits z ≤ 2 ^ 20 + 1 := by
  unfold TellsH; k_fill; intro loose mean mg mb dp un gd cn cs a ccd cl outer A₀ base h₀ L m s Q E B F X N T hk hd hu hH hret
  refine wpAny_call ?_; k_dflt (refine' code_def (binds := [(Str.ofString "script", Value.ref sl), (Str.ofString "k", Value.int k tk)]) ?k1 ?k2 ?k3 ?k4 ?k5 ?kA ?kF ?kK ?k6 ?k7 ?k8 ?k9 ?kB ?_ ?c2 ?c3 ?c4 ?c5; (case kA => exact rfl); (case kF => exact rfl); (case kK => assumption); (case k1 => exact B); (case k2 => exact F); (case k3 => exact X); (case k4 => exact N); (case k5 => exact T); (case k6 => k_is); (case k7 => k_is); (case k8 => ktr_room); (case k9 => first | exact BindsTo.of_eq rfl | exact binds_K (by k_in) rfl (by k_is) rfl rfl rfl); (case c5 => decide); (case kB => exact locs rfl); (case c2 => exact rfl); (case c3 => exact rfl); (case c4 => exact rfl)); intro g1 L1 h1 FG1 F1 N1 B1 X1 T1; (try dsimp only); (try k_fold)
  have hsl : g1.IsList sl vs.toArray := stays_list FG1.keep hH
  by_cases hc : k < ns.length
  · k_extra "STEPSX"
    refine hret _ _ _ _ (by assumption) (by assumption) ⟨rfl, _, _, rfl, ?_, ?_⟩
    · split <;> lia
    · have hb := PyProof.Rows.bits_getD (i := k.toNat) hlay
      split
      · exact Nat.le_trans (PyProof.Rows.bits_neg hb) (by lia)
      · exact Nat.le_trans hb (by lia)
  · k_extra "STEPSX"
    exact hret _ _ _ _ (by assumption) (by assumption) ⟨rfl, _, _, rfl, by lia, Nat.le_trans (PySem.intBits_le_64 (by lia) (by lia)) (by decide)⟩
end
section
local macro_rules | `(tactic| ktr_rel) => `(tactic| first | assumption | exact rd_eq | (refine' rd_ne ?rn ?rv; (case rn => decide); (case rv => ktr_rel)) | (refine' IL.here ?ih; (case ih => assumption)) | (refine' IL.skip ?is; (case is => ktr_rel)) | (refine' KeAt.skip ?is; (case is => ktr_rel)) | (refine' Blk.skip ?is; (case is => ktr_rel)) | (refine' In.take ?is _; (case is => ktr_rel)) | (refine' In.drop ?is _; (case is => ktr_rel)))
local macro_rules | `(tactic| k_all) => `(tactic| exact allLt_ne (by assumption))
theorem wordsP92 : True := by
  k_with_none
  k_with "STEPSX" => (repeat' (first | (k_unfold; (try dsimp only)) | (((fail_if_success (with_reducible show wpAny _ _ (setAttr _ _ _) _ _ _)); (fail_if_success (with_reducible show wpAny _ _ (exec (Stmt.For _ _ _ _ _) _) _ _ _)); (fail_if_success (with_reducible show wpAny _ _ (exec (Stmt.While _ _ _ _) _) _ _ _)); (fail_if_success (with_reducible show wpAny _ _ (exec (Stmt.Assign _ (Expr.ListComp _ _ _ _) _) _) _ _ _)); (fail_if_success (with_reducible show wpAny _ _ (eval (Expr.ListComp _ _ _ _) _) _ _ _)); (fail_if_success (with_reducible show LCg.CompSrc _ _ _ _ _ _ _ _ _ _ _ _ _ _)); (fail_if_success (with_reducible show wpAny _ _ (pyIter _) _ _ _)); (fail_if_success (with_reducible show RPost _ _ _ _ _ _ _ _ _)); (fail_if_success (with_reducible show CPost _ _ _ _ _ _ _ _)); (fail_if_success (with_reducible show Exists _)); (fail_if_success (with_reducible show CPostJ _ _ _ _ _ _ _ _ _ _ _ _ _)); (fail_if_success (with_reducible show WhileStep2 _ _ _ _ _ _ _ _)); first | walk1 | (dsimp only; walk1)) <;> ((try dsimp only [List.cons_append, List.nil_append]); (try k_fold)))))
  k_with "subscriptTail" => (k_here; (with_reducible show wpAny _ _ (subscriptTail _ _ (Value.ref _) (Value.int _ _)) _ _ _); k_dflt (refine' item_IL ?qqN ?qqm ?qqa ?qqb ?qqc ?_; (case qqN => k_asm); (case qqm => ktr_rel); (case qqa => lia); (case qqb => lia); (case qqc => lia); k_whole); intro _)
  k_with "call builtin:len" => (k_here; (with_reducible show wpAny _ _ (call (Value.builtin "len") [Value.ref _]) _ _ _); k_dflt (refine' len_IL ?qqN ?qqm ?qqz ?_; (case qqN => k_asm); (case qqm => ktr_rel); (case qqz => lia); k_whole); intro _ _)
  k_with "ite" => (k_here; first | (refine ite_neg (by (simp only [bne_iff_ne, beq_iff_eq, decide_eq_true_eq, ne_eq, Decidable.not_not]; lia)) ?_) | (refine ite_pos (by (simp only [bne_iff_ne, beq_iff_eq, decide_eq_true_eq, ne_eq, Decidable.not_not]; lia)) ?_))
  k_with "eval Name" => (k_here; name_kind "local"; (with_reducible show wpAny _ _ (eval (Expr.Name _ _) (compEnvC _ _ _ _)) _ _ _); k_dflt (refine LCgL.ld_own (by k_asm) (by k_mem) (by assumption) (by assumption) ?_))
  k_with "eval Name" => (k_here; name_kind "globalImplicit"; (with_reducible show wpAny _ _ (eval (Expr.Name _ _) (compEnvC _ _ _ _)) _ _ _); k_dflt (refine LCgL.ld_global (by k_asm) (by k_asm) (by k_asm) (by k_is) ?_))
  k_with "eval Name" => (k_here; name_kind "free"; (with_reducible show wpAny _ _ (eval (Expr.Name _ _) (compEnvC _ _ _ _)) _ _ _); k_dflt (refine' ld_cell ?qqN ?qqc ?qqm ?qqd ?_ ?qqe ?qqf ?qqg; (case qqe => rfl); (case qqf => rfl); (case qqg => decide); (case qqN => k_asm); (case qqc => rfl); (case qqm => k_mem); (case qqd => k_asm); k_whole))
  k_with "eval Name" => (k_here; name_kind "local"; (fail_if_success (with_reducible show wpAny _ _ (eval (Expr.Name _ _) (compEnvC _ _ _ _)) _ _ _)); (with_reducible rename Fr _ _ _ _ => kF); k_dflt (refine' nameX_L kF ?qqv ?_ ?qqa ?qqb; (case qqa => rfl); (case qqb => rfl); (case qqv => ktr_rel); k_whole))
  k_with "subscriptTail" => (k_here; (with_reducible show wpAny _ _ (subscriptTail _ (Expr.Slice (some _) (some _) none _) (Value.ref _) (Value.ref _)) _ _ _); k_dflt (refine' slice_run' ?qqF ?qqN ?qqm ?qqz ?qqa ?qqb ?_; (case qqF => k_asm); (case qqN => k_asm); (case qqm => ktr_rel); (case qqz => lia); (case qqa => lia); (case qqb => lia); k_whole); intro D' h' F' ws' hw' N' l1; (try k_lt l1); (try k_sweep))
  k_with "call builtin:len" => (k_here; k_dflt (refine' len_blk ?qqN ?qqm ?qqz ?_; (case qqN => k_asm); (case qqm => ktr_rel); (case qqz => lia); k_whole); intro _ _)
  k_with "subscriptTail" => (k_here; (with_reducible show wpAny _ _ (subscriptTail _ (Expr.Slice (some _) (some _) none _) _ (Value.ref _)) _ _ _); k_dflt (refine' slice_blk' ?qqe ?qqF ?qqN ?qqm ?qqz ?qqa ?qqb ?_; (case qqe => exact ⟨_, _, _, _, _, rfl, rfl⟩); (case qqF => k_asm); (case qqN => k_asm); (case qqm => ktr_rel); (case qqz => lia); (case qqa => lia); (case qqb => lia); k_whole); intro v' h' k' led' F' N' hs' hb')
  k_with "call ref" => (k_here; k_dflt (refine' Tells.use (compactV _ _ _ _ ?qqhl ?qqh4 ?qqhi) ?qqB ?qqF ?qqX ?qqN ?qqT ?qqhk ?qqhd ?qqhu ?_; (case qqB => k_asm); (case qqF => k_asm); (case qqX => k_asm); (case qqN => k_asm); (case qqT => k_asm); (case qqhk => rfl); (case qqhl => ktr_rel); (case qqh4 => (simp only [List.length_take, List.length_drop]; lia)); (case qqhi => ktr_rel); (case qqhd => first | lia | (dsimp only [ktrTop, Around.deeper]; lia)); (case qqhu => first | lia | (dsimp only [ktrTop, Around.deeper]; lia))); intro v' news' h' tk' F' Nq' hO'; (obtain ⟨hO1, t', hO2⟩ := hO'; subst hO1; subst hO2); (have N9' := drop_led Nq' (by assumption)); (try dsimp only); (try k_sweep))
  k_with "call type:list" => (k_here; (with_reducible show wpAny _ _ (call (Value.type "list") [Value.ref _]) _ _ _); k_dflt (refine' copy_IL ?qqF ?qqN ?qqm ?qqz ?_; (case qqF => k_asm); (case qqN => k_asm); (case qqm => ktr_rel); (case qqz => lia); k_whole); intro D' c' h' vs' hv' F' N' l1; (try k_lt l1); (try k_sweep))
  k_with "setItem ref int" => (k_here; (with_reducible show wpAny _ _ (setItem (Value.ref _) (Value.int _ _) (Value.int _ _)) _ _ _); k_dflt (refine' set_IL ?qqk1 ?qqk2 ?qqk3 ?qqk4 ?qqk5 ?qqk6 ?qqk7 ?_; (case qqk1 => k_asm); (case qqk2 => k_asm); (case qqk3 => k_upd); (case qqk4 => with_reducible assumption); (case qqk5 => lia); (case qqk6 => lia); (case qqk7 => lia); k_whole); intro h' F' N' hi'; (try k_sweep))
  k_with "subscriptTail" => (k_here; (with_reducible show wpAny _ _ (subscriptTail _ _ (Value.ref _) (Value.int _ _)) _ _ _); k_dflt (refine' item_tab ?qqF ?qqX ?qqo ?qqa ?qqb ?qqc ?_; (case qqF => k_asm); (case qqX => k_asm); (case qqo => with_reducible (first | exact tab_S _ | exact tab_T1 _ | exact tab_T2 _ | exact tab_T3 _ | exact tab_T4 _)); (case qqa => exact (and255 _).1); (case qqb => exact (and255 _).2); (case qqc => decide); k_whole); intro _)
  k_with "binaryOp Mod int int" => (k_here; (with_reducible refine mod_pos (by first | decide | lia) ?_))
  k_with "call builtin:list.append" => (k_here; (with_reducible show wpAny _ _ (call (Value.builtin _) [Value.ref _, Value.int _ _]) _ _ _); k_dflt (refine' append_IL ?qqk1 ?qqk2 ?qqk3 ?qqk4 ?qqk5 ?_; (case qqk1 => k_asm); (case qqk2 => k_asm); (case qqk3 => k_upd); (case qqk4 => with_reducible assumption); (case qqk5 => ((try simp only [List.length_append, List.length_cons, List.length_nil]); lia)); k_whole); intro h' F' N' hi'; (try k_sweep))
  k_with "call type:range" => (k_here; (first | (with_reducible show wpAny _ _ (call _ [_]) _ _ _) | (with_reducible show wpAny _ _ (call _ [_, _]) _ _ _)); (rename Fr _ _ _ _ => F'); (rename News _ _ _ _ => N'); (first | (with_unfolding_all refine range1_rows F' N' ?_) | (with_unfolding_all refine range2_rows F' N' ?_)); intro _ _ _ _ _ _ _ _ _)
  k_with "subscriptTail" => (k_here; (with_reducible show wpAny _ _ (subscriptTail _ (Expr.Slice _ _ none _) (Value.bytes _ _) (Value.ref _)) _ _ _); k_dflt (refine' slice_b' ?qqF ?qqN ?qqk ?qql ?qqu ?qqz ?_; (case qqF => k_asm); (case qqN => k_asm); (case qqk => kba_ints); (case qql => constructor); (case qqu => constructor); (case qqz => kba_size); k_whole); intro _ _ _ _ _ kbcK; (try simp only [Option.elim, KBc.clip_lit, clipAt_nat, List.drop_zero, Nat.sub_zero] at kbcK))
  k_with "eval Call" => (k_here; (with_reducible show wpAny _ _ (eval (Expr.Call (Expr.Name _ _) _ [] _) _) _ _ _); (fail_if_success (with_reducible show wpAny _ _ (eval _ (compEnvC _ _ _ _)) _ _ _)); k_dflt (refine Call_ ?_))
  k_with "binaryOp Mult int int" => (k_here; (with_reducible refine PySem.mul_int ?_ (PyProof.Rows.mulOk_of_bits (m := 2 ^ 20 + 9) (n := 64) ?qqkb1 ?qqkb2 ?qqkb3)); (case qqkb1 => (first | exact Nat.le_trans (by with_reducible assumption) (by lia) | exact Nat.le_trans (PyProof.Rows.bits_add (by with_reducible assumption) (by with_reducible assumption)) (by lia))); (case qqkb2 => decide); (case qqkb3 => decide))
  k_with "binaryOp FloorDiv int int" => (k_here; (with_reducible refine div_pos (by decide) (by decide) ?_))
  k_with "call ref" => (k_here; k_dflt (refine' TellsH.use (cellV _ _ _ _ _ ?qqhI ?qqhlay ?qqhlen _ _ ?qqa ?qqb) ?qqB ?qqF ?qqX ?qqN ?qqT ?qqhk ?qqhd ?qqhu ?qqhH ?_; (case qqhH => with_reducible assumption); (case qqhI => with_reducible assumption); (case qqhlay => with_reducible assumption); (case qqhlen => lia); (case qqa => lia); (case qqb => lia); (case qqB => k_asm); (case qqF => k_asm); (case qqX => k_asm); (case qqN => k_asm); (case qqT => k_asm); (case qqhk => rfl); (case qqhd => first | lia | (dsimp only [ktrTop, Around.deeper]; lia)); (case qqhu => first | lia | (dsimp only [ktrTop, Around.deeper]; lia))); intro v' news' h' tk' F' N' hO'; (obtain ⟨hO1, z', t', hO2, hz0, hzb⟩ := hO'; subst hO1; subst hO2); (try dsimp only); (try k_sweep))
  exact trivial
set_option maxHeartbeats 8000000 in
theorem rowV (w : World) (news : List (Addr × Obj)) (sl : Addr) (vs : List Value) (ns : List Int) (hI : IntsAre vs ns) (hlay : PyData.layable0 (.list (ns.map .int)) = true) (hlen : ns.length ≤ 63) (k : Int) (tk : Tok) (hk0 : 0 ≤ k) (hk1 : k < 100) (z : Nat) (tz : Tok) (hz : z ≤ 200) :
   TellsH (fun h => h.IsList sl vs.toArray) w 457 [.ref sl, .int k tk, .int (z : Int) tz] 2 news fun v news' => ∃ D us n row, v = .ref D ∧ news' = (D, listOf us.toArray n) :: news ∧ IntsAre us row ∧ row.length = z ∧ KBa.In row ∧ AllLt D news := by
  unfold TellsH; k_fill; intro loose mean mg mb dp un gd cn cs a ccd cl outer A₀ base h₀ L m s Q E B F X N T hk hd hu hH hret
  refine wpAny_call ?_; k_dflt (refine' code_def (binds := [(Str.ofString "script", Value.ref sl), (Str.ofString "start", Value.int k tk), (Str.ofString "size", Value.int (z : Int) tz)]) ?k1 ?k2 ?k3 ?k4 ?k5 ?kA ?kF ?kK ?k6 ?k7 ?k8 ?k9 ?kB ?_ ?c2 ?c3 ?c4 ?c5; (case kA => exact rfl); (case kF => exact rfl); (case kK => assumption); (case k1 => exact B); (case k2 => exact F); (case k3 => exact X); (case k4 => exact N); (case k5 => exact T); (case k6 => k_is); (case k7 => k_is); (case k8 => ktr_room); (case k9 => first | exact BindsTo.of_eq rfl | exact binds_K (by k_in) rfl (by k_is) rfl rfl rfl); (case c5 => decide); (case kB => exact locs rfl); (case c2 => exact rfl); (case c3 => exact rfl); (case c4 => exact rfl)); intro g1 L1 h1 FG1 F1 N1 B1 X1 T1; (try dsimp only); (try k_fold)
  have hsl : g1.IsList sl vs.toArray := stays_list FG1.keep hH
  k_extra "STEPSX"
  rename ∀ (p : Addr × Obj), p ∈ news → p.1 < _ => l1
  k_dflt (refine For_invV g1 (by rfl) (by rfl) ?_)
  k_extra "STEPSX"
  rename IsRange _ _ _ _ _ _ _ _ => R7
  rename Fr _ _ _ _ => F7
  rename News _ _ _ _ => N7
  refine rng_inv (fun i m nx => ∃ (us : List Value) (nr : Nat) (zz : Int) (tzz : Tok) (row : List Int) (rl : Addr), nx = (rl, listOf (List.toArray us) nr) :: news ∧ IntsAre us row ∧ row.length = i ∧ KBa.In row ∧ m (Str.ofString "row") = some (.ref rl) ∧ m (Str.ofString "number") = some (.int zz tzz) ∧ 0 ≤ zz ∧ Builtin.Int.intBits zz ≤ 2 ^ 20 + 3 ∧ m (Str.ofString "script") = some (.ref sl) ∧ (∃ t, m (Str.ofString "start") = some (.int k t)) ∧ AllLt rl news) (n := z) rfl R7 (small_one (by lia) (by lia) (by lia) (by lia)) (by rw [rangeSize_nat]; lia) F7 N7
    ⟨[], 0, _, _, [], _, rfl, .nil, rfl, (fun _ h => nomatch h), Eq.trans (if_neg (by decide)) (if_pos rfl), if_pos rfl, by lia, Nat.le_trans (PyProof.Rows.bits_add (m := 1) (by decide) (by assumption)) (by lia), Eq.trans (if_neg (by decide)) (Eq.trans (if_neg (by decide)) rfl), ⟨_, Eq.trans (if_neg (by decide)) (Eq.trans (if_neg (by decide)) rfl)⟩, allLt_of l1⟩ ?_ ?_
  · clear F7 N7
    intro I i it ti m₁ nx s₁ hi hJ off F8 N8 hs₁
    obtain ⟨us, nr, zz, tzz, row, rl, rfl, hu', hlen', hin, mrow, mnum, hz0, hzb, msc, ⟨ts, mst⟩, lt⟩ := hJ
    have q1 : @Ne Nat rl I := off (rl, _) (.head _)
    by_cases h8 : i < 8
    · k_extra "STEPSX"
      rename Fr _ _ _ _ => F9
      rename News _ _ _ _ => N9
      rename IntsAre _ _ => hi9
      refine RPost.next F9 N9 ((rl, _) :: news) (fun p hp => hp) (off_same (by rfl) off) ⟨_, _, _, _, _, rl, rfl, hi9, by simp [hlen'], ?_, by ktr_rel, by ktr_rel, by lia, Nat.le_trans (PySem.intBits_le_64 (by lia) (by lia)) (by decide), by ktr_rel, ⟨_, by ktr_rel⟩, lt⟩
      intro y hy
      rcases List.mem_append.mp hy with hy | hy
      · exact hin y hy
      · rw [List.mem_singleton] at hy; lia
    · k_extra "STEPSX"
      rename Fr _ _ _ _ => F9
      rename News _ _ _ _ => N9
      rename IntsAre _ _ => hi9
      refine RPost.next F9 N9 ((rl, _) :: news) (fun p hp => hp) (off_same (by rfl) off) ⟨_, _, _, _, _, rl, rfl, hi9, by simp [hlen'], ?_, by ktr_rel, by ktr_rel, by lia, Nat.le_trans (PySem.intBits_le_64 (by lia) (by lia)) (by decide), by ktr_rel, ⟨_, by ktr_rel⟩, lt⟩
      intro y hy
      rcases List.mem_append.mp hy with hy | hy
      · exact hin y hy
      · rw [List.mem_singleton] at hy; lia
  clear F7 N7 R7
  intro m₁ nx h12 tk12 hJ F8 N8
  obtain ⟨us, nr, zz, tzz, row, rl, rfl, hu', hlen', hin, mrow, mnum, hz0, hzb, msc, ⟨ts, mst⟩, lt⟩ := hJ
  try dsimp only
  k_extra "STEPSX"
  exact hret _ _ _ _ (by assumption) (by assumption) ⟨_, _, _, _, rfl, rfl, hu', hlen', hin, lt⟩
end

theorem stepsPa : True := by
  k_with "STEPSX" => (repeat' (first | (k_unfold; (try dsimp only)) | (((fail_if_success (with_reducible show wpAny _ _ (setAttr _ _ _) _ _ _)); (fail_if_success (with_reducible show wpAny _ _ (exec (Stmt.For _ _ _ _ _) _) _ _ _)); (fail_if_success (with_reducible show wpAny _ _ (exec (Stmt.While _ _ _ _) _) _ _ _)); (fail_if_success (with_reducible show wpAny _ _ (exec (Stmt.Assign _ (Expr.ListComp _ _ _ _) _) _) _ _ _)); (fail_if_success (with_reducible show wpAny _ _ (eval (Expr.ListComp _ _ _ _) _) _ _ _)); (fail_if_success (with_reducible show LCg.CompSrc _ _ _ _ _ _ _ _ _ _ _ _ _ _)); (fail_if_success (with_reducible show wpAny _ _ (pyIter _) _ _ _)); (fail_if_success (with_reducible show RPost _ _ _ _ _ _ _ _ _)); (fail_if_success (with_reducible show CPost _ _ _ _ _ _ _ _)); (fail_if_success (with_reducible show Exists _)); (fail_if_success (with_reducible show CPostJ _ _ _ _ _ _ _ _ _ _ _ _ _)); (fail_if_success (with_reducible show WhileStep2 _ _ _ _ _ _ _ _)); first | walk1 | (dsimp only; walk1)) <;> ((try dsimp only [List.cons_append, List.nil_append]); (try k_fold)))))
  exact trivial
section
variable {prog : Program} {w : World} {A : Around} {E : Value → Shared → Prop} {s : Shared} {h₀ : Heap} {L l : Addr} {m : PySem.Str → Option Value} {news : List (Addr × Obj)} {ns : List Int}
theorem mk_IL {Q : Value → Shared → Prop} (F : Fr h₀ L s.heap m) (N : News h₀ L s.heap news) (hh : A.handled = none) (hm : IL news l ns) (hr : KBa.In ns) (hn : ns.length ≤ 16777216)
    (h : ∀ b h' t' k, Fr h₀ L h' m → News h₀ L h' news → KBw.bInts b = ns → Q (.bytes b t') { s with heap := h', toks := k }) : wpAny (model prog w) A (call (.type "bytes") [.ref l]) Q E s := by
  obtain ⟨vs, n, hm, hi⟩ := hm
  exact KBa.make_K F N hh (News.isList N hm) hi hr hn fun h' t' k F' N' hr' => h _ h' t' k F' N' (KBa.ints_make hr')
end
/-- word by word -/
def xorL (xs ys : List Int) : List Int := List.zipWith Builtin.bitXor xs ys
theorem xorL_eq (xs ys : List Int) : (List.range (min xs.length ys.length)).map (fun k => Builtin.bitXor (xs.getD k 0) (ys.getD k 0)) = xorL xs ys := by
  refine List.ext_getElem (by simp [xorL]) fun i h1 h2 => ?_
  simp only [xorL, List.length_zipWith] at h2
  simp [xorL, List.getD_eq_getElem?_getD, List.getElem?_eq_getElem (show i < xs.length by lia), List.getElem?_eq_getElem (show i < ys.length by lia)]
section
local macro_rules | `(tactic| ktr_rel) => `(tactic| first | assumption | exact rd_eq | (refine' rd_ne ?rn ?rv; (case rn => decide); (case rv => ktr_rel)) | (refine' IL.here ?ih; (case ih => assumption)) | (refine' IL.skip ?is; (case is => ktr_rel)) | (refine' KeAt.skip ?is; (case is => ktr_rel)) | (refine' Blk.skip ?is; (case is => ktr_rel)) | (refine' In.take ?is _; (case is => ktr_rel)) | (refine' In.drop ?is _; (case is => ktr_rel)))
local macro_rules | `(tactic| k_all) => `(tactic| exact allLt_ne (by assumption))
theorem wordsPa1 : True := by
  k_with_none
  k_with "STEPSX" => (repeat' (first | (k_unfold; (try dsimp only)) | (((fail_if_success (with_reducible show wpAny _ _ (setAttr _ _ _) _ _ _)); (fail_if_success (with_reducible show wpAny _ _ (exec (Stmt.For _ _ _ _ _) _) _ _ _)); (fail_if_success (with_reducible show wpAny _ _ (exec (Stmt.While _ _ _ _) _) _ _ _)); (fail_if_success (with_reducible show wpAny _ _ (exec (Stmt.Assign _ (Expr.ListComp _ _ _ _) _) _) _ _ _)); (fail_if_success (with_reducible show wpAny _ _ (eval (Expr.ListComp _ _ _ _) _) _ _ _)); (fail_if_success (with_reducible show LCg.CompSrc _ _ _ _ _ _ _ _ _ _ _ _ _ _)); (fail_if_success (with_reducible show wpAny _ _ (pyIter _) _ _ _)); (fail_if_success (with_reducible show RPost _ _ _ _ _ _ _ _ _)); (fail_if_success (with_reducible show CPost _ _ _ _ _ _ _ _)); (fail_if_success (with_reducible show Exists _)); (fail_if_success (with_reducible show CPostJ _ _ _ _ _ _ _ _ _ _ _ _ _)); (fail_if_success (with_reducible show WhileStep2 _ _ _ _ _ _ _ _)); first | walk1 | (dsimp only; walk1)) <;> ((try dsimp only [List.cons_append, List.nil_append]); (try k_fold)))))
  k_with "subscriptTail" => (k_here; (with_reducible show wpAny _ _ (subscriptTail _ _ (Value.ref _) (Value.int _ _)) _ _ _); k_dflt (refine' item_IL ?qqN ?qqm ?qqa ?qqb ?qqc ?_; (case qqN => k_asm); (case qqm => ktr_rel); (case qqa => lia); (case qqb => lia); (case qqc => lia); k_whole); intro _)
  k_with "call builtin:len" => (k_here; (with_reducible show wpAny _ _ (call (Value.builtin "len") [Value.ref _]) _ _ _); k_dflt (refine' len_IL ?qqN ?qqm ?qqz ?_; (case qqN => k_asm); (case qqm => ktr_rel); (case qqz => lia); k_whole); intro _ _)
  k_with "ite" => (k_here; first | (refine ite_neg (by (simp only [bne_iff_ne, beq_iff_eq, decide_eq_true_eq, ne_eq, Decidable.not_not]; lia)) ?_) | (refine ite_pos (by (simp only [bne_iff_ne, beq_iff_eq, decide_eq_true_eq, ne_eq, Decidable.not_not]; lia)) ?_))
  k_with "eval Name" => (k_here; name_kind "local"; (with_reducible show wpAny _ _ (eval (Expr.Name _ _) (compEnvC _ _ _ _)) _ _ _); k_dflt (refine LCgL.ld_own (by k_asm) (by k_mem) (by assumption) (by assumption) ?_))
  k_with "eval Name" => (k_here; name_kind "globalImplicit"; (with_reducible show wpAny _ _ (eval (Expr.Name _ _) (compEnvC _ _ _ _)) _ _ _); k_dflt (refine LCgL.ld_global (by k_asm) (by k_asm) (by k_asm) (by k_is) ?_))
  k_with "eval Name" => (k_here; name_kind "free"; (with_reducible show wpAny _ _ (eval (Expr.Name _ _) (compEnvC _ _ _ _)) _ _ _); k_dflt (refine' ld_cell ?qqN ?qqc ?qqm ?qqd ?_ ?qqe ?qqf ?qqg; (case qqe => rfl); (case qqf => rfl); (case qqg => decide); (case qqN => k_asm); (case qqc => rfl); (case qqm => k_mem); (case qqd => k_asm); k_whole))
  k_with "eval Name" => (k_here; name_kind "local"; (fail_if_success (with_reducible show wpAny _ _ (eval (Expr.Name _ _) (compEnvC _ _ _ _)) _ _ _)); (with_reducible rename Fr _ _ _ _ => kF); k_dflt (refine' nameX_L kF ?qqv ?_ ?qqa ?qqb; (case qqa => rfl); (case qqb => rfl); (case qqv => ktr_rel); k_whole))
  k_with "subscriptTail" => (k_here; (with_reducible show wpAny _ _ (subscriptTail _ (Expr.Slice (some _) (some _) none _) (Value.ref _) (Value.ref _)) _ _ _); k_dflt (refine' slice_run' ?qqF ?qqN ?qqm ?qqz ?qqa ?qqb ?_; (case qqF => k_asm); (case qqN => k_asm); (case qqm => ktr_rel); (case qqz => lia); (case qqa => lia); (case qqb => lia); k_whole); intro D' h' F' ws' hw' N' l1; (try k_lt l1); (try k_sweep))
  k_with "call builtin:len" => (k_here; k_dflt (refine' len_blk ?qqN ?qqm ?qqz ?_; (case qqN => k_asm); (case qqm => ktr_rel); (case qqz => lia); k_whole); intro _ _)
  k_with "subscriptTail" => (k_here; (with_reducible show wpAny _ _ (subscriptTail _ (Expr.Slice (some _) (some _) none _) _ (Value.ref _)) _ _ _); k_dflt (refine' slice_blk' ?qqe ?qqF ?qqN ?qqm ?qqz ?qqa ?qqb ?_; (case qqe => exact ⟨_, _, _, _, _, rfl, rfl⟩); (case qqF => k_asm); (case qqN => k_asm); (case qqm => ktr_rel); (case qqz => lia); (case qqa => lia); (case qqb => lia); k_whole); intro v' h' k' led' F' N' hs' hb')
  k_with "call ref" => (k_here; k_dflt (refine' Tells.use (compactV _ _ _ _ ?qqhl ?qqh4 ?qqhi) ?qqB ?qqF ?qqX ?qqN ?qqT ?qqhk ?qqhd ?qqhu ?_; (case qqB => k_asm); (case qqF => k_asm); (case qqX => k_asm); (case qqN => k_asm); (case qqT => k_asm); (case qqhk => rfl); (case qqhl => ktr_rel); (case qqh4 => (simp only [List.length_take, List.length_drop]; lia)); (case qqhi => ktr_rel); (case qqhd => first | lia | (dsimp only [ktrTop, Around.deeper]; lia)); (case qqhu => first | lia | (dsimp only [ktrTop, Around.deeper]; lia))); intro v' news' h' tk' F' Nq' hO'; (obtain ⟨hO1, t', hO2⟩ := hO'; subst hO1; subst hO2); (have N9' := drop_led Nq' (by assumption)); (try dsimp only); (try k_sweep))
  k_with "call type:list" => (k_here; (with_reducible show wpAny _ _ (call (Value.type "list") [Value.ref _]) _ _ _); k_dflt (refine' copy_IL ?qqF ?qqN ?qqm ?qqz ?_; (case qqF => k_asm); (case qqN => k_asm); (case qqm => ktr_rel); (case qqz => lia); k_whole); intro D' c' h' vs' hv' F' N' l1; (try k_lt l1); (try k_sweep))
  k_with "setItem ref int" => (k_here; (with_reducible show wpAny _ _ (setItem (Value.ref _) (Value.int _ _) (Value.int _ _)) _ _ _); k_dflt (refine' set_IL ?qqk1 ?qqk2 ?qqk3 ?qqk4 ?qqk5 ?qqk6 ?qqk7 ?_; (case qqk1 => k_asm); (case qqk2 => k_asm); (case qqk3 => k_upd); (case qqk4 => with_reducible assumption); (case qqk5 => lia); (case qqk6 => lia); (case qqk7 => lia); k_whole); intro h' F' N' hi'; (try k_sweep))
  k_with "subscriptTail" => (k_here; (with_reducible show wpAny _ _ (subscriptTail _ _ (Value.ref _) (Value.int _ _)) _ _ _); k_dflt (refine' item_tab ?qqF ?qqX ?qqo ?qqa ?qqb ?qqc ?_; (case qqF => k_asm); (case qqX => k_asm); (case qqo => with_reducible (first | exact tab_S _ | exact tab_T1 _ | exact tab_T2 _ | exact tab_T3 _ | exact tab_T4 _)); (case qqa => exact (and255 _).1); (case qqb => exact (and255 _).2); (case qqc => decide); k_whole); intro _)
  k_with "binaryOp Mod int int" => (k_here; (with_reducible refine mod_pos (by first | decide | lia) ?_))
  k_with "call builtin:list.append" => (k_here; (with_reducible show wpAny _ _ (call (Value.builtin _) [Value.ref _, Value.int _ _]) _ _ _); k_dflt (refine' append_IL ?qqk1 ?qqk2 ?qqk3 ?qqk4 ?qqk5 ?_; (case qqk1 => k_asm); (case qqk2 => k_asm); (case qqk3 => k_upd); (case qqk4 => with_reducible assumption); (case qqk5 => ((try simp only [List.length_append, List.length_cons, List.length_nil]); lia)); k_whole); intro h' F' N' hi'; (try k_sweep))
  k_with "call type:range" => (k_here; (first | (with_reducible show wpAny _ _ (call _ [_]) _ _ _) | (with_reducible show wpAny _ _ (call _ [_, _]) _ _ _)); (rename Fr _ _ _ _ => F'); (rename News _ _ _ _ => N'); (first | (with_unfolding_all refine range1_rows F' N' ?_) | (with_unfolding_all refine range2_rows F' N' ?_)); intro _ _ _ _ _ _ _ _ _)
  k_with "subscriptTail" => (k_here; (with_reducible show wpAny _ _ (subscriptTail _ (Expr.Slice _ _ none _) (Value.bytes _ _) (Value.ref _)) _ _ _); k_dflt (refine' slice_b' ?qqF ?qqN ?qqk ?qql ?qqu ?qqz ?_; (case qqF => k_asm); (case qqN => k_asm); (case qqk => kba_ints); (case qql => constructor); (case qqu => constructor); (case qqz => kba_size); k_whole); intro _ _ _ _ _ kbcK; (try simp only [Option.elim, KBc.clip_lit, clipAt_nat, List.drop_zero, Nat.sub_zero] at kbcK))
  k_with "call type:bytes" => (k_here; (with_reducible show wpAny _ _ (call (Value.type "bytes") [Value.ref _]) _ _ _); k_dflt (refine' mk_IL ?qqF ?qqN ?qqhh ?qqm ?qqr ?qqz ?_; (case qqhh => rfl); (case qqF => k_asm); (case qqN => k_asm); (case qqm => ktr_rel); (case qqr => ktr_rel); (case qqz => lia); k_whole); intro b' h' t' k' F' N' hb'; (try k_sweep))
  k_with "binaryOp Add bytes bytes" => (k_here; k_dflt (refine' KBa.add_K ?qqb ?qqc ?qqz ?_; (case qqb => with_reducible assumption); (case qqc => with_reducible assumption); (case qqz => lia); k_whole); intro t' k' hb')
  exact trivial
set_option maxHeartbeats 8000000 in
theorem stbV (w : World) (news : List (Addr × Obj)) (b : Array UInt8) (t : Tok) :
   Tells w 33 [.bytes b t] 1 news fun v news' => news' = news ∧ v = .bytes b t := by
  unfold Tells; k_fill; intro loose mean mg mb dp un gd cn cs a ccd cl outer A₀ base h₀ L m s Q E B F X N T hk hd hu hret
  refine wpAny_call ?_; k_dflt (refine' code_def (binds := [(Str.ofString "text", Value.bytes b t)]) ?k1 ?k2 ?k3 ?k4 ?k5 ?kA ?kF ?kK ?k6 ?k7 ?k8 ?k9 ?kB ?_ ?c2 ?c3 ?c4 ?c5; (case kA => exact rfl); (case kF => exact rfl); (case kK => assumption); (case k1 => exact B); (case k2 => exact F); (case k3 => exact X); (case k4 => exact N); (case k5 => exact T); (case k6 => k_is); (case k7 => k_is); (case k8 => ktr_room); (case k9 => first | exact BindsTo.of_eq rfl | exact binds_K (by k_in) rfl (by k_is) rfl rfl rfl); (case c5 => decide); (case kB => exact locs rfl); (case c2 => exact rfl); (case c3 => exact rfl); (case c4 => exact rfl)); intro g1 L1 h1 FG1 F1 N1 B1 X1 T1; (try dsimp only); (try k_fold)
  k_extra "STEPSX"
  exact hret _ _ _ _ (by assumption) (by assumption) ⟨rfl, rfl⟩
set_option maxHeartbeats 8000000 in
theorem btsV (w : World) (news : List (Addr × Obj)) (l : Addr) (ks : List Int) (hl : IL news l ks) (hi : KBa.In ks) (hz : ks.length ≤ 1000) :
   Tells w 40 [.ref l] 1 news fun v news' => news' = news ∧ ∃ b t, v = .bytes b t ∧ KBw.bInts b = ks := by
  unfold Tells; k_fill; intro loose mean mg mb dp un gd cn cs a ccd cl outer A₀ base h₀ L m s Q E B F X N T hk hd hu hret
  refine wpAny_call ?_; k_dflt (refine' code_def (binds := [(Str.ofString "binary", Value.ref l)]) ?k1 ?k2 ?k3 ?k4 ?k5 ?kA ?kF ?kK ?k6 ?k7 ?k8 ?k9 ?kB ?_ ?c2 ?c3 ?c4 ?c5; (case kA => exact rfl); (case kF => exact rfl); (case kK => assumption); (case k1 => exact B); (case k2 => exact F); (case k3 => exact X); (case k4 => exact N); (case k5 => exact T); (case k6 => k_is); (case k7 => k_is); (case k8 => ktr_room); (case k9 => first | exact BindsTo.of_eq rfl | exact binds_K (by k_in) rfl (by k_is) rfl rfl rfl); (case c5 => decide); (case kB => exact locs rfl); (case c2 => exact rfl); (case c3 => exact rfl); (case c4 => exact rfl)); intro g1 L1 h1 FG1 F1 N1 B1 X1 T1; (try dsimp only); (try k_fold)
  k_extra "STEPSX"
  exact hret _ _ _ _ (by assumption) (by assumption) ⟨rfl, _, _, rfl, by assumption⟩
set_option maxHeartbeats 8000000 in
theorem catV (w : World) (news : List (Addr × Obj)) (b : Array UInt8) (t : Tok) (rs : List Int) (hb : KBw.bInts b = rs) (hr : rs.length ≤ 1000) (l : Addr) (ks : List Int) (hl : IL news l ks) (hi : KBa.In ks) (hz : ks.length ≤ 1000) :
   Tells w 47 [.bytes b t, .ref l] 1 news fun v news' => news' = news ∧ ∃ b t, v = .bytes b t ∧ KBw.bInts b = rs ++ ks := by
  unfold Tells; k_fill; intro loose mean mg mb dp un gd cn cs a ccd cl outer A₀ base h₀ L m s Q E B F X N T hk hd hu hret
  refine wpAny_call ?_; k_dflt (refine' code_def (binds := [(Str.ofString "a", Value.bytes b t), (Str.ofString "b", Value.ref l)]) ?k1 ?k2 ?k3 ?k4 ?k5 ?kA ?kF ?kK ?k6 ?k7 ?k8 ?k9 ?kB ?_ ?c2 ?c3 ?c4 ?c5; (case kA => exact rfl); (case kF => exact rfl); (case kK => assumption); (case k1 => exact B); (case k2 => exact F); (case k3 => exact X); (case k4 => exact N); (case k5 => exact T); (case k6 => k_is); (case k7 => k_is); (case k8 => ktr_room); (case k9 => first | exact BindsTo.of_eq rfl | exact binds_K (by k_in) rfl (by k_is) rfl rfl rfl); (case c5 => decide); (case kB => exact locs rfl); (case c2 => exact rfl); (case c3 => exact rfl); (case c4 => exact rfl)); intro g1 L1 h1 FG1 F1 N1 B1 X1 T1; (try dsimp only); (try k_fold)
  k_extra "STEPSX"
  exact hret _ _ _ _ (by assumption) (by assumption) ⟨rfl, _, _, rfl, by assumption⟩
local macro_rules | `(tactic| k_mem) => `(tactic| with_reducible assumption)
set_option maxHeartbeats 8000000 in
theorem sumV (w : World) (news : List (Addr × Obj)) (ax ay : Addr) (xs ys : List Int) (hx : IL news ax xs) (hy : IL news ay ys) (hzx : xs.length ≤ 1000) (hzy : ys.length ≤ 1000) :
   Tells w 462 [.ref ax, .ref ay] 1 news fun v news' => ∃ D vs n, v = .ref D ∧ news' = (D, listOf vs.toArray n) :: news ∧ IntsAre vs (xorL xs ys) ∧ ∀ p ∈ news, (@Ne Nat p.1 D) := by
  unfold Tells; k_fill; intro loose mean mg mb dp un gd cn cs a ccd cl outer A₀ base h₀ L m s Q E B F X N T hk hd hu hret
  refine wpAny_call ?_; k_dflt (refine' code_defC (binds := [(Str.ofString "one", Value.ref ax), (Str.ofString "two", Value.ref ay)]) ?k1 ?k2 ?k3 ?k4 ?k5 ?kA ?kF ?kK ?k6 ?k7 ?k8 ?k9 ?kB ?kD ?_ ?c2 ?c3 ?c4; (case kA => exact rfl); (case kF => exact rfl); (case kK => assumption); (case k1 => exact B); (case k2 => exact F); (case k3 => exact X); (case k4 => exact N); (case k5 => exact T); (case k6 => k_is); (case k7 => k_is); (case k8 => ktr_room); (case k9 => first | exact BindsTo.of_eq rfl | exact binds_K (by k_in) rfl (by k_is) rfl rfl rfl); (case kB => exact rfl); (case kD => decide +kernel); (case c2 => exact rfl); (case c3 => exact rfl); (case c4 => exact rfl)); intro g1 L1 h1 tk1 cells1 FG1 F1 N1 Y1 B1 X1 T1 l1
  obtain ⟨o1, o2, hE1, d1, d2⟩ := CellsAre.two Y1
  subst hE1
  replace d1 : o1.data = .cell (some (.ref ay)) := d1
  replace d2 : o2.data = .cell (some (.ref ax)) := d2
  clear Y1
  simp only [List.cons_append, List.nil_append] at N1
  (try dsimp only); (try k_fold)
  k_extra "STEPSX"
  rename Fr _ _ _ _ => F3
  rename News _ _ _ _ => N3
  k_dflt (refine LCg.ListComp_U (F₀ := F3) (by rfl) (by decide) (by rfl) (by decide) (by rfl) ?_)
  k_extra "STEPSX"
  rename IsRange _ _ _ _ _ _ _ _ => R4
  rename Fr _ _ _ _ => F4
  rename News _ _ _ _ => N4
  rw [show (if (ys.length : Int) < (xs.length : Int) then (ys.length : Int) else (xs.length : Int)) = ((min xs.length ys.length : Nat) : Int) by split <;> lia] at R4
  k_dflt (refine LCg.CompSrc.range (n := min xs.length ys.length) (by rfl) F4 N4 R4 (small_one (by lia) (by lia) (by lia) (by lia)) (by rw [rangeSize_nat]; lia) (by rw [sizeLine_eq]; lia) ?_)
  intro g'
  refine comp_all (fun i y => ∃ t, y = .int (Builtin.bitXor (xs.getD i 0) (ys.getD i 0)) t) ?_ ?_
  · intro i t I oI C oC D us m₂ s₁ E' hi4 hC hx2 F5 N5 off ne
    k_extra "STEPSX"
    rename Fr _ _ _ _ => F6
    rename News _ _ _ _ => N6
    refine CPost.intro F6 N6 (fun _ h => h) ?_
    rw [show (0 + (i : Int)).toNat = i by lia]
    exact ⟨_, rfl⟩
  intro us hus hp
  have hI := ints_of_all hus hp
  rw [xorL_eq] at hI
  unfold LCg.FinE
  intro D h5 tk5 F5 N5 o5
  try dsimp only
  k_extra "STEPSX"
  rename Fr _ _ _ _ => F6
  rename News _ _ _ _ => N6
  refine hret _ ((D, listOf us.toArray us.length) :: news) _ _ F6 (drop_led N6 ?_) ⟨D, us, _, rfl, rfl, hI, fun p hp => off1_ne o5 p (.tail _ (.tail _ hp))⟩
  intro p hp
  rcases List.mem_cons.mp hp with rfl | hp
  · exact .head _
  · exact .tail _ (.tail _ (.tail _ hp))
end

theorem stepsPb : True := by
  k_with "STEPSX" => (repeat' (first | (k_unfold; (try dsimp only)) | (((fail_if_success (with_reducible show wpAny _ _ (setAttr _ _ _) _ _ _)); (fail_if_success (with_reducible show wpAny _ _ (exec (Stmt.For _ _ _ _ _) _) _ _ _)); (fail_if_success (with_reducible show wpAny _ _ (exec (Stmt.While _ _ _ _) _) _ _ _)); (fail_if_success (with_reducible show wpAny _ _ (exec (Stmt.Assign _ (Expr.ListComp _ _ _ _) _) _) _ _ _)); (fail_if_success (with_reducible show wpAny _ _ (eval (Expr.ListComp _ _ _ _) _) _ _ _)); (fail_if_success (with_reducible show LCg.CompSrc _ _ _ _ _ _ _ _ _ _ _ _ _ _)); (fail_if_success (with_reducible show wpAny _ _ (pyIter _) _ _ _)); (fail_if_success (with_reducible show RPost _ _ _ _ _ _ _ _ _)); (fail_if_success (with_reducible show CPost _ _ _ _ _ _ _ _)); (fail_if_success (with_reducible show Exists _)); (fail_if_success (with_reducible show CPostJ _ _ _ _ _ _ _ _ _ _ _ _ _)); (fail_if_success (with_reducible show WhileStep2 _ _ _ _ _ _ _ _)); first | walk1 | (dsimp only; walk1)) <;> ((try dsimp only [List.cons_append, List.nil_append]); (try k_fold)))))
  exact trivial
theorem in_foc {h₀ h : Heap} {L d : Addr} {o : Obj} {led : List (Addr × Obj)} {p : Addr × Obj} (_N : News h₀ L h (foc d o led)) (hp : p ∈ led) (hne : p.1 ≠ d) : p ∈ foc d o led := foc_mem hp hne
theorem KeAt.foc {led : List (Addr × Obj)} {x dx ke kd d : Addr} {o : Obj} {q1 q2 : Int} {k1 k2 : Tok} {nke : Nat} {rows : List Addr} {KE : List (List Int)} (h : KeAt led x dx ke kd q1 q2 k1 k2 nke rows KE) (hd : d ∉ x :: dx :: ke :: rows) : KeAt (foc d o led) x dx ke kd q1 q2 k1 k2 nke rows KE := by
  simp only [List.mem_cons, not_or] at hd
  obtain ⟨a1, a2, a3, a4⟩ := hd
  refine ⟨foc_mem h.hx (Ne.symm a1), foc_mem h.hdx (Ne.symm a2), foc_mem h.hke (Ne.symm a3), h.hlen, fun i hi => ⟨(h.hrow i hi).1.foc fun e => a4 ?_, (h.hrow i hi).2⟩⟩
  rw [← e]
  exact getD_mem (by rw [h.hlen]; exact hi)
section
variable {prog : Program} {w : World} {A : Around} {E : Value → Shared → Prop} {s : Shared} {x dx L : Addr} {h₀ : Heap} {m : Str → Option Value} {led : List (Addr × Obj)} {v r a : Value} {q1 q2 q3 : Int} {k1 k2 k3 : Tok}
theorem set_reg0 {Q : Unit → Shared → Prop} (F : Fr h₀ L s.heap m) (X₀ : (Mine.hd.heap_39 w.params).In h₀) (N : News h₀ L s.heap led) (hx : (x, instObj 375 dx) ∈ led) (hd : (dx, dictOf [] 0) ∈ led)
    (h : ∀ h' k, Fr h₀ L h' m → News h₀ L h' (foc dx (dictOf [⟨PyData.keyHash w.params (Str.ofString "_shift_register"), .str (Str.ofString "_shift_register") k, v⟩] 1) led) → Q () { s with heap := h', toks := s.toks + 2 }) : wpAny (model prog w) A (setAttr (.ref x) (Str.ofString "_shift_register") v) Q E s :=
  set_foc (C := 375) F X₀ N hx hd (by kernel_rfl) (by kernel_rfl) (by kernel_rfl) (by kernel_rfl) (by kernel_rfl) (by kernel_rfl) (Nat.le_of_ble_eq_true rfl) fun h' => h h' (s.toks + 1)
theorem set_seg {Q : Unit → Shared → Prop} (F : Fr h₀ L s.heap m) (X₀ : (Mine.hd.heap_39 w.params).In h₀) (N : News h₀ L s.heap led) (hx : (x, instObj 375 dx) ∈ led) (hd : (dx, dictOf [⟨q1, .str (Str.ofString "_shift_register") k1, r⟩] 1) ∈ led)
    (h : ∀ h' k, Fr h₀ L h' m → News h₀ L h' (foc dx (dictOf [⟨q1, .str (Str.ofString "_shift_register") k1, r⟩, ⟨PyData.keyHash w.params (Str.ofString "_segment_bytes"), .str (Str.ofString "_segment_bytes") k, v⟩] 2) led) → Q () { s with heap := h', toks := s.toks + 2 }) : wpAny (model prog w) A (setAttr (.ref x) (Str.ofString "_segment_bytes") v) Q E s :=
  set_foc (C := 375) F X₀ N hx hd (by kernel_rfl) (by kernel_rfl) (by kernel_rfl) (by kernel_rfl) (by kernel_rfl) (by kernel_rfl) (Nat.le_of_ble_eq_true rfl) fun h' => h h' (s.toks + 1)
theorem set_reg {Q : Unit → Shared → Prop} {z : Value} (F : Fr h₀ L s.heap m) (X₀ : (Mine.hd.heap_39 w.params).In h₀) (N : News h₀ L s.heap led) (hx : (x, instObj 375 dx) ∈ led)
    (hd : (dx, dictOf [⟨q1, .str (Str.ofString "_shift_register") k1, r⟩, ⟨q2, .str (Str.ofString "_segment_bytes") k2, z⟩, ⟨q3, .str (Str.ofString "_aes") k3, a⟩] 3) ∈ led)
    (h : ∀ h', Fr h₀ L h' m → News h₀ L h' (foc dx (dictOf [⟨q1, .str (Str.ofString "_shift_register") k1, v⟩, ⟨q2, .str (Str.ofString "_segment_bytes") k2, z⟩, ⟨q3, .str (Str.ofString "_aes") k3, a⟩] 3) led) → Q () { s with heap := h', toks := s.toks + 2 }) :
    wpAny (model prog w) A (setAttr (.ref x) (Str.ofString "_shift_register") v) Q E s :=
  set_foc (C := 375) F X₀ N hx hd (by kernel_rfl) (by kernel_rfl) (by kernel_rfl) (by kernel_rfl) (by kernel_rfl) (by kernel_rfl) (Nat.le_of_ble_eq_true rfl) h
end
section
local macro_rules | `(tactic| ktr_rel) => `(tactic| first | assumption | exact rd_eq | (refine' rd_ne ?rn ?rv; (case rn => decide); (case rv => ktr_rel)) | (refine' IL.here ?ih; (case ih => assumption)) | (refine' IL.skip ?is; (case is => ktr_rel)) | (refine' KeAt.skip ?is; (case is => ktr_rel)) | (refine' Blk.skip ?is; (case is => ktr_rel)) | (refine' In.take ?is _; (case is => ktr_rel)) | (refine' In.drop ?is _; (case is => ktr_rel)))
local macro_rules | `(tactic| k_all) => `(tactic| exact allLt_ne (by assumption))
theorem wordsPb1 : True := by
  k_with_none
  k_with "STEPSX" => (repeat' (first | (k_unfold; (try dsimp only)) | (((fail_if_success (with_reducible show wpAny _ _ (setAttr _ _ _) _ _ _)); (fail_if_success (with_reducible show wpAny _ _ (exec (Stmt.For _ _ _ _ _) _) _ _ _)); (fail_if_success (with_reducible show wpAny _ _ (exec (Stmt.While _ _ _ _) _) _ _ _)); (fail_if_success (with_reducible show wpAny _ _ (exec (Stmt.Assign _ (Expr.ListComp _ _ _ _) _) _) _ _ _)); (fail_if_success (with_reducible show wpAny _ _ (eval (Expr.ListComp _ _ _ _) _) _ _ _)); (fail_if_success (with_reducible show LCg.CompSrc _ _ _ _ _ _ _ _ _ _ _ _ _ _)); (fail_if_success (with_reducible show wpAny _ _ (pyIter _) _ _ _)); (fail_if_success (with_reducible show RPost _ _ _ _ _ _ _ _ _)); (fail_if_success (with_reducible show CPost _ _ _ _ _ _ _ _)); (fail_if_success (with_reducible show Exists _)); (fail_if_success (with_reducible show CPostJ _ _ _ _ _ _ _ _ _ _ _ _ _)); (fail_if_success (with_reducible show WhileStep2 _ _ _ _ _ _ _ _)); first | walk1 | (dsimp only; walk1)) <;> ((try dsimp only [List.cons_append, List.nil_append]); (try k_fold)))))
  k_with "subscriptTail" => (k_here; (with_reducible show wpAny _ _ (subscriptTail _ _ (Value.ref _) (Value.int _ _)) _ _ _); k_dflt (refine' item_IL ?qqN ?qqm ?qqa ?qqb ?qqc ?_; (case qqN => k_asm); (case qqm => ktr_rel); (case qqa => lia); (case qqb => lia); (case qqc => lia); k_whole); intro _)
  k_with "call builtin:len" => (k_here; (with_reducible show wpAny _ _ (call (Value.builtin "len") [Value.ref _]) _ _ _); k_dflt (refine' len_IL ?qqN ?qqm ?qqz ?_; (case qqN => k_asm); (case qqm => ktr_rel); (case qqz => lia); k_whole); intro _ _)
  k_with "ite" => (k_here; first | (refine ite_neg (by (simp only [bne_iff_ne, beq_iff_eq, decide_eq_true_eq, ne_eq, Decidable.not_not]; lia)) ?_) | (refine ite_pos (by (simp only [bne_iff_ne, beq_iff_eq, decide_eq_true_eq, ne_eq, Decidable.not_not]; lia)) ?_))
  k_with "eval Name" => (k_here; name_kind "local"; (with_reducible show wpAny _ _ (eval (Expr.Name _ _) (compEnvC _ _ _ _)) _ _ _); k_dflt (refine LCgL.ld_own (by k_asm) (by k_mem) (by assumption) (by assumption) ?_))
  k_with "eval Name" => (k_here; name_kind "globalImplicit"; (with_reducible show wpAny _ _ (eval (Expr.Name _ _) (compEnvC _ _ _ _)) _ _ _); k_dflt (refine LCgL.ld_global (by k_asm) (by k_asm) (by k_asm) (by k_is) ?_))
  k_with "eval Name" => (k_here; name_kind "free"; (with_reducible show wpAny _ _ (eval (Expr.Name _ _) (compEnvC _ _ _ _)) _ _ _); k_dflt (refine' ld_cell ?qqN ?qqc ?qqm ?qqd ?_ ?qqe ?qqf ?qqg; (case qqe => rfl); (case qqf => rfl); (case qqg => decide); (case qqN => k_asm); (case qqc => rfl); (case qqm => k_mem); (case qqd => k_asm); k_whole))
  k_with "eval Name" => (k_here; name_kind "local"; (fail_if_success (with_reducible show wpAny _ _ (eval (Expr.Name _ _) (compEnvC _ _ _ _)) _ _ _)); (with_reducible rename Fr _ _ _ _ => kF); k_dflt (refine' nameX_L kF ?qqv ?_ ?qqa ?qqb; (case qqa => rfl); (case qqb => rfl); (case qqv => ktr_rel); k_whole))
  k_with "subscriptTail" => (k_here; (with_reducible show wpAny _ _ (subscriptTail _ (Expr.Slice (some _) (some _) none _) (Value.ref _) (Value.ref _)) _ _ _); k_dflt (refine' slice_run' ?qqF ?qqN ?qqm ?qqz ?qqa ?qqb ?_; (case qqF => k_asm); (case qqN => k_asm); (case qqm => ktr_rel); (case qqz => lia); (case qqa => lia); (case qqb => lia); k_whole); intro D' h' F' ws' hw' N' l1; (try k_lt l1); (try k_sweep))
  k_with "call builtin:len" => (k_here; k_dflt (refine' len_blk ?qqN ?qqm ?qqz ?_; (case qqN => k_asm); (case qqm => ktr_rel); (case qqz => lia); k_whole); intro _ _)
  k_with "subscriptTail" => (k_here; (with_reducible show wpAny _ _ (subscriptTail _ (Expr.Slice (some _) (some _) none _) _ (Value.ref _)) _ _ _); k_dflt (refine' slice_blk' ?qqe ?qqF ?qqN ?qqm ?qqz ?qqa ?qqb ?_; (case qqe => exact ⟨_, _, _, _, _, rfl, rfl⟩); (case qqF => k_asm); (case qqN => k_asm); (case qqm => ktr_rel); (case qqz => lia); (case qqa => lia); (case qqb => lia); k_whole); intro v' h' k' led' F' N' hs' hb')
  k_with "call ref" => (k_here; k_dflt (refine' Tells.use (compactV _ _ _ _ ?qqhl ?qqh4 ?qqhi) ?qqB ?qqF ?qqX ?qqN ?qqT ?qqhk ?qqhd ?qqhu ?_; (case qqB => k_asm); (case qqF => k_asm); (case qqX => k_asm); (case qqN => k_asm); (case qqT => k_asm); (case qqhk => rfl); (case qqhl => ktr_rel); (case qqh4 => (simp only [List.length_take, List.length_drop]; lia)); (case qqhi => ktr_rel); (case qqhd => first | lia | (dsimp only [ktrTop, Around.deeper]; lia)); (case qqhu => first | lia | (dsimp only [ktrTop, Around.deeper]; lia))); intro v' news' h' tk' F' Nq' hO'; (obtain ⟨hO1, t', hO2⟩ := hO'; subst hO1; subst hO2); (have N9' := drop_led Nq' (by assumption)); (try dsimp only); (try k_sweep))
  k_with "call type:list" => (k_here; (with_reducible show wpAny _ _ (call (Value.type "list") [Value.ref _]) _ _ _); k_dflt (refine' copy_IL ?qqF ?qqN ?qqm ?qqz ?_; (case qqF => k_asm); (case qqN => k_asm); (case qqm => ktr_rel); (case qqz => lia); k_whole); intro D' c' h' vs' hv' F' N' l1; (try k_lt l1); (try k_sweep))
  k_with "setItem ref int" => (k_here; (with_reducible show wpAny _ _ (setItem (Value.ref _) (Value.int _ _) (Value.int _ _)) _ _ _); k_dflt (refine' set_IL ?qqk1 ?qqk2 ?qqk3 ?qqk4 ?qqk5 ?qqk6 ?qqk7 ?_; (case qqk1 => k_asm); (case qqk2 => k_asm); (case qqk3 => k_upd); (case qqk4 => with_reducible assumption); (case qqk5 => lia); (case qqk6 => lia); (case qqk7 => lia); k_whole); intro h' F' N' hi'; (try k_sweep))
  k_with "subscriptTail" => (k_here; (with_reducible show wpAny _ _ (subscriptTail _ _ (Value.ref _) (Value.int _ _)) _ _ _); k_dflt (refine' item_tab ?qqF ?qqX ?qqo ?qqa ?qqb ?qqc ?_; (case qqF => k_asm); (case qqX => k_asm); (case qqo => with_reducible (first | exact tab_S _ | exact tab_T1 _ | exact tab_T2 _ | exact tab_T3 _ | exact tab_T4 _)); (case qqa => exact (and255 _).1); (case qqb => exact (and255 _).2); (case qqc => decide); k_whole); intro _)
  k_with "binaryOp Mod int int" => (k_here; (with_reducible refine mod_pos (by first | decide | lia) ?_))
  k_with "call builtin:list.append" => (k_here; (with_reducible show wpAny _ _ (call (Value.builtin _) [Value.ref _, Value.int _ _]) _ _ _); k_dflt (refine' append_IL ?qqk1 ?qqk2 ?qqk3 ?qqk4 ?qqk5 ?_; (case qqk1 => k_asm); (case qqk2 => k_asm); (case qqk3 => k_upd); (case qqk4 => with_reducible assumption); (case qqk5 => ((try simp only [List.length_append, List.length_cons, List.length_nil]); lia)); k_whole); intro h' F' N' hi'; (try k_sweep))
  k_with "call type:range" => (k_here; (first | (with_reducible show wpAny _ _ (call _ [_]) _ _ _) | (with_reducible show wpAny _ _ (call _ [_, _]) _ _ _)); (rename Fr _ _ _ _ => F'); (rename News _ _ _ _ => N'); (first | (with_unfolding_all refine range1_rows F' N' ?_) | (with_unfolding_all refine range2_rows F' N' ?_)); intro _ _ _ _ _ _ _ _ _)
  k_with "subscriptTail" => (k_here; (with_reducible show wpAny _ _ (subscriptTail _ (Expr.Slice _ _ none _) (Value.bytes _ _) (Value.ref _)) _ _ _); k_dflt (refine' slice_b' ?qqF ?qqN ?qqk ?qql ?qqu ?qqz ?_; (case qqF => k_asm); (case qqN => k_asm); (case qqk => kba_ints); (case qql => constructor); (case qqu => constructor); (case qqz => kba_size); k_whole); intro _ _ _ _ _ kbcK; (try simp only [Option.elim, KBc.clip_lit, clipAt_nat, List.drop_zero, Nat.sub_zero] at kbcK))
  k_with "call type:bytes" => (k_here; (with_reducible show wpAny _ _ (call (Value.type "bytes") [Value.ref _]) _ _ _); k_dflt (refine' mk_IL ?qqF ?qqN ?qqhh ?qqm ?qqr ?qqz ?_; (case qqhh => rfl); (case qqF => k_asm); (case qqN => k_asm); (case qqm => ktr_rel); (case qqr => ktr_rel); (case qqz => lia); k_whole); intro b' h' t' k' F' N' hb'; (try k_sweep))
  k_with "binaryOp Add bytes bytes" => (k_here; k_dflt (refine' KBa.add_K ?qqb ?qqc ?qqz ?_; (case qqb => with_reducible assumption); (case qqc => with_reducible assumption); (case qqz => lia); k_whole); intro t' k' hb')
  k_with "eval Call" => (k_here; (with_reducible show wpAny _ _ (eval (Expr.Call (Expr.Name _ _) _ [] _) _) _ _ _); (fail_if_success (with_reducible show wpAny _ _ (eval _ (compEnvC _ _ _ _)) _ _ _)); k_dflt (refine Call_ ?_))
  k_with "call ref" => (k_here; k_dflt (refine' Tells.use (aesV _ _ _ _ _ ?qqhk ?qqhin _ ?qqhR) ?qqB ?qqF ?qqX ?qqN ?qqT ?qqhkk ?qqhd ?qqhu ?_; (case qqB => k_asm); (case qqF => k_asm); (case qqX => k_asm); (case qqN => k_asm); (case qqT => k_asm); (case qqhk => with_reducible assumption); (case qqhin => with_reducible assumption); (case qqhR => with_reducible assumption); (case qqhkk => rfl); (case qqhd => first | decide | lia | (dsimp only [ktrTop, Around.deeper]; lia) | (simp only [depth_under_make, depth_deeper, ktrTop]; lia) | ktr_room); (case qqhu => first | decide | lia | (dsimp only [ktrTop, Around.deeper]; lia) | (simp only [units_under_make, units_deeper, ktrTop]; lia) | ktr_units)); intro v' news' h' tk' F' N' hO'; (try dsimp only))
  exact trivial
set_option maxHeartbeats 8000000 in
theorem bmV (w : World) (news : List (Addr × Obj)) (kb : Array UInt8) (kt : Tok) (ks : List Int) (hk : KBw.bInts kb = ks) (hin : KBa.In ks) (R : Nat) (hR : RoundsOf ks.length R) (c dc : Addr) (q1 q2 : Int) (k1 k2 tb ts : Tok) (b : Array UInt8) (z : Int)
   (hcm : (c, instObj 375 dc) ∈ news) (hdm : (dc, dictOf [⟨q1, .str (Str.ofString "_shift_register") k1, .bytes b tb⟩, ⟨q2, .str (Str.ofString "_segment_bytes") k2, .int z ts⟩] 2) ∈ news) :
   Tells w 169 [.ref c, .bytes kb kt] 3 news fun v news' => v = .none ∧ ∃ x dx ke kd p1 p2 j1 j2 nke rows q3 k3, (dc, dictOf [⟨q1, .str (Str.ofString "_shift_register") k1, .bytes b tb⟩, ⟨q2, .str (Str.ofString "_segment_bytes") k2, .int z ts⟩, ⟨q3, .str (Str.ofString "_aes") k3, .ref x⟩] 3) ∈ news' ∧ KeAt news' x dx ke kd p1 p2 j1 j2 nke rows (keOf w.params ks) ∧ (∀ p ∈ news, p.1 ≠ dc → p ∈ news') ∧ ∀ p ∈ news, ∀ a ∈ x :: dx :: ke :: rows, (@Ne Nat p.1 a) := by
  unfold Tells; k_fill; intro loose mean mg mb dp un gd cn cs a ccd cl outer A₀ base h₀ L m s Q E B F X N T hk hd hu hret
  refine wpAny_call ?_; k_dflt (refine' code_def (binds := [(Str.ofString "self", Value.ref c), (Str.ofString "key", Value.bytes kb kt)]) ?k1 ?k2 ?k3 ?k4 ?k5 ?kA ?kF ?kK ?k6 ?k7 ?k8 ?k9 ?kB ?_ ?c2 ?c3 ?c4 ?c5; (case kA => exact rfl); (case kF => exact rfl); (case kK => assumption); (case k1 => exact B); (case k2 => exact F); (case k3 => exact X); (case k4 => exact N); (case k5 => exact T); (case k6 => k_is); (case k7 => k_is); (case k8 => ktr_room); (case k9 => first | exact BindsTo.of_eq rfl | exact binds_K (by k_in) rfl (by k_is) rfl rfl rfl); (case c5 => decide); (case kB => exact locs rfl); (case c2 => exact rfl); (case c3 => exact rfl); (case c4 => exact rfl)); intro g1 L1 h1 FG1 F1 N1 B1 X1 T1; (try dsimp only); (try k_fold)
  k_extra "STEPSX"
  have D' := trivial; have F' := trivial; have N' := trivial; have N9' := trivial; have Nq' := trivial; have b' := trivial; have c' := trivial; have h' := trivial; have hO' := trivial; have hO1 := trivial; have hO2 := trivial; have hb' := trivial; have hi' := trivial; have hs' := trivial; have hv' := trivial; have hw' := trivial; have k' := trivial; have kF := trivial; have kbcK := trivial; have l1 := trivial; have led' := trivial; have news' := trivial; have t' := trivial; have tk' := trivial; have v' := trivial; have vs' := trivial; have ws' := trivial
  rename_i v1 nw h2 tk2 F2 N2 hO
  clear D' F' N' N9' Nq' b' c' h' hO' hO1 hO2 hb' hi' hs' hv' hw' k' kF kbcK l1 led' news' t' tk' v' vs' ws'
  obtain ⟨x, dx, ke, kd, p1, p2, j1, j2, nke, rows, rfl, hK, hsub, hfr⟩ := hO
  refine set_foc (K := Mine.hd.heap_39 w.params) (C := 375) (es' := [⟨q1, .str (Str.ofString "_shift_register") k1, .bytes b tb⟩, ⟨q2, .str (Str.ofString "_segment_bytes") k2, .int z ts⟩, ⟨PyData.keyHash w.params (Str.ofString "_aes"), .str (Str.ofString "_aes") (tk2 + 1), .ref x⟩]) (n' := 3) F2 X1 N2 (hsub _ hcm) (hsub _ hdm) (by kernel_rfl) (by kernel_rfl) (by kernel_rfl) (by kernel_rfl) (by kernel_rfl) (by kernel_rfl) (Nat.le_of_ble_eq_true rfl) ?_
  intro h3 F3 N3
  have hdc : dc ∉ x :: dx :: ke :: rows := fun h => hfr _ hdm dc h rfl
  try dsimp only
  k_extra "STEPSX"
  exact hret _ _ _ _ (by assumption) (by assumption) ⟨rfl, x, dx, ke, kd, p1, p2, j1, j2, nke, rows, _, _, foc_here, hK.foc hdc, fun p hp h => foc_mem (hsub p hp) h, hfr⟩
theorem wordsPb2 : True := by
  k_with "call ref" => (k_here; k_dflt (refine' Tells.use (stbV _ _ _ _) ?qqB ?qqF ?qqX ?qqN ?qqT ?qqhkk ?qqhd ?qqhu ?_; (case qqB => k_asm); (case qqF => k_asm); (case qqX => k_asm); (case qqN => k_asm); (case qqT => k_asm);  (case qqhkk => rfl); (case qqhd => first | decide | lia | (dsimp only [ktrTop, Around.deeper]; lia) | (simp only [depth_under_make, depth_deeper, ktrTop]; lia) | ktr_room); (case qqhu => first | decide | lia | (dsimp only [ktrTop, Around.deeper]; lia) | (simp only [units_under_make, units_deeper, ktrTop]; lia) | ktr_units)); intro v' news' h' tk' F' N' hO'; (obtain ⟨hO1, hO2⟩ := hO'; subst hO1; subst hO2); (try dsimp only); (try k_sweep))
  k_with "call ref" => (k_here; k_dflt (refine' Tells.use (bmV _ _ _ _ _ ?qqhk ?qqhin _ ?qqhR _ _ _ _ _ _ _ _ _ _ ?qqhcm ?qqhdm) ?qqB ?qqF ?qqX ?qqN ?qqT ?qqhkk ?qqhd ?qqhu ?_; (case qqB => k_asm); (case qqF => k_asm); (case qqX => k_asm); (case qqN => k_asm); (case qqT => k_asm); (case qqhcm => with_reducible assumption); (case qqhdm => exact foc_here); (case qqhk => with_reducible assumption); (case qqhin => with_reducible assumption); (case qqhR => with_reducible assumption); (case qqhkk => rfl); (case qqhd => first | decide | lia | (dsimp only [ktrTop, Around.deeper]; lia) | (simp only [depth_under_make, depth_deeper, ktrTop]; lia) | ktr_room); (case qqhu => first | decide | lia | (dsimp only [ktrTop, Around.deeper]; lia) | (simp only [units_under_make, units_deeper, ktrTop]; lia) | ktr_units)); intro v' news' h' tk' F' N' hO'; (try dsimp only))
  exact trivial
/-- a CFB object -/
def ModeAt (led : List (Addr × Obj)) (c dc : Addr) (ad : List Addr) (reg : List Int) (z : Nat) (KE : List (List Int)) : Prop :=
  (c, instObj 375 dc) ∈ led ∧ c ≠ dc ∧ dc ∉ ad ∧ ∃ q1 q2 q3 k1 k2 k3 b tb ts x dx ke kd p1 p2 j1 j2 nke rows, KBw.bInts b = reg ∧ ad = x :: dx :: ke :: rows ∧
    (dc, dictOf [⟨q1, .str (Str.ofString "_shift_register") k1, .bytes b tb⟩, ⟨q2, .str (Str.ofString "_segment_bytes") k2, .int (z : Int) ts⟩, ⟨q3, .str (Str.ofString "_aes") k3, .ref x⟩] 3) ∈ led ∧ KeAt led x dx ke kd p1 p2 j1 j2 nke rows KE
def zOf (z : Nat) : Nat := if z = 0 then 1 else z
set_option maxHeartbeats 8000000 in
theorem cfbV (w : World) (news : List (Addr × Obj)) (kb : Array UInt8) (kt : Tok) (ks : List Int) (hk : KBw.bInts kb = ks) (hin : KBa.In ks) (R : Nat) (hR : RoundsOf ks.length R) (ib : Array UInt8) (it : Tok) (rs : List Int) (hib : KBw.bInts ib = rs) (hrs : rs.length = 16) (z : Nat) (zt : Tok) (hz : z ≤ 16) :
   Tells w 375 [.bytes kb kt, .bytes ib it, .int (z : Int) zt] 6 news fun v news' => ∃ c dc ad, v = .ref c ∧ ModeAt news' c dc ad rs (zOf z) (keOf w.params ks) ∧ (∀ p ∈ news, p ∈ news') ∧ ∀ p ∈ news, ∀ a ∈ c :: dc :: ad, (@Ne Nat p.1 a) := by
  unfold Tells; k_fill; intro loose mean mg mb dp un gd cn cs a ccd cl outer A₀ base h₀ L m s Q E B F X N T hk hd hu hret
  refine call_cls F X N (fI := 354) (by kernel_rfl) (by kernel_rfl) (by kernel_rfl) ?_
  intro c dc h1 F1 N1 l1 l2
  k_dflt (refine' code_def (binds := [(Str.ofString "self", Value.ref c), (Str.ofString "key", Value.bytes kb kt), (Str.ofString "iv", Value.bytes ib it), (Str.ofString "segment_size", Value.int (z : Int) zt)]) ?k1 ?k2 ?k3 ?k4 ?k5 ?kA ?kF ?kK ?k6 ?k7 ?k8 ?k9 ?kB ?_ ?c2 ?c3 ?c4 ?c5; (case kA => exact rfl); (case kF => exact rfl); (case kK => assumption); (case k1 => exact B); (case k2 => exact F1); (case k3 => exact X); (case k4 => exact N1); (case k5 => exact T); (case k6 => k_is); (case k7 => k_is); (case k8 => ktr_room); (case k9 => first | exact BindsTo.of_eq rfl | exact binds_K (by k_in) rfl (by k_is) rfl rfl rfl); (case c5 => decide); (case kB => exact locs rfl); (case c2 => exact rfl); (case c3 => exact rfl); (case c4 => exact rfl)); intro g1 L1 h2 FG1 F2 N2 B1 X1 T1; (try dsimp only); (try k_fold)
  have hcd : c ≠ dc := Nat.ne_of_gt l2
  by_cases hz0 : z = 0
  · subst hz0
    k_extra "STEPSX"
    rename Fr _ _ _ _ => F2
    rename News _ _ _ _ => N2
    refine set_reg0 F2 X1 N2 (.head _) (.tail _ (.head _)) ?_
    intro h3 k1 F3 N3
    have hc1 := in_foc (p := (c, instObj 375 dc)) N3 (.head _) hcd
    k_extra "STEPSX"
    rename Fr _ _ _ _ => F2
    rename News _ _ _ _ => N2
    refine set_seg F2 X1 N2 hc1 foc_here ?_
    intro h4 k2 F4 N4
    have hc2 := in_foc N4 hc1 hcd
    k_extra "STEPSX"
    rename _ = Value.none ∧ _ => hO
    obtain ⟨-, x, dx, ke, kd, p1, p2, j1, j2, nke, rows, q3, k3, hD, hK, hsub, hfr⟩ := hO
    rename Fr _ _ _ _ => F5
    rename News _ _ _ _ => N5
    rw [show (1 : Int) = ((zOf 0 : Nat) : Int) from rfl] at hD
    have hne : ∀ p ∈ news, p.1 ≠ dc := fun p hp => Nat.ne_of_lt (l1 p hp)
    refine hret _ _ _ _ F5 N5 ⟨c, dc, x :: dx :: ke :: rows, rfl, ⟨hsub _ hc2 hcd, hcd, fun h => hfr _ foc_here dc h rfl, _, _, q3, _, _, k3, ib, it, _, x, dx, ke, kd, p1, p2, j1, j2, nke, rows, hib, rfl, hD, hK⟩, fun p hp => hsub p (foc_mem (foc_mem (.tail _ (.tail _ hp)) (hne p hp)) (hne p hp)) (hne p hp), fun p hp a ha => ?_⟩
    rcases List.mem_cons.mp ha with rfl | ha
    · exact Nat.ne_of_lt (Nat.lt_trans (l1 p hp) l2)
    · rcases List.mem_cons.mp ha with rfl | ha
      · exact hne p hp
      · exact hfr p (foc_mem (foc_mem (.tail _ (.tail _ hp)) (hne p hp)) (hne p hp)) a ha
  · skip
    k_extra "STEPSX"
    rename Fr _ _ _ _ => F2
    rename News _ _ _ _ => N2
    refine set_reg0 F2 X1 N2 (.head _) (.tail _ (.head _)) ?_
    intro h3 k1 F3 N3
    have hc1 := in_foc (p := (c, instObj 375 dc)) N3 (.head _) hcd
    k_extra "STEPSX"
    rename Fr _ _ _ _ => F2
    rename News _ _ _ _ => N2
    refine set_seg F2 X1 N2 hc1 foc_here ?_
    intro h4 k2 F4 N4
    have hc2 := in_foc N4 hc1 hcd
    k_extra "STEPSX"
    rename _ = Value.none ∧ _ => hO
    obtain ⟨-, x, dx, ke, kd, p1, p2, j1, j2, nke, rows, q3, k3, hD, hK, hsub, hfr⟩ := hO
    rename Fr _ _ _ _ => F5
    rename News _ _ _ _ => N5
    rw [show (z : Int) = ((zOf z : Nat) : Int) by rw [show zOf z = z from if_neg hz0]] at hD
    have hne : ∀ p ∈ news, p.1 ≠ dc := fun p hp => Nat.ne_of_lt (l1 p hp)
    refine hret _ _ _ _ F5 N5 ⟨c, dc, x :: dx :: ke :: rows, rfl, ⟨hsub _ hc2 hcd, hcd, fun h => hfr _ foc_here dc h rfl, _, _, q3, _, _, k3, ib, it, _, x, dx, ke, kd, p1, p2, j1, j2, nke, rows, hib, rfl, hD, hK⟩, fun p hp => hsub p (foc_mem (foc_mem (.tail _ (.tail _ hp)) (hne p hp)) (hne p hp)) (hne p hp), fun p hp a ha => ?_⟩
    rcases List.mem_cons.mp ha with rfl | ha
    · exact Nat.ne_of_lt (Nat.lt_trans (l1 p hp) l2)
    · rcases List.mem_cons.mp ha with rfl | ha
      · exact hne p hp
      · exact hfr p (foc_mem (foc_mem (.tail _ (.tail _ hp)) (hne p hp)) (hne p hp)) a ha
end

theorem off1_of {D : Addr} : ∀ {nx : List (Addr × Obj)}, (∀ p ∈ nx, p.1 ≠ D) → LCg.Off1 D nx
  | [], _ => trivial
  | q :: r, h => ⟨h q (.head _), off1_of fun p hp => h p (.tail _ hp)⟩
section
open LCg LCp
variable {prog : Program} {w : World} {A : Around} {E : Value → Shared → Prop} {s : Shared} {h₀ : Heap} {L : Addr} {m : Str → Option Value} {env : Env}
theorem but_fr {h h' : Heap} {wr : List Addr} (F : Fr h₀ L h m) (hk : ∀ b o, b ∉ wr → h.get? b = some o → h'.get? b = some o) (hL : L ∉ wr) (hI : ∀ b ∈ wr, h₀.get? b = none) : Fr h₀ L h' m :=
  ⟨F.ns.at' fun o e => hk L o hL e, fun b o e => hk b o (fun hm => by rw [hI b hm] at e; cases e) (F.keep b o e), F.above⟩
theorem but_news {h h' : Heap} {wr : List Addr} {news : List (Addr × Obj)} (N : News h₀ L h news) (hk : ∀ b o, b ∉ wr → h.get? b = some o → h'.get? b = some o) (off : ∀ p ∈ news, p.1 ∉ wr) : News h₀ L h' news :=
  fun p hp => ⟨hk _ _ (off p hp) (N p hp).1, (N p hp).2⟩
/-- a comprehension over pairs that an iterator hands out, each element by itself and without a mark on the heap -/
theorem block_T {elt iter : Expr} {x x₂ : Str} {px px₂ tp : Pos} {tk} {scope : Scope} {cl : List (Str × Addr)} {pos : Pos} {s₂ : Shared} {z : Addr} {fp wr : List Addr} {n : Nat} {Pt : Nat → Array Value → Prop} {St : Nat → Heap → Prop} {Mid : Nat → Addr → Heap → Prop} {news : List (Addr × Obj)}
    {RR : Value → Addr → Result → Shared → Prop} (Pv : Nat → Value → Prop)
    (W : WalksT prog w A z fp wr n Pt St Mid) (hsz : n ≤ sizeLine)
    (hcell : ∀ y ∈ scope.names, y.2 ≠ .cell) (hkind : scope.kind = .function) (hx : scope.names.lookup x = some .local) (hx₂ : scope.names.lookup x₂ = some .local) (hxx : x ≠ x₂) (hh : A.handled = none) (hst : St 0 s₂.heap) (hfp : ∀ b ∈ fp, b < s₂.heap.objs.size)
    (F : Fr h₀ L s₂.heap m) (N : News h₀ L s₂.heap news) (hwL : L ∉ wr) (hw0 : ∀ b ∈ wr, h₀.get? b = none) (off : ∀ p ∈ news, p.1 ∉ wr)
    (h2 : ∀ i vals, Pt i vals → ∃ v1 v2, vals = #[v1, v2])
    (turn : ∀ i v1 v2 C oC m₂ (s₁ : Shared) (E' : Value → Shared → Prop), i < n → Pt i #[v1, v2] → NsObj oC m₂ → m₂ x = some v1 → m₂ x₂ = some v2 → Fr h₀ L s₁.heap m → News h₀ L s₁.heap ((C, oC) :: news) →
      wpAny (model prog w) A (eval elt (compEnvC scope cl C env)) (fun y s' => Pv i y ∧ ∃ k, s' = { s₁ with toks := k }) E' s₁)
    (hRR : ∀ D C h tk m' ys, Fr h₀ L h m → News h₀ L h ((D, lst ys) :: news) → (∀ p ∈ news, p.1 ≠ D) → h.Ns C m' → h₀.get? C = none → h₀.get? D = none → C ≠ L → D ≠ L → C ≠ D → (∀ p ∈ news, p.1 ≠ C) → ys.length = n → (∀ (i : Nat) y, ys[i]? = some y → Pv i y) → RR (.ref D) C (.ok .next) { s₂ with heap := h, toks := tk }) :
    wpAny (model prog w) A (newList []) (fun acc s₃ => wpAny (model prog w) A (newFunctionEnv scope env.globals cl [] env.qual none .none (some env)) (fun cenv s₄ =>
      codeAny (model prog w) A (.compStart (.ListComp elt [⟨.Tuple [.Name x px, .Name x₂ px₂] tk tp, iter, [], 0⟩] scope pos) 0 (.ref z) acc { cenv with scope := relabel scope env }) (RR acc cenv.locals) s₄) E s₃) E s₂ := by
  refine wpAny_newObj_type (wpAny_newFunctionEnv hcell (by intro y hy; simp at hy) (fun h₁ hns₁ hsb₁ => ?_) hkind)
  dsimp only at hns₁ hsb₁ ⊢
  generalize hH2 : s₂.heap.push { cls := .type "list", dict := none, data := .seq ([] : List Value).toArray } = H2 at hns₁ hsb₁ ⊢
  have hC : H2.objs.size = s₂.heap.objs.size + 1 := by rw [← hH2, Heap.size_push]
  have hDC : s₂.heap.objs.size ≠ H2.objs.size := by rw [hC]; exact Nat.ne_of_lt (Nat.lt_succ_self _)
  have below : ∀ b, b < s₂.heap.objs.size → b ≠ H2.objs.size ∧ b ≠ s₂.heap.objs.size := fun b hb => ⟨by rw [hC]; exact Nat.ne_of_lt (Nat.lt_succ_of_lt hb), Nat.ne_of_lt hb⟩
  have hwfp : ∀ b ∈ wr, b < s₂.heap.objs.size := fun b hb => hfp b (W.sub b hb)
  have hDf : s₂.heap.objs.size ∉ fp := fun hm => Nat.lt_irrefl _ (hfp _ hm)
  have hDw : s₂.heap.objs.size ∉ wr := fun hm => Nat.lt_irrefl _ (hwfp _ hm)
  have hCf : H2.objs.size ∉ fp := fun hm => by have := hfp _ hm; rw [hC] at this; exact Nat.lt_irrefl _ (Nat.lt_of_succ_lt this)
  have hCw : H2.objs.size ∉ wr := fun hm => hCf (W.sub _ hm)
  have old : ∀ b o, s₂.heap.get? b = some o → h₁.get? b = some o := fun b o e => hsb₁.extBut b o (below b (Heap.lt_size e)).1 (hH2 ▸ Heap.get?_push_of_some _ e |> Heap.get?_push_of_some _)
  have hacc : h₁.get? s₂.heap.objs.size = some (lst []) := hsb₁.extBut _ _ hDC (Heap.get?_push_of_some _ (hH2 ▸ Heap.get?_push_size _ rfl))
  have hst₁ : St 0 h₁ := W.frame _ _ _ hst fun b _ o e => old b o e
  have fresh : ∀ a, s₂.heap.objs.size ≤ a → s₂.heap.get? a = none := fun a ha => by
    cases e : s₂.heap.get? a with
    | none => rfl
    | some o' => exact absurd (Heap.lt_size e) (Nat.not_lt.mpr ha)
  have fresh₀ : ∀ a, s₂.heap.objs.size ≤ a → h₀.get? a = none := fun a ha => by
    cases e : h₀.get? a with
    | none => rfl
    | some o' => have := F.keep a o' e; rw [fresh a ha] at this; cases this
  have hD₀ : h₀.get? s₂.heap.objs.size = none := fresh₀ _ (Nat.le_refl _)
  have hC₀ : h₀.get? H2.objs.size = none := fresh₀ _ (by rw [hC]; exact Nat.le_succ _)
  have hLlt : L < s₂.heap.objs.size := F.ns.lt
  have hDL : s₂.heap.objs.size ≠ L := Ne.symm (below L hLlt).2
  have hCL : H2.objs.size ≠ L := Ne.symm (below L hLlt).1
  have offD : ∀ p ∈ news, p.1 ≠ s₂.heap.objs.size := fun p hp => (below _ (Heap.lt_size (N p hp).1)).2
  have offC : ∀ p ∈ news, p.1 ≠ H2.objs.size := fun p hp => (below _ (Heap.lt_size (N p hp).1)).1
  have loop : ∀ s₃ : Shared, s₃ = { s₂ with heap := h₁, toks := s₂.toks + ([] : List (Str × Value)).length } →
      codeAny (model prog w) A (.compLoop (.ListComp elt [⟨.Tuple [.Name x px, .Name x₂ px₂] tk tp, iter, [], 0⟩] scope pos) 0 (.ref z) (.ref s₂.heap.objs.size) (compEnvC scope cl H2.objs.size env))
        (RR (.ref s₂.heap.objs.size) H2.objs.size) s₃ := by
    rintro s₃ rfl
    refine codeAny_compLoop_pair
      (fun k s' => ∃ h' tk i ys m', s' = { s₂ with heap := h', toks := tk } ∧ i ≤ n ∧ k = n + 1 - i ∧ ys.length = i ∧ (∀ (j : Nat) y, ys[j]? = some y → Pv j y) ∧ St i h' ∧ Fr h₀ L h' m ∧ h'.Ns H2.objs.size m' ∧ News h₀ L h' ((s₂.heap.objs.size, lst ys) :: news)) ?_ (n + 1)
      ⟨h₁, _, 0, [], _, rfl, Nat.zero_le _, rfl, rfl, (by intro j y h; simp at h), hst₁, F.keeps old, hns₁, fun p hp => ?_⟩
    · rintro k s' ⟨h', tk, i, ys, m', rfl, hi, rfl, hyl, hpv, hst', F', hn', N'⟩
      have off' : ∀ p ∈ (s₂.heap.objs.size, lst ys) :: news, p.1 ∉ wr := fun p hp => by
        rcases List.mem_cons.mp hp with rfl | hp
        · exact hDw
        · exact off p hp
      by_cases hlt : i < n
      · refine W.item i _ _ _ hlt hst' fun T vals h₂ tk₂ hPt hTsz hT hmid hk₂ => ?_
        obtain ⟨v1, v2, rfl⟩ := h2 _ _ hPt
        have hTw := W.apart _ _ _ hmid
        refine W.go _ _ _ i T _ _ _ hmid fun h₄ hst₄ hk₄ => ?_
        have hk₄' : ∀ b o, b ∉ wr → h'.get? b = some o → h₄.get? b = some o := fun b o hb e => hk₄ b o hb (hk₂ b o hb e)
        have hT₄ : IsTup h₄ T #[v1, v2] := by
          obtain ⟨ot, e1, e2, nt, e3⟩ := hT
          exact ⟨ot, hk₄ T ot hTw e1, e2, nt, e3⟩
        refine assign_Tuple_tuple hh hT₄ rfl rfl fun h₅ he => ?_
        have he' : ∀ b o, h₄.get? b = some o → h₅.get? b = some o := fun b o e => he b o (Nat.ne_of_lt (Heap.lt_size e)) e
        refine assignInOrder_cons (wpAny_assign_Name (wpAny_storeName_local (lookup_relabel_local hx) ((hn'.at' fun o e => hk₄' _ o hCw e).at' fun o e => he' _ o e) (fun h₆ hn₆ hs₆ => ?_) (by simp [compEnvC, relabel, hkind])))
        refine assignInOrder_cons (wpAny_assign_Name (wpAny_storeName_local (lookup_relabel_local hx₂) hn₆ (fun h₃ hn₃ hs₃ => ?_) (by simp [compEnvC, relabel, hkind])))
        refine assignInOrder_nil ?_
        have old3 : ∀ b o, b ≠ H2.objs.size → h₄.get? b = some o → h₃.get? b = some o := fun b o hb e => hs₃.extBut b o hb (hs₆.extBut b o hb (he' b o e))
        have hst₃ : St (i + 1) h₃ := W.frame _ _ _ hst₄ fun b hb o e => old3 b o (fun q => hCf (by rw [← q]; exact hb)) e
        obtain ⟨oC, heC, hoC⟩ := ns_obj hn₃
        have F₃ : Fr h₀ L h₃ m := (((but_fr F' hk₄' hwL hw0).keeps he').change hs₆ hCL hC₀).change hs₃ hCL hC₀
        have N₄ := but_news N' hk₄' off'
        have N₃ : News h₀ L h₃ ((s₂.heap.objs.size, lst ys) :: news) := fun p hp => by
          refine ⟨old3 _ _ ?_ (N₄ p hp).1, (N₄ p hp).2⟩
          rcases List.mem_cons.mp hp with rfl | hp
          · exact hDC
          · exact offC p hp
        have N₃' : News h₀ L h₃ ((H2.objs.size, oC) :: news) := fun p hp => by
          rcases List.mem_cons.mp hp with rfl | hp
          · exact ⟨heC, hCL, hC₀⟩
          · exact N₃ p (List.mem_cons_of_mem _ hp)
        refine wpAny_mono (turn i v1 v2 H2.objs.size oC _ { s₂ with heap := h₃, toks := _ } _ hlt hPt hoC (by simp [hxx]) (by simp) F₃ N₃') (fun y s₄ q => ?_) fun _ _ e => e
        obtain ⟨hy, k', rfl⟩ := q
        refine append_at (hsz := by show ys.toArray.size ≤ sizeLine; rw [List.size_toArray, hyl]; exact Nat.le_trans hi hsz) (N₃ _ (List.mem_cons_self ..)).1 fun h₈ hs₈ hD₈ => ?_
        refine ⟨n + 1 - (i + 1), by lia, h₈, k', i + 1, ys ++ [y], _, rfl, hlt, rfl, by rw [List.length_append, List.length_singleton, hyl], ?_, W.frame _ _ _ hst₃ fun b hb o e => hs₈.extBut b o (fun q => hDf (q ▸ hb)) e, F₃.change hs₈ hDL hD₀,
          hn₃.sameBut hs₈ (Ne.symm hDC), fun p hp => ?_⟩
        · intro j yj hj
          by_cases hjl : j < ys.length
          · rw [List.getElem?_append_left hjl] at hj; exact hpv j yj hj
          · rw [List.getElem?_append_right (by lia)] at hj
            have hj' : j - ys.length = 0 := by
              cases q : j - ys.length with
              | zero => rfl
              | succ q' => rw [q] at hj; simp at hj
            rw [hj'] at hj
            have : j = i := by lia
            subst this
            simp at hj; subst hj; exact hy
        · rcases List.mem_cons.mp hp with rfl | hp
          · exact ⟨hD₈.trans (congrArg some (lst_snoc ys y)), hDL, hD₀⟩
          · exact ⟨hs₈.extBut _ _ (offD p hp) (N₃ p (List.mem_cons_of_mem _ hp)).1, (N₃ p (List.mem_cons_of_mem _ hp)).2⟩
      · obtain rfl : i = n := Nat.le_antisymm hi (Nat.not_lt.mp hlt)
        refine W.done _ _ _ hst' fun h₂ tk₂ hk₂ => ?_
        exact hRR _ _ h₂ tk₂ _ ys (but_fr F' hk₂ hwL hw0) (but_news N' hk₂ off') offD (hn'.at' fun o e => hk₂ _ o hCw e) hC₀ hD₀ hCL hDL (Ne.symm hDC) offC hyl hpv
    · rcases List.mem_cons.mp hp with rfl | hp
      · exact ⟨hacc, hDL, hD₀⟩
      · exact ⟨old _ _ (N p hp).1, (N p hp).2⟩
  exact codeAny_compStart_list (loop _ rfl) (W.self 0 _ _ _ hst₁ (loop _ rfl))
end
section
open KBw
variable {prog : Program} {w : World} {A : Around} {E : Value → Shared → Prop} {s : Shared} {b : Array UInt8} {t : Tok}
theorem nb_item {it : Addr} {i : Nat} {c : UInt8} {Q : Value → Shared → Prop} (hit : IsBytesIter s.heap it b t i) (hx : b[i]? = some c)
    (hQ : ∀ h', IsBytesIter h' it b t (i + 1) → Heap.SameBut it s.heap h' → Q (.int (c.toNat : Int) s.toks) { s with heap := h', toks := s.toks + 1 }) : wpAny (model prog w) A (Builtin.SmallTypes.nextOf (.ref it)) Q E s := by
  obtain ⟨o, ho, hc, hd⟩ := id hit
  unfold Builtin.SmallTypes.nextOf
  refine wpAny_bind (wpAny_callSpecial?_slot (name := PySem.Str.ofString "__next__") (iter_typeIs hit) slot_next
    (wpAny_call_entry slot_next (iter_typeIs hit) entry_next ?_ (args_next _)))
  show wpAny _ _ (field (.ref it) 0 >>= _) _ _ s
  refine wpAny_bind (wpAny_field ho hd (x := .bytes b t) rfl ?_)
  show wpAny _ _ (if (Value.bytes b t == Value.none) = true then _ else _) _ _ s
  rw [if_neg (show ¬ ((Value.bytes b t == Value.none) = true) from Bool.false_ne_true)]
  show wpAny _ _ (field (.ref it) 1 >>= _) _ _ s
  refine wpAny_bind (wpAny_field ho hd (x := .int i 0) rfl ?_)
  refine wpAny_bind (wpAny_of_eq (a := b) rfl ?_)
  simp only [Int.toNat_natCast, hx]
  refine wpAny_bind (wpAny_setField ho hd (by simp) (wpAny_bind (wpAny_mkInt (wpAny_pure ⟨_, rfl, wpAny_pure (hQ _ ?_ (Heap.SameBut.update ..))⟩))))
  exact ⟨_, Heap.get?_update_self _ ho (Obj.isFreed_of_fields (Obj.data_mapFields hd _)), (Obj.cls_mapFields ..).trans hc, by
    rw [Obj.data_mapFields hd]; simp [rawInt]⟩
theorem nb_end {it : Addr} {i : Nat} {Q : Value → Shared → Prop} (hh : A.handled = none) (hit : IsBytesIter s.heap it b t i) (hx : b[i]? = none)
    (hE : ∀ h' e, Heap.ExtBut it s.heap h' → (∃ o, h'.get? e = some o ∧ o.cls = .type "StopIteration") → E (.ref e) { s with heap := h' }) : wpAny (model prog w) A (Builtin.SmallTypes.nextOf (.ref it)) Q E s := by
  obtain ⟨o, ho, hc, hd⟩ := id hit
  unfold Builtin.SmallTypes.nextOf
  refine wpAny_bind (wpAny_callSpecial?_slot (name := PySem.Str.ofString "__next__") (iter_typeIs hit) slot_next
    (wpAny_call_entry slot_next (iter_typeIs hit) entry_next ?_ (args_next _)))
  show wpAny _ _ (field (.ref it) 0 >>= _) _ _ s
  refine wpAny_bind (wpAny_field ho hd (x := .bytes b t) rfl ?_)
  show wpAny _ _ (if (Value.bytes b t == Value.none) = true then _ else _) _ _ s
  rw [if_neg (show ¬ ((Value.bytes b t == Value.none) = true) from Bool.false_ne_true)]
  show wpAny _ _ (field (.ref it) 1 >>= _) _ _ s
  refine wpAny_bind (wpAny_field ho hd (x := .int i 0) rfl ?_)
  refine wpAny_bind (wpAny_of_eq (a := b) rfl ?_)
  simp only [Int.toNat_natCast, hx]
  refine wpAny_bind (wpAny_rule (wpAny_bind (wpAny_setField ho hd (by simp) ?_)))
  show wpAny _ _ (newExc (.type "StopIteration") [] >>= _) _ _ _
  refine wpAny_bind ?_
  simp only [newExc, newTuple]
  refine wpAny_bind (wpAny_newObj_type ?_ (by size_fits))
  refine wpAny_bind (m := firstArgMember _ _) (wpAny_of_eq (a := Value.none) (by first | rfl | (simp only [firstArgMember]; rfl)) ?_)
  refine wpAny_newObj_type ?_ (by size_fits)
  simp only [raiseNew]
  refine wpAny_bind (wpAny_handled ?_)
  first | rw [show A.in1.handled = none from hh] | rw [hh]
  refine wpAny_bind (wpAny_pure (wpAny_throw ?_))
  exact hE _ _ (((Heap.SameBut.update ..).extBut.push _).push _) ⟨_, Heap.get?_push_size _ rfl, rfl⟩
/-- the zip of octets and of a list, at its place -/
def ZSt (b : Array UInt8) (t : Tok) (l : Addr) (ys : Array Value) (z TI TO i1 i2 : Addr) (i : Nat) (h : Heap) : Prop :=
  IsZip h z TI TO .none ∧ IsPair h TI (.ref i1) (.ref i2) ∧ (∃ a b, IsPair h TO a b) ∧ IsBytesIter h i1 b t i ∧ h.IsListIter i2 l i ∧ h.IsList l ys
def ZMid (b : Array UInt8) (t : Tok) (l : Addr) (ys : Array Value) (z TI TO i1 i2 : Addr) (i : Nat) (T : Addr) (h : Heap) : Prop :=
  IsZip h z TI TO (rawInt T) ∧ IsPair h TI (.ref i1) (.ref i2) ∧ (∃ a b, IsPair h TO a b) ∧ IsBytesIter h i1 b t (i + 1) ∧ h.IsListIter i2 l (i + 1) ∧ h.IsList l ys ∧ T ≠ z ∧ T ≠ TO ∧ T ≠ i1 ∧ T ≠ i2
theorem bi_ext {h h' : Heap} {a c : Addr} {i : Nat} (x : IsBytesIter h a b t i) (hs : Heap.ExtBut c h h') (hac : a ≠ c) : IsBytesIter h' a b t i := let ⟨o, ho, r⟩ := x; ⟨o, hs a o hac ho, r⟩
theorem bi_at {h h' : Heap} {a : Addr} {i : Nat} (x : IsBytesIter h a b t i) (hk : ∀ o, h.get? a = some o → h'.get? a = some o) : IsBytesIter h' a b t i := let ⟨o, ho, r⟩ := x; ⟨o, hk o ho, r⟩
theorem zb_item {z TI TO i1 i2 l : Addr} {k : Nat} {ys : Array Value} {c : UInt8} {y a a' : Value} {Q : Value → Shared → Prop} (D : ZipApart z TI TO i1 i2 l l)
    (hz : IsZip s.heap z TI TO .none) (hTI : IsPair s.heap TI (.ref i1) (.ref i2)) (hTO : IsPair s.heap TO a a')
    (h1 : IsBytesIter s.heap i1 b t k) (h2 : s.heap.IsListIter i2 l k) (hl2 : s.heap.IsList l ys) (hx : b[k]? = some c) (hy : ys[k]? = some y)
    (hQ : ∀ h', IsZip h' z TI TO (rawInt s.heap.objs.size) → (∃ a b, IsPair h' TO a b) → IsBytesIter h' i1 b t (k + 1) → h'.IsListIter i2 l (k + 1) → IsPair h' s.heap.objs.size (.int (c.toNat : Int) s.toks) y → h'.objs.size = s.heap.objs.size + 1 →
      (∀ c o, c ≠ z → c ≠ TO → c ≠ i1 → c ≠ i2 → s.heap.get? c = some o → h'.get? c = some o) → Q (.ref s.heap.objs.size) { s with heap := h', toks := s.toks + 1 }) :
    wpAny (model prog w) A (Builtin.«zip.__next__» ⟨[.ref z], []⟩) (fun fin s' => ∃ v, fin = .done (.ret v) ∧ Q v s') E s := by
  show wpAny _ _ (field (.ref z) 2 >>= _) _ _ _
  refine wpAny_bind (wpAny_field hz rfl (x := .bool false) rfl ?_)
  show wpAny _ _ (field (.ref z) 3 >>= _) _ _ _
  refine wpAny_bind (wpAny_field hz rfl (x := .ref TI) rfl ?_)
  refine wpAny_bind (wpAny_seqItems hTI rfl ?_)
  show wpAny _ _ (Builtin.SmallTypes.ownedTupleIsFree (.ref z) >>= _) _ _ _
  refine wpAny_bind ?_
  unfold Builtin.SmallTypes.ownedTupleIsFree
  refine wpAny_bind (wpAny_field hz rfl (x := .none) rfl (wpAny_pure ?_))
  simp only [if_true]
  refine wpAny_bind (wpAny_rule ?_)
  refine wpAny_bind (wpAny_field hz rfl (x := .ref TO) rfl ?_)
  refine wpAny_bind (wpAny_setField_rec hz (by simp) fun h₁ hz₁ hs₁ => ?_)
  replace hz₁ : IsZip h₁ z TI TO .ellipsis := hz₁
  refine wpAny_bind ?_
  simp only [List.zipIdx_cons, List.zipIdx_nil, List.forIn_cons, List.forIn_nil]
  refine wpAny_bind (wpAny_bind (wpAny_onRaise ?_))
  show wpAny _ _ (Builtin.SmallTypes.nextOf (.ref i1) >>= _) _ _ _
  refine wpAny_bind (nb_item (bi_ext h1 hs₁.extBut D.i1z) hx fun h₂ h1₂ hs₂ => wpAny_pure ?_)
  have hTO₂ : IsPair h₂ TO a a' := hs₂.extBut _ _ D.TOi1 (hs₁.extBut _ _ D.TOz hTO)
  refine wpAny_bind (wpAny_seqItems hTO₂ rfl ?_)
  refine wpAny_bind (wpAny_updateSeq_pair hTO₂ fun h₃ hTO₃ hs₃ => ?_)
  replace hTO₃ : IsPair h₃ TO (.int (c.toNat : Int) s.toks) a' := hTO₃
  refine wpAny_bind (wpAny_letGo (wpAny_pure ?_))
  refine wpAny_bind (wpAny_bind (wpAny_onRaise ?_))
  show wpAny _ _ (Builtin.SmallTypes.nextOf (.ref i2) >>= _) _ _ _
  refine wpAny_bind (wpAny_nextOf_list_item (((h2.extBut hs₁.extBut D.i2z).extBut hs₂.extBut D.i12.symm).extBut hs₃.extBut D.TOi2.symm)
    (((hl2.extBut hs₁.extBut D.l2z).extBut hs₂.extBut D.l2i1).extBut hs₃.extBut D.l2TO) hy fun h₄ h2₄ hs₄ => wpAny_pure ?_)
  have hTO₄ : IsPair h₄ TO (.int (c.toNat : Int) s.toks) a' := hs₄.extBut _ _ D.TOi2 hTO₃
  refine wpAny_bind (wpAny_seqItems hTO₄ rfl ?_)
  refine wpAny_bind (wpAny_updateSeq_pair hTO₄ fun h₅ hTO₅ hs₅ => ?_)
  replace hTO₅ : IsPair h₅ TO (.int (c.toNat : Int) s.toks) y := hTO₅
  refine wpAny_bind (wpAny_letGo (wpAny_pure (wpAny_pure ?_)))
  refine wpAny_bind (wpAny_seqItems hTO₅ rfl ?_)
  refine wpAny_bind (wpAny_newTuple ?_)
  have hsz : h₅.objs.size = s.heap.objs.size := by rw [hs₅.1, hs₄.1, hs₃.1, hs₂.1, hs₁.1]
  have hz₅ : IsZip h₅ z TI TO .ellipsis := hs₅.extBut _ _ D.TOz.symm (hs₄.extBut _ _ D.i2z.symm (hs₃.extBut _ _ D.TOz.symm (hs₂.extBut _ _ D.i1z.symm hz₁)))
  have hk₅ : ∀ c o, c ≠ z → c ≠ TO → c ≠ i1 → c ≠ i2 → s.heap.get? c = some o → h₅.get? c = some o := fun c o c1 c2 c3 c4 e =>
    hs₅.extBut _ _ c2 (hs₄.extBut _ _ c4 (hs₃.extBut _ _ c2 (hs₂.extBut _ _ c3 (hs₁.extBut _ _ c1 e))))
  have h1₅ : IsBytesIter h₅ i1 b t (k + 1) := bi_ext (bi_ext (bi_ext h1₂ hs₃.extBut D.TOi1.symm) hs₄.extBut D.i12) hs₅.extBut D.TOi1.symm
  have h2₅ : h₅.IsListIter i2 l (k + 1) := h2₄.extBut hs₅.extBut D.TOi2.symm
  have hzlt : z < h₅.objs.size := Heap.lt_size hz₅
  show wpAny _ _ (Builtin.SmallTypes.ownedTupleHandOut (.ref z) (.ref h₅.objs.size) >>= _) _ _ _
  refine wpAny_bind ?_
  unfold Builtin.SmallTypes.ownedTupleHandOut
  have hz₆ : IsZip (h₅.push { cls := .type "tuple", data := .seq #[.int (c.toNat : Int) s.toks, y] }) z TI TO .ellipsis := Heap.get?_push_of_some _ hz₅
  refine wpAny_bind (wpAny_setField_rec hz₆ (by simp) fun h₇ hz₇ hs₇ => ?_)
  replace hz₇ : IsZip h₇ z TI TO (rawInt h₅.objs.size) := hz₇
  refine wpAny_setField_rec hz₇ (by simp) fun h₈ hz₈ hs₈ => ?_
  replace hz₈ : IsZip h₈ z TI TO (rawInt h₅.objs.size) := hz₈
  have up : ∀ c o, c ≠ z → h₅.get? c = some o → h₈.get? c = some o := fun c o c1 e => hs₈.extBut _ _ c1 (hs₇.extBut _ _ c1 (Heap.get?_push_of_some _ e))
  have hT₈ : IsPair h₈ h₅.objs.size (.int (c.toNat : Int) s.toks) y := hs₈.extBut _ _ (Nat.ne_of_gt hzlt) (hs₇.extBut _ _ (Nat.ne_of_gt hzlt) (Heap.get?_push_size _ rfl))
  have hz8 : h₈.objs.size = h₅.objs.size + 1 := by rw [hs₈.1, hs₇.1, Heap.size_push]
  rw [hsz] at hz₈ hT₈ hz8
  refine wpAny_pure ⟨_, rfl, ?_⟩
  show Q (.ref h₅.objs.size) _
  rw [hsz]
  exact hQ h₈ hz₈ ⟨_, _, up _ _ D.TOz hTO₅⟩ (bi_at h1₅ fun o e => up _ o D.i1z e) (h2₅.at fun o e => up _ o D.i2z e) hT₈ hz8 fun c o c1 c2 c3 c4 e => up c o c1 (hk₅ c o c1 c2 c3 c4 e)
theorem zb_end {z TI TO i1 i2 l : Addr} {k : Nat} {Q : Fin → Shared → Prop} (hh : A.handled = none) (D : ZipApart z TI TO i1 i2 l l)
    (hz : IsZip s.heap z TI TO .none) (hTI : IsPair s.heap TI (.ref i1) (.ref i2)) (h1 : IsBytesIter s.heap i1 b t k) (hx : b[k]? = none)
    (hE : ∀ h' e, (∀ c o, c ≠ z → c ≠ TO → c ≠ i1 → c ≠ i2 → s.heap.get? c = some o → h'.get? c = some o) → (∃ o, h'.get? e = some o ∧ o.cls = .type "StopIteration") → E (.ref e) { s with heap := h' }) :
    wpAny (model prog w) A (Builtin.«zip.__next__» ⟨[.ref z], []⟩) Q E s := by
  show wpAny _ _ (field (.ref z) 2 >>= _) _ _ _
  refine wpAny_bind (wpAny_field hz rfl (x := .bool false) rfl ?_)
  show wpAny _ _ (field (.ref z) 3 >>= _) _ _ _
  refine wpAny_bind (wpAny_field hz rfl (x := .ref TI) rfl ?_)
  refine wpAny_bind (wpAny_seqItems hTI rfl ?_)
  show wpAny _ _ (Builtin.SmallTypes.ownedTupleIsFree (.ref z) >>= _) _ _ _
  refine wpAny_bind ?_
  unfold Builtin.SmallTypes.ownedTupleIsFree
  refine wpAny_bind (wpAny_field hz rfl (x := .none) rfl (wpAny_pure ?_))
  simp only [if_true]
  refine wpAny_bind (wpAny_rule ?_)
  refine wpAny_bind (wpAny_field hz rfl (x := .ref TO) rfl ?_)
  refine wpAny_bind (wpAny_setField_rec hz (by simp) fun h₁ hz₁ hs₁ => ?_)
  replace hz₁ : IsZip h₁ z TI TO .ellipsis := hz₁
  refine wpAny_bind ?_
  simp only [List.zipIdx_cons, List.zipIdx_nil, List.forIn_cons, List.forIn_nil]
  refine wpAny_bind (wpAny_bind (wpAny_onRaise ?_))
  show wpAny _ _ (Builtin.SmallTypes.nextOf (.ref i1) >>= _) _ _ _
  refine wpAny_bind (nb_end hh (bi_ext h1 hs₁.extBut D.i1z) hx fun h₂ e hs₂ he => ?_)
  obtain ⟨oe, hoe, hce⟩ := he
  have hz₂ : IsZip h₂ z TI TO .ellipsis := hs₂ _ _ D.i1z.symm hz₁
  have hez : e ≠ z := fun x => by subst x; rw [hz₂] at hoe; cases hoe; simp at hce
  refine wpAny_setField_rec hz₂ (by simp) fun h₃ _ hs₃ => hE h₃ e (fun c o c1 _ c3 _ x => hs₃.extBut _ _ c1 (hs₂ _ _ c3 (hs₁.extBut _ _ c1 x))) ⟨oe, hs₃.extBut _ _ hez hoe, hce⟩
theorem zb_walks (hh : A.handled = none) (z TI TO i1 i2 l : Addr) (D : ZipApart z TI TO i1 i2 l l) (ys : Array Value) (hsz : b.size = ys.size) :
    WalksT prog w A z [z, TI, TO, i1, i2, l] [z, TO, i1, i2] b.size (fun i vals => ∃ c u y, b[i]? = some c ∧ ys[i]? = some y ∧ vals = #[.int (c.toNat : Int) u, y]) (ZSt b t l ys z TI TO i1 i2) (ZMid b t l ys z TI TO i1 i2) where
  sub := fun c hc => by simp at hc ⊢; rcases hc with rfl | rfl | rfl | rfl <;> simp
  frame := fun i h h' hst hk => by
    obtain ⟨hz, hTI, ⟨a, b, hTO⟩, h1, h2, hl2⟩ := hst
    exact ⟨hk z (by simp) _ hz, hk TI (by simp) _ hTI, ⟨a, b, hk TO (by simp) _ hTO⟩, bi_at h1 fun o e => hk i1 (by simp) o e, h2.at fun o e => hk i2 (by simp) o e, hl2.at fun o e => hk l (by simp) o e⟩
  item := fun i s Q E hi hst hQ => by
    obtain ⟨hz, hTI, ⟨a, a', hTO⟩, h1, h2, hl2⟩ := hst
    have hiy : i < ys.size := hsz ▸ hi
    have hT : s.TypeIs (.ref z) "zip" := ⟨_, hz, rfl⟩
    unfold pyNext
    refine wpAny_bind (wpAny_attempt (wpAny_callSpecial?_slot (name := Str.ofString "__next__") hT F.slot_zip_next
      (wpAny_call_entry F.slot_zip_next hT F.entry_zip_next
        (zb_item D hz hTI hTO h1 h2 hl2 (Array.getElem?_eq_getElem hi) (Array.getElem?_eq_getElem hiy) fun h' a1 a2 a3 a4 a5 a6 hk => wpAny_pure ?_) (F.args_zip_next_1 _))))
    have lt : ∀ {c o}, s.heap.get? c = some o → s.heap.objs.size ≠ c := fun e => Nat.ne_of_gt (Heap.lt_size e)
    exact hQ s.heap.objs.size _ h' _ ⟨_, _, _, Array.getElem?_eq_getElem hi, Array.getElem?_eq_getElem hiy, rfl⟩ (Nat.le_refl _) ⟨_, a5, rfl, _, rfl⟩
      ⟨a1, hk _ _ D.TIz D.TITO D.TIi1 D.TIi2 hTI, a2, a3, a4, hl2.at fun o e => hk _ o D.l2z D.l2TO D.l2i1 D.l2i2 e,
        lt hz, lt hTO, (by obtain ⟨_, e, _⟩ := h1; exact lt e), (by obtain ⟨_, e, _⟩ := h2; exact lt e)⟩
      fun c o hc e => hk c o (fun x => hc (by simp [x])) (fun x => hc (by simp [x])) (fun x => hc (by simp [x])) (fun x => hc (by simp [x])) e
  go := fun elts k pos i T s Q E hm hQ => by
    obtain ⟨hz, hTI, ⟨a, a', hTO⟩, h1, h2, hl2, _⟩ := hm
    refine wpAny_letOwnedTupleGo_zip hz fun h' hz' hs' => hQ h' ⟨hz', hs'.extBut _ _ D.TIz hTI, ⟨a, a', hs'.extBut _ _ D.TOz hTO⟩, bi_ext h1 hs'.extBut D.i1z, h2.extBut hs'.extBut D.i2z,
      hl2.extBut hs'.extBut D.l2z⟩ fun c o hc e => hs'.extBut _ _ (fun x => hc (by simp [x])) e
  apart := fun i T h hm hT => by
    obtain ⟨_, _, _, _, _, _, t1, t2, t3, t4⟩ := hm
    simp at hT
    rcases hT with rfl | rfl | rfl | rfl
    · exact t1 rfl
    · exact t2 rfl
    · exact t3 rfl
    · exact t4 rfl
  done := fun s Q E hst hQ => by
    obtain ⟨hz, hTI, ⟨a, a', hTO⟩, h1, h2, hl2⟩ := hst
    have hT : s.TypeIs (.ref z) "zip" := ⟨_, hz, rfl⟩
    unfold pyNext
    refine wpAny_bind (wpAny_attempt (wpAny_callSpecial?_slot (name := Str.ofString "__next__") hT F.slot_zip_next
      (wpAny_call_entry F.slot_zip_next hT F.entry_zip_next (zb_end hh D hz hTI h1 (Array.getElem?_eq_none (Nat.le_refl _)) fun h' e hk he => ?_) (F.args_zip_next_1 _))))
    obtain ⟨o, ho, hc⟩ := he
    refine wpAny_bind (wpAny_isInstance (T := "StopIteration") (b := true) ⟨o, ho, hc⟩ isSubtype_stop ?_)
    exact wpAny_pure (hQ _ _ fun c o hc e => hk c o (fun x => hc (by simp [x])) (fun x => hc (by simp [x])) (fun x => hc (by simp [x])) (fun x => hc (by simp [x])) e)
  self := fun i s Q E hst hQ => wpAny_pyIter_zip hst.1 hQ
abbrev zA (h : Heap) (b : Array UInt8) (t : Tok) : Heap := h.push { cls := .type "bytes_iterator", data := .fields #[.bytes b t, .int 0 0] }
abbrev zB (h : Heap) (b : Array UInt8) (t : Tok) (l : Addr) : Heap := (zA h b t).push { cls := .type "list_iterator", data := .fields #[.ref l, .int 0 0] }
abbrev zC (h : Heap) (b : Array UInt8) (t : Tok) (l : Addr) : Heap := (zB h b t l).push { cls := .type "tuple", data := .seq #[.ref h.objs.size, .ref (zA h b t).objs.size] }
abbrev zD (h : Heap) (b : Array UInt8) (t : Tok) (l : Addr) : Heap := (zC h b t l).push { cls := .type "tuple", data := .seq #[.none, .none] }
abbrev zE (h : Heap) (b : Array UInt8) (t : Tok) (l : Addr) : Heap := (zD h b t l).push { cls := .type "zip", data := .fields #[.none, .bool false, .bool false, .ref (zB h b t l).objs.size, .ref (zC h b t l).objs.size] }
theorem zb_meets (b : Array UInt8) (t : Tok) (l : Addr) (ys : Array Value) :
    Meets (Builtin.«zip.__new__» ⟨[.type "zip", .bytes b t, .ref l], []⟩) (fun _ R s => s.heap.IsList l ys ∧
      R (.ok (.ret (.ref (zD s.heap b t l).objs.size))) { s with heap := zE s.heap b t l }) :=
  .of_wp fun prog w A R s h => by
    obtain ⟨hp, g, d, tk, os⟩ := s; obtain ⟨hl2, h⟩ := h
    have hsub := sub_zip
    have hL2 : Heap.IsList (Shared.heap ⟨hp.push { cls := .type "bytes_iterator", data := .fields #[.bytes b t, .int 0 0] }, g, d, tk, os⟩) l ys := Heap.IsList.push hl2 _
    wp_walk using KBw.pyIter_bytes, wpAny_pyIter_list hL2
    exact ⟨_, rfl, h⟩
theorem zb_call {l : Addr} {ys : Array Value} {Q : Value → Shared → Prop} (hl : s.heap.IsList l ys)
    (h : ∀ h', ZSt b t l ys (s.heap.objs.size + 4) (s.heap.objs.size + 2) (s.heap.objs.size + 3) s.heap.objs.size (s.heap.objs.size + 1) 0 h' → h'.objs.size = s.heap.objs.size + 5 →
      (∀ c o, s.heap.get? c = some o → h'.get? c = some o) → Q (.ref (s.heap.objs.size + 4)) { s with heap := h' }) :
    wpAny (model prog w) A (call (.type "zip") [.bytes b t, .ref l]) Q E s := by
  refine callType_new F.called_zip (by decide) (F.typeCall_zip_2 _ _) (F.newCall_zip_2 _ _) (fun obj => F.args_object_init_3 obj _ _) F.entry_zip_new
    (zb_meets b t l ys) ⟨hl, ?_⟩
  have z1 : (zA s.heap b t).objs.size = s.heap.objs.size + 1 := Heap.size_push ..
  have z2 : (zB s.heap b t l).objs.size = s.heap.objs.size + 2 := by rw [Heap.size_push, z1]
  have z3 : (zC s.heap b t l).objs.size = s.heap.objs.size + 3 := by rw [Heap.size_push, z2]
  have z4 : (zD s.heap b t l).objs.size = s.heap.objs.size + 4 := by rw [Heap.size_push, z3]
  have z5 : (zE s.heap b t l).objs.size = s.heap.objs.size + 5 := by rw [Heap.size_push, z4]
  have g5 : (zE s.heap b t l).get? (zD s.heap b t l).objs.size = some _ := Heap.get?_push_size _ rfl
  have g4 : (zE s.heap b t l).get? (zC s.heap b t l).objs.size = some _ := Heap.get?_push_of_some _ (Heap.get?_push_size _ rfl)
  have g3 : (zE s.heap b t l).get? (zB s.heap b t l).objs.size = some _ := Heap.get?_push_of_some _ (Heap.get?_push_of_some _ (Heap.get?_push_size _ rfl))
  have g2 : (zE s.heap b t l).get? (zA s.heap b t).objs.size = some _ := Heap.get?_push_of_some _ (Heap.get?_push_of_some _ (Heap.get?_push_of_some _ (Heap.get?_push_size _ rfl)))
  have g1 : (zE s.heap b t l).get? s.heap.objs.size = some _ := Heap.get?_push_of_some _ (Heap.get?_push_of_some _ (Heap.get?_push_of_some _ (Heap.get?_push_of_some _ (Heap.get?_push_size _ rfl))))
  have up : ∀ c o, s.heap.get? c = some o → (zE s.heap b t l).get? c = some o := fun c o x => Heap.get?_push_of_some _ (Heap.get?_push_of_some _ (Heap.get?_push_of_some _ (Heap.get?_push_of_some _ (Heap.get?_push_of_some _ x))))
  show _ ∧ _
  rw [z2, z3, z4] at g5
  rw [z1, z2] at g3
  rw [z3] at g4
  rw [z1] at g2
  rw [z4]
  exact ⟨⟨_, g5, rfl⟩, h _ ⟨g5, g3, ⟨_, _, g4⟩, ⟨_, g1, rfl, rfl⟩, ⟨_, g2, rfl, rfl⟩, hl.at fun o e => up _ o e⟩ z5 up⟩
end
section
open LCg LCp
variable {prog : Program} {w : World} {A : Around} {E : Value → Shared → Prop} {s : Shared} {h₀ : Heap} {L : Addr} {m : Str → Option Value} {env : Env}
/-- a zip that stands ready beside the ledger -/
def ZReady (h₀ : Heap) (L : Addr) (news : List (Addr × Obj)) (b : Array UInt8) (t : Tok) (l : Addr) (ys : Array Value) (z : Addr) (h : Heap) : Prop :=
  ∃ TI TO i1 i2, ZipApart z TI TO i1 i2 l l ∧ ZSt b t l ys z TI TO i1 i2 0 h ∧ (∀ c ∈ [z, TI, TO, i1, i2, l], c < h.objs.size) ∧ L ∉ [z, TO, i1, i2] ∧ (∀ c ∈ [z, TO, i1, i2], h₀.get? c = none) ∧ ∀ p ∈ news, p.1 ∉ [z, TO, i1, i2]
theorem zip_IL {b : Array UInt8} {t : Tok} {l : Addr} {vs : List Value} {n : Nat} {news : List (Addr × Obj)} {Q : Value → Shared → Prop} (F : Fr h₀ L s.heap m) (N : News h₀ L s.heap news) (hm : (l, listOf vs.toArray n) ∈ news)
    (h : ∀ h' z, Fr h₀ L h' m → News h₀ L h' news → ZReady h₀ L news b t l vs.toArray z h' → Q (.ref z) { s with heap := h' }) :
    wpAny (model prog w) A (call (.type "zip") [.bytes b t, .ref l]) Q E s := by
  have hl := News.isList N hm
  have hlt : l < s.heap.objs.size := Heap.lt_size (N _ hm).1
  have hLs : L < s.heap.objs.size := F.ns.lt
  refine zb_call hl fun h' hst hsz hk => ?_
  refine h h' _ (F.keeps hk) (N.grown hk) ⟨_, _, _, _, ktu_apart _ _ _ hlt hlt, hst, ?_, ?_, ?_, ?_⟩
  · intro c hc
    rw [hsz]
    simp only [List.mem_cons, List.not_mem_nil, or_false] at hc
    rcases hc with rfl | rfl | rfl | rfl | rfl | rfl
    · exact Nat.add_lt_add_left (by decide : 4 < 5) _
    · exact Nat.add_lt_add_left (by decide : 2 < 5) _
    · exact Nat.add_lt_add_left (by decide : 3 < 5) _
    · exact Nat.lt_add_of_pos_right (by decide)
    · exact Nat.add_lt_add_left (by decide : 1 < 5) _
    · exact Nat.lt_of_lt_of_le hlt (Nat.le_add_right _ _)
  · intro hc
    simp only [List.mem_cons, List.not_mem_nil, or_false] at hc
    rcases hc with e | e | e | e
    · exact ktu_ne 4 hLs e
    · exact ktu_ne 3 hLs e
    · exact Nat.ne_of_lt hLs e
    · exact ktu_ne 1 hLs e
  · intro c hc
    simp only [List.mem_cons, List.not_mem_nil, or_false] at hc
    rcases hc with rfl | rfl | rfl | rfl
    · exact ktu_new F (Nat.le_add_right _ _)
    · exact ktu_new F (Nat.le_add_right _ _)
    · exact ktu_new F (Nat.le_refl _)
    · exact ktu_new F (Nat.le_add_right _ _)
  · intro p hp hc
    have hlp := Heap.lt_size (N p hp).1
    simp only [List.mem_cons, List.not_mem_nil, or_false] at hc
    rcases hc with e | e | e | e
    · exact ktu_ne 4 hlp e
    · exact ktu_ne 3 hlp e
    · exact Nat.ne_of_lt hlp e
    · exact ktu_ne 1 hlp e
/-- name = [elt for (x, y) in zip(octets, list)] -/
theorem Assign_zip {elt iter : Expr} {x x₂ y : Str} {px px₂ tp py : Pos} {tk} {scope : Scope} {cl : List (Str × Addr)} {pos spos : Pos} {Q : Flow → Shared → Prop} (Pv : Nat → Value → Prop) (F₀ : Fr h₀ L s.heap m) (hLe : env.locals = L)
    (hsw : swapsWith (.ListComp elt [⟨.Tuple [.Name x px, .Name x₂ px₂] tk tp, iter, [], 0⟩] scope pos) (some (.Name y py)) spos.line env = pure true)
    (hclos : closureFor scope env = pure cl) (hcell : ∀ z ∈ scope.names, z.2 ≠ .cell) (hkind : scope.kind = .function)
    (hnames : ∀ z ∈ scope.names, z.2 = .local → scope.names.lookup z.1 = some .local) (hx : scope.names.lookup x = some .local) (hx₂ : scope.names.lookup x₂ = some .local) (hxx : x ≠ x₂)
    (hy : env.kindOf y = some .local) (hp : (env.scope.kind == .class || (env.scope.kind == .module && env.locals != env.globals)) = false) (hh : A.handled = none)
    (h : wpAny (model prog w) A (eval iter env) (fun xv s₁ => ∃ z b t l vs news, xv = .ref z ∧ Fr h₀ L s₁.heap m ∧ News h₀ L s₁.heap news ∧ ZReady h₀ L news b t l (List.toArray vs) z s₁.heap ∧ b.size = vs.length ∧ b.size ≤ sizeLine ∧
      (∀ i c u v C oC m₂ (s₂ : Shared) (E' : Value → Shared → Prop), b[i]? = some c → vs[i]? = some v → NsObj oC m₂ → m₂ x = some (.int ((c.toNat : Nat) : Int) u) → m₂ x₂ = some v → Fr h₀ L s₂.heap m → News h₀ L s₂.heap ((C, oC) :: news) →
        wpAny (model prog w) A (eval elt (compEnvC scope cl C env)) (fun y s' => Pv i y ∧ ∃ k, s' = { s₂ with toks := k }) E' s₂) ∧
      ∀ us : List Value, us.length = b.size → (∀ (i : Nat) y, us[i]? = some y → Pv i y) → LCg.FinA h₀ L m s₁ y Q us news) E s)
    (hs : ∀ x, foldedSetIterable iter env x = pure x := by intro _; rfl) :
    wpAny (model prog w) A (exec (.Assign [.Name y py] (.ListComp elt [⟨.Tuple [.Name x px, .Name x₂ px₂] tk tp, iter, [], 0⟩] scope pos) spos) env) Q E s := by
  subst hLe
  rw [exec_Assign_Name_used _ _ _ _ hsw]
  refine wpAny_bind (wpAny_standAt (wpAny_bind ?_))
  show wpAny _ A (do let _ ← comprehension (.ListComp elt [⟨.Tuple [.Name x px, .Name x₂ px₂] tk tp, iter, [], 0⟩] scope pos) scope env _ (newList []) false (eval iter env) (some (assign (.Name y py) env))) _ _ s
  refine wpAny_bind (wpAny_mono (wpAny_comprehension_free (use := some (assign (.Name y py) env)) (Q := fun _ s' => Q .next s') rfl hs hclos hkind hnames
    (wpAny_mono h (fun xv s₁ h₁ => ?_) fun _ _ e => e)) (fun _ s' hq => wpAny_pure (wpAny_pure hq)) fun _ _ e => e)
  obtain ⟨z, b, t, l, vs, news, rfl, F, N, ⟨TI, TO, i1, i2, D, hst, hlt, hL, h0, hoff⟩, hsz, hle, turn, fin⟩ := h₁
  refine wpAny_pyIter_zip hst.1 ?_
  refine block_T Pv (zb_walks hh z TI TO i1 i2 l D vs.toArray (by rw [hsz]; simp)) hle hcell hkind hx hx₂ hxx hh hst hlt F N hL h0 hoff (fun i vals hP => ?_) (fun i v1 v2 C oC m₂ s₂ E' hi hP hC hm1 hm2 F₂ N₂ => ?_) ?_
  · obtain ⟨c, u, y, _, _, rfl⟩ := hP
    exact ⟨_, _, rfl⟩
  · obtain ⟨c, u, y, hc, hy', e⟩ := hP
    obtain ⟨e1, e2⟩ : v1 = .int (c.toNat : Int) u ∧ v2 = y := by simpa using e
    subst e1 e2
    exact turn i c u v2 C oC m₂ s₂ E' hc (by simpa using hy') hC hm1 hm2 F₂ N₂
  · intro D C h' tk m' us F' N' offD hn hC₀ hD₀ hCL hDL hCD offC hul hup
    show wpAny _ A (assign (.Name y py) env (.ref D)) _ _ _
    refine wpAny_assign_Name (wpAny_storeName_local hy F'.ns (fun h₂ hn₂ hs₂ => ?_) hp)
    have hL₀ : h₀.get? env.locals = none := Heap.get?_none_of_le F'.above
    have F₂ : Fr h₀ env.locals h₂ (fun z => if z = y then some (.ref D) else m z) := ⟨hn₂, fun b o e => hs₂.extBut b o (fun q => by rw [q, hL₀] at e; cases e) (F'.keep b o e), F'.above⟩
    refine ⟨m', hn.sameBut hs₂ hCL, fun h'' hs'' => fin us hul hup D h'' _ (F₂.change hs'' hCL hC₀) (fun p hp => ?_) (off1_of offD)⟩
    have z : h₂.get? p.1 = some p.2 := hs₂.extBut _ _ (N' p hp).2.1 (N' p hp).1
    refine ⟨hs''.extBut _ _ ?_ z, (N' p hp).2⟩
    rcases List.mem_cons.mp hp with rfl | hp
    · exact Ne.symm hCD
    · exact offC p hp
end

theorem KeAt.lift {led led' : List (Addr × Obj)} {x dx ke kd d : Addr} {q1 q2 : Int} {k1 k2 : Tok} {nke : Nat} {rows : List Addr} {KE : List (List Int)} (h : KeAt led x dx ke kd q1 q2 k1 k2 nke rows KE) (hd : d ∉ x :: dx :: ke :: rows) (hs : ∀ p ∈ led, p.1 ≠ d → p ∈ led') : KeAt led' x dx ke kd q1 q2 k1 k2 nke rows KE := by
  simp only [List.mem_cons, not_or] at hd
  obtain ⟨a1, a2, a3, a4⟩ := hd
  refine ⟨hs _ h.hx (Ne.symm a1), hs _ h.hdx (Ne.symm a2), hs _ h.hke (Ne.symm a3), h.hlen, fun i hi => ⟨?_, (h.hrow i hi).2⟩⟩
  obtain ⟨vs, n, hm, hi'⟩ := (h.hrow i hi).1
  exact ⟨vs, n, hs _ hm (fun e => a4 (by rw [← show rows.getD i 0 = d from e]; exact getD_mem (by rw [h.hlen]; exact hi))), hi'⟩
theorem IL.lift {led led' : List (Addr × Obj)} {l d : Addr} {ns : List Int} (h : IL led l ns) (hd : l ≠ d) (hs : ∀ p ∈ led, p.1 ≠ d → p ∈ led') : IL led' l ns := let ⟨a, b, c, e⟩ := h; ⟨a, b, hs _ c hd, e⟩
/-- a CFB object, all of it named -/
structure MJ (led : List (Addr × Obj)) (c dc x dx ke kd : Addr) (q1 q2 q3 p1 p2 : Int) (k1 k2 k3 j1 j2 : Tok) (nke : Nat) (rows : List Addr) (KE : List (List Int)) (z : Nat) (ts : Tok) (rb : Array UInt8) (rt : Tok) : Prop where
  hc : (c, instObj 375 dc) ∈ led
  hd : (dc, dictOf [⟨q1, .str (Str.ofString "_shift_register") k1, .bytes rb rt⟩, ⟨q2, .str (Str.ofString "_segment_bytes") k2, .int (z : Int) ts⟩, ⟨q3, .str (Str.ofString "_aes") k3, .ref x⟩] 3) ∈ led
  hK : KeAt led x dx ke kd p1 p2 j1 j2 nke rows KE
  hcd : c ≠ dc
  hnd : dc ∉ x :: dx :: ke :: rows
section
variable {led led' : List (Addr × Obj)} {c dc x dx ke kd d : Addr} {q1 q2 q3 p1 p2 : Int} {k1 k2 k3 j1 j2 : Tok} {nke : Nat} {rows : List Addr} {KE : List (List Int)} {z : Nat} {ts : Tok} {rb rb' : Array UInt8} {rt rt' : Tok}
theorem MJ.mono (M : MJ led c dc x dx ke kd q1 q2 q3 p1 p2 k1 k2 k3 j1 j2 nke rows KE z ts rb rt) (hs : ∀ p ∈ led, p ∈ led') : MJ led' c dc x dx ke kd q1 q2 q3 p1 p2 k1 k2 k3 j1 j2 nke rows KE z ts rb rt :=
  ⟨hs _ M.hc, hs _ M.hd, M.hK.mono hs, M.hcd, M.hnd⟩
theorem MJ.lift (M : MJ led c dc x dx ke kd q1 q2 q3 p1 p2 k1 k2 k3 j1 j2 nke rows KE z ts rb rt) (hd : d ∉ c :: dc :: x :: dx :: ke :: rows) (hs : ∀ p ∈ led, p.1 ≠ d → p ∈ led') : MJ led' c dc x dx ke kd q1 q2 q3 p1 p2 k1 k2 k3 j1 j2 nke rows KE z ts rb rt := by
  have hd' := hd
  simp only [List.mem_cons, not_or] at hd'
  exact ⟨hs _ M.hc (Ne.symm hd'.1), hs _ M.hd (Ne.symm hd'.2.1), M.hK.lift (fun h => hd (.tail _ (.tail _ h))) hs, M.hcd, M.hnd⟩
theorem MJ.reg (M : MJ led c dc x dx ke kd q1 q2 q3 p1 p2 k1 k2 k3 j1 j2 nke rows KE z ts rb rt) :
    MJ (foc dc (dictOf [⟨q1, .str (Str.ofString "_shift_register") k1, .bytes rb' rt'⟩, ⟨q2, .str (Str.ofString "_segment_bytes") k2, .int (z : Int) ts⟩, ⟨q3, .str (Str.ofString "_aes") k3, .ref x⟩] 3) led) c dc x dx ke kd q1 q2 q3 p1 p2 k1 k2 k3 j1 j2 nke rows KE z ts rb' rt' :=
  ⟨foc_mem M.hc M.hcd, foc_here, M.hK.lift M.hnd (fun p hp h => foc_mem hp h), M.hcd, M.hnd⟩
theorem MJ.adr (M : MJ led c dc x dx ke kd q1 q2 q3 p1 p2 k1 k2 k3 j1 j2 nke rows KE z ts rb rt) {a : Addr} (ha : a ∈ c :: dc :: x :: dx :: ke :: rows) : ∃ o, (a, o) ∈ led := by
  simp only [List.mem_cons] at ha
  rcases ha with rfl | rfl | rfl | rfl | rfl | ha
  · exact ⟨_, M.hc⟩
  · exact ⟨_, M.hd⟩
  · exact ⟨_, M.hK.hx⟩
  · exact ⟨_, M.hK.hdx⟩
  · exact ⟨_, M.hK.hke⟩
  · obtain ⟨i, hi, rfl⟩ := getD_of_mem ha
    obtain ⟨⟨vs, n, hm, _⟩, _⟩ := M.hK.hrow i (by rw [← M.hK.hlen]; exact hi)
    exact ⟨_, hm⟩
theorem MJ.toMode (M : MJ led c dc x dx ke kd q1 q2 q3 p1 p2 k1 k2 k3 j1 j2 nke rows KE z ts rb rt) {reg : List Int} (h : KBw.bInts rb = reg) : ModeAt led c dc (x :: dx :: ke :: rows) reg z KE :=
  ⟨M.hc, M.hcd, M.hnd, _, _, _, _, _, _, _, _, _, _, _, _, _, _, _, _, _, _, _, h, rfl, M.hd, M.hK⟩
theorem ModeAt.toMJ {reg : List Int} {ad : List Addr} (h : ModeAt led c dc ad reg z KE) : ∃ x dx ke kd q1 q2 q3 p1 p2 k1 k2 k3 j1 j2 nke rows ts rb rt, ad = x :: dx :: ke :: rows ∧ KBw.bInts rb = reg ∧ MJ led c dc x dx ke kd q1 q2 q3 p1 p2 k1 k2 k3 j1 j2 nke rows KE z ts rb rt := by
  obtain ⟨a, b, e, q1, q2, q3, k1, k2, k3, rb, rt, ts, x, dx, ke, kd, p1, p2, j1, j2, nke, rows, hb, rfl, hd, hK⟩ := h
  exact ⟨x, dx, ke, kd, q1, q2, q3, p1, p2, k1, k2, k3, j1, j2, nke, rows, ts, rb, rt, rfl, hb, a, hd, hK, b, e⟩
end
section
variable {prog : Program} {w : World} {A : Around} {E : Value → Shared → Prop} {s : Shared} {h₀ : Heap} {L : Addr} {m : PySem.Str → Option Value} {led : List (Addr × Obj)} {c dc x dx ke kd : Addr} {q1 q2 q3 p1 p2 : Int} {k1 k2 k3 j1 j2 : Tok} {nke : Nat} {rows : List Addr} {KE : List (List Int)} {z : Nat} {ts : Tok} {rb : Array UInt8} {rt : Tok} {expr : Bool} {Q : Value → Shared → Prop}
theorem mj_reg (F : Fr h₀ L s.heap m) (X : (Mine.hd.heap_39 w.params).In h₀) (N : News h₀ L s.heap led) (M : MJ led c dc x dx ke kd q1 q2 q3 p1 p2 k1 k2 k3 j1 j2 nke rows KE z ts rb rt) (h : ∀ k, Q (.bytes rb rt) { s with toks := k }) : wpAny (model prog w) A (getAttr (.ref c) (Str.ofString "_shift_register") expr) Q E s :=
  get_own (C := 375) (attr := none) F X (InstAt.of_news N M.hc M.hd) (by kernel_rfl) (by kernel_rfl) (by kernel_rfl) (by kernel_rfl) (by kernel_rfl) (by rfl) (h _)
theorem mj_seg (F : Fr h₀ L s.heap m) (X : (Mine.hd.heap_39 w.params).In h₀) (N : News h₀ L s.heap led) (M : MJ led c dc x dx ke kd q1 q2 q3 p1 p2 k1 k2 k3 j1 j2 nke rows KE z ts rb rt) (h : ∀ k, Q (.int (z : Int) ts) { s with toks := k }) : wpAny (model prog w) A (getAttr (.ref c) (Str.ofString "_segment_bytes") expr) Q E s :=
  get_own (C := 375) (attr := none) F X (InstAt.of_news N M.hc M.hd) (by kernel_rfl) (by kernel_rfl) (by kernel_rfl) (by kernel_rfl) (by kernel_rfl) (by rfl) (h _)
theorem mj_aes (F : Fr h₀ L s.heap m) (X : (Mine.hd.heap_39 w.params).In h₀) (N : News h₀ L s.heap led) (M : MJ led c dc x dx ke kd q1 q2 q3 p1 p2 k1 k2 k3 j1 j2 nke rows KE z ts rb rt) (h : ∀ k, Q (.ref x) { s with toks := k }) : wpAny (model prog w) A (getAttr (.ref c) (Str.ofString "_aes") expr) Q E s :=
  get_own (C := 375) (attr := none) F X (InstAt.of_news N M.hc M.hd) (by kernel_rfl) (by kernel_rfl) (by kernel_rfl) (by kernel_rfl) (by kernel_rfl) (by rfl) (h _)
theorem ke_method {pl : Sem Bool} {Q : Value × List Value → Shared → Prop} (F : Fr h₀ L s.heap m) (X : (Mine.hd.heap_39 w.params).In h₀) (N : News h₀ L s.heap led) (K : KeAt led x dx ke kd q1 q2 k1 k2 nke rows KE) (h : Q (.ref 108, [.ref x]) s) : wpAny (model prog w) A (getMethod (.ref x) (Str.ofString "encrypt") pl) Q E s :=
  method_inst (C := 116) F X (InstAt.of_news N K.hx K.hdx) (by kernel_rfl) (by kernel_rfl) (by kernel_rfl) (by kernel_rfl) h
theorem extend_foc {D : Addr} {l : Addr} {ns ms : List Int} {Q : Value → Shared → Prop} (F : Fr h₀ L s.heap m) (N : News h₀ L s.heap led) (hD : IL led D ns) (hl : IL led l ms) (hz : ns.length + ms.length ≤ 16777216)
    (h : ∀ h' o, Fr h₀ L h' m → News h₀ L h' (foc D o led) → IL (foc D o led) D (ns ++ ms) → Q .none { s with heap := h' }) :
    wpAny (model prog w) A (call (.builtin "list.extend") [.ref D, .ref l]) Q E s := by
  obtain ⟨ys, n, hm, hi⟩ := hD
  obtain ⟨us, n2, hm2, hj⟩ := hl
  refine extend_in_ints (own := []) (rest := led.filter fun p => p.1 != D) F (foc_news N hm) (fun p hp => nomatch hp) (fun p hp => by have := (List.mem_filter.mp hp).2; simpa using this) (its2 := us.toArray) (N _ hm2).1 hi (by simpa using hj) (fun h' n' F' N' hI => ?_) (by rw [hi.length, List.size_toArray, hj.length, sizeLine_eq]; exact hz)
  exact h h' _ F' N' ⟨_, n', foc_here, hI⟩
end
/-- a segment of the data -/
def seg (z : Nat) (data : List Int) (i : Nat) : List Int := (data.drop (z * i)).take z
/-- the register after i segments, and what has come out -/
noncomputable def cR (P : Params) (KE : List (List Int)) (z : Nat) (reg data : List Int) : Nat → List Int
  | 0 => reg
  | i + 1 => (cR P KE z reg data i).drop z ++ xorL (seg z data i) ((encOf P KE (cR P KE z reg data i)).take z)
noncomputable def cO (P : Params) (KE : List (List Int)) (z : Nat) (reg data : List Int) : Nat → List Int
  | 0 => []
  | i + 1 => cO P KE z reg data i ++ xorL (seg z data i) ((encOf P KE (cR P KE z reg data i)).take z)
noncomputable def dR (P : Params) (KE : List (List Int)) (z : Nat) (reg data : List Int) : Nat → List Int
  | 0 => reg
  | i + 1 => (dR P KE z reg data i).drop z ++ seg z data i
noncomputable def dO (P : Params) (KE : List (List Int)) (z : Nat) (reg data : List Int) : Nat → List Int
  | 0 => []
  | i + 1 => dO P KE z reg data i ++ xorL (seg z data i) ((encOf P KE (dR P KE z reg data i)).take z)
theorem seg_len {z n i : Nat} {data : List Int} (h : data.length = z * n) (hi : i < n) : (seg z data i).length = z := by
  have h1 : z * i + z ≤ z * n := by rw [← Nat.mul_succ]; exact Nat.mul_le_mul_left z hi
  simp only [seg, List.length_take, List.length_drop]
  lia
theorem xorL_len {xs ys : List Int} : (xorL xs ys).length = min xs.length ys.length := by simp [xorL]
theorem nat_xor_and (m : Nat) : ∀ n : Nat, (m ^^^ n) + 2 * (m &&& n) = m + n := by
  induction m using Nat.strongRecOn with
  | _ m ih =>
    intro n
    by_cases hm : m = 0
    · subst hm; simp
    · have h1 := ih (m / 2) (by lia) (n / 2)
      rw [← Nat.xor_div_two, ← Nat.and_div_two] at h1
      have o1 := @Nat.xor_mod_two_eq_one m n
      have a1 := @Nat.and_mod_two_eq_one m n
      lia
theorem xor_pp {x y : Int} (hx : 0 ≤ x) (hy : 0 ≤ y) : Builtin.bitXor x y = ((x.toNat ^^^ y.toNat : Nat) : Int) := by
  rw [bitXor_and, bitAnd_pp hx hy]
  have := nat_xor_and x.toNat y.toNat
  lia
theorem xor_oct {x y : Int} (hx : 0 ≤ x ∧ x < 256) (hy : 0 ≤ y ∧ y < 256) : 0 ≤ Builtin.bitXor x y ∧ Builtin.bitXor x y < 256 := by
  rw [xor_pp hx.1 hy.1]
  have : x.toNat ^^^ y.toNat < 2 ^ 8 := Nat.xor_lt_two_pow (by lia) (by lia)
  lia
theorem xor_undo {x y : Int} (hx : 0 ≤ x) (hy : 0 ≤ y) : Builtin.bitXor (Builtin.bitXor x y) y = x := by
  rw [xor_pp hx hy, xor_pp (by lia) hy]
  rw [Int.toNat_natCast, Nat.xor_assoc, Nat.xor_self, Nat.xor_zero]
  lia
theorem xorL_in {xs ys : List Int} (hx : KBa.In xs) (hy : KBa.In ys) : KBa.In (xorL xs ys) := by
  intro v hv
  obtain ⟨i, hi, rfl⟩ := List.getElem_of_mem hv
  unfold xorL at hi ⊢
  rw [List.length_zipWith] at hi
  rw [List.getElem_zipWith]
  exact xor_oct (hx _ (List.getElem_mem _)) (hy _ (List.getElem_mem _))
theorem segx_len {P : Params} {KE : List (List Int)} {z n i : Nat} {data r : List Int} (h : data.length = z * n) (hi : i < n) (hz : z ≤ 16) : (xorL (seg z data i) ((encOf P KE r).take z)).length = z := by
  rw [xorL_len, seg_len h hi, List.length_take, encOf_len]; lia
theorem In.app {xs ys : List Int} (hx : KBa.In xs) (hy : KBa.In ys) : KBa.In (xs ++ ys) := fun v hv => (List.mem_append.mp hv).elim (hx v) (hy v)
theorem seg_in {z i : Nat} {data : List Int} (h : KBa.In data) : KBa.In (seg z data i) := In.take (In.drop h _) _
theorem cR_in {P : Params} {KE : List (List Int)} {z i : Nat} {reg data : List Int} (h : KBa.In reg) (hd : KBa.In data) : KBa.In (cR P KE z reg data i) := by
  induction i with
  | zero => exact h
  | succ i ih => exact In.app (In.drop ih _) (xorL_in (seg_in hd) (In.take (encOf_in _ _ _) _))
theorem dR_in {P : Params} {KE : List (List Int)} {z i : Nat} {reg data : List Int} (h : KBa.In reg) (hd : KBa.In data) : KBa.In (dR P KE z reg data i) := by
  induction i with
  | zero => exact h
  | succ i ih => exact In.app (In.drop ih _) (seg_in hd)
theorem cR_len {P : Params} {KE : List (List Int)} {z n : Nat} {reg data : List Int} (h : reg.length = 16) (hd : data.length = z * n) (hz : z ≤ 16) : ∀ {i : Nat}, i ≤ n → (cR P KE z reg data i).length = 16
  | 0, _ => h
  | i + 1, hi => by
    have := cR_len (P := P) (KE := KE) h hd hz (i := i) (by lia)
    simp only [cR, List.length_append, List.length_drop, this, segx_len hd (show i < n by lia) hz]
    lia
theorem dR_len {P : Params} {KE : List (List Int)} {z n : Nat} {reg data : List Int} (h : reg.length = 16) (hd : data.length = z * n) (hz : z ≤ 16) : ∀ {i : Nat}, i ≤ n → (dR P KE z reg data i).length = 16
  | 0, _ => h
  | i + 1, hi => by
    have := dR_len (P := P) (KE := KE) h hd hz (i := i) (by lia)
    simp only [dR, List.length_append, List.length_drop, this, seg_len hd (show i < n by lia)]
    lia
theorem cO_in {P : Params} {KE : List (List Int)} {z i : Nat} {reg data : List Int} (hd : KBa.In data) : KBa.In (cO P KE z reg data i) := by
  induction i with
  | zero => exact fun _ h => nomatch h
  | succ i ih => exact In.app ih (xorL_in (seg_in hd) (In.take (encOf_in _ _ _) _))
theorem dO_in {P : Params} {KE : List (List Int)} {z i : Nat} {reg data : List Int} (hd : KBa.In data) : KBa.In (dO P KE z reg data i) := by
  induction i with
  | zero => exact fun _ h => nomatch h
  | succ i ih => exact In.app ih (xorL_in (seg_in hd) (In.take (encOf_in _ _ _) _))
theorem cO_len {P : Params} {KE : List (List Int)} {z n : Nat} {reg data : List Int} (hd : data.length = z * n) (hz : z ≤ 16) : ∀ {i : Nat}, i ≤ n → (cO P KE z reg data i).length = z * i
  | 0, _ => rfl
  | i + 1, hi => by
    have := cO_len (P := P) (KE := KE) (reg := reg) hd hz (i := i) (by lia)
    rw [cO, List.length_append, this, segx_len hd (show i < n by lia) hz, Nat.mul_succ]
theorem dO_len {P : Params} {KE : List (List Int)} {z n : Nat} {reg data : List Int} (hd : data.length = z * n) (hz : z ≤ 16) : ∀ {i : Nat}, i ≤ n → (dO P KE z reg data i).length = z * i
  | 0, _ => rfl
  | i + 1, hi => by
    have := dO_len (P := P) (KE := KE) (reg := reg) hd hz (i := i) (by lia)
    rw [dO, List.length_append, this, segx_len hd (show i < n by lia) hz, Nat.mul_succ]

theorem stepsPe : True := by
  k_with "STEPSX" => (repeat' (first | (k_unfold; (try dsimp only)) | (((fail_if_success (with_reducible show wpAny _ _ (setAttr _ _ _) _ _ _)); (fail_if_success (with_reducible show wpAny _ _ (exec (Stmt.For _ _ _ _ _) _) _ _ _)); (fail_if_success (with_reducible show wpAny _ _ (exec (Stmt.While _ _ _ _) _) _ _ _)); (fail_if_success (with_reducible show wpAny _ _ (exec (Stmt.Assign _ (Expr.ListComp _ _ _ _) _) _) _ _ _)); (fail_if_success (with_reducible show wpAny _ _ (eval (Expr.ListComp _ _ _ _) _) _ _ _)); (fail_if_success (with_reducible show LCg.CompSrc _ _ _ _ _ _ _ _ _ _ _ _ _ _)); (fail_if_success (with_reducible show wpAny _ _ (pyIter _) _ _ _)); (fail_if_success (with_reducible show RPost _ _ _ _ _ _ _ _ _)); (fail_if_success (with_reducible show CPost _ _ _ _ _ _ _ _)); (fail_if_success (with_reducible show Exists _)); (fail_if_success (with_reducible show CPostJ _ _ _ _ _ _ _ _ _ _ _ _ _)); (fail_if_success (with_reducible show WhileStep2 _ _ _ _ _ _ _ _)); first | walk1 | (dsimp only; walk1)) <;> ((try dsimp only [List.cons_append, List.nil_append]); (try k_fold)))))
  exact trivial
theorem ex_led {h₀ h : Heap} {L : Addr} {led : List (Addr × Obj)} (_N : News h₀ L h led) : ∃ l, l = led := ⟨_, rfl⟩
theorem MJ.reg2 {h₀ h : Heap} {L : Addr} {led : List (Addr × Obj)} {c dc x dx ke kd : Addr} {q1 q2 q3 p1 p2 : Int} {k1 k2 k3 j1 j2 : Tok} {nke : Nat} {rows : List Addr} {KE : List (List Int)} {z : Nat} {ts : Tok} {rb rb' : Array UInt8} {rt rt' : Tok}
   (_N : News h₀ L h (foc dc (dictOf [⟨q1, .str (Str.ofString "_shift_register") k1, .bytes rb' rt'⟩, ⟨q2, .str (Str.ofString "_segment_bytes") k2, .int (z : Int) ts⟩, ⟨q3, .str (Str.ofString "_aes") k3, .ref x⟩] 3) led)) (M : MJ led c dc x dx ke kd q1 q2 q3 p1 p2 k1 k2 k3 j1 j2 nke rows KE z ts rb rt) :
   MJ (foc dc (dictOf [⟨q1, .str (Str.ofString "_shift_register") k1, .bytes rb' rt'⟩, ⟨q2, .str (Str.ofString "_segment_bytes") k2, .int (z : Int) ts⟩, ⟨q3, .str (Str.ofString "_aes") k3, .ref x⟩] 3) led) c dc x dx ke kd q1 q2 q3 p1 p2 k1 k2 k3 j1 j2 nke rows KE z ts rb' rt' := M.reg
theorem IL.foc2 {h₀ h : Heap} {L d l : Addr} {o : Obj} {led : List (Addr × Obj)} {ns : List Int} (_N : News h₀ L h (Mine.foc d o led)) (hI : IL led l ns) (hne : l ≠ d) : IL (Mine.foc d o led) l ns := hI.foc hne
theorem keep_foc {h₀ h : Heap} {L d : Addr} {o : Obj} {led led0 : List (Addr × Obj)} (_N : News h₀ L h (Mine.foc d o led)) (hs : ∀ p ∈ led0, p ∈ led) : ∀ p ∈ led0, p.1 ≠ d → p ∈ Mine.foc d o led := fun p hp hne => foc_mem (hs p hp) hne
theorem MJ.skip {led : List (Addr × Obj)} {q : Addr × Obj} {c dc x dx ke kd : Addr} {q1 q2 q3 p1 p2 : Int} {k1 k2 k3 j1 j2 : Tok} {nke : Nat} {rows : List Addr} {KE : List (List Int)} {z : Nat} {ts : Tok} {rb : Array UInt8} {rt : Tok}
   (M : MJ led c dc x dx ke kd q1 q2 q3 p1 p2 k1 k2 k3 j1 j2 nke rows KE z ts rb rt) : MJ (q :: led) c dc x dx ke kd q1 q2 q3 p1 p2 k1 k2 k3 j1 j2 nke rows KE z ts rb rt := M.mono fun _ hp => .tail _ hp
section
local macro_rules | `(tactic| ktr_rel) => `(tactic| first | assumption | exact rd_eq | (refine' rd_ne ?rn ?rv; (case rn => decide); (case rv => ktr_rel)) | (refine' IL.here ?ih; (case ih => assumption)) | (refine' IL.skip ?is; (case is => ktr_rel)) | (refine' KeAt.skip ?is; (case is => ktr_rel)) | (refine' Blk.skip ?is; (case is => ktr_rel)) | (refine' In.take ?is _; (case is => ktr_rel)) | (refine' In.drop ?is _; (case is => ktr_rel)))
local macro_rules | `(tactic| k_all) => `(tactic| exact allLt_ne (by assumption))
local macro_rules | `(tactic| ktr_rel) => `(tactic| (refine' MJ.skip ?is; (case is => ktr_rel)))
local macro_rules | `(tactic| k_mem) => `(tactic| with_reducible assumption)
theorem wordsPe1 : True := by
  k_with_none
  k_with "STEPSX" => (repeat' (first | (k_unfold; (try dsimp only)) | (((fail_if_success (with_reducible show wpAny _ _ (setAttr _ _ _) _ _ _)); (fail_if_success (with_reducible show wpAny _ _ (exec (Stmt.For _ _ _ _ _) _) _ _ _)); (fail_if_success (with_reducible show wpAny _ _ (exec (Stmt.While _ _ _ _) _) _ _ _)); (fail_if_success (with_reducible show wpAny _ _ (exec (Stmt.Assign _ (Expr.ListComp _ _ _ _) _) _) _ _ _)); (fail_if_success (with_reducible show wpAny _ _ (eval (Expr.ListComp _ _ _ _) _) _ _ _)); (fail_if_success (with_reducible show LCg.CompSrc _ _ _ _ _ _ _ _ _ _ _ _ _ _)); (fail_if_success (with_reducible show wpAny _ _ (pyIter _) _ _ _)); (fail_if_success (with_reducible show RPost _ _ _ _ _ _ _ _ _)); (fail_if_success (with_reducible show CPost _ _ _ _ _ _ _ _)); (fail_if_success (with_reducible show Exists _)); (fail_if_success (with_reducible show CPostJ _ _ _ _ _ _ _ _ _ _ _ _ _)); (fail_if_success (with_reducible show WhileStep2 _ _ _ _ _ _ _ _)); first | walk1 | (dsimp only; walk1)) <;> ((try dsimp only [List.cons_append, List.nil_append]); (try k_fold)))))
  k_with "subscriptTail" => (k_here; (with_reducible show wpAny _ _ (subscriptTail _ _ (Value.ref _) (Value.int _ _)) _ _ _); k_dflt (refine' item_IL ?qqN ?qqm ?qqa ?qqb ?qqc ?_; (case qqN => k_asm); (case qqm => ktr_rel); (case qqa => lia); (case qqb => lia); (case qqc => lia); k_whole); intro _)
  k_with "call builtin:len" => (k_here; (with_reducible show wpAny _ _ (call (Value.builtin "len") [Value.ref _]) _ _ _); k_dflt (refine' len_IL ?qqN ?qqm ?qqz ?_; (case qqN => k_asm); (case qqm => ktr_rel); (case qqz => lia); k_whole); intro _ _)
  k_with "ite" => (k_here; first | (refine ite_neg (by (simp only [bne_iff_ne, beq_iff_eq, decide_eq_true_eq, ne_eq, Decidable.not_not]; lia)) ?_) | (refine ite_pos (by (simp only [bne_iff_ne, beq_iff_eq, decide_eq_true_eq, ne_eq, Decidable.not_not]; lia)) ?_))
  k_with "eval Name" => (k_here; name_kind "local"; (with_reducible show wpAny _ _ (eval (Expr.Name _ _) (compEnvC _ _ _ _)) _ _ _); k_dflt (refine LCgL.ld_own (by k_asm) (by k_mem) (by assumption) (by assumption) ?_))
  k_with "eval Name" => (k_here; name_kind "globalImplicit"; (with_reducible show wpAny _ _ (eval (Expr.Name _ _) (compEnvC _ _ _ _)) _ _ _); k_dflt (refine LCgL.ld_global (by k_asm) (by k_asm) (by k_asm) (by k_is) ?_))
  k_with "eval Name" => (k_here; name_kind "free"; (with_reducible show wpAny _ _ (eval (Expr.Name _ _) (compEnvC _ _ _ _)) _ _ _); k_dflt (refine' ld_cell ?qqN ?qqc ?qqm ?qqd ?_ ?qqe ?qqf ?qqg; (case qqe => rfl); (case qqf => rfl); (case qqg => decide); (case qqN => k_asm); (case qqc => rfl); (case qqm => k_mem); (case qqd => k_asm); k_whole))
  k_with "eval Name" => (k_here; name_kind "local"; (fail_if_success (with_reducible show wpAny _ _ (eval (Expr.Name _ _) (compEnvC _ _ _ _)) _ _ _)); (with_reducible rename Fr _ _ _ _ => kF); k_dflt (refine' nameX_L kF ?qqv ?_ ?qqa ?qqb; (case qqa => rfl); (case qqb => rfl); (case qqv => ktr_rel); k_whole))
  k_with "subscriptTail" => (k_here; (with_reducible show wpAny _ _ (subscriptTail _ (Expr.Slice (some _) (some _) none _) (Value.ref _) (Value.ref _)) _ _ _); k_dflt (refine' slice_run' ?qqF ?qqN ?qqm ?qqz ?qqa ?qqb ?_; (case qqF => k_asm); (case qqN => k_asm); (case qqm => ktr_rel); (case qqz => lia); (case qqa => lia); (case qqb => lia); k_whole); intro D' h' F' ws' hw' N' l1; (try k_lt l1); (try k_sweep))
  k_with "call builtin:len" => (k_here; k_dflt (refine' len_blk ?qqN ?qqm ?qqz ?_; (case qqN => k_asm); (case qqm => ktr_rel); (case qqz => lia); k_whole); intro _ _)
  k_with "subscriptTail" => (k_here; (with_reducible show wpAny _ _ (subscriptTail _ (Expr.Slice (some _) (some _) none _) _ (Value.ref _)) _ _ _); k_dflt (refine' slice_blk' ?qqe ?qqF ?qqN ?qqm ?qqz ?qqa ?qqb ?_; (case qqe => exact ⟨_, _, _, _, _, rfl, rfl⟩); (case qqF => k_asm); (case qqN => k_asm); (case qqm => ktr_rel); (case qqz => lia); (case qqa => lia); (case qqb => lia); k_whole); intro v' h' k' led' F' N' hs' hb')
  k_with "call ref" => (k_here; k_dflt (refine' Tells.use (compactV _ _ _ _ ?qqhl ?qqh4 ?qqhi) ?qqB ?qqF ?qqX ?qqN ?qqT ?qqhk ?qqhd ?qqhu ?_; (case qqB => k_asm); (case qqF => k_asm); (case qqX => k_asm); (case qqN => k_asm); (case qqT => k_asm); (case qqhk => rfl); (case qqhl => ktr_rel); (case qqh4 => (simp only [List.length_take, List.length_drop]; lia)); (case qqhi => ktr_rel); (case qqhd => first | lia | (dsimp only [ktrTop, Around.deeper]; lia)); (case qqhu => first | lia | (dsimp only [ktrTop, Around.deeper]; lia))); intro v' news' h' tk' F' Nq' hO'; (obtain ⟨hO1, t', hO2⟩ := hO'; subst hO1; subst hO2); (have N9' := drop_led Nq' (by assumption)); (try dsimp only); (try k_sweep))
  k_with "call type:list" => (k_here; (with_reducible show wpAny _ _ (call (Value.type "list") [Value.ref _]) _ _ _); k_dflt (refine' copy_IL ?qqF ?qqN ?qqm ?qqz ?_; (case qqF => k_asm); (case qqN => k_asm); (case qqm => ktr_rel); (case qqz => lia); k_whole); intro D' c' h' vs' hv' F' N' l1; (try k_lt l1); (try k_sweep))
  k_with "setItem ref int" => (k_here; (with_reducible show wpAny _ _ (setItem (Value.ref _) (Value.int _ _) (Value.int _ _)) _ _ _); k_dflt (refine' set_IL ?qqk1 ?qqk2 ?qqk3 ?qqk4 ?qqk5 ?qqk6 ?qqk7 ?_; (case qqk1 => k_asm); (case qqk2 => k_asm); (case qqk3 => k_upd); (case qqk4 => with_reducible assumption); (case qqk5 => lia); (case qqk6 => lia); (case qqk7 => lia); k_whole); intro h' F' N' hi'; (try k_sweep))
  k_with "subscriptTail" => (k_here; (with_reducible show wpAny _ _ (subscriptTail _ _ (Value.ref _) (Value.int _ _)) _ _ _); k_dflt (refine' item_tab ?qqF ?qqX ?qqo ?qqa ?qqb ?qqc ?_; (case qqF => k_asm); (case qqX => k_asm); (case qqo => with_reducible (first | exact tab_S _ | exact tab_T1 _ | exact tab_T2 _ | exact tab_T3 _ | exact tab_T4 _)); (case qqa => exact (and255 _).1); (case qqb => exact (and255 _).2); (case qqc => decide); k_whole); intro _)
  k_with "binaryOp Mod int int" => (k_here; (with_reducible refine mod_pos (by first | decide | lia) ?_))
  k_with "call builtin:list.append" => (k_here; (with_reducible show wpAny _ _ (call (Value.builtin _) [Value.ref _, Value.int _ _]) _ _ _); k_dflt (refine' append_IL ?qqk1 ?qqk2 ?qqk3 ?qqk4 ?qqk5 ?_; (case qqk1 => k_asm); (case qqk2 => k_asm); (case qqk3 => k_upd); (case qqk4 => with_reducible assumption); (case qqk5 => ((try simp only [List.length_append, List.length_cons, List.length_nil]); lia)); k_whole); intro h' F' N' hi'; (try k_sweep))
  k_with "call type:range" => (k_here; (first | (with_reducible show wpAny _ _ (call _ [_]) _ _ _) | (with_reducible show wpAny _ _ (call _ [_, _]) _ _ _)); (rename Fr _ _ _ _ => F'); (rename News _ _ _ _ => N'); (first | (with_unfolding_all refine range1_rows F' N' ?_) | (with_unfolding_all refine range2_rows F' N' ?_)); intro _ _ _ _ _ _ _ _ _)
  k_with "subscriptTail" => (k_here; (with_reducible show wpAny _ _ (subscriptTail _ (Expr.Slice _ _ none _) (Value.bytes _ _) (Value.ref _)) _ _ _); k_dflt (refine' slice_b' ?qqF ?qqN ?qqk ?qql ?qqu ?qqz ?_; (case qqF => k_asm); (case qqN => k_asm); (case qqk => kba_ints); (case qql => constructor); (case qqu => constructor); (case qqz => kba_size); k_whole); intro _ _ _ _ _ kbcK; (try simp only [Option.elim, KBc.clip_lit, clipAt_nat, List.drop_zero, Nat.sub_zero] at kbcK))
  k_with "call type:bytes" => (k_here; (with_reducible show wpAny _ _ (call (Value.type "bytes") [Value.ref _]) _ _ _); k_dflt (refine' mk_IL ?qqF ?qqN ?qqhh ?qqm ?qqr ?qqz ?_; (case qqhh => rfl); (case qqF => k_asm); (case qqN => k_asm); (case qqm => ktr_rel); (case qqr => ktr_rel); (case qqz => lia); k_whole); intro b' h' t' k' F' N' hb'; (try k_sweep))
  k_with "binaryOp Add bytes bytes" => (k_here; k_dflt (refine' KBa.add_K ?qqb ?qqc ?qqz ?_; (case qqb => with_reducible assumption); (case qqc => with_reducible assumption); (case qqz => lia); k_whole); intro t' k' hb')
  k_with "eval Call" => (k_here; (with_reducible show wpAny _ _ (eval (Expr.Call (Expr.Name _ _) _ [] _) _) _ _ _); (fail_if_success (with_reducible show wpAny _ _ (eval _ (compEnvC _ _ _ _)) _ _ _)); k_dflt (refine Call_ ?_))
  k_with "getAttr ref" => (k_here; (with_reducible show wpAny _ _ (getAttr (Value.ref _) (PySem.Str.ofString "_shift_register") _) _ _ _); k_dflt (refine' mj_reg ?qqF ?qqX ?qqN ?qqM ?_; (case qqF => k_asm); (case qqX => k_asm); (case qqN => k_asm); (case qqM => ktr_rel); k_whole); intro _)
  k_with "getAttr ref" => (k_here; (with_reducible show wpAny _ _ (getAttr (Value.ref _) (PySem.Str.ofString "_segment_bytes") _) _ _ _); k_dflt (refine' mj_seg ?qqF ?qqX ?qqN ?qqM ?_; (case qqF => k_asm); (case qqX => k_asm); (case qqN => k_asm); (case qqM => ktr_rel); k_whole); intro _)
  k_with "getAttr ref" => (k_here; (with_reducible show wpAny _ _ (getAttr (Value.ref _) (PySem.Str.ofString "_aes") _) _ _ _); k_dflt (refine' mj_aes ?qqF ?qqX ?qqN ?qqM ?_; (case qqF => k_asm); (case qqX => k_asm); (case qqN => k_asm); (case qqM => ktr_rel); k_whole); intro _)
  k_with "getMethod ref" => (k_here; (with_reducible show wpAny _ _ (getMethod (Value.ref _) (PySem.Str.ofString "encrypt") _) _ _ _); k_dflt (refine' ke_method ?qqF ?qqX ?qqN ?qqK ?_; (case qqF => k_asm); (case qqX => k_asm); (case qqN => k_asm); (case qqK => ktr_rel); k_whole))
  k_with "call type:zip" => (k_here; k_dflt (refine' zip_IL ?qqF ?qqN ?qqm ?_; (case qqF => k_asm); (case qqN => k_asm); (case qqm => k_mem); k_whole); intro h' z' F' N' zR')
  k_with "subscriptTail" => (k_here; (with_reducible show wpAny _ _ (subscriptTail _ (Expr.Slice none (some _) none _) (Value.ref _) (Value.ref _)) _ _ _); k_dflt (refine' slice_upto' ?qqF ?qqN ?qqm ?qqz ?qqb ?_; (case qqF => k_asm); (case qqN => k_asm); (case qqm => ktr_rel); (case qqz => lia); (case qqb => lia); k_whole); intro D' h' F' ws' hw' N' l1; (try k_lt l1); (try k_sweep))
  k_with "call ref" => (k_here; k_dflt (refine' Tells.use (encV _ _ _ _ _ _ _ _ _ _ _ _ _ _ _ ?qqhl ?qqh16 ?qqhi ?qqhK ?qqhR) ?qqB ?qqF ?qqX ?qqN ?qqT ?qqhkk ?qqhd ?qqhu ?_; (case qqB => k_asm); (case qqF => k_asm); (case qqX => k_asm); (case qqN => k_asm); (case qqT => k_asm); (case qqhK => ktr_rel); (case qqhl => ktr_rel); (case qqh16 => with_reducible assumption); (case qqhi => with_reducible assumption); (case qqhR => with_reducible assumption); (case qqhkk => rfl); (case qqhd => first | decide | lia | (dsimp only [ktrTop, Around.deeper]; lia) | (simp only [depth_under_make, depth_deeper, ktrTop]; lia) | ktr_room); (case qqhu => first | decide | lia | (dsimp only [ktrTop, Around.deeper]; lia) | (simp only [units_under_make, units_deeper, ktrTop]; lia) | ktr_units)); intro v' news' h' tk' F' N' hO'; (obtain ⟨D', vs', n', hO1, hO2, hO3, hO4⟩ := hO'; subst hO1; subst hO2); (try dsimp only))
  k_with "subscriptTail Name Slice ref ref" => (k_here; (with_reducible show wpAny _ _ (subscriptTail _ (Expr.Slice none (some _) none _) (Value.ref _) (Value.ref _)) _ _ _); k_dflt (refine' slice_upto' ?qqF ?qqN ?qqm ?qqz ?qqb ?_; (case qqF => k_asm); (case qqN => k_asm); (case qqm => ktr_rel); (case qqz => lia); (case qqb => lia); k_whole); intro D' h' F' ws' hw' N' l1; (try k_lt l1); (try k_sweep))
  k_with "call builtin:list.extend" => (k_here; k_dflt (refine' extend_foc ?qqF ?qqN ?qqD ?qql ?qqz ?_; (case qqF => k_asm); (case qqN => k_asm); (case qqD => ktr_rel); (case qql => ktr_rel); (case qqz => lia); k_whole); intro h' o' F' N' hE')
  k_with "call ref" => (k_here; k_dflt (refine' Tells.use (catV _ _ _ _ _ ?qqhb ?qqhr _ _ ?qqhl ?qqhi ?qqhz) ?qqB ?qqF ?qqX ?qqN ?qqT ?qqhkk ?qqhd ?qqhu ?_; (case qqB => k_asm); (case qqF => k_asm); (case qqX => k_asm); (case qqN => k_asm); (case qqT => k_asm); (case qqhb => with_reducible assumption); (case qqhr => (simp only [List.length_take, List.length_drop]; lia)); (case qqhl => ktr_rel); (case qqhi => with_reducible assumption); (case qqhz => lia); (case qqhkk => rfl); (case qqhd => first | decide | lia | (dsimp only [ktrTop, Around.deeper]; lia) | (simp only [depth_under_make, depth_deeper, ktrTop]; lia) | ktr_room); (case qqhu => first | decide | lia | (dsimp only [ktrTop, Around.deeper]; lia) | (simp only [units_under_make, units_deeper, ktrTop]; lia) | ktr_units)); intro v' news' h' tk' F' N' hO'; (obtain ⟨hO1, b', t', hO2, hO3⟩ := hO'; replace hO1 := Eq.symm hO1; subst hO1; subst hO2); (try dsimp only); (try k_sweep))
  k_with "call ref" => (k_here; k_dflt (refine' Tells.use (btsV _ _ _ _ ?qqhl ?qqhi ?qqhz) ?qqB ?qqF ?qqX ?qqN ?qqT ?qqhkk ?qqhd ?qqhu ?_; (case qqB => k_asm); (case qqF => k_asm); (case qqX => k_asm); (case qqN => k_asm); (case qqT => k_asm); (case qqhl => ktr_rel); (case qqhi => with_reducible assumption); (case qqhz => lia); (case qqhkk => rfl); (case qqhd => first | decide | lia | (dsimp only [ktrTop, Around.deeper]; lia) | (simp only [depth_under_make, depth_deeper, ktrTop]; lia) | ktr_room); (case qqhu => first | decide | lia | (dsimp only [ktrTop, Around.deeper]; lia) | (simp only [units_under_make, units_deeper, ktrTop]; lia) | ktr_units)); intro v' news' h' tk' F' N' hO'; (obtain ⟨hO1, b', t', hO2, hO3⟩ := hO'; replace hO1 := Eq.symm hO1; subst hO1; subst hO2); (try dsimp only); (try k_sweep))
  k_with "call ref" => (k_here; k_dflt (refine' Tells.use (stbV _ _ _ _) ?qqB ?qqF ?qqX ?qqN ?qqT ?qqhkk ?qqhd ?qqhu ?_; (case qqB => k_asm); (case qqF => k_asm); (case qqX => k_asm); (case qqN => k_asm); (case qqT => k_asm);  (case qqhkk => rfl); (case qqhd => first | decide | lia | (dsimp only [ktrTop, Around.deeper]; lia) | (simp only [depth_under_make, depth_deeper, ktrTop]; lia) | ktr_room); (case qqhu => first | decide | lia | (dsimp only [ktrTop, Around.deeper]; lia) | (simp only [units_under_make, units_deeper, ktrTop]; lia) | ktr_units)); intro v' news' h' tk' F' N' hO'; (obtain ⟨hO1, hO2⟩ := hO'; replace hO1 := Eq.symm hO1; subst hO1; subst hO2); (try dsimp only); (try k_sweep))
  exact trivial
set_option maxHeartbeats 8000000 in
theorem encryptV (w : World) (led : List (Addr × Obj)) (c dc : Addr) (ad : List Addr) (reg : List Int) (z : Nat) (KE : List (List Int)) (hm : ModeAt led c dc ad reg z KE) (hreg : reg.length = 16) (hri : KBa.In reg) (hKE : 2 ≤ KE.length ∧ KE.length ≤ 15) (b : Array UInt8) (t : Tok) (data : List Int) (hb : KBw.bInts b = data) (n : Nat) (hn : data.length = z * n) (hz : 1 ≤ z ∧ z ≤ 16) (hn2 : n ≤ 60) :
   Tells w 367 [.ref c, .bytes b t] 4 led fun v led' => ∃ b' t', v = .bytes b' t' ∧ KBw.bInts b' = cO w.params KE z reg data n ∧ ModeAt led' c dc ad (cR w.params KE z reg data n) z KE ∧ ∀ p ∈ led, p.1 ≠ dc → p ∈ led' := by
  have hlen : data.length ≤ 960 := by rw [hn]; exact Nat.le_trans (Nat.mul_le_mul hz.2 hn2) (by decide)
  have hmod : ((data.length : Nat) : Int) % (z : Int) = 0 := by rw [hn]; push_cast; exact Int.mul_emod_right _ _
  have hdi : KBa.In data := fun k hk => KBw.ints_in (b := b) (by rw [hb]; exact hk)
  obtain ⟨x, dx, ke, kd, q1, q2, q3, p1, p2, k1, k2, k3, j1, j2, nke, rows, ts, rb, rt, rfl, hrb, M⟩ := hm.toMJ
  clear hm
  unfold Tells; k_fill; intro loose mean mg mb dp un gd cn cs a ccd cl outer A₀ base h₀ L m s Q E B F X N T hk hd hu hret
  refine wpAny_call ?_; k_dflt (refine' code_def (binds := [(Str.ofString "self", Value.ref c), (Str.ofString "plaintext", Value.bytes b t)]) ?k1 ?k2 ?k3 ?k4 ?k5 ?kA ?kF ?kK ?k6 ?k7 ?k8 ?k9 ?kB ?_ ?c2 ?c3 ?c4 ?c5; (case kA => exact rfl); (case kF => exact rfl); (case kK => assumption); (case k1 => exact B); (case k2 => exact F); (case k3 => exact X); (case k4 => exact N); (case k5 => exact T); (case k6 => k_is); (case k7 => k_is); (case k8 => ktr_room); (case k9 => first | exact BindsTo.of_eq rfl | exact binds_K (by k_in) rfl (by k_is) rfl rfl rfl); (case c5 => decide); (case kB => exact locs rfl); (case c2 => exact rfl); (case c3 => exact rfl); (case c4 => exact rfl)); intro g1 L1 h1 FG1 F1 N1 B1 X1 T1; (try dsimp only); (try k_fold)
  have hz1 : 0 < (z : Int) := by lia
  k_extra "STEPSX"
  rename ∀ (p : Addr × Obj), p ∈ led → p.1 < _ => l1
  have hnz : n * z ≤ 960 := Nat.le_trans (Nat.mul_le_mul hn2 hz.2) (by decide)
  have e7 : ((data.length : Nat) : Int) = (n : Int) * (z : Int) := by rw [hn]; push_cast; exact Int.mul_comm _ _
  k_dflt (refine For_invV g1 (by rfl) (by rfl) ?_)
  k_extra "STEPSX"
  rename IsRange _ _ _ _ _ _ _ _ => R7
  rename Fr _ _ _ _ => F7
  rename News _ _ _ _ => N7
  rw [e7] at R7
  refine rng_inv (fun i m nx => ∃ (rb' : Array UInt8) (rt' : Tok) (el : Addr), KBw.bInts rb' = cR w.params KE z reg data i ∧ MJ nx c dc x dx ke kd q1 q2 q3 p1 p2 k1 k2 k3 j1 j2 nke rows KE z ts rb' rt' ∧ IL nx el (cO w.params KE z reg data i) ∧ el ∉ c :: dc :: x :: dx :: ke :: rows ∧ (∀ p ∈ led, (@Ne Nat p.1 el)) ∧ (∀ p ∈ led, p.1 ≠ dc → p ∈ nx) ∧ m (Str.ofString "encrypted") = some (.ref el) ∧ m (Str.ofString "plaintext") = some (.bytes b t) ∧ m (Str.ofString "self") = some (.ref c)) (n := n) rfl R7 (small_step hz.1 (by lia) (by lia)) (rs_mul hz.1) F7 N7
    ⟨rb, rt, _, hrb, M.skip, ⟨[], 0, .head _, .nil⟩, (fun h => let ⟨o, ho⟩ := M.adr h; absurd (l1 _ ho) (Nat.lt_irrefl _)), (fun p hp => Nat.ne_of_lt (l1 p hp)), (fun p hp _ => .tail _ hp), if_pos rfl, Eq.trans (if_neg (by decide)) (if_pos rfl), by kernel_rfl⟩ ?_ ?_
  · clear F7 N7 R7
    intro I i it ti m₁ nx s₁ hi hJ off F8 N8 hs₁
    obtain ⟨rb', rt', el, hrb', M1, hel, held, helf, hkeep, me, mp, ms⟩ := hJ
    have hIadr : ∀ a ∈ c :: dc :: x :: dx :: ke :: rows, a ≠ I := fun a ha => let ⟨o, ho⟩ := M1.adr ha; off _ ho
    have hIel : el ≠ I := let ⟨_, _, hm, _⟩ := hel; off _ hm
    have hreglen : (cR w.params KE z reg data i).length = 16 := cR_len hreg hn hz.2 (by lia)
    have hregin : KBa.In (cR w.params KE z reg data i) := cR_in hri hdi
    obtain ⟨LED1, hL1⟩ : ∃ l, l = (I, it) :: nx := ⟨_, rfl⟩
    rw [← hL1] at N8
    have M2 : MJ LED1 c dc x dx ke kd q1 q2 q3 p1 p2 k1 k2 k3 j1 j2 nke rows KE z ts rb' rt' := hL1 ▸ M1.skip
    have hel2 : IL LED1 el (cO w.params KE z reg data i) := hL1 ▸ hel.skip
    have hK2 := M2.hK
    have hblk : Blk LED1 (.bytes rb' rt') (cR w.params KE z reg data i) := .inr ⟨rb', rt', rfl, hrb'⟩
    have hel16 : (encOf w.params KE (cR w.params KE z reg data i)).length = 16 := encOf_len _ _ _
    k_extra "STEPSX"
    have hi1 : z * i + z ≤ data.length := by rw [hn, ← Nat.mul_succ]; exact Nat.mul_le_mul_left z hi
    have e9 : (0 + (i : Int) * (z : Int)) = ((z * i : Nat) : Int) := by push_cast; rw [Int.zero_add, Int.mul_comm]
    have e8 : clipAt data.length (0 + (i : Int) * (z : Int)) = z * i := by rw [e9, clipAt_nat]; lia
    have e10 : clipAt data.length (0 + (i : Int) * (z : Int) + (z : Int)) = z * i + z := by rw [e9, show ((z * i : Nat) : Int) + (z : Int) = ((z * i + z : Nat) : Int) by push_cast; rfl, clipAt_nat]; lia
    rename KBw.bInts (KBy.picked _ _ _) = _ => kb
    rename IntsAre _ (List.take _ _) => hw
    rw [e10, e8, show z * i + z - z * i = z by lia] at kb
    rw [e10, e8, show ((min (z * i + z - z * i) (data.length - z * i) : Nat) : Int).toNat = z by lia] at hw
    change _ = seg z data i at kb
    have hsl : (seg z data i).length = z := seg_len hn hi
    have htl : ((encOf w.params KE (cR w.params KE z reg data i)).take z).length = z := by rw [List.length_take, encOf_len]; lia
    rename Fr _ _ _ _ => F9
    rename News _ _ _ _ => N9
    k_dflt (refine Assign_zip (fun j y => ∃ t, y = .int (Builtin.bitXor ((seg z data i).getD j 0) (((encOf w.params KE (cR w.params KE z reg data i)).take z).getD j 0)) t) F9 (by rfl) (by with_unfolding_all rfl) (by rfl) (by decide) (by rfl) (by decide) (by rfl) (by rfl) (by decide) (by rfl) (by rfl) (by rfl) ?_)
    k_extra "STEPSX"
    rename Fr _ _ _ _ => F10
    rename News _ _ _ _ => N10
    rename ZReady _ _ _ _ _ _ _ _ _ => zR
    refine ⟨_, _, _, _, _, _, rfl, F10, N10, zR, ?_, ?_, ?_, ?_⟩
    · rw [← KBw.ints_length, kb, hsl, hw.length, htl]
    · rw [← KBw.ints_length, kb, hsl, sizeLine_eq]; lia
    · intro j cc u v C oC m₂ s₂ E' hc hv hC hm1 hm2 F11 N11
      have g1' := KBw.ints_get hc
      rw [kb] at g1'
      have hjl : j < z := by have := List.getElem?_eq_some_iff.mp g1'; obtain ⟨q, _⟩ := this; lia
      have g2' : ((encOf w.params KE (cR w.params KE z reg data i)).take z)[j]? = some (((encOf w.params KE (cR w.params KE z reg data i)).take z).getD j 0) := by rw [List.getD_eq_getElem?_getD, List.getElem?_eq_getElem (by lia)]; rfl
      obtain ⟨tv, htv⟩ := hw.get _ _ g2'
      rw [hv] at htv
      injection htv with htv
      subst htv
      rw [show (((seg z data i).getD j 0 : Int)) = ((cc.toNat : Nat) : Int) by rw [List.getD_eq_getElem?_getD, g1']; rfl]
      clear F10 N10
      k_extra "STEPSX"
      all_goals exact ⟨_, rfl⟩
    intro us hul hup
    have hul' : us.length = z := by rw [hul, ← KBw.ints_length, kb, hsl]
    have hI := ints_of_all hul' hup
    have hxx : (List.range z).map (fun j => Builtin.bitXor ((seg z data i).getD j 0) (((encOf w.params KE (cR w.params KE z reg data i)).take z).getD j 0)) = xorL (seg z data i) ((encOf w.params KE (cR w.params KE z reg data i)).take z) := by rw [← xorL_eq, hsl, htl, Nat.min_self]
    rw [hxx] at hI
    have hxl : (xorL (seg z data i) ((encOf w.params KE (cR w.params KE z reg data i)).take z)).length = z := segx_len hn hi hz.2
    have hxi : KBa.In (xorL (seg z data i) ((encOf w.params KE (cR w.params KE z reg data i)).take z)) := xorL_in (seg_in hdi) (In.take (encOf_in _ _ _) _)
    generalize hXX : xorL (seg z data i) ((encOf w.params KE (cR w.params KE z reg data i)).take z) = XX at hI hxl hxi
    clear hxx hup kb hw hsl htl e8 e9 e10 F10 N10 zR
    unfold LCg.FinA
    intro D5 h5 tk5 F12 N12 o12
    try dsimp only
    k_extra "STEPSX"
    rename Fr _ _ _ _ => F13
    rename News _ _ _ _ => N13
    rename KBw.bInts _ = List.take _ _ ++ _ => hnb
    refine set_reg F13 X1 N13 (.tail _ (.tail _ (.tail _ M2.hc))) (.tail _ (.tail _ (.tail _ M2.hd))) ?_
    intro h6 F14 N14
    have hdD : dc ≠ D5 := off1_ne o12 _ (.tail _ (.tail _ M2.hd))
    have held' := held
    simp only [List.mem_cons, not_or] at held'
    have M4 := MJ.reg2 N14 M2.skip.skip.skip
    have hel4 := IL.foc2 N14 hel2.skip.skip.skip held'.2.1
    have hI4 := IL.foc2 (l := D5) (ns := XX) N14 ⟨us, us.length, .head _, hI⟩ (Ne.symm hdD)
    have hk2 := keep_foc (led0 := LED1) N14 (fun p hp => .tail _ (.tail _ (.tail _ hp)))
    obtain ⟨LED2, hL2⟩ := ex_led N14
    rw [← hL2] at N14 M4 hel4 hI4 hk2
    obtain ⟨ve, ne, hme, hie⟩ := id hel4
    have hcl : (cO w.params KE z reg data i).length = z * i := cO_len hn hz.2 (by lia)
    k_extra "STEPSX"
    rename Fr _ _ _ _ => F15
    rename News _ _ _ _ => N15
    rename IL _ el _ => hel5
    have hIt : (I, it) ∈ foc el _ LED2 := in_foc N15 (hk2 _ (hL1 ▸ .head _) (Ne.symm (hIadr dc (.tail _ (.head _))))) (Ne.symm hIel)
    obtain ⟨LED3, hL3⟩ := ex_led N15
    have M5 : MJ LED3 c dc x dx ke kd q1 q2 q3 p1 p2 k1 k2 k3 j1 j2 nke rows KE z ts _ _ := M4.lift held (fun p hp h => hL3 ▸ foc_mem hp h)
    have hk3 : ∀ p ∈ LED2, p.1 ≠ el → p ∈ LED3 := fun p hp h => hL3 ▸ foc_mem hp h
    rw [← hL3] at N15 hel5 hIt
    have up : ∀ p ∈ LED3, p.1 ≠ I → p ∈ LED3.filter fun p => p.1 != I := fun p hp h => List.mem_filter.mpr ⟨hp, by simpa using h⟩
    refine RPost.next F15 N15 (LED3.filter fun p => p.1 != I) ?_ (fun p hp => by have := (List.mem_filter.mp hp).2; simpa using this) ⟨_, _, el, ?_, M5.lift (d := I) (fun h => hIadr I h rfl) up, (by rw [cO, hXX]; exact hel5.lift hIel up), held, helf, fun p hp h => up p (hk3 p (hk2 p (hL1 ▸ .tail _ (hkeep p hp h)) h) (helf p hp)) (off p (hkeep p hp h)), Eq.trans (if_neg (by decide)) (Eq.trans (if_neg (by decide)) (Eq.trans (if_neg (by decide)) (Eq.trans (if_neg (by decide)) me))), Eq.trans (if_neg (by decide)) (Eq.trans (if_neg (by decide)) (Eq.trans (if_neg (by decide)) (Eq.trans (if_neg (by decide)) mp))), Eq.trans (if_neg (by decide)) (Eq.trans (if_neg (by decide)) (Eq.trans (if_neg (by decide)) (Eq.trans (if_neg (by decide)) ms)))⟩
    · intro p hp
      rcases List.mem_cons.mp hp with rfl | hp
      · exact hIt
      · exact (List.mem_filter.mp hp).1
    · rw [hnb, hreglen, hxl, Nat.min_eq_left hz.2, cR, hXX]
      congr 1
      exact List.take_of_length_le (by rw [List.length_drop, hreglen]; exact Nat.le_refl _)
  clear F7 N7 R7
  intro m₁ nx h12 tk12 hJ F8 N8
  obtain ⟨rb', rt', el, hrb', M1, hel, held, helf, hkeep, me, mp, ms⟩ := hJ
  have hoi : KBa.In (cO w.params KE z reg data n) := cO_in hdi
  have hol : (cO w.params KE z reg data n).length ≤ 1000 := by rw [cO_len hn hz.2 (Nat.le_refl n), Nat.mul_comm]; lia
  try dsimp only
  k_extra "STEPSX"
  rename KBw.bInts _ = cO _ _ _ _ _ _ => hob
  exact hret _ _ _ _ (by assumption) (by assumption) ⟨_, _, rfl, hob, M1.toMode hrb', hkeep⟩
end

theorem stepsPf : True := by
  k_with "STEPSX" => (repeat' (first | (k_unfold; (try dsimp only)) | (((fail_if_success (with_reducible show wpAny _ _ (setAttr _ _ _) _ _ _)); (fail_if_success (with_reducible show wpAny _ _ (exec (Stmt.For _ _ _ _ _) _) _ _ _)); (fail_if_success (with_reducible show wpAny _ _ (exec (Stmt.While _ _ _ _) _) _ _ _)); (fail_if_success (with_reducible show wpAny _ _ (exec (Stmt.Assign _ (Expr.ListComp _ _ _ _) _) _) _ _ _)); (fail_if_success (with_reducible show wpAny _ _ (eval (Expr.ListComp _ _ _ _) _) _ _ _)); (fail_if_success (with_reducible show LCg.CompSrc _ _ _ _ _ _ _ _ _ _ _ _ _ _)); (fail_if_success (with_reducible show wpAny _ _ (pyIter _) _ _ _)); (fail_if_success (with_reducible show RPost _ _ _ _ _ _ _ _ _)); (fail_if_success (with_reducible show CPost _ _ _ _ _ _ _ _)); (fail_if_success (with_reducible show Exists _)); (fail_if_success (with_reducible show CPostJ _ _ _ _ _ _ _ _ _ _ _ _ _)); (fail_if_success (with_reducible show WhileStep2 _ _ _ _ _ _ _ _)); first | walk1 | (dsimp only; walk1)) <;> ((try dsimp only [List.cons_append, List.nil_append]); (try k_fold)))))
  exact trivial
section
variable {prog : Program} {w : World} {A : Around} {E : Value → Shared → Prop} {s : Shared} {b : Array UInt8} {t : Tok}
theorem bb_has : typeLookup (.type "bytes") "__bytes__" = pure (some (.builtin "bytes.__bytes__")) := by rw [typeLookup_type, builtinLookup_eq_fast]; kernel_rfl
theorem bb_new {Q : Value → Shared → Prop} (h : Q (.bytes b t) s) :
    codeAny (model prog w) A (.call (.builtin "bytes.__new__") ⟨[.type "bytes", .bytes b t], []⟩) (wants Q E) s := by
  refine codeAny_of_tree ?_
  show wpAny _ A.in1 (do checkBuiltinCall "bytes.__new__" ⟨[.type "bytes", .bytes b t], []⟩; again (.builtin "bytes.__new__" ⟨[.type "bytes", .bytes b t], []⟩)) _ _ s
  refine wpAny_bind (wpAny_of_eq (F.bm_newCall _) (wpAny_pure ⟨plainId_quiet F.bm_plain _, codeAny_builtin F.bm_entry ?_⟩))
  rw [Around.under_plainId F.bm_plain _]
  have hT : s.TypeIs (.bytes b t) "bytes" := typeIs_bytes s b t
  unfold Builtin.«bytes.__new__»
  refine wpAny_bind (wpAny_of_eq (a := true) rfl ?_)
  refine bm_if_false rfl ?_
  refine wpAny_bind (wpAny_of_eq F.bm_sub ?_)
  refine bm_if_false rfl ?_
  refine wpAny_bind (wpAny_of_eq (F.bm_bind _) ?_)
  refine wpAny_bind (wpAny_of_eq (a := ()) rfl ?_)
  refine wpAny_bind (wpAny_of_eq (a := ()) rfl ?_)
  refine bm_if_false rfl ?_
  refine wpAny_bind (wpAny_specialOf hT bb_has ?_)
  refine wpAny_bind (wpAny_rule ?_)
  refine wpAny_bind (wpAny_of_eq (a := Value.type "bytes") rfl ?_)
  refine bm_if_true (by decide +kernel) ?_
  show wpAny _ _ (if (Value.type "bytes" == Value.type "bytes") = true then _ else _) _ _ _
  refine bm_if_true (by decide +kernel) ?_
  first | exact wpAny_pure ⟨_, rfl, h⟩ | exact wpAny_pure h | (refine wpAny_bind (wpAny_pure ?_); first | exact wpAny_pure h | exact wpAny_pure ⟨_, rfl, h⟩)
theorem call_bb {Q : Value → Shared → Prop} (h : Q (.bytes b t) s) : wpAny (model prog w) A (call (.type "bytes") [.bytes b t]) Q E s := by
  refine callType_codes (Q₁ := fun obj s₁ => s₁.TypeIs obj "bytes" ∧ Q obj s₁) F.bm_called (F.bm_typeCall _) F.entry_object_init
    (bb_new ⟨typeIs_bytes _ _ _, h⟩) fun obj s₁ h₁ => ?_
  exact ⟨h₁.1, F.args_object_init_2 obj _, object_init_meets F.bm_called.init.lookup F.bm_called.made (by decide) prog w A.in1 _ s₁ ⟨h₁.1, rfl, h₁.2⟩⟩
end
section
local macro_rules | `(tactic| ktr_rel) => `(tactic| first | assumption | exact rd_eq | (refine' rd_ne ?rn ?rv; (case rn => decide); (case rv => ktr_rel)) | (refine' IL.here ?ih; (case ih => assumption)) | (refine' IL.skip ?is; (case is => ktr_rel)) | (refine' KeAt.skip ?is; (case is => ktr_rel)) | (refine' Blk.skip ?is; (case is => ktr_rel)) | (refine' In.take ?is _; (case is => ktr_rel)) | (refine' In.drop ?is _; (case is => ktr_rel)))
local macro_rules | `(tactic| k_all) => `(tactic| exact allLt_ne (by assumption))
theorem wordsPf1 : True := by
  k_with_none
  k_with "STEPSX" => (repeat' (first | (k_unfold; (try dsimp only)) | (((fail_if_success (with_reducible show wpAny _ _ (setAttr _ _ _) _ _ _)); (fail_if_success (with_reducible show wpAny _ _ (exec (Stmt.For _ _ _ _ _) _) _ _ _)); (fail_if_success (with_reducible show wpAny _ _ (exec (Stmt.While _ _ _ _) _) _ _ _)); (fail_if_success (with_reducible show wpAny _ _ (exec (Stmt.Assign _ (Expr.ListComp _ _ _ _) _) _) _ _ _)); (fail_if_success (with_reducible show wpAny _ _ (eval (Expr.ListComp _ _ _ _) _) _ _ _)); (fail_if_success (with_reducible show LCg.CompSrc _ _ _ _ _ _ _ _ _ _ _ _ _ _)); (fail_if_success (with_reducible show wpAny _ _ (pyIter _) _ _ _)); (fail_if_success (with_reducible show RPost _ _ _ _ _ _ _ _ _)); (fail_if_success (with_reducible show CPost _ _ _ _ _ _ _ _)); (fail_if_success (with_reducible show Exists _)); (fail_if_success (with_reducible show CPostJ _ _ _ _ _ _ _ _ _ _ _ _ _)); (fail_if_success (with_reducible show WhileStep2 _ _ _ _ _ _ _ _)); first | walk1 | (dsimp only; walk1)) <;> ((try dsimp only [List.cons_append, List.nil_append]); (try k_fold)))))
  k_with "subscriptTail" => (k_here; (with_reducible show wpAny _ _ (subscriptTail _ _ (Value.ref _) (Value.int _ _)) _ _ _); k_dflt (refine' item_IL ?qqN ?qqm ?qqa ?qqb ?qqc ?_; (case qqN => k_asm); (case qqm => ktr_rel); (case qqa => lia); (case qqb => lia); (case qqc => lia); k_whole); intro _)
  k_with "call builtin:len" => (k_here; (with_reducible show wpAny _ _ (call (Value.builtin "len") [Value.ref _]) _ _ _); k_dflt (refine' len_IL ?qqN ?qqm ?qqz ?_; (case qqN => k_asm); (case qqm => ktr_rel); (case qqz => lia); k_whole); intro _ _)
  k_with "ite" => (k_here; first | (refine ite_neg (by (simp only [bne_iff_ne, beq_iff_eq, decide_eq_true_eq, ne_eq, Decidable.not_not]; lia)) ?_) | (refine ite_pos (by (simp only [bne_iff_ne, beq_iff_eq, decide_eq_true_eq, ne_eq, Decidable.not_not]; lia)) ?_))
  k_with "eval Name" => (k_here; name_kind "local"; (with_reducible show wpAny _ _ (eval (Expr.Name _ _) (compEnvC _ _ _ _)) _ _ _); k_dflt (refine LCgL.ld_own (by k_asm) (by k_mem) (by assumption) (by assumption) ?_))
  k_with "eval Name" => (k_here; name_kind "globalImplicit"; (with_reducible show wpAny _ _ (eval (Expr.Name _ _) (compEnvC _ _ _ _)) _ _ _); k_dflt (refine LCgL.ld_global (by k_asm) (by k_asm) (by k_asm) (by k_is) ?_))
  k_with "eval Name" => (k_here; name_kind "free"; (with_reducible show wpAny _ _ (eval (Expr.Name _ _) (compEnvC _ _ _ _)) _ _ _); k_dflt (refine' ld_cell ?qqN ?qqc ?qqm ?qqd ?_ ?qqe ?qqf ?qqg; (case qqe => rfl); (case qqf => rfl); (case qqg => decide); (case qqN => k_asm); (case qqc => rfl); (case qqm => k_mem); (case qqd => k_asm); k_whole))
  k_with "eval Name" => (k_here; name_kind "local"; (fail_if_success (with_reducible show wpAny _ _ (eval (Expr.Name _ _) (compEnvC _ _ _ _)) _ _ _)); (with_reducible rename Fr _ _ _ _ => kF); k_dflt (refine' nameX_L kF ?qqv ?_ ?qqa ?qqb; (case qqa => rfl); (case qqb => rfl); (case qqv => ktr_rel); k_whole))
  k_with "subscriptTail" => (k_here; (with_reducible show wpAny _ _ (subscriptTail _ (Expr.Slice (some _) (some _) none _) (Value.ref _) (Value.ref _)) _ _ _); k_dflt (refine' slice_run' ?qqF ?qqN ?qqm ?qqz ?qqa ?qqb ?_; (case qqF => k_asm); (case qqN => k_asm); (case qqm => ktr_rel); (case qqz => lia); (case qqa => lia); (case qqb => lia); k_whole); intro D' h' F' ws' hw' N' l1; (try k_lt l1); (try k_sweep))
  k_with "call builtin:len" => (k_here; k_dflt (refine' len_blk ?qqN ?qqm ?qqz ?_; (case qqN => k_asm); (case qqm => ktr_rel); (case qqz => lia); k_whole); intro _ _)
  k_with "subscriptTail" => (k_here; (with_reducible show wpAny _ _ (subscriptTail _ (Expr.Slice (some _) (some _) none _) _ (Value.ref _)) _ _ _); k_dflt (refine' slice_blk' ?qqe ?qqF ?qqN ?qqm ?qqz ?qqa ?qqb ?_; (case qqe => exact ⟨_, _, _, _, _, rfl, rfl⟩); (case qqF => k_asm); (case qqN => k_asm); (case qqm => ktr_rel); (case qqz => lia); (case qqa => lia); (case qqb => lia); k_whole); intro v' h' k' led' F' N' hs' hb')
  k_with "call ref" => (k_here; k_dflt (refine' Tells.use (compactV _ _ _ _ ?qqhl ?qqh4 ?qqhi) ?qqB ?qqF ?qqX ?qqN ?qqT ?qqhk ?qqhd ?qqhu ?_; (case qqB => k_asm); (case qqF => k_asm); (case qqX => k_asm); (case qqN => k_asm); (case qqT => k_asm); (case qqhk => rfl); (case qqhl => ktr_rel); (case qqh4 => (simp only [List.length_take, List.length_drop]; lia)); (case qqhi => ktr_rel); (case qqhd => first | lia | (dsimp only [ktrTop, Around.deeper]; lia)); (case qqhu => first | lia | (dsimp only [ktrTop, Around.deeper]; lia))); intro v' news' h' tk' F' Nq' hO'; (obtain ⟨hO1, t', hO2⟩ := hO'; subst hO1; subst hO2); (have N9' := drop_led Nq' (by assumption)); (try dsimp only); (try k_sweep))
  k_with "call type:list" => (k_here; (with_reducible show wpAny _ _ (call (Value.type "list") [Value.ref _]) _ _ _); k_dflt (refine' copy_IL ?qqF ?qqN ?qqm ?qqz ?_; (case qqF => k_asm); (case qqN => k_asm); (case qqm => ktr_rel); (case qqz => lia); k_whole); intro D' c' h' vs' hv' F' N' l1; (try k_lt l1); (try k_sweep))
  k_with "setItem ref int" => (k_here; (with_reducible show wpAny _ _ (setItem (Value.ref _) (Value.int _ _) (Value.int _ _)) _ _ _); k_dflt (refine' set_IL ?qqk1 ?qqk2 ?qqk3 ?qqk4 ?qqk5 ?qqk6 ?qqk7 ?_; (case qqk1 => k_asm); (case qqk2 => k_asm); (case qqk3 => k_upd); (case qqk4 => with_reducible assumption); (case qqk5 => lia); (case qqk6 => lia); (case qqk7 => lia); k_whole); intro h' F' N' hi'; (try k_sweep))
  k_with "subscriptTail" => (k_here; (with_reducible show wpAny _ _ (subscriptTail _ _ (Value.ref _) (Value.int _ _)) _ _ _); k_dflt (refine' item_tab ?qqF ?qqX ?qqo ?qqa ?qqb ?qqc ?_; (case qqF => k_asm); (case qqX => k_asm); (case qqo => with_reducible (first | exact tab_S _ | exact tab_T1 _ | exact tab_T2 _ | exact tab_T3 _ | exact tab_T4 _)); (case qqa => exact (and255 _).1); (case qqb => exact (and255 _).2); (case qqc => decide); k_whole); intro _)
  k_with "binaryOp Mod int int" => (k_here; (with_reducible refine mod_pos (by first | decide | lia) ?_))
  k_with "call builtin:list.append" => (k_here; (with_reducible show wpAny _ _ (call (Value.builtin _) [Value.ref _, Value.int _ _]) _ _ _); k_dflt (refine' append_IL ?qqk1 ?qqk2 ?qqk3 ?qqk4 ?qqk5 ?_; (case qqk1 => k_asm); (case qqk2 => k_asm); (case qqk3 => k_upd); (case qqk4 => with_reducible assumption); (case qqk5 => ((try simp only [List.length_append, List.length_cons, List.length_nil]); lia)); k_whole); intro h' F' N' hi'; (try k_sweep))
  k_with "call type:range" => (k_here; (first | (with_reducible show wpAny _ _ (call _ [_]) _ _ _) | (with_reducible show wpAny _ _ (call _ [_, _]) _ _ _)); (rename Fr _ _ _ _ => F'); (rename News _ _ _ _ => N'); (first | (with_unfolding_all refine range1_rows F' N' ?_) | (with_unfolding_all refine range2_rows F' N' ?_)); intro _ _ _ _ _ _ _ _ _)
  k_with "subscriptTail" => (k_here; (with_reducible show wpAny _ _ (subscriptTail _ (Expr.Slice _ _ none _) (Value.bytes _ _) (Value.ref _)) _ _ _); k_dflt (refine' slice_b' ?qqF ?qqN ?qqk ?qql ?qqu ?qqz ?_; (case qqF => k_asm); (case qqN => k_asm); (case qqk => kba_ints); (case qql => constructor); (case qqu => constructor); (case qqz => kba_size); k_whole); intro _ _ _ _ _ kbcK; (try simp only [Option.elim, KBc.clip_lit, clipAt_nat, List.drop_zero, Nat.sub_zero] at kbcK))
  k_with "call type:bytes" => (k_here; (with_reducible show wpAny _ _ (call (Value.type "bytes") [Value.ref _]) _ _ _); k_dflt (refine' mk_IL ?qqF ?qqN ?qqhh ?qqm ?qqr ?qqz ?_; (case qqhh => rfl); (case qqF => k_asm); (case qqN => k_asm); (case qqm => ktr_rel); (case qqr => ktr_rel); (case qqz => lia); k_whole); intro b' h' t' k' F' N' hb'; (try k_sweep))
  k_with "binaryOp Add bytes bytes" => (k_here; k_dflt (refine' KBa.add_K ?qqb ?qqc ?qqz ?_; (case qqb => with_reducible assumption); (case qqc => with_reducible assumption); (case qqz => lia); k_whole); intro t' k' hb')
  k_with "call type:bytes" => (k_here; (with_reducible show wpAny _ _ (call (Value.type "bytes") [Value.bytes _ _]) _ _ _); k_dflt (refine call_bb ?_))
  exact trivial
set_option maxHeartbeats 8000000 in
theorem catBV (w : World) (news : List (Addr × Obj)) (b : Array UInt8) (t : Tok) (rs : List Int) (hb : KBw.bInts b = rs) (hr : rs.length ≤ 1000) (b2 : Array UInt8) (t2 : Tok) (ks : List Int) (hb2 : KBw.bInts b2 = ks) (hz : ks.length ≤ 1000) :
   Tells w 47 [.bytes b t, .bytes b2 t2] 1 news fun v news' => news' = news ∧ ∃ b t, v = .bytes b t ∧ KBw.bInts b = rs ++ ks := by
  unfold Tells; k_fill; intro loose mean mg mb dp un gd cn cs a ccd cl outer A₀ base h₀ L m s Q E B F X N T hk hd hu hret
  refine wpAny_call ?_; k_dflt (refine' code_def (binds := [(Str.ofString "a", Value.bytes b t), (Str.ofString "b", Value.bytes b2 t2)]) ?k1 ?k2 ?k3 ?k4 ?k5 ?kA ?kF ?kK ?k6 ?k7 ?k8 ?k9 ?kB ?_ ?c2 ?c3 ?c4 ?c5; (case kA => exact rfl); (case kF => exact rfl); (case kK => assumption); (case k1 => exact B); (case k2 => exact F); (case k3 => exact X); (case k4 => exact N); (case k5 => exact T); (case k6 => k_is); (case k7 => k_is); (case k8 => ktr_room); (case k9 => first | exact BindsTo.of_eq rfl | exact binds_K (by k_in) rfl (by k_is) rfl rfl rfl); (case c5 => decide); (case kB => exact locs rfl); (case c2 => exact rfl); (case c3 => exact rfl); (case c4 => exact rfl)); intro g1 L1 h1 FG1 F1 N1 B1 X1 T1; (try dsimp only); (try k_fold)
  k_extra "STEPSX"
  exact hret _ _ _ _ (by assumption) (by assumption) ⟨rfl, _, _, rfl, by assumption⟩
end
section
local macro_rules | `(tactic| ktr_rel) => `(tactic| first | assumption | exact rd_eq | (refine' rd_ne ?rn ?rv; (case rn => decide); (case rv => ktr_rel)) | (refine' IL.here ?ih; (case ih => assumption)) | (refine' IL.skip ?is; (case is => ktr_rel)) | (refine' KeAt.skip ?is; (case is => ktr_rel)) | (refine' Blk.skip ?is; (case is => ktr_rel)) | (refine' In.take ?is _; (case is => ktr_rel)) | (refine' In.drop ?is _; (case is => ktr_rel)))
local macro_rules | `(tactic| k_all) => `(tactic| exact allLt_ne (by assumption))
local macro_rules | `(tactic| ktr_rel) => `(tactic| (refine' MJ.skip ?is; (case is => ktr_rel)))
local macro_rules | `(tactic| k_mem) => `(tactic| with_reducible assumption)
theorem wordsPf2 : True := by
  k_with_none
  k_with "STEPSX" => (repeat' (first | (k_unfold; (try dsimp only)) | (((fail_if_success (with_reducible show wpAny _ _ (setAttr _ _ _) _ _ _)); (fail_if_success (with_reducible show wpAny _ _ (exec (Stmt.For _ _ _ _ _) _) _ _ _)); (fail_if_success (with_reducible show wpAny _ _ (exec (Stmt.While _ _ _ _) _) _ _ _)); (fail_if_success (with_reducible show wpAny _ _ (exec (Stmt.Assign _ (Expr.ListComp _ _ _ _) _) _) _ _ _)); (fail_if_success (with_reducible show wpAny _ _ (eval (Expr.ListComp _ _ _ _) _) _ _ _)); (fail_if_success (with_reducible show LCg.CompSrc _ _ _ _ _ _ _ _ _ _ _ _ _ _)); (fail_if_success (with_reducible show wpAny _ _ (pyIter _) _ _ _)); (fail_if_success (with_reducible show RPost _ _ _ _ _ _ _ _ _)); (fail_if_success (with_reducible show CPost _ _ _ _ _ _ _ _)); (fail_if_success (with_reducible show Exists _)); (fail_if_success (with_reducible show CPostJ _ _ _ _ _ _ _ _ _ _ _ _ _)); (fail_if_success (with_reducible show WhileStep2 _ _ _ _ _ _ _ _)); first | walk1 | (dsimp only; walk1)) <;> ((try dsimp only [List.cons_append, List.nil_append]); (try k_fold)))))
  k_with "subscriptTail" => (k_here; (with_reducible show wpAny _ _ (subscriptTail _ _ (Value.ref _) (Value.int _ _)) _ _ _); k_dflt (refine' item_IL ?qqN ?qqm ?qqa ?qqb ?qqc ?_; (case qqN => k_asm); (case qqm => ktr_rel); (case qqa => lia); (case qqb => lia); (case qqc => lia); k_whole); intro _)
  k_with "call builtin:len" => (k_here; (with_reducible show wpAny _ _ (call (Value.builtin "len") [Value.ref _]) _ _ _); k_dflt (refine' len_IL ?qqN ?qqm ?qqz ?_; (case qqN => k_asm); (case qqm => ktr_rel); (case qqz => lia); k_whole); intro _ _)
  k_with "ite" => (k_here; first | (refine ite_neg (by (simp only [bne_iff_ne, beq_iff_eq, decide_eq_true_eq, ne_eq, Decidable.not_not]; lia)) ?_) | (refine ite_pos (by (simp only [bne_iff_ne, beq_iff_eq, decide_eq_true_eq, ne_eq, Decidable.not_not]; lia)) ?_))
  k_with "eval Name" => (k_here; name_kind "local"; (with_reducible show wpAny _ _ (eval (Expr.Name _ _) (compEnvC _ _ _ _)) _ _ _); k_dflt (refine LCgL.ld_own (by k_asm) (by k_mem) (by assumption) (by assumption) ?_))
  k_with "eval Name" => (k_here; name_kind "globalImplicit"; (with_reducible show wpAny _ _ (eval (Expr.Name _ _) (compEnvC _ _ _ _)) _ _ _); k_dflt (refine LCgL.ld_global (by k_asm) (by k_asm) (by k_asm) (by k_is) ?_))
  k_with "eval Name" => (k_here; name_kind "free"; (with_reducible show wpAny _ _ (eval (Expr.Name _ _) (compEnvC _ _ _ _)) _ _ _); k_dflt (refine' ld_cell ?qqN ?qqc ?qqm ?qqd ?_ ?qqe ?qqf ?qqg; (case qqe => rfl); (case qqf => rfl); (case qqg => decide); (case qqN => k_asm); (case qqc => rfl); (case qqm => k_mem); (case qqd => k_asm); k_whole))
  k_with "eval Name" => (k_here; name_kind "local"; (fail_if_success (with_reducible show wpAny _ _ (eval (Expr.Name _ _) (compEnvC _ _ _ _)) _ _ _)); (with_reducible rename Fr _ _ _ _ => kF); k_dflt (refine' nameX_L kF ?qqv ?_ ?qqa ?qqb; (case qqa => rfl); (case qqb => rfl); (case qqv => ktr_rel); k_whole))
  k_with "subscriptTail" => (k_here; (with_reducible show wpAny _ _ (subscriptTail _ (Expr.Slice (some _) (some _) none _) (Value.ref _) (Value.ref _)) _ _ _); k_dflt (refine' slice_run' ?qqF ?qqN ?qqm ?qqz ?qqa ?qqb ?_; (case qqF => k_asm); (case qqN => k_asm); (case qqm => ktr_rel); (case qqz => lia); (case qqa => lia); (case qqb => lia); k_whole); intro D' h' F' ws' hw' N' l1; (try k_lt l1); (try k_sweep))
  k_with "call builtin:len" => (k_here; k_dflt (refine' len_blk ?qqN ?qqm ?qqz ?_; (case qqN => k_asm); (case qqm => ktr_rel); (case qqz => lia); k_whole); intro _ _)
  k_with "subscriptTail" => (k_here; (with_reducible show wpAny _ _ (subscriptTail _ (Expr.Slice (some _) (some _) none _) _ (Value.ref _)) _ _ _); k_dflt (refine' slice_blk' ?qqe ?qqF ?qqN ?qqm ?qqz ?qqa ?qqb ?_; (case qqe => exact ⟨_, _, _, _, _, rfl, rfl⟩); (case qqF => k_asm); (case qqN => k_asm); (case qqm => ktr_rel); (case qqz => lia); (case qqa => lia); (case qqb => lia); k_whole); intro v' h' k' led' F' N' hs' hb')
  k_with "call ref" => (k_here; k_dflt (refine' Tells.use (compactV _ _ _ _ ?qqhl ?qqh4 ?qqhi) ?qqB ?qqF ?qqX ?qqN ?qqT ?qqhk ?qqhd ?qqhu ?_; (case qqB => k_asm); (case qqF => k_asm); (case qqX => k_asm); (case qqN => k_asm); (case qqT => k_asm); (case qqhk => rfl); (case qqhl => ktr_rel); (case qqh4 => (simp only [List.length_take, List.length_drop]; lia)); (case qqhi => ktr_rel); (case qqhd => first | lia | (dsimp only [ktrTop, Around.deeper]; lia)); (case qqhu => first | lia | (dsimp only [ktrTop, Around.deeper]; lia))); intro v' news' h' tk' F' Nq' hO'; (obtain ⟨hO1, t', hO2⟩ := hO'; subst hO1; subst hO2); (have N9' := drop_led Nq' (by assumption)); (try dsimp only); (try k_sweep))
  k_with "call type:list" => (k_here; (with_reducible show wpAny _ _ (call (Value.type "list") [Value.ref _]) _ _ _); k_dflt (refine' copy_IL ?qqF ?qqN ?qqm ?qqz ?_; (case qqF => k_asm); (case qqN => k_asm); (case qqm => ktr_rel); (case qqz => lia); k_whole); intro D' c' h' vs' hv' F' N' l1; (try k_lt l1); (try k_sweep))
  k_with "setItem ref int" => (k_here; (with_reducible show wpAny _ _ (setItem (Value.ref _) (Value.int _ _) (Value.int _ _)) _ _ _); k_dflt (refine' set_IL ?qqk1 ?qqk2 ?qqk3 ?qqk4 ?qqk5 ?qqk6 ?qqk7 ?_; (case qqk1 => k_asm); (case qqk2 => k_asm); (case qqk3 => k_upd); (case qqk4 => with_reducible assumption); (case qqk5 => lia); (case qqk6 => lia); (case qqk7 => lia); k_whole); intro h' F' N' hi'; (try k_sweep))
  k_with "subscriptTail" => (k_here; (with_reducible show wpAny _ _ (subscriptTail _ _ (Value.ref _) (Value.int _ _)) _ _ _); k_dflt (refine' item_tab ?qqF ?qqX ?qqo ?qqa ?qqb ?qqc ?_; (case qqF => k_asm); (case qqX => k_asm); (case qqo => with_reducible (first | exact tab_S _ | exact tab_T1 _ | exact tab_T2 _ | exact tab_T3 _ | exact tab_T4 _)); (case qqa => exact (and255 _).1); (case qqb => exact (and255 _).2); (case qqc => decide); k_whole); intro _)
  k_with "binaryOp Mod int int" => (k_here; (with_reducible refine mod_pos (by first | decide | lia) ?_))
  k_with "call builtin:list.append" => (k_here; (with_reducible show wpAny _ _ (call (Value.builtin _) [Value.ref _, Value.int _ _]) _ _ _); k_dflt (refine' append_IL ?qqk1 ?qqk2 ?qqk3 ?qqk4 ?qqk5 ?_; (case qqk1 => k_asm); (case qqk2 => k_asm); (case qqk3 => k_upd); (case qqk4 => with_reducible assumption); (case qqk5 => ((try simp only [List.length_append, List.length_cons, List.length_nil]); lia)); k_whole); intro h' F' N' hi'; (try k_sweep))
  k_with "call type:range" => (k_here; (first | (with_reducible show wpAny _ _ (call _ [_]) _ _ _) | (with_reducible show wpAny _ _ (call _ [_, _]) _ _ _)); (rename Fr _ _ _ _ => F'); (rename News _ _ _ _ => N'); (first | (with_unfolding_all refine range1_rows F' N' ?_) | (with_unfolding_all refine range2_rows F' N' ?_)); intro _ _ _ _ _ _ _ _ _)
  k_with "subscriptTail" => (k_here; (with_reducible show wpAny _ _ (subscriptTail _ (Expr.Slice _ _ none _) (Value.bytes _ _) (Value.ref _)) _ _ _); k_dflt (refine' slice_b' ?qqF ?qqN ?qqk ?qql ?qqu ?qqz ?_; (case qqF => k_asm); (case qqN => k_asm); (case qqk => kba_ints); (case qql => constructor); (case qqu => constructor); (case qqz => kba_size); k_whole); intro _ _ _ _ _ kbcK; (try simp only [Option.elim, KBc.clip_lit, clipAt_nat, List.drop_zero, Nat.sub_zero] at kbcK))
  k_with "call type:bytes" => (k_here; (with_reducible show wpAny _ _ (call (Value.type "bytes") [Value.ref _]) _ _ _); k_dflt (refine' mk_IL ?qqF ?qqN ?qqhh ?qqm ?qqr ?qqz ?_; (case qqhh => rfl); (case qqF => k_asm); (case qqN => k_asm); (case qqm => ktr_rel); (case qqr => ktr_rel); (case qqz => lia); k_whole); intro b' h' t' k' F' N' hb'; (try k_sweep))
  k_with "binaryOp Add bytes bytes" => (k_here; k_dflt (refine' KBa.add_K ?qqb ?qqc ?qqz ?_; (case qqb => with_reducible assumption); (case qqc => with_reducible assumption); (case qqz => lia); k_whole); intro t' k' hb')
  k_with "eval Call" => (k_here; (with_reducible show wpAny _ _ (eval (Expr.Call (Expr.Name _ _) _ [] _) _) _ _ _); (fail_if_success (with_reducible show wpAny _ _ (eval _ (compEnvC _ _ _ _)) _ _ _)); k_dflt (refine Call_ ?_))
  k_with "getAttr ref" => (k_here; (with_reducible show wpAny _ _ (getAttr (Value.ref _) (PySem.Str.ofString "_shift_register") _) _ _ _); k_dflt (refine' mj_reg ?qqF ?qqX ?qqN ?qqM ?_; (case qqF => k_asm); (case qqX => k_asm); (case qqN => k_asm); (case qqM => ktr_rel); k_whole); intro _)
  k_with "getAttr ref" => (k_here; (with_reducible show wpAny _ _ (getAttr (Value.ref _) (PySem.Str.ofString "_segment_bytes") _) _ _ _); k_dflt (refine' mj_seg ?qqF ?qqX ?qqN ?qqM ?_; (case qqF => k_asm); (case qqX => k_asm); (case qqN => k_asm); (case qqM => ktr_rel); k_whole); intro _)
  k_with "getAttr ref" => (k_here; (with_reducible show wpAny _ _ (getAttr (Value.ref _) (PySem.Str.ofString "_aes") _) _ _ _); k_dflt (refine' mj_aes ?qqF ?qqX ?qqN ?qqM ?_; (case qqF => k_asm); (case qqX => k_asm); (case qqN => k_asm); (case qqM => ktr_rel); k_whole); intro _)
  k_with "getMethod ref" => (k_here; (with_reducible show wpAny _ _ (getMethod (Value.ref _) (PySem.Str.ofString "encrypt") _) _ _ _); k_dflt (refine' ke_method ?qqF ?qqX ?qqN ?qqK ?_; (case qqF => k_asm); (case qqX => k_asm); (case qqN => k_asm); (case qqK => ktr_rel); k_whole))
  k_with "call type:zip" => (k_here; k_dflt (refine' zip_IL ?qqF ?qqN ?qqm ?_; (case qqF => k_asm); (case qqN => k_asm); (case qqm => k_mem); k_whole); intro h' z' F' N' zR')
  k_with "subscriptTail" => (k_here; (with_reducible show wpAny _ _ (subscriptTail _ (Expr.Slice none (some _) none _) (Value.ref _) (Value.ref _)) _ _ _); k_dflt (refine' slice_upto' ?qqF ?qqN ?qqm ?qqz ?qqb ?_; (case qqF => k_asm); (case qqN => k_asm); (case qqm => ktr_rel); (case qqz => lia); (case qqb => lia); k_whole); intro D' h' F' ws' hw' N' l1; (try k_lt l1); (try k_sweep))
  k_with "call ref" => (k_here; k_dflt (refine' Tells.use (encV _ _ _ _ _ _ _ _ _ _ _ _ _ _ _ ?qqhl ?qqh16 ?qqhi ?qqhK ?qqhR) ?qqB ?qqF ?qqX ?qqN ?qqT ?qqhkk ?qqhd ?qqhu ?_; (case qqB => k_asm); (case qqF => k_asm); (case qqX => k_asm); (case qqN => k_asm); (case qqT => k_asm); (case qqhK => ktr_rel); (case qqhl => ktr_rel); (case qqh16 => with_reducible assumption); (case qqhi => with_reducible assumption); (case qqhR => with_reducible assumption); (case qqhkk => rfl); (case qqhd => first | decide | lia | (dsimp only [ktrTop, Around.deeper]; lia) | (simp only [depth_under_make, depth_deeper, ktrTop]; lia) | ktr_room); (case qqhu => first | decide | lia | (dsimp only [ktrTop, Around.deeper]; lia) | (simp only [units_under_make, units_deeper, ktrTop]; lia) | ktr_units)); intro v' news' h' tk' F' N' hO'; (obtain ⟨D', vs', n', hO1, hO2, hO3, hO4⟩ := hO'; subst hO1; subst hO2); (try dsimp only))
  k_with "subscriptTail Name Slice ref ref" => (k_here; (with_reducible show wpAny _ _ (subscriptTail _ (Expr.Slice none (some _) none _) (Value.ref _) (Value.ref _)) _ _ _); k_dflt (refine' slice_upto' ?qqF ?qqN ?qqm ?qqz ?qqb ?_; (case qqF => k_asm); (case qqN => k_asm); (case qqm => ktr_rel); (case qqz => lia); (case qqb => lia); k_whole); intro D' h' F' ws' hw' N' l1; (try k_lt l1); (try k_sweep))
  k_with "call builtin:list.extend" => (k_here; k_dflt (refine' extend_foc ?qqF ?qqN ?qqD ?qql ?qqz ?_; (case qqF => k_asm); (case qqN => k_asm); (case qqD => ktr_rel); (case qql => ktr_rel); (case qqz => lia); k_whole); intro h' o' F' N' hE')
  k_with "call ref" => (k_here; k_dflt (refine' Tells.use (catBV _ _ _ _ _ ?qqhb ?qqhr _ _ _ ?qqhb2 ?qqhz) ?qqB ?qqF ?qqX ?qqN ?qqT ?qqhkk ?qqhd ?qqhu ?_; (case qqB => k_asm); (case qqF => k_asm); (case qqX => k_asm); (case qqN => k_asm); (case qqT => k_asm); (case qqhb2 => with_reducible assumption); (case qqhb => with_reducible assumption); (case qqhr => (simp only [List.length_take, List.length_drop]; lia)); (case qqhz => lia); (case qqhkk => rfl); (case qqhd => first | decide | lia | (dsimp only [ktrTop, Around.deeper]; lia) | (simp only [depth_under_make, depth_deeper, ktrTop]; lia) | ktr_room); (case qqhu => first | decide | lia | (dsimp only [ktrTop, Around.deeper]; lia) | (simp only [units_under_make, units_deeper, ktrTop]; lia) | ktr_units)); intro v' news' h' tk' F' N' hO'; (obtain ⟨hO1, b', t', hO2, hO3⟩ := hO'; replace hO1 := Eq.symm hO1; subst hO1; subst hO2); (try dsimp only); (try k_sweep))
  k_with "call ref" => (k_here; k_dflt (refine' Tells.use (btsV _ _ _ _ ?qqhl ?qqhi ?qqhz) ?qqB ?qqF ?qqX ?qqN ?qqT ?qqhkk ?qqhd ?qqhu ?_; (case qqB => k_asm); (case qqF => k_asm); (case qqX => k_asm); (case qqN => k_asm); (case qqT => k_asm); (case qqhl => ktr_rel); (case qqhi => with_reducible assumption); (case qqhz => lia); (case qqhkk => rfl); (case qqhd => first | decide | lia | (dsimp only [ktrTop, Around.deeper]; lia) | (simp only [depth_under_make, depth_deeper, ktrTop]; lia) | ktr_room); (case qqhu => first | decide | lia | (dsimp only [ktrTop, Around.deeper]; lia) | (simp only [units_under_make, units_deeper, ktrTop]; lia) | ktr_units)); intro v' news' h' tk' F' N' hO'; (obtain ⟨hO1, b', t', hO2, hO3⟩ := hO'; replace hO1 := Eq.symm hO1; subst hO1; subst hO2); (try dsimp only); (try k_sweep))
  k_with "call ref" => (k_here; k_dflt (refine' Tells.use (stbV _ _ _ _) ?qqB ?qqF ?qqX ?qqN ?qqT ?qqhkk ?qqhd ?qqhu ?_; (case qqB => k_asm); (case qqF => k_asm); (case qqX => k_asm); (case qqN => k_asm); (case qqT => k_asm);  (case qqhkk => rfl); (case qqhd => first | decide | lia | (dsimp only [ktrTop, Around.deeper]; lia) | (simp only [depth_under_make, depth_deeper, ktrTop]; lia) | ktr_room); (case qqhu => first | decide | lia | (dsimp only [ktrTop, Around.deeper]; lia) | (simp only [units_under_make, units_deeper, ktrTop]; lia) | ktr_units)); intro v' news' h' tk' F' N' hO'; (obtain ⟨hO1, hO2⟩ := hO'; replace hO1 := Eq.symm hO1; subst hO1; subst hO2); (try dsimp only); (try k_sweep))
  exact trivial
set_option maxHeartbeats 8000000 in
theorem decryptV (w : World) (led : List (Addr × Obj)) (c dc : Addr) (ad : List Addr) (reg : List Int) (z : Nat) (KE : List (List Int)) (hm : ModeAt led c dc ad reg z KE) (hreg : reg.length = 16) (hri : KBa.In reg) (hKE : 2 ≤ KE.length ∧ KE.length ≤ 15) (b : Array UInt8) (t : Tok) (data : List Int) (hb : KBw.bInts b = data) (n : Nat) (hn : data.length = z * n) (hz : 1 ≤ z ∧ z ≤ 16) (hn2 : n ≤ 60) :
   Tells w 372 [.ref c, .bytes b t] 4 led fun v led' => ∃ b' t', v = .bytes b' t' ∧ KBw.bInts b' = dO w.params KE z reg data n ∧ ModeAt led' c dc ad (dR w.params KE z reg data n) z KE ∧ ∀ p ∈ led, p.1 ≠ dc → p ∈ led' := by
  have hlen : data.length ≤ 960 := by rw [hn]; exact Nat.le_trans (Nat.mul_le_mul hz.2 hn2) (by decide)
  have hmod : ((data.length : Nat) : Int) % (z : Int) = 0 := by rw [hn]; push_cast; exact Int.mul_emod_right _ _
  have hdi : KBa.In data := fun k hk => KBw.ints_in (b := b) (by rw [hb]; exact hk)
  obtain ⟨x, dx, ke, kd, q1, q2, q3, p1, p2, k1, k2, k3, j1, j2, nke, rows, ts, rb, rt, rfl, hrb, M⟩ := hm.toMJ
  clear hm
  unfold Tells; k_fill; intro loose mean mg mb dp un gd cn cs a ccd cl outer A₀ base h₀ L m s Q E B F X N T hk hd hu hret
  refine wpAny_call ?_; k_dflt (refine' code_def (binds := [(Str.ofString "self", Value.ref c), (Str.ofString "ciphertext", Value.bytes b t)]) ?k1 ?k2 ?k3 ?k4 ?k5 ?kA ?kF ?kK ?k6 ?k7 ?k8 ?k9 ?kB ?_ ?c2 ?c3 ?c4 ?c5; (case kA => exact rfl); (case kF => exact rfl); (case kK => assumption); (case k1 => exact B); (case k2 => exact F); (case k3 => exact X); (case k4 => exact N); (case k5 => exact T); (case k6 => k_is); (case k7 => k_is); (case k8 => ktr_room); (case k9 => first | exact BindsTo.of_eq rfl | exact binds_K (by k_in) rfl (by k_is) rfl rfl rfl); (case c5 => decide); (case kB => exact locs rfl); (case c2 => exact rfl); (case c3 => exact rfl); (case c4 => exact rfl)); intro g1 L1 h1 FG1 F1 N1 B1 X1 T1; (try dsimp only); (try k_fold)
  have hz1 : 0 < (z : Int) := by lia
  k_extra "STEPSX"
  rename ∀ (p : Addr × Obj), p ∈ led → p.1 < _ => l1
  have hnz : n * z ≤ 960 := Nat.le_trans (Nat.mul_le_mul hn2 hz.2) (by decide)
  have e7 : ((data.length : Nat) : Int) = (n : Int) * (z : Int) := by rw [hn]; push_cast; exact Int.mul_comm _ _
  k_dflt (refine For_invV g1 (by rfl) (by rfl) ?_)
  k_extra "STEPSX"
  rename IsRange _ _ _ _ _ _ _ _ => R7
  rename Fr _ _ _ _ => F7
  rename News _ _ _ _ => N7
  rw [e7] at R7
  refine rng_inv (fun i m nx => ∃ (rb' : Array UInt8) (rt' : Tok) (el : Addr), KBw.bInts rb' = dR w.params KE z reg data i ∧ MJ nx c dc x dx ke kd q1 q2 q3 p1 p2 k1 k2 k3 j1 j2 nke rows KE z ts rb' rt' ∧ IL nx el (dO w.params KE z reg data i) ∧ el ∉ c :: dc :: x :: dx :: ke :: rows ∧ (∀ p ∈ led, (@Ne Nat p.1 el)) ∧ (∀ p ∈ led, p.1 ≠ dc → p ∈ nx) ∧ m (Str.ofString "decrypted") = some (.ref el) ∧ m (Str.ofString "ciphertext") = some (.bytes b t) ∧ m (Str.ofString "self") = some (.ref c)) (n := n) rfl R7 (small_step hz.1 (by lia) (by lia)) (rs_mul hz.1) F7 N7
    ⟨rb, rt, _, hrb, M.skip, ⟨[], 0, .head _, .nil⟩, (fun h => let ⟨o, ho⟩ := M.adr h; absurd (l1 _ ho) (Nat.lt_irrefl _)), (fun p hp => Nat.ne_of_lt (l1 p hp)), (fun p hp _ => .tail _ hp), if_pos rfl, Eq.trans (if_neg (by decide)) (if_pos rfl), by kernel_rfl⟩ ?_ ?_
  · clear F7 N7 R7
    intro I i it ti m₁ nx s₁ hi hJ off F8 N8 hs₁
    obtain ⟨rb', rt', el, hrb', M1, hel, held, helf, hkeep, me, mp, ms⟩ := hJ
    have hIadr : ∀ a ∈ c :: dc :: x :: dx :: ke :: rows, a ≠ I := fun a ha => let ⟨o, ho⟩ := M1.adr ha; off _ ho
    have hIel : el ≠ I := let ⟨_, _, hm, _⟩ := hel; off _ hm
    have hreglen : (dR w.params KE z reg data i).length = 16 := dR_len hreg hn hz.2 (by lia)
    have hregin : KBa.In (dR w.params KE z reg data i) := dR_in hri hdi
    obtain ⟨LED1, hL1⟩ : ∃ l, l = (I, it) :: nx := ⟨_, rfl⟩
    rw [← hL1] at N8
    have M2 : MJ LED1 c dc x dx ke kd q1 q2 q3 p1 p2 k1 k2 k3 j1 j2 nke rows KE z ts rb' rt' := hL1 ▸ M1.skip
    have hel2 : IL LED1 el (dO w.params KE z reg data i) := hL1 ▸ hel.skip
    have hK2 := M2.hK
    have hblk : Blk LED1 (.bytes rb' rt') (dR w.params KE z reg data i) := .inr ⟨rb', rt', rfl, hrb'⟩
    have hel16 : (encOf w.params KE (dR w.params KE z reg data i)).length = 16 := encOf_len _ _ _
    k_extra "STEPSX"
    have hi1 : z * i + z ≤ data.length := by rw [hn, ← Nat.mul_succ]; exact Nat.mul_le_mul_left z hi
    have e9 : (0 + (i : Int) * (z : Int)) = ((z * i : Nat) : Int) := by push_cast; rw [Int.zero_add, Int.mul_comm]
    have e8 : clipAt data.length (0 + (i : Int) * (z : Int)) = z * i := by rw [e9, clipAt_nat]; lia
    have e10 : clipAt data.length (0 + (i : Int) * (z : Int) + (z : Int)) = z * i + z := by rw [e9, show ((z * i : Nat) : Int) + (z : Int) = ((z * i + z : Nat) : Int) by push_cast; rfl, clipAt_nat]; lia
    rename KBw.bInts (KBy.picked _ _ _) = _ => kb
    rename IntsAre _ (List.take _ _) => hw
    rw [e10, e8, show z * i + z - z * i = z by lia] at kb
    rw [e10, e8, show ((min (z * i + z - z * i) (data.length - z * i) : Nat) : Int).toNat = z by lia] at hw
    change _ = seg z data i at kb
    have hsl : (seg z data i).length = z := seg_len hn hi
    have htl : ((encOf w.params KE (dR w.params KE z reg data i)).take z).length = z := by rw [List.length_take, encOf_len]; lia
    rename Fr _ _ _ _ => F9
    rename News _ _ _ _ => N9
    k_dflt (refine Assign_zip (fun j y => ∃ t, y = .int (Builtin.bitXor ((seg z data i).getD j 0) (((encOf w.params KE (dR w.params KE z reg data i)).take z).getD j 0)) t) F9 (by rfl) (by with_unfolding_all rfl) (by rfl) (by decide) (by rfl) (by decide) (by rfl) (by rfl) (by decide) (by rfl) (by rfl) (by rfl) ?_)
    k_extra "STEPSX"
    rename Fr _ _ _ _ => F10
    rename News _ _ _ _ => N10
    rename ZReady _ _ _ _ _ _ _ _ _ => zR
    refine ⟨_, _, _, _, _, _, rfl, F10, N10, zR, ?_, ?_, ?_, ?_⟩
    · rw [← KBw.ints_length, kb, hsl, hw.length, htl]
    · rw [← KBw.ints_length, kb, hsl, sizeLine_eq]; lia
    · intro j cc u v C oC m₂ s₂ E' hc hv hC hm1 hm2 F11 N11
      have g1' := KBw.ints_get hc
      rw [kb] at g1'
      have hjl : j < z := by have := List.getElem?_eq_some_iff.mp g1'; obtain ⟨q, _⟩ := this; lia
      have g2' : ((encOf w.params KE (dR w.params KE z reg data i)).take z)[j]? = some (((encOf w.params KE (dR w.params KE z reg data i)).take z).getD j 0) := by rw [List.getD_eq_getElem?_getD, List.getElem?_eq_getElem (by lia)]; rfl
      obtain ⟨tv, htv⟩ := hw.get _ _ g2'
      rw [hv] at htv
      injection htv with htv
      subst htv
      rw [show (((seg z data i).getD j 0 : Int)) = ((cc.toNat : Nat) : Int) by rw [List.getD_eq_getElem?_getD, g1']; rfl]
      clear F10 N10
      k_extra "STEPSX"
      all_goals exact ⟨_, rfl⟩
    intro us hul hup
    have hul' : us.length = z := by rw [hul, ← KBw.ints_length, kb, hsl]
    have hI := ints_of_all hul' hup
    have hxx : (List.range z).map (fun j => Builtin.bitXor ((seg z data i).getD j 0) (((encOf w.params KE (dR w.params KE z reg data i)).take z).getD j 0)) = xorL (seg z data i) ((encOf w.params KE (dR w.params KE z reg data i)).take z) := by rw [← xorL_eq, hsl, htl, Nat.min_self]
    rw [hxx] at hI
    have hxl : (xorL (seg z data i) ((encOf w.params KE (dR w.params KE z reg data i)).take z)).length = z := segx_len hn hi hz.2
    have hxi : KBa.In (xorL (seg z data i) ((encOf w.params KE (dR w.params KE z reg data i)).take z)) := xorL_in (seg_in hdi) (In.take (encOf_in _ _ _) _)
    generalize hXX : xorL (seg z data i) ((encOf w.params KE (dR w.params KE z reg data i)).take z) = XX at hI hxl hxi
    clear hxx hup hw htl e8 e9 e10 F10 N10 zR
    unfold LCg.FinA
    intro D5 h5 tk5 F12 N12 o12
    try dsimp only
    k_extra "STEPSX"
    rename Fr _ _ _ _ => F13
    rename News _ _ _ _ => N13
    rename KBw.bInts _ = List.take _ _ ++ _ => hnb
    refine set_reg F13 X1 N13 (.tail _ (.tail _ (.tail _ M2.hc))) (.tail _ (.tail _ (.tail _ M2.hd))) ?_
    intro h6 F14 N14
    have hdD : dc ≠ D5 := off1_ne o12 _ (.tail _ (.tail _ M2.hd))
    have held' := held
    simp only [List.mem_cons, not_or] at held'
    have M4 := MJ.reg2 N14 M2.skip.skip.skip
    have hel4 := IL.foc2 N14 hel2.skip.skip.skip held'.2.1
    have hI4 := IL.foc2 (l := D5) (ns := XX) N14 ⟨us, us.length, .head _, hI⟩ (Ne.symm hdD)
    have hk2 := keep_foc (led0 := LED1) N14 (fun p hp => .tail _ (.tail _ (.tail _ hp)))
    obtain ⟨LED2, hL2⟩ := ex_led N14
    rw [← hL2] at N14 M4 hel4 hI4 hk2
    obtain ⟨ve, ne, hme, hie⟩ := id hel4
    have hcl : (dO w.params KE z reg data i).length = z * i := dO_len hn hz.2 (by lia)
    k_extra "STEPSX"
    rename Fr _ _ _ _ => F15
    rename News _ _ _ _ => N15
    rename IL _ el _ => hel5
    have hIt : (I, it) ∈ foc el _ LED2 := in_foc N15 (hk2 _ (hL1 ▸ .head _) (Ne.symm (hIadr dc (.tail _ (.head _))))) (Ne.symm hIel)
    obtain ⟨LED3, hL3⟩ := ex_led N15
    have M5 : MJ LED3 c dc x dx ke kd q1 q2 q3 p1 p2 k1 k2 k3 j1 j2 nke rows KE z ts _ _ := M4.lift held (fun p hp h => hL3 ▸ foc_mem hp h)
    have hk3 : ∀ p ∈ LED2, p.1 ≠ el → p ∈ LED3 := fun p hp h => hL3 ▸ foc_mem hp h
    rw [← hL3] at N15 hel5 hIt
    have up : ∀ p ∈ LED3, p.1 ≠ I → p ∈ LED3.filter fun p => p.1 != I := fun p hp h => List.mem_filter.mpr ⟨hp, by simpa using h⟩
    refine RPost.next F15 N15 (LED3.filter fun p => p.1 != I) ?_ (fun p hp => by have := (List.mem_filter.mp hp).2; simpa using this) ⟨_, _, el, ?_, M5.lift (d := I) (fun h => hIadr I h rfl) up, (by rw [dO, hXX]; exact hel5.lift hIel up), held, helf, fun p hp h => up p (hk3 p (hk2 p (hL1 ▸ .tail _ (hkeep p hp h)) h) (helf p hp)) (off p (hkeep p hp h)), Eq.trans (if_neg (by decide)) (Eq.trans (if_neg (by decide)) (Eq.trans (if_neg (by decide)) (Eq.trans (if_neg (by decide)) me))), Eq.trans (if_neg (by decide)) (Eq.trans (if_neg (by decide)) (Eq.trans (if_neg (by decide)) (Eq.trans (if_neg (by decide)) mp))), Eq.trans (if_neg (by decide)) (Eq.trans (if_neg (by decide)) (Eq.trans (if_neg (by decide)) (Eq.trans (if_neg (by decide)) ms)))⟩
    · intro p hp
      rcases List.mem_cons.mp hp with rfl | hp
      · exact hIt
      · exact (List.mem_filter.mp hp).1
    · rw [hnb, hreglen, hsl, Nat.min_eq_left hz.2, dR]
      congr 1
      exact List.take_of_length_le (by rw [List.length_drop, hreglen]; exact Nat.le_refl _)
  clear F7 N7 R7
  intro m₁ nx h12 tk12 hJ F8 N8
  obtain ⟨rb', rt', el, hrb', M1, hel, held, helf, hkeep, me, mp, ms⟩ := hJ
  have hoi : KBa.In (dO w.params KE z reg data n) := dO_in hdi
  have hol : (dO w.params KE z reg data n).length ≤ 1000 := by rw [dO_len hn hz.2 (Nat.le_refl n), Nat.mul_comm]; lia
  try dsimp only
  k_extra "STEPSX"
  rename KBw.bInts _ = dO _ _ _ _ _ _ => hob
  exact hret _ _ _ _ (by assumption) (by assumption) ⟨_, _, rfl, hob, M1.toMode hrb', hkeep⟩
end

theorem stepsPg : True := by
  k_with "STEPSX" => (repeat' (first | (k_unfold; (try dsimp only)) | (((fail_if_success (with_reducible show wpAny _ _ (setAttr _ _ _) _ _ _)); (fail_if_success (with_reducible show wpAny _ _ (exec (Stmt.For _ _ _ _ _) _) _ _ _)); (fail_if_success (with_reducible show wpAny _ _ (exec (Stmt.While _ _ _ _) _) _ _ _)); (fail_if_success (with_reducible show wpAny _ _ (exec (Stmt.Assign _ (Expr.ListComp _ _ _ _) _) _) _ _ _)); (fail_if_success (with_reducible show wpAny _ _ (eval (Expr.ListComp _ _ _ _) _) _ _ _)); (fail_if_success (with_reducible show LCg.CompSrc _ _ _ _ _ _ _ _ _ _ _ _ _ _)); (fail_if_success (with_reducible show wpAny _ _ (pyIter _) _ _ _)); (fail_if_success (with_reducible show RPost _ _ _ _ _ _ _ _ _)); (fail_if_success (with_reducible show CPost _ _ _ _ _ _ _ _)); (fail_if_success (with_reducible show Exists _)); (fail_if_success (with_reducible show CPostJ _ _ _ _ _ _ _ _ _ _ _ _ _)); (fail_if_success (with_reducible show WhileStep2 _ _ _ _ _ _ _ _)); first | walk1 | (dsimp only; walk1)) <;> ((try dsimp only [List.cons_append, List.nil_append]); (try k_fold)))))
  exact trivial
section
variable {prog : Program} {w : World} {A : Around} {E : Value → Shared → Prop} {s : Shared} {h₀ : Heap} {L a b : Addr} {m : PySem.Str → Option Value} {news : List (Addr × Obj)} {ns ms : List Int}
theorem add_IL {Q : Value → Shared → Prop} (F : Fr h₀ L s.heap m) (N : News h₀ L s.heap news) (ha : IL news a ns) (hb : IL news b ms) (hz : ns.length + ms.length ≤ 16777216)
    (h : ∀ D us h', Fr h₀ L h' m → IntsAre us (ns ++ ms) → News h₀ L h' ((D, listOf (List.toArray us) 0) :: news) → (∀ p ∈ news, p.1 < D) → Q (.ref D) { s with heap := h' }) :
    wpAny (model prog w) A (binaryOp .Add (.ref a) (.ref b)) Q E s := by
  obtain ⟨vs, n, hm, hi⟩ := ha
  obtain ⟨us, n2, hm2, hj⟩ := hb
  exact kmk_add_ints F N (News.isList N hm) (News.isList N hm2) hi hj (fun D us h' F' N' l hI => h D us h' F' hI N' l) (by rw [sizeLine_eq]; exact hz)
end
theorem keep7 {h₀ h : Heap} {L : Addr} {led0 : List (Addr × Obj)} {a b c d e f g : Addr × Obj} (_N : News h₀ L h (a :: b :: c :: d :: e :: f :: g :: led0)) : ∀ p ∈ led0, p ∈ a :: b :: c :: d :: e :: f :: g :: led0 := fun _ hp => .tail _ (.tail _ (.tail _ (.tail _ (.tail _ (.tail _ (.tail _ hp))))))
theorem il_mem {h₀ h : Heap} {L l : Addr} {n : Nat} {led : List (Addr × Obj)} {us : List Value} {ns : List Int} (_N : News h₀ L h led) (hm : (l, listOf us.toArray n) ∈ led) (hi : IntsAre us ns) : IL led l ns := ⟨us, n, hm, hi⟩
theorem xorL_take (xs ys : List Int) {z : Nat} (h : xs.length ≤ z) : xorL xs (ys.take z) = xorL xs ys := by
  refine List.ext_getElem (by simp [xorL]; lia) fun i h1 h2 => ?_
  simp [xorL]
section
local macro_rules | `(tactic| ktr_rel) => `(tactic| first | assumption | exact rd_eq | (refine' rd_ne ?rn ?rv; (case rn => decide); (case rv => ktr_rel)) | (refine' IL.here ?ih; (case ih => assumption)) | (refine' IL.skip ?is; (case is => ktr_rel)) | (refine' KeAt.skip ?is; (case is => ktr_rel)) | (refine' Blk.skip ?is; (case is => ktr_rel)) | (refine' In.take ?is _; (case is => ktr_rel)) | (refine' In.drop ?is _; (case is => ktr_rel)))
local macro_rules | `(tactic| k_all) => `(tactic| exact allLt_ne (by assumption))
local macro_rules | `(tactic| ktr_rel) => `(tactic| (refine' MJ.skip ?is; (case is => ktr_rel)))
local macro_rules | `(tactic| k_mem) => `(tactic| with_reducible assumption)
theorem wordsPg1 : True := by
  k_with_none
  k_with "STEPSX" => (repeat' (first | (k_unfold; (try dsimp only)) | (((fail_if_success (with_reducible show wpAny _ _ (setAttr _ _ _) _ _ _)); (fail_if_success (with_reducible show wpAny _ _ (exec (Stmt.For _ _ _ _ _) _) _ _ _)); (fail_if_success (with_reducible show wpAny _ _ (exec (Stmt.While _ _ _ _) _) _ _ _)); (fail_if_success (with_reducible show wpAny _ _ (exec (Stmt.Assign _ (Expr.ListComp _ _ _ _) _) _) _ _ _)); (fail_if_success (with_reducible show wpAny _ _ (eval (Expr.ListComp _ _ _ _) _) _ _ _)); (fail_if_success (with_reducible show LCg.CompSrc _ _ _ _ _ _ _ _ _ _ _ _ _ _)); (fail_if_success (with_reducible show wpAny _ _ (pyIter _) _ _ _)); (fail_if_success (with_reducible show RPost _ _ _ _ _ _ _ _ _)); (fail_if_success (with_reducible show CPost _ _ _ _ _ _ _ _)); (fail_if_success (with_reducible show Exists _)); (fail_if_success (with_reducible show CPostJ _ _ _ _ _ _ _ _ _ _ _ _ _)); (fail_if_success (with_reducible show WhileStep2 _ _ _ _ _ _ _ _)); first | walk1 | (dsimp only; walk1)) <;> ((try dsimp only [List.cons_append, List.nil_append]); (try k_fold)))))
  k_with "subscriptTail" => (k_here; (with_reducible show wpAny _ _ (subscriptTail _ _ (Value.ref _) (Value.int _ _)) _ _ _); k_dflt (refine' item_IL ?qqN ?qqm ?qqa ?qqb ?qqc ?_; (case qqN => k_asm); (case qqm => ktr_rel); (case qqa => lia); (case qqb => lia); (case qqc => lia); k_whole); intro _)
  k_with "call builtin:len" => (k_here; (with_reducible show wpAny _ _ (call (Value.builtin "len") [Value.ref _]) _ _ _); k_dflt (refine' len_IL ?qqN ?qqm ?qqz ?_; (case qqN => k_asm); (case qqm => ktr_rel); (case qqz => lia); k_whole); intro _ _)
  k_with "ite" => (k_here; first | (refine ite_neg (by (simp only [bne_iff_ne, beq_iff_eq, decide_eq_true_eq, ne_eq, Decidable.not_not]; lia)) ?_) | (refine ite_pos (by (simp only [bne_iff_ne, beq_iff_eq, decide_eq_true_eq, ne_eq, Decidable.not_not]; lia)) ?_))
  k_with "eval Name" => (k_here; name_kind "local"; (with_reducible show wpAny _ _ (eval (Expr.Name _ _) (compEnvC _ _ _ _)) _ _ _); k_dflt (refine LCgL.ld_own (by k_asm) (by k_mem) (by assumption) (by assumption) ?_))
  k_with "eval Name" => (k_here; name_kind "globalImplicit"; (with_reducible show wpAny _ _ (eval (Expr.Name _ _) (compEnvC _ _ _ _)) _ _ _); k_dflt (refine LCgL.ld_global (by k_asm) (by k_asm) (by k_asm) (by k_is) ?_))
  k_with "eval Name" => (k_here; name_kind "free"; (with_reducible show wpAny _ _ (eval (Expr.Name _ _) (compEnvC _ _ _ _)) _ _ _); k_dflt (refine' ld_cell ?qqN ?qqc ?qqm ?qqd ?_ ?qqe ?qqf ?qqg; (case qqe => rfl); (case qqf => rfl); (case qqg => decide); (case qqN => k_asm); (case qqc => rfl); (case qqm => k_mem); (case qqd => k_asm); k_whole))
  k_with "eval Name" => (k_here; name_kind "local"; (fail_if_success (with_reducible show wpAny _ _ (eval (Expr.Name _ _) (compEnvC _ _ _ _)) _ _ _)); (with_reducible rename Fr _ _ _ _ => kF); k_dflt (refine' nameX_L kF ?qqv ?_ ?qqa ?qqb; (case qqa => rfl); (case qqb => rfl); (case qqv => ktr_rel); k_whole))
  k_with "subscriptTail" => (k_here; (with_reducible show wpAny _ _ (subscriptTail _ (Expr.Slice (some _) (some _) none _) (Value.ref _) (Value.ref _)) _ _ _); k_dflt (refine' slice_run' ?qqF ?qqN ?qqm ?qqz ?qqa ?qqb ?_; (case qqF => k_asm); (case qqN => k_asm); (case qqm => ktr_rel); (case qqz => lia); (case qqa => lia); (case qqb => lia); k_whole); intro D' h' F' ws' hw' N' l1; (try k_lt l1); (try k_sweep))
  k_with "call builtin:len" => (k_here; k_dflt (refine' len_blk ?qqN ?qqm ?qqz ?_; (case qqN => k_asm); (case qqm => ktr_rel); (case qqz => lia); k_whole); intro _ _)
  k_with "subscriptTail" => (k_here; (with_reducible show wpAny _ _ (subscriptTail _ (Expr.Slice (some _) (some _) none _) _ (Value.ref _)) _ _ _); k_dflt (refine' slice_blk' ?qqe ?qqF ?qqN ?qqm ?qqz ?qqa ?qqb ?_; (case qqe => exact ⟨_, _, _, _, _, rfl, rfl⟩); (case qqF => k_asm); (case qqN => k_asm); (case qqm => ktr_rel); (case qqz => lia); (case qqa => lia); (case qqb => lia); k_whole); intro v' h' k' led' F' N' hs' hb')
  k_with "call ref" => (k_here; k_dflt (refine' Tells.use (compactV _ _ _ _ ?qqhl ?qqh4 ?qqhi) ?qqB ?qqF ?qqX ?qqN ?qqT ?qqhk ?qqhd ?qqhu ?_; (case qqB => k_asm); (case qqF => k_asm); (case qqX => k_asm); (case qqN => k_asm); (case qqT => k_asm); (case qqhk => rfl); (case qqhl => ktr_rel); (case qqh4 => (simp only [List.length_take, List.length_drop]; lia)); (case qqhi => ktr_rel); (case qqhd => first | lia | (dsimp only [ktrTop, Around.deeper]; lia)); (case qqhu => first | lia | (dsimp only [ktrTop, Around.deeper]; lia))); intro v' news' h' tk' F' Nq' hO'; (obtain ⟨hO1, t', hO2⟩ := hO'; subst hO1; subst hO2); (have N9' := drop_led Nq' (by assumption)); (try dsimp only); (try k_sweep))
  k_with "call type:list" => (k_here; (with_reducible show wpAny _ _ (call (Value.type "list") [Value.ref _]) _ _ _); k_dflt (refine' copy_IL ?qqF ?qqN ?qqm ?qqz ?_; (case qqF => k_asm); (case qqN => k_asm); (case qqm => ktr_rel); (case qqz => lia); k_whole); intro D' c' h' vs' hv' F' N' l1; (try k_lt l1); (try k_sweep))
  k_with "setItem ref int" => (k_here; (with_reducible show wpAny _ _ (setItem (Value.ref _) (Value.int _ _) (Value.int _ _)) _ _ _); k_dflt (refine' set_IL ?qqk1 ?qqk2 ?qqk3 ?qqk4 ?qqk5 ?qqk6 ?qqk7 ?_; (case qqk1 => k_asm); (case qqk2 => k_asm); (case qqk3 => k_upd); (case qqk4 => with_reducible assumption); (case qqk5 => lia); (case qqk6 => lia); (case qqk7 => lia); k_whole); intro h' F' N' hi'; (try k_sweep))
  k_with "subscriptTail" => (k_here; (with_reducible show wpAny _ _ (subscriptTail _ _ (Value.ref _) (Value.int _ _)) _ _ _); k_dflt (refine' item_tab ?qqF ?qqX ?qqo ?qqa ?qqb ?qqc ?_; (case qqF => k_asm); (case qqX => k_asm); (case qqo => with_reducible (first | exact tab_S _ | exact tab_T1 _ | exact tab_T2 _ | exact tab_T3 _ | exact tab_T4 _)); (case qqa => exact (and255 _).1); (case qqb => exact (and255 _).2); (case qqc => decide); k_whole); intro _)
  k_with "binaryOp Mod int int" => (k_here; (with_reducible refine mod_pos (by first | decide | lia) ?_))
  k_with "call builtin:list.append" => (k_here; (with_reducible show wpAny _ _ (call (Value.builtin _) [Value.ref _, Value.int _ _]) _ _ _); k_dflt (refine' append_IL ?qqk1 ?qqk2 ?qqk3 ?qqk4 ?qqk5 ?_; (case qqk1 => k_asm); (case qqk2 => k_asm); (case qqk3 => k_upd); (case qqk4 => with_reducible assumption); (case qqk5 => ((try simp only [List.length_append, List.length_cons, List.length_nil]); lia)); k_whole); intro h' F' N' hi'; (try k_sweep))
  k_with "call type:range" => (k_here; (first | (with_reducible show wpAny _ _ (call _ [_]) _ _ _) | (with_reducible show wpAny _ _ (call _ [_, _]) _ _ _)); (rename Fr _ _ _ _ => F'); (rename News _ _ _ _ => N'); (first | (with_unfolding_all refine range1_rows F' N' ?_) | (with_unfolding_all refine range2_rows F' N' ?_)); intro _ _ _ _ _ _ _ _ _)
  k_with "subscriptTail" => (k_here; (with_reducible show wpAny _ _ (subscriptTail _ (Expr.Slice _ _ none _) (Value.bytes _ _) (Value.ref _)) _ _ _); k_dflt (refine' slice_b' ?qqF ?qqN ?qqk ?qql ?qqu ?qqz ?_; (case qqF => k_asm); (case qqN => k_asm); (case qqk => kba_ints); (case qql => constructor); (case qqu => constructor); (case qqz => kba_size); k_whole); intro _ _ _ _ _ kbcK; (try simp only [Option.elim, KBc.clip_lit, clipAt_nat, List.drop_zero, Nat.sub_zero] at kbcK))
  k_with "eval Call" => (k_here; (with_reducible show wpAny _ _ (eval (Expr.Call (Expr.Name _ _) _ [] _) _) _ _ _); (fail_if_success (with_reducible show wpAny _ _ (eval _ (compEnvC _ _ _ _)) _ _ _)); k_dflt (refine Call_ ?_))
  k_with "getAttr ref" => (k_here; (with_reducible show wpAny _ _ (getAttr (Value.ref _) (PySem.Str.ofString "_shift_register") _) _ _ _); k_dflt (refine' mj_reg ?qqF ?qqX ?qqN ?qqM ?_; (case qqF => k_asm); (case qqX => k_asm); (case qqN => k_asm); (case qqM => ktr_rel); k_whole); intro _)
  k_with "getAttr ref" => (k_here; (with_reducible show wpAny _ _ (getAttr (Value.ref _) (PySem.Str.ofString "_segment_bytes") _) _ _ _); k_dflt (refine' mj_seg ?qqF ?qqX ?qqN ?qqM ?_; (case qqF => k_asm); (case qqX => k_asm); (case qqN => k_asm); (case qqM => ktr_rel); k_whole); intro _)
  k_with "getAttr ref" => (k_here; (with_reducible show wpAny _ _ (getAttr (Value.ref _) (PySem.Str.ofString "_aes") _) _ _ _); k_dflt (refine' mj_aes ?qqF ?qqX ?qqN ?qqM ?_; (case qqF => k_asm); (case qqX => k_asm); (case qqN => k_asm); (case qqM => ktr_rel); k_whole); intro _)
  k_with "getMethod ref" => (k_here; (with_reducible show wpAny _ _ (getMethod (Value.ref _) (PySem.Str.ofString "encrypt") _) _ _ _); k_dflt (refine' ke_method ?qqF ?qqX ?qqN ?qqK ?_; (case qqF => k_asm); (case qqX => k_asm); (case qqN => k_asm); (case qqK => ktr_rel); k_whole))
  k_with "call type:zip" => (k_here; k_dflt (refine' zip_IL ?qqF ?qqN ?qqm ?_; (case qqF => k_asm); (case qqN => k_asm); (case qqm => k_mem); k_whole); intro h' z' F' N' zR')
  k_with "subscriptTail" => (k_here; (with_reducible show wpAny _ _ (subscriptTail _ (Expr.Slice none (some _) none _) (Value.ref _) (Value.ref _)) _ _ _); k_dflt (refine' slice_upto' ?qqF ?qqN ?qqm ?qqz ?qqb ?_; (case qqF => k_asm); (case qqN => k_asm); (case qqm => ktr_rel); (case qqz => lia); (case qqb => lia); k_whole); intro D' h' F' ws' hw' N' l1; (try k_lt l1); (try k_sweep))
  k_with "call ref" => (k_here; k_dflt (refine' Tells.use (encV _ _ _ _ _ _ _ _ _ _ _ _ _ _ _ ?qqhl ?qqh16 ?qqhi ?qqhK ?qqhR) ?qqB ?qqF ?qqX ?qqN ?qqT ?qqhkk ?qqhd ?qqhu ?_; (case qqB => k_asm); (case qqF => k_asm); (case qqX => k_asm); (case qqN => k_asm); (case qqT => k_asm); (case qqhK => ktr_rel); (case qqhl => ktr_rel); (case qqh16 => with_reducible assumption); (case qqhi => with_reducible assumption); (case qqhR => with_reducible assumption); (case qqhkk => rfl); (case qqhd => first | decide | lia | (dsimp only [ktrTop, Around.deeper]; lia) | (simp only [depth_under_make, depth_deeper, ktrTop]; lia) | ktr_room); (case qqhu => first | decide | lia | (dsimp only [ktrTop, Around.deeper]; lia) | (simp only [units_under_make, units_deeper, ktrTop]; lia) | ktr_units)); intro v' news' h' tk' F' N' hO'; (obtain ⟨D', vs', n', hO1, hO2, hO3, hO4⟩ := hO'; subst hO1; subst hO2); (try dsimp only))
  k_with "subscriptTail Name Slice ref ref" => (k_here; (with_reducible show wpAny _ _ (subscriptTail _ (Expr.Slice none (some _) none _) (Value.ref _) (Value.ref _)) _ _ _); k_dflt (refine' slice_upto' ?qqF ?qqN ?qqm ?qqz ?qqb ?_; (case qqF => k_asm); (case qqN => k_asm); (case qqm => ktr_rel); (case qqz => lia); (case qqb => lia); k_whole); intro D' h' F' ws' hw' N' l1; (try k_lt l1); (try k_sweep))
  k_with "call builtin:list.extend" => (k_here; k_dflt (refine' extend_foc ?qqF ?qqN ?qqD ?qql ?qqz ?_; (case qqF => k_asm); (case qqN => k_asm); (case qqD => ktr_rel); (case qql => ktr_rel); (case qqz => lia); k_whole); intro h' o' F' N' hE')
  k_with "subscriptTail Name Slice ref ref" => (k_here; (with_reducible show wpAny _ _ (subscriptTail _ (Expr.Slice (some _) none none _) (Value.ref _) (Value.ref _)) _ _ _); k_dflt (refine' slice_from' ?qqF ?qqN ?qqm ?qqz ?qqb ?_; (case qqF => k_asm); (case qqN => k_asm); (case qqm => ktr_rel); (case qqz => lia); (case qqb => lia); k_whole); intro D' h' F' ws' hw' N' l1; (try k_lt l1); (try k_sweep))
  k_with "subscriptTail Name Slice ref ref" => (k_here; (with_reducible show wpAny _ _ (subscriptTail _ (Expr.Slice (some _) (some _) none _) (Value.ref _) (Value.ref _)) _ _ _); k_dflt (refine' slice_run' ?qqF ?qqN ?qqm ?qqz ?qqa ?qqb ?_; (case qqF => k_asm); (case qqN => k_asm); (case qqm => ktr_rel); (case qqz => lia); (case qqa => lia); (case qqb => lia); k_whole); intro D' h' F' ws' hw' N' l1; (try k_lt l1); (try k_sweep))
  k_with "call ref" => (k_here; k_dflt (refine' Tells.use (sumV _ _ _ _ _ _ ?qqhx ?qqhy ?qqhzx ?qqhzy) ?qqB ?qqF ?qqX ?qqN ?qqT ?qqhkk ?qqhd ?qqhu ?_; (case qqB => k_asm); (case qqF => k_asm); (case qqX => k_asm); (case qqN => k_asm); (case qqT => k_asm); (case qqhx => ktr_rel); (case qqhy => ktr_rel); (case qqhzx => ((try simp only [List.length_take, List.length_drop]); lia)); (case qqhzy => ((try simp only [List.length_take, List.length_drop]); lia)); (case qqhkk => rfl); (case qqhd => first | decide | lia | (dsimp only [ktrTop, Around.deeper]; lia) | (simp only [depth_under_make, depth_deeper, ktrTop]; lia) | ktr_room); (case qqhu => first | decide | lia | (dsimp only [ktrTop, Around.deeper]; lia) | (simp only [units_under_make, units_deeper, ktrTop]; lia) | ktr_units)); intro v' news' h' tk' F' N' hO'; (obtain ⟨D', vs', n', hO1, hO2, hO3, hO4⟩ := hO'; subst hO1; subst hO2); (try dsimp only))
  exact trivial
set_option maxHeartbeats 8000000 in
theorem ruleV (w : World) (news : List (Addr × Obj)) (x dx ke kd : Addr) (q1 q2 : Int) (k1 k2 : Tok) (nke : Nat) (rows : List Addr) (KE : List (List Int)) (hK : KeAt news x dx ke kd q1 q2 k1 k2 nke rows KE) (hKE : 2 ≤ KE.length ∧ KE.length ≤ 15) (fl dl : Addr) (reg data : List Int) (hf : IL news fl reg) (hreg : reg.length = 16) (hri : KBa.In reg) (hd0 : IL news dl data) (hdi : KBa.In data) (z n : Nat) (hn : data.length = z * n) (hz : 1 ≤ z ∧ z ≤ 16) (hn2 : n ≤ 60) (t1 t2 t3 : Tok) :
   Tells w 481 [.int 2 t1, .ref x, .ref fl, .int (z : Int) t2, .int 0 t3, .ref dl] 4 news fun v news' => ∃ D, v = .ref D ∧ IL news' D (cO w.params KE z reg data n) ∧ (∀ p ∈ news, p ∈ news') ∧ ∀ p ∈ news, (@Ne Nat p.1 D) := by
  have hnz : n * z ≤ 960 := Nat.le_trans (Nat.mul_le_mul hn2 hz.2) (by decide)
  have hlen : data.length ≤ 960 := by rw [hn, Nat.mul_comm]; exact hnz
  unfold Tells; k_fill; intro loose mean mg mb dp un gd cn cs a ccd cl outer A₀ base h₀ L m s Q E B F X N T hk hd hu hret
  refine wpAny_call ?_; k_dflt (refine' code_def (binds := [(Str.ofString "mode", Value.int 2 t1), (Str.ofString "aes", Value.ref x), (Str.ofString "first", Value.ref fl), (Str.ofString "size", Value.int (z : Int) t2), (Str.ofString "start", Value.int 0 t3), (Str.ofString "data", Value.ref dl)]) ?k1 ?k2 ?k3 ?k4 ?k5 ?kA ?kF ?kK ?k6 ?k7 ?k8 ?k9 ?kB ?_ ?c2 ?c3 ?c4 ?c5; (case kA => exact rfl); (case kF => exact rfl); (case kK => assumption); (case k1 => exact B); (case k2 => exact F); (case k3 => exact X); (case k4 => exact N); (case k5 => exact T); (case k6 => k_is); (case k7 => k_is); (case k8 => ktr_room); (case k9 => first | exact BindsTo.of_eq rfl | exact binds_K (by k_in) rfl (by k_is) rfl rfl rfl); (case c5 => decide); (case kB => exact locs rfl); (case c2 => exact rfl); (case c3 => exact rfl); (case c4 => exact rfl)); intro g1 L1 h1 FG1 F1 N1 B1 X1 T1; (try dsimp only); (try k_fold)
  have hz1 : 0 < (z : Int) := by lia
  k_extra "STEPSX"
  rename ∀ (p : Addr × Obj), p ∈ news → p.1 < _ => lo
  rename IntsAre _ reg => hlast
  have e7 : ((data.length : Nat) : Int) = (n : Int) * (z : Int) := by rw [hn]; push_cast; exact Int.mul_comm _ _
  k_dflt (refine For_invV g1 (by rfl) (by rfl) ?_)
  k_extra "STEPSX"
  rename IsRange _ _ _ _ _ _ _ _ => R7
  rename Fr _ _ _ _ => F7
  rename News _ _ _ _ => N7
  rw [e7] at R7
  refine rng_inv (fun i m nx => ∃ (ol la : Addr), IL nx ol (cO w.params KE z reg data i) ∧ IL nx la (cR w.params KE z reg data i) ∧ (∀ p ∈ news, p ∈ nx) ∧ (∀ p ∈ news, (@Ne Nat p.1 ol)) ∧ m (Str.ofString "out") = some (.ref ol) ∧ m (Str.ofString "last") = some (.ref la) ∧ m (Str.ofString "data") = some (.ref dl) ∧ m (Str.ofString "aes") = some (.ref x) ∧ (∃ t, m (Str.ofString "mode") = some (.int 2 t)) ∧ (∃ t, m (Str.ofString "step") = some (.int (z : Int) t))) (n := n) rfl R7 (small_step hz.1 (by lia) (by lia)) (rs_mul hz.1) F7 N7
    ⟨_, _, ⟨[], 0, .tail _ (.tail _ (.head _)), .nil⟩, ⟨_, _, .tail _ (.head _), hlast⟩, (fun p hp => .tail _ (.tail _ (.tail _ hp))), (fun p hp => Nat.ne_of_lt (lo p hp)), Eq.trans (if_neg (by decide)) (Eq.trans (if_neg (by decide)) ((if_pos rfl))), Eq.trans (if_neg (by decide)) ((if_pos rfl)), by kernel_rfl, by kernel_rfl, ⟨t1, by kernel_rfl⟩, ⟨_, if_pos rfl⟩⟩ ?_ ?_
  · clear F7 N7 R7
    intro I i it ti m₁ nx s₁ hi hJ off F8 N8 hs₁
    obtain ⟨ol, la, hol, hla, hsub, hof, mo, ml, md, ma, ⟨t4, mm⟩, ⟨t5, mst⟩⟩ := hJ
    have hreglen : (cR w.params KE z reg data i).length = 16 := cR_len hreg hn hz.2 (by lia)
    have hregin : KBa.In (cR w.params KE z reg data i) := cR_in hri hdi
    have hel16 : (encOf w.params KE (cR w.params KE z reg data i)).length = 16 := encOf_len _ _ _
    have hcl : (cO w.params KE z reg data i).length = z * i := cO_len hn hz.2 (by lia)
    have hzi : z * i ≤ 960 := Nat.le_trans (Nat.mul_le_mul_left z (Nat.le_of_lt hi)) (by rw [Nat.mul_comm]; exact hnz)
    obtain ⟨LED1, hL1⟩ : ∃ l, l = (I, it) :: nx := ⟨_, rfl⟩
    rw [← hL1] at N8
    have hol1 : IL LED1 ol (cO w.params KE z reg data i) := hL1 ▸ hol.skip
    have hla1 : IL LED1 la (cR w.params KE z reg data i) := hL1 ▸ hla.skip
    have hd1 : IL LED1 dl data := hL1 ▸ (hd0.mono hsub).skip
    have hK1 : KeAt LED1 x dx ke kd q1 q2 k1 k2 nke rows KE := hL1 ▸ (hK.mono hsub).skip
    have hblk : Blk LED1 (.ref la) (cR w.params KE z reg data i) := .inl ⟨la, rfl, hla1⟩
    have hi1 : z * i + z ≤ data.length := by rw [hn, ← Nat.mul_succ]; exact Nat.mul_le_mul_left z hi
    have hiz : 0 ≤ (0 + (i : Int) * (z : Int)) := by rw [Int.zero_add]; exact Int.mul_nonneg (by lia) (by lia)
    k_extra "STEPSX"
    have e9 : (0 + (i : Int) * (z : Int)) = ((z * i : Nat) : Int) := by push_cast; rw [Int.zero_add, Int.mul_comm]
    rename IntsAre _ (xorL _ _) => hmd
    rw [e9, show ((z * i : Nat) : Int).toNat = z * i by lia, show min (((z * i : Nat) : Int) + (z : Int)).toNat data.length - z * i = z by lia] at hmd
    change IntsAre _ (xorL (seg z data i) _) at hmd
    rw [← xorL_take (seg z data i) (encOf w.params KE (cR w.params KE z reg data i)) (z := z) (by rw [seg_len hn hi]; exact Nat.le_refl _)] at hmd
    have hxl : (xorL (seg z data i) ((encOf w.params KE (cR w.params KE z reg data i)).take z)).length = z := segx_len hn hi hz.2
    generalize hXX : xorL (seg z data i) ((encOf w.params KE (cR w.params KE z reg data i)).take z) = XX at hmd hxl
    clear e9
    k_extra "STEPSX"
    rename _ < _ ∧ _ < _ ∧ _ < _ ∧ _ < _ ∧ AllLt _ LED1 => l7
    rename IntsAre _ (List.drop _ _ ++ XX) => hI7
    rename Fr _ _ _ _ => F13
    rename News _ _ _ _ => N13
    k_dflt (refine add_IL (ns := cO w.params KE z reg data i) (ms := XX) F13 N13 ?_ (by ktr_rel) ?_ ?_)
    · exact hol1.skip.skip.skip.skip.skip.skip
    · rw [hcl, hxl]; lia
    intro D8 us8 h8 F14 hI8 N14 l8
    k_extra "STEPSX"
    rename Fr _ _ _ _ => F15
    rename News _ _ _ _ => N15
    have hIt : (I, it) ∈ LED1 := hL1 ▸ .head _
    have a1 := il_mem N15 (.head _) hI8
    have a2 := il_mem N15 (.tail _ (.tail _ (.head _))) hI7
    have hsub2 : ∀ p ∈ news, p ∈ LED1 := fun p hp => hL1 ▸ .tail _ (hsub p hp)
    have hl1 := fun p hp => l8 p (.tail _ (.tail _ (.tail _ (.tail _ (.tail _ (.tail _ hp))))))
    have hk3 := keep7 N15
    obtain ⟨LZ, hLZ⟩ := ex_led N15
    rw [← hLZ] at N15 a1 a2 hk3
    have up : ∀ p ∈ LZ, p.1 ≠ I → p ∈ LZ.filter fun p => p.1 != I := fun p hp h => List.mem_filter.mpr ⟨hp, by simpa using h⟩
    refine RPost.next F15 N15 (LZ.filter fun p => p.1 != I) ?_ (fun p hp => by have := (List.mem_filter.mp hp).2; simpa using this) ⟨D8, _, ?_, ?_, fun p hp => up p (hk3 p (hsub2 p hp)) (off p (hsub p hp)), fun p hp => Nat.ne_of_lt (hl1 p (hsub2 p hp)), if_pos rfl, Eq.trans (if_neg (by decide)) ((if_pos rfl)), Eq.trans (if_neg (by decide)) (Eq.trans (if_neg (by decide)) (Eq.trans (if_neg (by decide)) (Eq.trans (if_neg (by decide)) (Eq.trans (if_neg (by decide)) (md))))), Eq.trans (if_neg (by decide)) (Eq.trans (if_neg (by decide)) (Eq.trans (if_neg (by decide)) (Eq.trans (if_neg (by decide)) (Eq.trans (if_neg (by decide)) (ma))))), ⟨_, Eq.trans (if_neg (by decide)) (Eq.trans (if_neg (by decide)) (Eq.trans (if_neg (by decide)) (Eq.trans (if_neg (by decide)) (Eq.trans (if_neg (by decide)) (mm)))))⟩, ⟨_, Eq.trans (if_neg (by decide)) (Eq.trans (if_neg (by decide)) (Eq.trans (if_neg (by decide)) (Eq.trans (if_neg (by decide)) (Eq.trans (if_neg (by decide)) (mst)))))⟩⟩
    · intro p hp
      rcases List.mem_cons.mp hp with rfl | hp
      · exact hk3 _ hIt
      · exact (List.mem_filter.mp hp).1
    · rw [cO, hXX]
      exact a1.lift (Ne.symm (Nat.ne_of_lt (hl1 _ hIt))) up
    · have a3 := a2.lift (d := I) (Ne.symm (allLt_ne l7.2.2.2.2 _ hIt)) up
      rw [hxl, show ((z : Nat) : Int).toNat = z by lia] at a3
      rw [cR, hXX]
      exact a3
  clear F7 N7 R7
  intro m₁ nx h12 tk12 hJ F8 N8
  obtain ⟨ol, la, hol, hla, hsub, hof, mo, ml, md, ma, ⟨t4, mm⟩, ⟨t5, mst⟩⟩ := hJ
  try dsimp only
  k_extra "STEPSX"
  exact hret _ _ _ _ (by assumption) (by assumption) ⟨_, rfl, hol, hsub, hof⟩
end

theorem stepsPh : True := by
  k_with "STEPSX" => (repeat' (first | (k_unfold; (try dsimp only)) | (((fail_if_success (with_reducible show wpAny _ _ (setAttr _ _ _) _ _ _)); (fail_if_success (with_reducible show wpAny _ _ (exec (Stmt.For _ _ _ _ _) _) _ _ _)); (fail_if_success (with_reducible show wpAny _ _ (exec (Stmt.While _ _ _ _) _) _ _ _)); (fail_if_success (with_reducible show wpAny _ _ (exec (Stmt.Assign _ (Expr.ListComp _ _ _ _) _) _) _ _ _)); (fail_if_success (with_reducible show wpAny _ _ (eval (Expr.ListComp _ _ _ _) _) _ _ _)); (fail_if_success (with_reducible show LCg.CompSrc _ _ _ _ _ _ _ _ _ _ _ _ _ _)); (fail_if_success (with_reducible show wpAny _ _ (pyIter _) _ _ _)); (fail_if_success (with_reducible show RPost _ _ _ _ _ _ _ _ _)); (fail_if_success (with_reducible show CPost _ _ _ _ _ _ _ _)); (fail_if_success (with_reducible show Exists _)); (fail_if_success (with_reducible show CPostJ _ _ _ _ _ _ _ _ _ _ _ _ _)); (fail_if_success (with_reducible show WhileStep2 _ _ _ _ _ _ _ _)); first | walk1 | (dsimp only; walk1)) <;> ((try dsimp only [List.cons_append, List.nil_append]); (try k_fold)))))
  exact trivial
section
variable {prog : Program} {w : World} {A₀ A : Around} {s : Shared} {base h₀ : Heap} {L : Addr} {m : Str → Option Value} {env : Env} {news : List (Addr × Obj)} {K : Frag} {p : Program} {loose : List Str} {mean : ExcName → Option Value} {mg mb : Str → Option Value}
    {R : Result → Shared → Prop} {name qual : Str} {params : Arguments} {body : List Stmt} {scope : Scope} {dV kV doc pm cdv ct oc : Value} {an od : Option Addr} {osl : Array (Option Value)} {f : Addr} {args : Args} {binds : List (Str × Value)}
/-- a def that catches, entered from the one frame of the text's own, cells or no cells -/
theorem code_S0X (B : Below A₀ base [] h₀) (F : Fr h₀ L s.heap m) (X₀ : K.In h₀) (N : News h₀ L s.heap news) (T : Top p loose mean mg mb h₀) (hA : A.frames = some [env]) (hf : env.frame = some L) (hke : env.scope.kind = .function)
    (ho : K.lookup f = some ⟨oc, od, .func (fnOf name qual params body scope dV kV doc pm an cdv ct), osl⟩) (hcd : codeIn K cdv qual = true) (hroom : A.depth < recursionLimit)
    (hbind : BindsTo s (fnOf name qual params body scope dV kV doc pm an cdv ct) args binds) (hloc : ∀ y ∈ binds, scope.names.lookup y.1 = some .local)
    (h : ∀ g L' h₁, Fr h₀ L g m → Fr g L' h₁ (fun y => binds.reverse.lookup y) → News g L' h₁ news → Below A base [env] g → K.In g → Top p loose mean mg mb g → KtsDicts ([env].filterMap (·.frame)) g →
      wpAny (model prog w) (A.deeper (envOf qual scope L' f cdv)) (execs body (envOf qual scope L' f cdv))
        (fun fl s' => LeaveS0 ([env].filterMap (·.frame)) h₀ L m g R (match fl with | .ret v => v | _ => .none) s')
        (fun e s' => wpAny (model prog w) (A.deeper (envOf qual scope L' f cdv)) (leaving (envOf qual scope L' f cdv) e) (fun _ s'' => R (.error e) s'') (fun e' s'' => R (.error e') s'') s')
        { s with heap := h₁, toks := s.toks + binds.length })
    (hco : scope.isCoroutine = false) (hgen : scope.isGenerator = false) (hk : scope.kind = .function)
    (hcell : ∀ x ∈ scope.names, x.2 ≠ .cell) : codeAny (model prog w) A (.call (.ref f) args) R s := by
  have X := X₀.keeps F.keep
  have hfs : [env].filterMap (·.frame) = [L] := by simp [hf]
  refine codeAny_call_def (fd := fnOf name qual params body scope dV kV doc pm an cdv ct) (body := body) (binds := binds) hroom (X _ _ ho) rfl (T.nolimit.keeps F.keep) (codeRec_of X hcd) rfl hbind hcell hloc (fun h₁ hns hk₁ => ?_) hco hgen hk
  obtain ⟨Fg, B₂, st, _⟩ := groundX (R := R) B F N hA hf hke
  obtain ⟨oL, es, ep, hLg, hLd, hLk, hLf⟩ := Fg.ns
  refine wpAny_mono (h _ s.heap.objs.size h₁ Fg ⟨hns, fun b o e => hk₁ b o (of_hideAll _ e), Nat.le_of_eq (hideAll_size _ _)⟩
    (fun p hp => ⟨hk₁ _ _ (N p hp).1, Nat.ne_of_lt (Heap.lt_size (N p hp).1), hideAll_none _ (List.mem_map_of_mem hp)⟩) B₂ (X₀.keeps st) (T.keeps st) (fun b hb => by
      rw [hfs, List.mem_singleton] at hb
      subst hb
      exact ⟨oL, es, ep, hLg, hLd⟩)) (fun fl s' hl => ?_) fun _ _ y => y
  obtain ⟨g', L', m', news', T', F', N', k⟩ := hl
  have nL₀ : h₀.get? L = none := kts_self F
  obtain ⟨sl, hs⟩ := T'.up hLg
  refine k ⟨⟨_, es, ep, F'.keep _ _ hs, hLd, hLk, hLf⟩, fun b o e => F'.keep b o (T'.other b o (st b o e) (fun q => by
    rw [hfs, List.mem_singleton] at q
    rw [q, nL₀] at e
    cases e)), F.above⟩ fun p hp => ⟨(N' p hp).1, fun q => ?_, ?_⟩
  · have := (N' p hp).2.2; rw [q, hs] at this; cases this
  · cases q : h₀.get? p.1 with
    | none => rfl
    | some o =>
      obtain ⟨sl', hs'⟩ := T'.up (st _ _ q)
      have := (N' p hp).2.2
      rw [hs'] at this
      cases this
end
/-- what a call does from the law's own frame -/
def Tells0 (w : World) (f : Addr) (vs : List Value) (deep : Nat) (news : List (Addr × Obj)) (Out : Value → List (Addr × Obj) → Prop) : Prop :=
  ∀ (loose : List Str) (mean : ExcName → Option Value) (mg mb : Str → Option Value) (dp un : Nat) (gd : Option (List Code)) (cn : Str) (cs : Scope) (a : Addr) (ccd : Value) (cl : List (Str × Addr)) (A₀ : Around) (h₀ : Heap) (L : Addr) (m : Str → Option Value) (s : Shared) (Q E : Value → Shared → Prop),
    Below A₀ h₀ [] h₀ → Fr h₀ L s.heap m → (Mine.hd.heap_39 w.params).In h₀ → News h₀ L s.heap news → Top Mine.hd.view_39 loose mean mg mb h₀ → cs.kind = .function → dp + deep < recursionLimit → un + 8 * deep < cLine →
    (∀ v news' h' tk', Fr h₀ L h' m → News h₀ L h' news' → Out v news' → Q v { s with heap := h', toks := tk' }) →
    wpAny (model PySem.Challenge.rw_yv0002_01.row.prog w) (ktrTop dp un gd cn cs L a ccd cl []) (call (.ref f) vs) Q E s
section
local macro_rules | `(tactic| ktr_rel) => `(tactic| first | assumption | exact rd_eq | (refine' rd_ne ?rn ?rv; (case rn => decide); (case rv => ktr_rel)) | (refine' IL.here ?ih; (case ih => assumption)) | (refine' IL.skip ?is; (case is => ktr_rel)) | (refine' KeAt.skip ?is; (case is => ktr_rel)) | (refine' Blk.skip ?is; (case is => ktr_rel)) | (refine' In.take ?is _; (case is => ktr_rel)) | (refine' In.drop ?is _; (case is => ktr_rel)))
local macro_rules | `(tactic| k_all) => `(tactic| exact allLt_ne (by assumption))
local macro_rules | `(tactic| ktr_rel) => `(tactic| (refine' MJ.skip ?is; (case is => ktr_rel)))
local macro_rules | `(tactic| k_mem) => `(tactic| with_reducible assumption)
theorem wordsPh1 : True := by
  k_with_none
  k_with "STEPSX" => (repeat' (first | (k_unfold; (try dsimp only)) | (((fail_if_success (with_reducible show wpAny _ _ (setAttr _ _ _) _ _ _)); (fail_if_success (with_reducible show wpAny _ _ (exec (Stmt.For _ _ _ _ _) _) _ _ _)); (fail_if_success (with_reducible show wpAny _ _ (exec (Stmt.While _ _ _ _) _) _ _ _)); (fail_if_success (with_reducible show wpAny _ _ (exec (Stmt.Assign _ (Expr.ListComp _ _ _ _) _) _) _ _ _)); (fail_if_success (with_reducible show wpAny _ _ (eval (Expr.ListComp _ _ _ _) _) _ _ _)); (fail_if_success (with_reducible show LCg.CompSrc _ _ _ _ _ _ _ _ _ _ _ _ _ _)); (fail_if_success (with_reducible show wpAny _ _ (pyIter _) _ _ _)); (fail_if_success (with_reducible show RPost _ _ _ _ _ _ _ _ _)); (fail_if_success (with_reducible show CPost _ _ _ _ _ _ _ _)); (fail_if_success (with_reducible show Exists _)); (fail_if_success (with_reducible show CPostJ _ _ _ _ _ _ _ _ _ _ _ _ _)); (fail_if_success (with_reducible show WhileStep2 _ _ _ _ _ _ _ _)); first | walk1 | (dsimp only; walk1)) <;> ((try dsimp only [List.cons_append, List.nil_append]); (try k_fold)))))
  k_with "subscriptTail" => (k_here; (with_reducible show wpAny _ _ (subscriptTail _ _ (Value.ref _) (Value.int _ _)) _ _ _); k_dflt (refine' item_IL ?qqN ?qqm ?qqa ?qqb ?qqc ?_; (case qqN => k_asm); (case qqm => ktr_rel); (case qqa => lia); (case qqb => lia); (case qqc => lia); k_whole); intro _)
  k_with "call builtin:len" => (k_here; (with_reducible show wpAny _ _ (call (Value.builtin "len") [Value.ref _]) _ _ _); k_dflt (refine' len_IL ?qqN ?qqm ?qqz ?_; (case qqN => k_asm); (case qqm => ktr_rel); (case qqz => lia); k_whole); intro _ _)
  k_with "ite" => (k_here; first | (refine ite_neg (by (simp only [bne_iff_ne, beq_iff_eq, decide_eq_true_eq, ne_eq, Decidable.not_not]; lia)) ?_) | (refine ite_pos (by (simp only [bne_iff_ne, beq_iff_eq, decide_eq_true_eq, ne_eq, Decidable.not_not]; lia)) ?_))
  k_with "eval Name" => (k_here; name_kind "local"; (with_reducible show wpAny _ _ (eval (Expr.Name _ _) (compEnvC _ _ _ _)) _ _ _); k_dflt (refine LCgL.ld_own (by k_asm) (by k_mem) (by assumption) (by assumption) ?_))
  k_with "eval Name" => (k_here; name_kind "globalImplicit"; (with_reducible show wpAny _ _ (eval (Expr.Name _ _) (compEnvC _ _ _ _)) _ _ _); k_dflt (refine LCgL.ld_global (by k_asm) (by k_asm) (by k_asm) (by k_is) ?_))
  k_with "eval Name" => (k_here; name_kind "free"; (with_reducible show wpAny _ _ (eval (Expr.Name _ _) (compEnvC _ _ _ _)) _ _ _); k_dflt (refine' ld_cell ?qqN ?qqc ?qqm ?qqd ?_ ?qqe ?qqf ?qqg; (case qqe => rfl); (case qqf => rfl); (case qqg => decide); (case qqN => k_asm); (case qqc => rfl); (case qqm => k_mem); (case qqd => k_asm); k_whole))
  k_with "eval Name" => (k_here; name_kind "local"; (fail_if_success (with_reducible show wpAny _ _ (eval (Expr.Name _ _) (compEnvC _ _ _ _)) _ _ _)); (with_reducible rename Fr _ _ _ _ => kF); k_dflt (refine' nameX_L kF ?qqv ?_ ?qqa ?qqb; (case qqa => rfl); (case qqb => rfl); (case qqv => ktr_rel); k_whole))
  k_with "subscriptTail" => (k_here; (with_reducible show wpAny _ _ (subscriptTail _ (Expr.Slice (some _) (some _) none _) (Value.ref _) (Value.ref _)) _ _ _); k_dflt (refine' slice_run' ?qqF ?qqN ?qqm ?qqz ?qqa ?qqb ?_; (case qqF => k_asm); (case qqN => k_asm); (case qqm => ktr_rel); (case qqz => lia); (case qqa => lia); (case qqb => lia); k_whole); intro D' h' F' ws' hw' N' l1; (try k_lt l1); (try k_sweep))
  k_with "call builtin:len" => (k_here; k_dflt (refine' len_blk ?qqN ?qqm ?qqz ?_; (case qqN => k_asm); (case qqm => ktr_rel); (case qqz => lia); k_whole); intro _ _)
  k_with "subscriptTail" => (k_here; (with_reducible show wpAny _ _ (subscriptTail _ (Expr.Slice (some _) (some _) none _) _ (Value.ref _)) _ _ _); k_dflt (refine' slice_blk' ?qqe ?qqF ?qqN ?qqm ?qqz ?qqa ?qqb ?_; (case qqe => exact ⟨_, _, _, _, _, rfl, rfl⟩); (case qqF => k_asm); (case qqN => k_asm); (case qqm => ktr_rel); (case qqz => lia); (case qqa => lia); (case qqb => lia); k_whole); intro v' h' k' led' F' N' hs' hb')
  k_with "call ref" => (k_here; k_dflt (refine' Tells.use (compactV _ _ _ _ ?qqhl ?qqh4 ?qqhi) ?qqB ?qqF ?qqX ?qqN ?qqT ?qqhk ?qqhd ?qqhu ?_; (case qqB => k_asm); (case qqF => k_asm); (case qqX => k_asm); (case qqN => k_asm); (case qqT => k_asm); (case qqhk => rfl); (case qqhl => ktr_rel); (case qqh4 => (simp only [List.length_take, List.length_drop]; lia)); (case qqhi => ktr_rel); (case qqhd => first | lia | (dsimp only [ktrTop, Around.deeper]; lia)); (case qqhu => first | lia | (dsimp only [ktrTop, Around.deeper]; lia))); intro v' news' h' tk' F' Nq' hO'; (obtain ⟨hO1, t', hO2⟩ := hO'; subst hO1; subst hO2); (have N9' := drop_led Nq' (by assumption)); (try dsimp only); (try k_sweep))
  k_with "call type:list" => (k_here; (with_reducible show wpAny _ _ (call (Value.type "list") [Value.ref _]) _ _ _); k_dflt (refine' copy_IL ?qqF ?qqN ?qqm ?qqz ?_; (case qqF => k_asm); (case qqN => k_asm); (case qqm => ktr_rel); (case qqz => lia); k_whole); intro D' c' h' vs' hv' F' N' l1; (try k_lt l1); (try k_sweep))
  k_with "setItem ref int" => (k_here; (with_reducible show wpAny _ _ (setItem (Value.ref _) (Value.int _ _) (Value.int _ _)) _ _ _); k_dflt (refine' set_IL ?qqk1 ?qqk2 ?qqk3 ?qqk4 ?qqk5 ?qqk6 ?qqk7 ?_; (case qqk1 => k_asm); (case qqk2 => k_asm); (case qqk3 => k_upd); (case qqk4 => with_reducible assumption); (case qqk5 => lia); (case qqk6 => lia); (case qqk7 => lia); k_whole); intro h' F' N' hi'; (try k_sweep))
  k_with "subscriptTail" => (k_here; (with_reducible show wpAny _ _ (subscriptTail _ _ (Value.ref _) (Value.int _ _)) _ _ _); k_dflt (refine' item_tab ?qqF ?qqX ?qqo ?qqa ?qqb ?qqc ?_; (case qqF => k_asm); (case qqX => k_asm); (case qqo => with_reducible (first | exact tab_S _ | exact tab_T1 _ | exact tab_T2 _ | exact tab_T3 _ | exact tab_T4 _)); (case qqa => exact (and255 _).1); (case qqb => exact (and255 _).2); (case qqc => decide); k_whole); intro _)
  k_with "binaryOp Mod int int" => (k_here; (with_reducible refine mod_pos (by first | decide | lia) ?_))
  k_with "call builtin:list.append" => (k_here; (with_reducible show wpAny _ _ (call (Value.builtin _) [Value.ref _, Value.int _ _]) _ _ _); k_dflt (refine' append_IL ?qqk1 ?qqk2 ?qqk3 ?qqk4 ?qqk5 ?_; (case qqk1 => k_asm); (case qqk2 => k_asm); (case qqk3 => k_upd); (case qqk4 => with_reducible assumption); (case qqk5 => ((try simp only [List.length_append, List.length_cons, List.length_nil]); lia)); k_whole); intro h' F' N' hi'; (try k_sweep))
  k_with "call type:range" => (k_here; (first | (with_reducible show wpAny _ _ (call _ [_]) _ _ _) | (with_reducible show wpAny _ _ (call _ [_, _]) _ _ _)); (rename Fr _ _ _ _ => F'); (rename News _ _ _ _ => N'); (first | (with_unfolding_all refine range1_rows F' N' ?_) | (with_unfolding_all refine range2_rows F' N' ?_)); intro _ _ _ _ _ _ _ _ _)
  k_with "subscriptTail" => (k_here; (with_reducible show wpAny _ _ (subscriptTail _ (Expr.Slice _ _ none _) (Value.bytes _ _) (Value.ref _)) _ _ _); k_dflt (refine' slice_b' ?qqF ?qqN ?qqk ?qql ?qqu ?qqz ?_; (case qqF => k_asm); (case qqN => k_asm); (case qqk => kba_ints); (case qql => constructor); (case qqu => constructor); (case qqz => kba_size); k_whole); intro _ _ _ _ _ kbcK; (try simp only [Option.elim, KBc.clip_lit, clipAt_nat, List.drop_zero, Nat.sub_zero] at kbcK))
  k_with "call type:bytes" => (k_here; (with_reducible show wpAny _ _ (call (Value.type "bytes") [Value.ref _]) _ _ _); k_dflt (refine' mk_IL ?qqF ?qqN ?qqhh ?qqm ?qqr ?qqz ?_; (case qqhh => rfl); (case qqF => k_asm); (case qqN => k_asm); (case qqm => ktr_rel); (case qqr => ktr_rel); (case qqz => lia); k_whole); intro b' h' t' k' F' N' hb'; (try k_sweep))
  k_with "binaryOp Add bytes bytes" => (k_here; k_dflt (refine' KBa.add_K ?qqb ?qqc ?qqz ?_; (case qqb => with_reducible assumption); (case qqc => with_reducible assumption); (case qqz => lia); k_whole); intro t' k' hb')
  k_with "eval Call" => (k_here; (with_reducible show wpAny _ _ (eval (Expr.Call (Expr.Name _ _) _ [] _) _) _ _ _); (fail_if_success (with_reducible show wpAny _ _ (eval _ (compEnvC _ _ _ _)) _ _ _)); k_dflt (refine Call_ ?_))
  k_with "getAttr ref" => (k_here; (with_reducible show wpAny _ _ (getAttr (Value.ref _) (PySem.Str.ofString "_shift_register") _) _ _ _); k_dflt (refine' mj_reg ?qqF ?qqX ?qqN ?qqM ?_; (case qqF => k_asm); (case qqX => k_asm); (case qqN => k_asm); (case qqM => ktr_rel); k_whole); intro _)
  k_with "getAttr ref" => (k_here; (with_reducible show wpAny _ _ (getAttr (Value.ref _) (PySem.Str.ofString "_segment_bytes") _) _ _ _); k_dflt (refine' mj_seg ?qqF ?qqX ?qqN ?qqM ?_; (case qqF => k_asm); (case qqX => k_asm); (case qqN => k_asm); (case qqM => ktr_rel); k_whole); intro _)
  k_with "getAttr ref" => (k_here; (with_reducible show wpAny _ _ (getAttr (Value.ref _) (PySem.Str.ofString "_aes") _) _ _ _); k_dflt (refine' mj_aes ?qqF ?qqX ?qqN ?qqM ?_; (case qqF => k_asm); (case qqX => k_asm); (case qqN => k_asm); (case qqM => ktr_rel); k_whole); intro _)
  k_with "getMethod ref" => (k_here; (with_reducible show wpAny _ _ (getMethod (Value.ref _) (PySem.Str.ofString "encrypt") _) _ _ _); k_dflt (refine' ke_method ?qqF ?qqX ?qqN ?qqK ?_; (case qqF => k_asm); (case qqX => k_asm); (case qqN => k_asm); (case qqK => ktr_rel); k_whole))
  k_with "call type:zip" => (k_here; k_dflt (refine' zip_IL ?qqF ?qqN ?qqm ?_; (case qqF => k_asm); (case qqN => k_asm); (case qqm => k_mem); k_whole); intro h' z' F' N' zR')
  k_with "subscriptTail" => (k_here; (with_reducible show wpAny _ _ (subscriptTail _ (Expr.Slice none (some _) none _) (Value.ref _) (Value.ref _)) _ _ _); k_dflt (refine' slice_upto' ?qqF ?qqN ?qqm ?qqz ?qqb ?_; (case qqF => k_asm); (case qqN => k_asm); (case qqm => ktr_rel); (case qqz => lia); (case qqb => lia); k_whole); intro D' h' F' ws' hw' N' l1; (try k_lt l1); (try k_sweep))
  k_with "call ref" => (k_here; k_dflt (refine' Tells.use (encV _ _ _ _ _ _ _ _ _ _ _ _ _ _ _ ?qqhl ?qqh16 ?qqhi ?qqhK ?qqhR) ?qqB ?qqF ?qqX ?qqN ?qqT ?qqhkk ?qqhd ?qqhu ?_; (case qqB => k_asm); (case qqF => k_asm); (case qqX => k_asm); (case qqN => k_asm); (case qqT => k_asm); (case qqhK => ktr_rel); (case qqhl => ktr_rel); (case qqh16 => with_reducible assumption); (case qqhi => with_reducible assumption); (case qqhR => with_reducible assumption); (case qqhkk => rfl); (case qqhd => first | decide | lia | (dsimp only [ktrTop, Around.deeper]; lia) | (simp only [depth_under_make, depth_deeper, ktrTop]; lia) | ktr_room); (case qqhu => first | decide | lia | (dsimp only [ktrTop, Around.deeper]; lia) | (simp only [units_under_make, units_deeper, ktrTop]; lia) | ktr_units)); intro v' news' h' tk' F' N' hO'; (obtain ⟨D', vs', n', hO1, hO2, hO3, hO4⟩ := hO'; subst hO1; subst hO2); (try dsimp only))
  k_with "subscriptTail Name Slice ref ref" => (k_here; (with_reducible show wpAny _ _ (subscriptTail _ (Expr.Slice none (some _) none _) (Value.ref _) (Value.ref _)) _ _ _); k_dflt (refine' slice_upto' ?qqF ?qqN ?qqm ?qqz ?qqb ?_; (case qqF => k_asm); (case qqN => k_asm); (case qqm => ktr_rel); (case qqz => lia); (case qqb => lia); k_whole); intro D' h' F' ws' hw' N' l1; (try k_lt l1); (try k_sweep))
  k_with "call builtin:list.extend" => (k_here; k_dflt (refine' extend_foc ?qqF ?qqN ?qqD ?qql ?qqz ?_; (case qqF => k_asm); (case qqN => k_asm); (case qqD => ktr_rel); (case qql => ktr_rel); (case qqz => lia); k_whole); intro h' o' F' N' hE')
  exact trivial
set_option maxHeartbeats 8000000 in
theorem refusedV (w : World) (led : List (Addr × Obj)) (q l c dc x dx ke kd : Addr) (q1 q2 q3 p1 p2 : Int) (k1 k2 k3 j1 j2 : Tok) (nke : Nat) (rows : List Addr) (KE : List (List Int)) (z : Nat) (ts : Tok) (rb : Array UInt8) (rt : Tok) (M : MJ led c dc x dx ke kd q1 q2 q3 p1 p2 k1 k2 k3 j1 j2 nke rows KE z ts rb rt)
   (hq : (q, methodObj (.ref 367) (.ref c)) ∈ led) (ks : List Int) (hl : IL led l ks) (hi : KBa.In ks) (hz : ks.length ≤ 1000) (hz1 : 0 < (z : Int)) (hmod : ((ks.length : Nat) : Int) % (z : Int) ≠ 0) :
   Tells0 w 495 [.ref q, .ref l] 6 led fun v led' => v = .bool true ∧ led' = led := by
  unfold Tells0; k_fill; intro loose mean mg mb dp un gd cn cs a ccd cl A₀ h₀ L m s Q E B F X N T hk hd hu hret
  refine wpAny_call ?_; k_dflt (refine' code_S0X (binds := [(Str.ofString "call", Value.ref q), (Str.ofString "octets", Value.ref l)]) ?k1 ?k2 ?k3 ?k4 ?k5 ?kA ?kF ?kK ?k6 ?k7 ?k8 ?k9 ?kB ?_ ?c2 ?c3 ?c4 ?c5; (case kA => exact rfl); (case kF => exact rfl); (case kK => assumption); (case k1 => exact B); (case k2 => exact F); (case k3 => exact X); (case k4 => exact N); (case k5 => exact T); (case k6 => k_is); (case k7 => k_is); (case k8 => ktr_room); (case k9 => exact BindsTo.of_eq rfl); (case c5 => decide); (case kB => exact locs rfl); (case c2 => exact rfl); (case c3 => exact rfl); (case c4 => exact rfl)); intro g1 L1 h1 FG1 F1 N1 B1 X1 T1 D1; (try dsimp only); (try k_fold)
  k_extra "STEPSX"
  rename Fr _ _ _ _ => F5
  rename News _ _ _ _ => N5
  refine call_meth N5 hq ?_
  rename KBw.bInts _ = ks => hb1
  have D' := trivial; have F' := trivial; have N' := trivial; have N9' := trivial; have Nq' := trivial; have b' := trivial; have c' := trivial; have h' := trivial; have hE' := trivial; have hO' := trivial; have hO1 := trivial; have hO2 := trivial; have hO3 := trivial; have hO4 := trivial; have hb' := trivial; have hi' := trivial; have hs' := trivial; have hv' := trivial; have hw' := trivial; have k' := trivial; have kF := trivial; have kbcK := trivial; have l1 := trivial; have led' := trivial; have n' := trivial; have news' := trivial; have o' := trivial; have t' := trivial; have tk' := trivial; have v' := trivial; have vs' := trivial; have ws' := trivial; have z' := trivial; have zR' := trivial
  rename_i b1 h3 t4 k4
  clear D' F' N' N9' Nq' b' c' h' hE' hO' hO1 hO2 hO3 hO4 hb' hi' hs' hv' hw' k' kF kbcK l1 led' n' news' o' t' tk' v' vs' ws' z' zR'
  k_dflt (refine' code_def (binds := [(Str.ofString "self", Value.ref c), (Str.ofString "plaintext", Value.bytes b1 t4)]) ?k1 ?k2 ?k3 ?k4 ?k5 ?kA ?kF ?kK ?k6 ?k7 ?k8 ?k9 ?kB ?_ ?c2 ?c3 ?c4 ?c5; (case kA => exact rfl); (case kF => exact rfl); (case kK => first | assumption | exact rfl); (case k1 => exact B1); (case k2 => exact F5); (case k3 => exact X1); (case k4 => exact N5); (case k5 => exact T1); (case k6 => k_is); (case k7 => k_is); (case k8 => ktr_room); (case k9 => first | exact BindsTo.of_eq rfl | exact binds_K (by k_in) rfl (by k_is) rfl rfl rfl); (case c5 => decide); (case kB => exact locs rfl); (case c2 => exact rfl); (case c3 => exact rfl); (case c4 => exact rfl)); intro g2 L2 h2 FG2 F2 N2 B2 X2 T2; (try dsimp only); (try k_fold)
  k_extra "STEPSX"
  exact hret _ _ _ _ (by assumption) (by assumption) ⟨rfl, rfl⟩
set_option maxHeartbeats 8000000 in
theorem refusedW (w : World) (led : List (Addr × Obj)) (q l c dc x dx ke kd : Addr) (q1 q2 q3 p1 p2 : Int) (k1 k2 k3 j1 j2 : Tok) (nke : Nat) (rows : List Addr) (KE : List (List Int)) (z : Nat) (ts : Tok) (rb : Array UInt8) (rt : Tok) (M : MJ led c dc x dx ke kd q1 q2 q3 p1 p2 k1 k2 k3 j1 j2 nke rows KE z ts rb rt)
   (hq : (q, methodObj (.ref 372) (.ref c)) ∈ led) (ks : List Int) (hl : IL led l ks) (hi : KBa.In ks) (hz : ks.length ≤ 1000) (hz1 : 0 < (z : Int)) (hmod : ((ks.length : Nat) : Int) % (z : Int) ≠ 0) :
   Tells0 w 495 [.ref q, .ref l] 6 led fun v led' => v = .bool true ∧ led' = led := by
  unfold Tells0; k_fill; intro loose mean mg mb dp un gd cn cs a ccd cl A₀ h₀ L m s Q E B F X N T hk hd hu hret
  refine wpAny_call ?_; k_dflt (refine' code_S0X (binds := [(Str.ofString "call", Value.ref q), (Str.ofString "octets", Value.ref l)]) ?k1 ?k2 ?k3 ?k4 ?k5 ?kA ?kF ?kK ?k6 ?k7 ?k8 ?k9 ?kB ?_ ?c2 ?c3 ?c4 ?c5; (case kA => exact rfl); (case kF => exact rfl); (case kK => assumption); (case k1 => exact B); (case k2 => exact F); (case k3 => exact X); (case k4 => exact N); (case k5 => exact T); (case k6 => k_is); (case k7 => k_is); (case k8 => ktr_room); (case k9 => exact BindsTo.of_eq rfl); (case c5 => decide); (case kB => exact locs rfl); (case c2 => exact rfl); (case c3 => exact rfl); (case c4 => exact rfl)); intro g1 L1 h1 FG1 F1 N1 B1 X1 T1 D1; (try dsimp only); (try k_fold)
  k_extra "STEPSX"
  rename Fr _ _ _ _ => F5
  rename News _ _ _ _ => N5
  refine call_meth N5 hq ?_
  rename KBw.bInts _ = ks => hb1
  have D' := trivial; have F' := trivial; have N' := trivial; have N9' := trivial; have Nq' := trivial; have b' := trivial; have c' := trivial; have h' := trivial; have hE' := trivial; have hO' := trivial; have hO1 := trivial; have hO2 := trivial; have hO3 := trivial; have hO4 := trivial; have hb' := trivial; have hi' := trivial; have hs' := trivial; have hv' := trivial; have hw' := trivial; have k' := trivial; have kF := trivial; have kbcK := trivial; have l1 := trivial; have led' := trivial; have n' := trivial; have news' := trivial; have o' := trivial; have t' := trivial; have tk' := trivial; have v' := trivial; have vs' := trivial; have ws' := trivial; have z' := trivial; have zR' := trivial
  rename_i b1 h3 t4 k4
  clear D' F' N' N9' Nq' b' c' h' hE' hO' hO1 hO2 hO3 hO4 hb' hi' hs' hv' hw' k' kF kbcK l1 led' n' news' o' t' tk' v' vs' ws' z' zR'
  k_dflt (refine' code_def (binds := [(Str.ofString "self", Value.ref c), (Str.ofString "ciphertext", Value.bytes b1 t4)]) ?k1 ?k2 ?k3 ?k4 ?k5 ?kA ?kF ?kK ?k6 ?k7 ?k8 ?k9 ?kB ?_ ?c2 ?c3 ?c4 ?c5; (case kA => exact rfl); (case kF => exact rfl); (case kK => first | assumption | exact rfl); (case k1 => exact B1); (case k2 => exact F5); (case k3 => exact X1); (case k4 => exact N5); (case k5 => exact T1); (case k6 => k_is); (case k7 => k_is); (case k8 => ktr_room); (case k9 => first | exact BindsTo.of_eq rfl | exact binds_K (by k_in) rfl (by k_is) rfl rfl rfl); (case c5 => decide); (case kB => exact locs rfl); (case c2 => exact rfl); (case c3 => exact rfl); (case c4 => exact rfl)); intro g2 L2 h2 FG2 F2 N2 B2 X2 T2; (try dsimp only); (try k_fold)
  k_extra "STEPSX"
  exact hret _ _ _ _ (by assumption) (by assumption) ⟨rfl, rfl⟩
theorem wordsPh2 : True := by
  k_with "call ref" => (k_here; k_dflt (refine' Tells.use (cfbV _ _ _ _ _ ?qqhk ?qqhin _ ?qqhR _ _ _ ?qqhib ?qqhrs _ _ ?qqhz) ?qqB ?qqF ?qqX ?qqN ?qqT ?qqhkk ?qqhd ?qqhu ?_; (case qqB => k_asm); (case qqF => k_asm); (case qqX => k_asm); (case qqN => k_asm); (case qqT => k_asm); (case qqhk => with_reducible assumption); (case qqhin => with_reducible assumption); (case qqhR => with_reducible assumption); (case qqhib => with_reducible assumption); (case qqhrs => with_reducible assumption); (case qqhz => with_reducible assumption); (case qqhkk => rfl); (case qqhd => first | decide | lia | (dsimp only [ktrTop, Around.deeper]; lia) | (simp only [depth_under_make, depth_deeper, ktrTop]; lia) | ktr_room); (case qqhu => first | decide | lia | (dsimp only [ktrTop, Around.deeper]; lia) | (simp only [units_under_make, units_deeper, ktrTop]; lia) | ktr_units)); intro v' news' h' tk' F' N' hO'; (try dsimp only))
  exact trivial
set_option maxHeartbeats 8000000 in
theorem modeV (w : World) (news : List (Addr × Obj)) (kl fl : Addr) (ks rs : List Int) (hkl : IL news kl ks) (hin : KBa.In ks) (R : Nat) (hR : RoundsOf ks.length R) (hks : ks.length ≤ 32) (hfl : IL news fl rs) (hri : KBa.In rs) (hrs : rs.length = 16) (z : Nat) (hz : z ≤ 16) (t1 t2 t3 : Tok) :
   Tells w 488 [.int 2 t1, .ref kl, .ref fl, .int (z : Int) t2, .int 0 t3] 8 news fun v news' => ∃ c dc ad, v = .ref c ∧ ModeAt news' c dc ad rs (zOf z) (keOf w.params ks) ∧ (∀ p ∈ news, p ∈ news') ∧ ∀ p ∈ news, ∀ a ∈ c :: dc :: ad, (@Ne Nat p.1 a) := by
  unfold Tells; k_fill; intro loose mean mg mb dp un gd cn cs a ccd cl outer A₀ base h₀ L m s Q E B F X N T hk hd hu hret
  refine wpAny_call ?_; k_dflt (refine' code_def (binds := [(Str.ofString "mode", Value.int 2 t1), (Str.ofString "key", Value.ref kl), (Str.ofString "first", Value.ref fl), (Str.ofString "size", Value.int (z : Int) t2), (Str.ofString "start", Value.int 0 t3)]) ?k1 ?k2 ?k3 ?k4 ?k5 ?kA ?kF ?kK ?k6 ?k7 ?k8 ?k9 ?kB ?_ ?c2 ?c3 ?c4 ?c5; (case kA => exact rfl); (case kF => exact rfl); (case kK => assumption); (case k1 => exact B); (case k2 => exact F); (case k3 => exact X); (case k4 => exact N); (case k5 => exact T); (case k6 => k_is); (case k7 => k_is); (case k8 => ktr_room); (case k9 => first | exact BindsTo.of_eq rfl | exact binds_K (by k_in) rfl (by k_is) rfl rfl rfl); (case c5 => decide); (case kB => exact locs rfl); (case c2 => exact rfl); (case c3 => exact rfl); (case c4 => exact rfl)); intro g1 L1 h1 FG1 F1 N1 B1 X1 T1; (try dsimp only); (try k_fold)
  k_extra "STEPSX"
  rename ∃ _, _ => hO
  exact hret _ _ _ _ (by assumption) (by assumption) hO
end

section
variable {P : Params} {KE : List (List Int)} {z : Nat}
theorem cong {reg d1 d2 : List Int} {a : Nat} (h : ∀ i, i < a → seg z d1 i = seg z d2 i) : ∀ {i : Nat}, i ≤ a → cR P KE z reg d1 i = cR P KE z reg d2 i ∧ cO P KE z reg d1 i = cO P KE z reg d2 i
  | 0, _ => ⟨rfl, rfl⟩
  | i + 1, hi => by
    obtain ⟨h1, h2⟩ := cong (reg := reg) h (i := i) (by lia)
    constructor
    · rw [cR, cR, h1, h i (by lia)]
    · rw [cO, cO, h1, h2, h i (by lia)]
theorem seg_take {data : List Int} {a i : Nat} (hi : i < a) : seg z (data.take (z * a)) i = seg z data i := by
  have h1 : z * i + z ≤ z * a := by rw [← Nat.mul_succ]; exact Nat.mul_le_mul_left z hi
  unfold seg
  rw [List.drop_take, List.take_take]
  congr 1
  lia
theorem seg_drop {data : List Int} {a j : Nat} : seg z (data.drop (z * a)) j = seg z data (a + j) := by
  unfold seg
  rw [List.drop_drop, Nat.mul_add]
theorem suf {reg data : List Int} {a : Nat} : ∀ j, cR P KE z reg data (a + j) = cR P KE z (cR P KE z reg data a) (data.drop (z * a)) j ∧ cO P KE z reg data (a + j) = cO P KE z reg data a ++ cO P KE z (cR P KE z reg data a) (data.drop (z * a)) j
  | 0 => ⟨rfl, by rw [Nat.add_zero, cO, List.append_nil]⟩
  | j + 1 => by
    obtain ⟨h1, h2⟩ := suf (reg := reg) (data := data) (a := a) j
    rw [← Nat.add_assoc]
    constructor
    · rw [cR, cR, seg_drop, h1]
    · rw [cO, cO, seg_drop, h1, h2, List.append_assoc]
theorem cO_take {reg data : List Int} {n a : Nat} (hd : data.length = z * n) (hz : z ≤ 16) (ha : a ≤ n) : (cO P KE z reg data n).take (z * a) = cO P KE z reg data a := by
  have h := (suf (P := P) (KE := KE) (z := z) (reg := reg) (data := data) (a := a) (n - a)).2
  rw [show a + (n - a) = n by lia] at h
  rw [h, List.take_left' (cO_len hd hz ha)]
theorem cO_drop {reg data : List Int} {n a : Nat} (hd : data.length = z * n) (hz : z ≤ 16) (ha : a ≤ n) : (cO P KE z reg data n).drop (z * a) = cO P KE z (cR P KE z reg data a) (data.drop (z * a)) (n - a) := by
  have h := (suf (P := P) (KE := KE) (z := z) (reg := reg) (data := data) (a := a) (n - a)).2
  rw [show a + (n - a) = n by lia] at h
  rw [h, List.drop_left' (cO_len hd hz ha)]
theorem pre {reg data : List Int} {a : Nat} : cO P KE z reg (data.take (z * a)) a = cO P KE z reg data a ∧ cR P KE z reg (data.take (z * a)) a = cR P KE z reg data a :=
  let h := cong (P := P) (KE := KE) (reg := reg) (d1 := data.take (z * a)) (d2 := data) (a := a) (fun _ hi => seg_take hi) (Nat.le_refl a)
  ⟨h.2, h.1⟩
theorem seg_cO {reg data : List Int} {n i : Nat} (hd : data.length = z * n) (hz : z ≤ 16) (hi : i < n) : seg z (cO P KE z reg data n) i = xorL (seg z data i) ((encOf P KE (cR P KE z reg data i)).take z) := by
  have h := (suf (P := P) (KE := KE) (z := z) (reg := reg) (data := data) (a := i + 1) (n - (i + 1))).2
  rw [show i + 1 + (n - (i + 1)) = n by lia] at h
  unfold seg
  rw [h, cO, List.append_assoc, List.drop_left' (cO_len hd hz (by lia)), List.take_left' (segx_len hd hi hz)]
  rfl
theorem xorL_undo : ∀ {xs ys : List Int}, KBa.In xs → KBa.In ys → xs.length = ys.length → xorL (xorL xs ys) ys = xs
  | [], _, _, _, _ => rfl
  | x :: r, [], _, _, h => by simp at h
  | x :: r, y :: q, hx, hy, h => by
    have ih := xorL_undo (xs := r) (ys := q) (fun v hv => hx v (.tail _ hv)) (fun v hv => hy v (.tail _ hv)) (by simpa using h)
    show Builtin.bitXor (Builtin.bitXor x y) y :: xorL (xorL r q) q = x :: r
    rw [ih, xor_undo (hx x (.head _)).1 (hy y (.head _)).1]
theorem inv {reg data : List Int} {n : Nat} (hd : data.length = z * n) (hdi : KBa.In data) (hz : z ≤ 16) : ∀ {i : Nat}, i ≤ n → dR P KE z reg (cO P KE z reg data n) i = cR P KE z reg data i ∧ dO P KE z reg (cO P KE z reg data n) i = data.take (z * i)
  | 0, _ => ⟨rfl, by simp [dO]⟩
  | i + 1, hi => by
    obtain ⟨h1, h2⟩ := inv (reg := reg) hd hdi hz (i := i) (by lia)
    have hs := seg_cO (P := P) (KE := KE) (reg := reg) hd hz (show i < n by lia)
    constructor
    · rw [dR, h1, hs, cR]
    · rw [dO, h1, h2, hs, xorL_undo (seg_in hdi) (In.take (encOf_in _ _ _) _) (by rw [seg_len hd (show i < n by lia), List.length_take, encOf_len]; lia)]
      unfold seg
      rw [Nat.mul_succ, List.take_add]
theorem dec_all {reg data : List Int} {n : Nat} (hd : data.length = z * n) (hdi : KBa.In data) (hz : z ≤ 16) : dO P KE z reg (cO P KE z reg data n) n = data ∧ dR P KE z reg (cO P KE z reg data n) n = cR P KE z reg data n := by
  obtain ⟨h1, h2⟩ := inv (P := P) (KE := KE) (reg := reg) hd hdi hz (Nat.le_refl n)
  exact ⟨by rw [h2, ← hd, List.take_length], h1⟩
/-- the first piece, and what the register holds behind it -/
theorem dec_pre {reg data : List Int} {n a : Nat} (hd : data.length = z * n) (hdi : KBa.In data) (hz : z ≤ 16) (ha : a ≤ n) : dO P KE z reg ((cO P KE z reg data n).take (z * a)) a = data.take (z * a) ∧ dR P KE z reg ((cO P KE z reg data n).take (z * a)) a = cR P KE z reg data a := by
  have hl : (data.take (z * a)).length = z * a := by rw [List.length_take, hd]; exact Nat.min_eq_left (Nat.mul_le_mul_left z ha)
  have h := dec_all (P := P) (KE := KE) (reg := reg) hl (In.take hdi _) hz
  rw [(pre (P := P) (KE := KE) (z := z) (reg := reg) (data := data) (a := a)).1, (pre (P := P) (KE := KE) (z := z) (reg := reg) (data := data) (a := a)).2] at h
  rw [cO_take hd hz ha]
  exact h
theorem dec_suf {reg data : List Int} {n a : Nat} (hd : data.length = z * n) (hdi : KBa.In data) (hz : z ≤ 16) (ha : a ≤ n) : dO P KE z (cR P KE z reg data a) ((cO P KE z reg data n).drop (z * a)) (n - a) = data.drop (z * a) := by
  have hl : (data.drop (z * a)).length = z * (n - a) := by rw [List.length_drop, hd, Nat.mul_sub]
  rw [cO_drop hd hz ha]
  exact (dec_all (P := P) (KE := KE) (reg := cR P KE z reg data a) hl (In.drop hdi _) hz).1
end

theorem of_lm {p : Addr × Obj} {L : List (Addr × Obj)} (h : List.Mem p L) : p ∈ L := h
theorem lm_sub {p : Addr × Obj} {L L' : List (Addr × Obj)} (h : List.Mem p L) (hs : ∀ p ∈ L, p ∈ L') : List.Mem p L' := hs p h
theorem off3_of {I C D : Addr} : ∀ {l : List (Addr × Obj)}, (∀ p ∈ l, (@Ne Nat p.1 I) ∧ (@Ne Nat p.1 C) ∧ (@Ne Nat p.1 D)) → LCg.Off3 I C D l
  | [], _ => trivial
  | p :: r, h => ⟨h p (.head _), off3_of fun q hq => h q (.tail _ hq)⟩
/-- a mode's object is known in every ledger that holds its entries -/
theorem ModeAt.to {led led' : List (Addr × Obj)} {c dc : Addr} {ad : List Addr} {reg : List Int} {z : Nat} {KE : List (List Int)} (h : ModeAt led c dc ad reg z KE) (hs : ∀ p ∈ led, p.1 ∈ c :: dc :: ad → p ∈ led') : ModeAt led' c dc ad reg z KE := by
  obtain ⟨x, dx, ke, kd, q1, q2, q3, p1, p2, k1, k2, k3, j1, j2, nke, rows, ts, rb, rt, rfl, hr, M⟩ := h.toMJ
  refine MJ.toMode (q1 := q1) (q2 := q2) (q3 := q3) (k1 := k1) (k2 := k2) (k3 := k3) (rb := rb) (rt := rt) (ts := ts) (p1 := p1) (p2 := p2) (j1 := j1) (j2 := j2) (nke := nke) (kd := kd) ⟨hs _ M.hc (by simp), hs _ M.hd (by simp), ?_, M.hcd, M.hnd⟩ hr
  refine ⟨hs _ M.hK.hx (by simp), hs _ M.hK.hdx (by simp), hs _ M.hK.hke (by simp), M.hK.hlen, fun i hi => ?_⟩
  obtain ⟨⟨vs, n, hm, hI⟩, h4⟩ := M.hK.hrow i hi
  refine ⟨⟨vs, n, hs _ hm ?_, hI⟩, h4⟩
  have hl : i < rows.length := by rw [M.hK.hlen]; exact hi
  have he : rows.getD i 0 ∈ rows := by
    rw [List.getD_eq_getElem?_getD, List.getElem?_eq_getElem hl]
    exact List.getElem_mem hl
  exact .tail _ (.tail _ (.tail _ (.tail _ (.tail _ he))))
theorem ModeAt.lift2 {led led' : List (Addr × Obj)} {c dc e : Addr} {ad : List Addr} {reg : List Int} {z : Nat} {KE : List (List Int)} (h : ModeAt led c dc ad reg z KE) (he : e ∉ c :: dc :: ad) (hs : ∀ p ∈ led, p.1 ≠ e → p ∈ led') : ModeAt led' c dc ad reg z KE :=
  h.to fun p hp hm => hs p hp fun e' => he (e' ▸ hm)
/-- the entry of a mode's own dict -/
theorem ModeAt.dict {led : List (Addr × Obj)} {c dc : Addr} {ad : List Addr} {reg : List Int} {z : Nat} {KE : List (List Int)} (h : ModeAt led c dc ad reg z KE) : ∃ o, (dc, o) ∈ led := let ⟨_, _, _, _, _, _, _, _, _, _, _, _, _, _, _, _, _, _, _, _, _, _, _, _, hd, _⟩ := h; ⟨_, hd⟩
/-- modes in the making: base is kept, each mode's dict is its own -/
structure ModesJ (base : List (Addr × Obj)) (reg : List Int) (z : Nat) (KE : List (List Int)) (i : Nat) (ys : List Value) (nx : List (Addr × Obj)) (c dc : Nat → Addr) (ad : Nat → List Addr) : Prop where
  hy : ys = (List.range i).map fun j => Value.ref (c j)
  hb : ∀ p ∈ base, p ∈ nx
  hM : ∀ j, j < i → ModeAt nx (c j) (dc j) (ad j) reg z KE
  hn : ∀ p ∈ base, ∀ j, j < i → (@Ne Nat p.1 (dc j))
  hd : ∀ j k, j < i → k < i → j ≠ k → dc j ∉ c k :: dc k :: ad k
theorem ModesJ.nil (base : List (Addr × Obj)) (reg : List Int) (z : Nat) (KE : List (List Int)) : ModesJ base reg z KE 0 [] base (fun _ => 0) (fun _ => 0) (fun _ => []) :=
  ⟨rfl, fun _ h => h, fun _ h => (nomatch h), fun _ _ _ h => (nomatch h), fun _ _ h => (nomatch h)⟩
theorem ModesJ.snoc {base nx nx' : List (Addr × Obj)} {reg : List Int} {z : Nat} {KE : List (List Int)} {i : Nat} {ys : List Value} {c dc : Nat → Addr} {ad : Nat → List Addr} {c' dc' : Addr} {ad' : List Addr}
   (J : ModesJ base reg z KE i ys nx c dc ad) (hs : ∀ p ∈ nx, p ∈ nx') (hM : ModeAt nx' c' dc' ad' reg z KE) (hne : ∀ p ∈ nx, ∀ a ∈ c' :: dc' :: ad', (@Ne Nat p.1 a)) :
   ModesJ base reg z KE (i + 1) (ys ++ [.ref c']) nx' (fun j => if j = i then c' else c j) (fun j => if j = i then dc' else dc j) (fun j => if j = i then ad' else ad j) := by
  have hold : ∀ j, j < i → (if j = i then c' else c j) = c j := fun j h => if_neg (Nat.ne_of_lt h)
  refine ⟨?_, fun p hp => hs p (J.hb p hp), fun j hj => ?_, fun p hp j hj => ?_, fun j k hj hk hjk => ?_⟩
  · rw [J.hy, List.range_succ, List.map_append]
    congr 1
    · refine List.map_congr_left fun j hj => ?_
      rw [hold j (List.mem_range.mp hj)]
    · simp
  · by_cases e : j = i
    · simp only [e, if_true]; exact hM
    · simp only [e, if_false]; exact (J.hM j (by lia)).to fun p hp _ => hs p hp
  · by_cases e : j = i
    · simp only [e, if_true]; exact hne p (J.hb p hp) _ (.tail _ (.head _))
    · simp only [e, if_false]; exact J.hn p hp j (by lia)
  · by_cases e : j = i
    · by_cases e' : k = i
      · exact absurd (e.trans e'.symm) hjk
      · simp only [e, e', if_true, if_false]
        intro hm
        obtain ⟨x, dx, ke, kd, q1, q2, q3, p1, p2, k1, k2, k3, j1, j2, nke, rows, ts, rb, rt, ha, hr, M⟩ := (J.hM k (by lia)).toMJ
        have key : ∀ b ∈ c k :: dc k :: ad k, ∃ o, (b, o) ∈ nx := by
          rw [ha]
          intro b hb
          simp only [List.mem_cons] at hb
          rcases hb with rfl | rfl | rfl | rfl | rfl | hb
          · exact ⟨_, M.hc⟩
          · exact ⟨_, M.hd⟩
          · exact ⟨_, M.hK.hx⟩
          · exact ⟨_, M.hK.hdx⟩
          · exact ⟨_, M.hK.hke⟩
          · obtain ⟨n, hn, rfl⟩ := List.getElem_of_mem hb
            obtain ⟨⟨vs, m, hm', hI⟩, h4⟩ := M.hK.hrow n (by rw [← M.hK.hlen]; exact hn)
            rw [List.getD_eq_getElem?_getD, List.getElem?_eq_getElem hn] at hm'
            exact ⟨_, hm'⟩
        obtain ⟨o, ho⟩ := key _ hm
        exact hne _ ho dc' (.tail _ (.head _)) rfl
    · by_cases e' : k = i
      · simp only [e, e', if_true, if_false]
        intro hm
        obtain ⟨o, ho⟩ := (J.hM j (by lia)).dict
        exact hne _ ho _ hm rfl
      · simp only [e, e', if_false]
        exact J.hd j k (by lia) (by lia) hjk
/-- what the law holds while its four modes work -/
structure LS (led : List (Addr × Obj)) (S : Addr) (ok of' oz : Obj) (kl fl dl el : Addr) (key first data due : List Int) (ml : Addr) (mo : Obj) (c dc : Nat → Addr) (ad : Nat → List Addr) (reg : Nat → List Int) (z : Nat) (KE : List (List Int)) : Prop where
  hck : List.Mem (S + 1, ok) led
  hcf : List.Mem (S + 1 + 1, of') led
  hcz : List.Mem (S + 1 + 1 + 1, oz) led
  hkIL : IL led kl key
  hfIL : IL led fl first
  hdIL : IL led dl data
  heIL : IL led el due
  hml : List.Mem (ml, mo) led
  hM : ∀ j, j < 4 → ModeAt led (c j) (dc j) (ad j) (reg j) z KE
  hd : ∀ j k, j < 4 → k < 4 → j ≠ k → dc j ∉ c k :: dc k :: ad k
  hne : ∀ a ∈ [S + 1, S + 1 + 1, S + 1 + 1 + 1, kl, fl, dl, el, ml], ∀ j, j < 4 → a ≠ dc j
theorem LS.mono {led led' : List (Addr × Obj)} {S : Addr} {ok of' oz : Obj} {kl fl dl el : Addr} {key first data due : List Int} {ml : Addr} {mo : Obj} {c dc : Nat → Addr} {ad : Nat → List Addr} {reg : Nat → List Int} {z : Nat} {KE : List (List Int)}
   (h : LS led S ok of' oz kl fl dl el key first data due ml mo c dc ad reg z KE) (hs : ∀ p ∈ led, p ∈ led') : LS led' S ok of' oz kl fl dl el key first data due ml mo c dc ad reg z KE :=
  ⟨hs _ h.hck, hs _ h.hcf, hs _ h.hcz, h.hkIL.mono hs, h.hfIL.mono hs, h.hdIL.mono hs, h.heIL.mono hs, hs _ h.hml, fun j hj => (h.hM j hj).to fun p hp _ => hs p hp, h.hd, h.hne⟩
theorem LS.upd {led led' : List (Addr × Obj)} {S : Addr} {ok of' oz : Obj} {kl fl dl el : Addr} {key first data due : List Int} {ml : Addr} {mo : Obj} {c dc : Nat → Addr} {ad : Nat → List Addr} {reg : Nat → List Int} {z : Nat} {KE : List (List Int)}
   (h : LS led S ok of' oz kl fl dl el key first data due ml mo c dc ad reg z KE) (j : Nat) (hj : j < 4) {r : List Int} (hM : ModeAt led' (c j) (dc j) (ad j) r z KE) (hs : ∀ p ∈ led, p.1 ≠ dc j → p ∈ led') :
   LS led' S ok of' oz kl fl dl el key first data due ml mo c dc ad (fun i => if i = j then r else reg i) z KE := by
  have ne := fun a ha => h.hne a ha j hj
  refine ⟨hs _ h.hck (ne _ (by simp)), hs _ h.hcf (ne _ (by simp)), hs _ h.hcz (ne _ (by simp)), h.hkIL.lift (ne _ (by simp)) hs, h.hfIL.lift (ne _ (by simp)) hs, h.hdIL.lift (ne _ (by simp)) hs, h.heIL.lift (ne _ (by simp)) hs, hs _ h.hml (ne _ (by simp)), fun k hk => ?_, h.hd, h.hne⟩
  by_cases e : k = j
  · subst e; simp only [if_true]; exact hM
  · simp only [e, if_false]; exact (h.hM k hk).lift2 (h.hd j k hj hk fun e' => e e'.symm) hs
theorem modes_in {I C D : Addr} {oI oC oD : Obj} {nx led : List (Addr × Obj)} (hs : ∀ p ∈ (I, oI) :: (C, oC) :: (D, oD) :: nx, p ∈ led) : ∀ p ∈ (I, oI) :: (C, oC) :: (D, oD) :: led.filter (fun p => p.1 ≠ I ∧ p.1 ≠ C ∧ p.1 ≠ D), p ∈ led := by
  intro p hp
  simp only [List.mem_cons] at hp
  rcases hp with rfl | rfl | rfl | h
  · exact hs _ (.head _)
  · exact hs _ (.tail _ (.head _))
  · exact hs _ (.tail _ (.tail _ (.head _)))
  · exact (List.mem_filter.mp h).1
theorem bInts_inj {b c : Array UInt8} (h : KBw.bInts b = KBw.bInts c) : b.toList = c.toList := by
  unfold KBw.bInts at h
  exact List.map_inj_right (f := fun c : UInt8 => (c.toNat : Int)) (fun x y h => UInt8.toNat_inj.mp (Int.ofNat_inj.mp h)) |>.mp h
section
variable {prog : Program} {w : World} {A : Around} {E : Value → Shared → Prop} {s : Shared} {h₀ : Heap} {L : Addr} {m : PySem.Str → Option Value} {led : List (Addr × Obj)} {c dc : Addr} {ad : List Addr} {reg : List Int} {z : Nat} {KE : List (List Int)}
theorem ne_same {b b' : Array UInt8} {t t' : Tok} {ks : List Int} {Q : Value → Shared → Prop} (h1 : KBw.bInts b = ks) (h2 : KBw.bInts b' = ks) (h : Q (.bool false) s) : wpAny (model prog w) A (compareOp .NotEq (.bytes b t) (.bytes b' t')) Q E s :=
  ne_bytes (by rw [bInts_inj (h1.trans h2.symm)]; simpa using h)
theorem eq_same {b b' : Array UInt8} {t t' : Tok} {ks : List Int} {Q : Value → Shared → Prop} (h1 : KBw.bInts b = ks) (h2 : KBw.bInts b' = ks) (h : Q (.bool true) s) : wpAny (model prog w) A (compareOp .Eq (.bytes b t) (.bytes b' t')) Q E s :=
  eq_bytes (by rw [bInts_inj (h1.trans h2.symm)]; simpa using h)
theorem mode_enc {pl : Sem Bool} {Q : Value × List Value → Shared → Prop} (F : Fr h₀ L s.heap m) (X : (Mine.hd.heap_39 w.params).In h₀) (N : News h₀ L s.heap led) (M : ModeAt led c dc ad reg z KE) (h : Q (.ref 367, [.ref c]) s) : wpAny (model prog w) A (getMethod (.ref c) (Str.ofString "encrypt") pl) Q E s := by
  obtain ⟨x, dx, ke, kd, q1, q2, q3, p1, p2, k1, k2, k3, j1, j2, nke, rows, ts, rb, rt, ha, hr, M⟩ := M.toMJ
  exact method_inst (C := 375) F X (InstAt.of_news N M.hc M.hd) (by kernel_rfl) (by kernel_rfl) (by kernel_rfl) (by kernel_rfl) h
theorem mode_dec {pl : Sem Bool} {Q : Value × List Value → Shared → Prop} (F : Fr h₀ L s.heap m) (X : (Mine.hd.heap_39 w.params).In h₀) (N : News h₀ L s.heap led) (M : ModeAt led c dc ad reg z KE) (h : Q (.ref 372, [.ref c]) s) : wpAny (model prog w) A (getMethod (.ref c) (Str.ofString "decrypt") pl) Q E s := by
  obtain ⟨x, dx, ke, kd, q1, q2, q3, p1, p2, k1, k2, k3, j1, j2, nke, rows, ts, rb, rt, ha, hr, M⟩ := M.toMJ
  exact method_inst (C := 375) F X (InstAt.of_news N M.hc M.hd) (by kernel_rfl) (by kernel_rfl) (by kernel_rfl) (by kernel_rfl) h
theorem mode_benc {expr : Bool} {Q : Value → Shared → Prop} (F : Fr h₀ L s.heap m) (X : (Mine.hd.heap_39 w.params).In h₀) (N : News h₀ L s.heap led) (M : ModeAt led c dc ad reg z KE)
    (h : ∀ q h' k, Fr h₀ L h' m → News h₀ L h' ((q, methodObj (.ref 367) (.ref c)) :: led) → (∀ p ∈ led, p.1 < q) → Q (.ref q) { s with heap := h', toks := k }) : wpAny (model prog w) A (getAttr (.ref c) (Str.ofString "encrypt") expr) Q E s := by
  obtain ⟨x, dx, ke, kd, q1, q2, q3, p1, p2, k1, k2, k3, j1, j2, nke, rows, ts, rb, rt, ha, hr, M⟩ := M.toMJ
  exact kbm_bound (C := 375) F X N (InstAt.of_news N M.hc M.hd) (by kernel_rfl) (by kernel_rfl) (by kernel_rfl) (by kernel_rfl) (by kernel_rfl) (by kernel_rfl) (by decide +kernel) (by kernel_rfl) fun q h' F' N' l => h q h' _ F' N' l
theorem mode_bdec {expr : Bool} {Q : Value → Shared → Prop} (F : Fr h₀ L s.heap m) (X : (Mine.hd.heap_39 w.params).In h₀) (N : News h₀ L s.heap led) (M : ModeAt led c dc ad reg z KE)
    (h : ∀ q h' k, Fr h₀ L h' m → News h₀ L h' ((q, methodObj (.ref 372) (.ref c)) :: led) → (∀ p ∈ led, p.1 < q) → Q (.ref q) { s with heap := h', toks := k }) : wpAny (model prog w) A (getAttr (.ref c) (Str.ofString "decrypt") expr) Q E s := by
  obtain ⟨x, dx, ke, kd, q1, q2, q3, p1, p2, k1, k2, k3, j1, j2, nke, rows, ts, rb, rt, ha, hr, M⟩ := M.toMJ
  exact kbm_bound (C := 375) F X N (InstAt.of_news N M.hc M.hd) (by kernel_rfl) (by kernel_rfl) (by kernel_rfl) (by kernel_rfl) (by kernel_rfl) (by kernel_rfl) (by decide +kernel) (by kernel_rfl) fun q h' F' N' l => h q h' _ F' N' l
theorem item_m {value slice : Expr} {ml : Addr} {n : Nat} {cf : Nat → Addr} {k : Int} {u : Tok} {Q : Value → Shared → Prop} (N : News h₀ L s.heap led) (hm : List.Mem (ml, listOf (((List.range 4).map cf).map Value.ref).toArray n) led) (j : Nat) (hk : k = (j : Int)) (hj : j < 4) (h : Q (.ref (cf j)) s)
    (hs : subscripted slice false (.ref ml) (.int k u) = operate [.ref ml, .int k u] (getItem (.ref ml) (.int k u)) := by with_unfolding_all rfl) :
    wpAny (model prog w) A (subscriptTail value slice (.ref ml) (.int k u)) Q E s := by
  refine item_rows N hm (by lia) (by simp; lia) (by lia) ?_ hs
  subst hk
  rw [show ((j : Int)).toNat = j from rfl]
  rcases (show j = 0 ∨ j = 1 ∨ j = 2 ∨ j = 3 by lia) with rfl | rfl | rfl | rfl <;> exact h
end
section
variable {prog : Program} {w : World} {A : Around} {E : Value → Shared → Prop} {s : Shared} {h₀ : Heap} {L : Addr} {m : PySem.Str → Option Value} {led : List (Addr × Obj)}
theorem rep_IL {l : Addr} {k x : Int} {u : Tok} {Q : Value → Shared → Prop} (F : Fr h₀ L s.heap m) (N : News h₀ L s.heap led) (hl : IL led l [k]) (h0 : 0 ≤ x) (h1 : x ≤ 16)
    (h : ∀ D us h', Fr h₀ L h' m → IntsAre us (List.replicate x.toNat k) → News h₀ L h' ((D, listOf (List.toArray us) 0) :: led) → (∀ p ∈ led, p.1 < D) → Q (.ref D) { s with heap := h' }) :
    wpAny (model prog w) A (binaryOp .Mult (.ref l) (.int x u)) Q E s := by
  obtain ⟨vs, n, hm, hi⟩ := hl
  have h1' : vs.length = 1 := hi.length
  refine KM.mul F N (News.isList N hm) hi (by lia) (by lia) (by rw [h1']; lia) fun D h' F' N' l1 hI _ _ _ _ _ => h D _ h' F' ?_ N' l1
  have e : (List.replicate x.toNat [k]).flatten = List.replicate x.toNat k := by
    generalize x.toNat = n
    induction n with
    | zero => rfl
    | succ n ih => rw [List.replicate_succ, List.flatten_cons, ih]; rfl
  rw [← e]
  exact hI
end
theorem pad_mod {z n i k : Nat} (h : k = z * n + (1 + i)) (hi : i < z - 1) : ((k : Nat) : Int) % (z : Int) ≠ 0 := by
  subst h
  push_cast
  rw [Int.add_comm, Int.add_mul_emod_self_left]
  rw [Int.emod_eq_of_lt (by lia) (by lia)]
  lia
theorem pad_in {ks : List Int} (h : KBa.In ks) (n : Nat) : KBa.In (ks ++ List.replicate n 5) := by
  intro k hk
  rcases List.mem_append.mp hk with hk | hk
  · exact h k hk
  · rw [(List.mem_replicate.mp hk).2]; decide
theorem Tells0.use {w : World} {f : Addr} {vs : List Value} {deep : Nat} {news : List (Addr × Obj)} {Out : Value → List (Addr × Obj) → Prop} (C : Tells0 w f vs deep news Out)
    {loose : List Str} {mean : ExcName → Option Value} {mg mb : Str → Option Value} {dp un : Nat} {gd : Option (List Code)} {cn : Str} {cs : Scope} {a : Addr} {ccd : Value} {cl : List (Str × Addr)} {A₀ : Around} {h₀ : Heap} {L : Addr} {m : Str → Option Value} {s : Shared} {Q E : Value → Shared → Prop}
    (B : Below A₀ h₀ [] h₀) (F : Fr h₀ L s.heap m) (X : (Mine.hd.heap_39 w.params).In h₀) (N : News h₀ L s.heap news) (T : Top Mine.hd.view_39 loose mean mg mb h₀) (hk : cs.kind = .function) (hd : dp + deep < recursionLimit) (hu : un + 8 * deep < cLine)
    (ret : ∀ v news' h' tk', Fr h₀ L h' m → News h₀ L h' news' → Out v news' → Q v { s with heap := h', toks := tk' }) :
    wpAny (model PySem.Challenge.rw_yv0002_01.row.prog w) (ktrTop dp un gd cn cs L a ccd cl []) (call (.ref f) vs) Q E s :=
  C _ _ _ _ _ _ _ _ _ _ _ _ _ _ _ _ _ _ _ B F X N T hk hd hu ret
theorem ModeAt.has {led : List (Addr × Obj)} {c dc : Addr} {ad : List Addr} {reg : List Int} {z : Nat} {KE : List (List Int)} (h : ModeAt led c dc ad reg z KE) : ∀ b ∈ c :: dc :: ad, ∃ o, (b, o) ∈ led := by
  obtain ⟨x, dx, ke, kd, q1, q2, q3, p1, p2, k1, k2, k3, j1, j2, nke, rows, ts, rb, rt, ha, hr, M⟩ := h.toMJ
  rw [ha]
  intro b hb
  simp only [List.mem_cons] at hb
  rcases hb with rfl | rfl | rfl | rfl | rfl | hb
  · exact ⟨_, M.hc⟩
  · exact ⟨_, M.hd⟩
  · exact ⟨_, M.hK.hx⟩
  · exact ⟨_, M.hK.hdx⟩
  · exact ⟨_, M.hK.hke⟩
  · obtain ⟨n, hn, rfl⟩ := List.getElem_of_mem hb
    obtain ⟨⟨vs, m, hm', hI⟩, h4⟩ := M.hK.hrow n (by rw [← M.hK.hlen]; exact hn)
    rw [List.getD_eq_getElem?_getD, List.getElem?_eq_getElem hn] at hm'
    exact ⟨_, hm'⟩

theorem stepsL : True := by
  k_with "STEPSC" => (repeat' (first | (k_unfold; (try dsimp only)) | (((fail_if_success (with_reducible show wpAny _ _ (setAttr _ _ _) _ _ _)); (fail_if_success (with_reducible show wpAny _ _ (exec (Stmt.For _ _ _ _ _) _) _ _ _)); (fail_if_success (with_reducible show wpAny _ _ (exec (Stmt.While _ _ _ _) _) _ _ _)); (fail_if_success (with_reducible show wpAny _ _ (exec (Stmt.Assign _ (Expr.ListComp _ _ _ _) _) _) _ _ _)); (fail_if_success (with_reducible show wpAny _ _ (eval (Expr.ListComp _ _ _ _) _) _ _ _)); (fail_if_success (with_reducible show LCg.CompSrc _ _ _ _ _ _ _ _ _ _ _ _ _ _)); (fail_if_success (with_reducible show wpAny _ _ (pyIter _) _ _ _)); (fail_if_success (with_reducible show RPost _ _ _ _ _ _ _ _ _)); (fail_if_success (with_reducible show CPost _ _ _ _ _ _ _ _)); (fail_if_success (with_reducible show Exists _)); (fail_if_success (with_reducible show wpAny _ _ (call (Value.ref _) _ _) _ _ _)); (fail_if_success (with_reducible show CPostJ _ _ _ _ _ _ _ _ _ _ _ _ _)); (fail_if_success (with_reducible show WhileStep2 _ _ _ _ _ _ _ _)); (fail_if_success (with_reducible show wpAny _ _ (binaryOp Operator.Mult _ _) _ _ _)); (fail_if_success (with_reducible show wpAny _ _ (compareOp _ (Value.bytes _ _) (Value.bytes _ _)) _ _ _)); first | walk1 | (dsimp only; walk1)) <;> ((try dsimp only [List.cons_append, List.nil_append]); (try k_fold)))))
  k_with "STEPSM" => (repeat' (first | (k_unfold; (try dsimp only)) | (((fail_if_success (with_reducible show wpAny _ _ (setAttr _ _ _) _ _ _)); (fail_if_success (with_reducible show wpAny _ _ (exec (Stmt.For _ _ _ _ _) _) _ _ _)); (fail_if_success (with_reducible show wpAny _ _ (exec (Stmt.While _ _ _ _) _) _ _ _)); (fail_if_success (with_reducible show wpAny _ _ (exec (Stmt.Assign _ (Expr.ListComp _ _ _ _) _) _) _ _ _)); (fail_if_success (with_reducible show wpAny _ _ (eval (Expr.ListComp _ _ _ _) _) _ _ _)); (fail_if_success (with_reducible show LCg.CompSrc _ _ _ _ _ _ _ _ _ _ _ _ _ _)); (fail_if_success (with_reducible show wpAny _ _ (pyIter _) _ _ _)); (fail_if_success (with_reducible show RPost _ _ _ _ _ _ _ _ _)); (fail_if_success (with_reducible show CPost _ _ _ _ _ _ _ _)); (fail_if_success (with_reducible show Exists _)); (fail_if_success (with_reducible show CPostJ _ _ _ _ _ _ _ _ _ _ _ _ _)); (fail_if_success (with_reducible show WhileStep2 _ _ _ _ _ _ _ _)); (fail_if_success (with_reducible show wpAny _ _ (binaryOp Operator.Mult _ _) _ _ _)); (fail_if_success (with_reducible show wpAny _ _ (compareOp _ (Value.bytes _ _) (Value.bytes _ _)) _ _ _)); first | walk1 | (dsimp only; walk1)) <;> ((try dsimp only [List.cons_append, List.nil_append]); (try k_fold)))))
  k_with "STEPSX" => (repeat' (first | (k_unfold; (try dsimp only)) | (((fail_if_success (with_reducible show wpAny _ _ (setAttr _ _ _) _ _ _)); (fail_if_success (with_reducible show wpAny _ _ (exec (Stmt.For _ _ _ _ _) _) _ _ _)); (fail_if_success (with_reducible show wpAny _ _ (exec (Stmt.While _ _ _ _) _) _ _ _)); (fail_if_success (with_reducible show wpAny _ _ (exec (Stmt.Assign _ (Expr.ListComp _ _ _ _) _) _) _ _ _)); (fail_if_success (with_reducible show wpAny _ _ (eval (Expr.ListComp _ _ _ _) _) _ _ _)); (fail_if_success (with_reducible show LCg.CompSrc _ _ _ _ _ _ _ _ _ _ _ _ _ _)); (fail_if_success (with_reducible show wpAny _ _ (pyIter _) _ _ _)); (fail_if_success (with_reducible show RPost _ _ _ _ _ _ _ _ _)); (fail_if_success (with_reducible show CPost _ _ _ _ _ _ _ _)); (fail_if_success (with_reducible show Exists _)); (fail_if_success (with_reducible show CPostJ _ _ _ _ _ _ _ _ _ _ _ _ _)); (fail_if_success (with_reducible show WhileStep2 _ _ _ _ _ _ _ _)); first | walk1 | (dsimp only; walk1)) <;> ((try dsimp only [List.cons_append, List.nil_append]); (try k_fold)))))
  exact trivial
theorem mem4 {h₀ h : Heap} {L : Addr} {a b c d e f : Addr × Obj} (_N : News h₀ L h [a, b, c, d, e, f]) : d ∈ [a, b, c, d, e, f] := .tail _ (.tail _ (.tail _ (.head _)))
theorem mem5 {h₀ h : Heap} {L : Addr} {a b c d e f : Addr × Obj} (_N : News h₀ L h [a, b, c, d, e, f]) : e ∈ [a, b, c, d, e, f] := .tail _ (.tail _ (.tail _ (.tail _ (.head _))))
theorem mem6 {h₀ h : Heap} {L : Addr} {a b c d e f : Addr × Obj} (_N : News h₀ L h [a, b, c, d, e, f]) : f ∈ [a, b, c, d, e, f] := .tail _ (.tail _ (.tail _ (.tail _ (.tail _ (.head _)))))
theorem postL (ns : List Int) : PySem.Challenge.rw_yv0002_01.row.claim.post [ofPy (PyData.list (List.map PyData.int ns))] (WData.bool true) [ofPy (PyData.list (List.map PyData.int ns))] = true := by
  wrow_post
theorem rowW (w : World) (news : List (Addr × Obj)) (sl : Addr) (vs : List Value) (ns : List Int) (hI : IntsAre vs ns) (hlay : PyData.layable0 (.list (ns.map .int)) = true) (hlen : ns.length ≤ 63) (k : Int) (tk : Tok) (hk0 : 0 ≤ k) (hk1 : k < 100) (z : Int) (tz : Tok) (hz0 : 0 ≤ z) (hz : z ≤ 200) :
   TellsH (fun h => h.IsList sl vs.toArray) w 457 [.ref sl, .int k tk, .int z tz] 2 news fun v news' => ∃ D us n row, v = .ref D ∧ news' = (D, listOf us.toArray n) :: news ∧ IntsAre us row ∧ row.length = z.toNat ∧ KBa.In row ∧ AllLt D news := by
  obtain ⟨n, rfl⟩ := Int.eq_ofNat_of_zero_le hz0
  exact rowV w news sl vs ns hI hlay hlen k tk hk0 hk1 n tz (by lia)
section
local macro_rules | `(tactic| ktr_rel) => `(tactic| first | assumption | exact rd_eq | (refine' rd_ne ?rn ?rv; (case rn => decide); (case rv => ktr_rel)) | (refine' IL.here ?ih; (case ih => assumption)) | (refine' IL.skip ?is; (case is => ktr_rel)) | (refine' KeAt.skip ?is; (case is => ktr_rel)) | (refine' Blk.skip ?is; (case is => ktr_rel)) | (refine' In.take ?is _; (case is => ktr_rel)) | (refine' In.drop ?is _; (case is => ktr_rel)))
local macro_rules | `(tactic| k_all) => `(tactic| exact allLt_ne (by assumption))
local macro_rules | `(tactic| ktr_rel) => `(tactic| (refine' MJ.skip ?is; (case is => ktr_rel)))
local macro_rules | `(tactic| k_mem) => `(tactic| with_reducible assumption)
local macro_rules | `(tactic| k_mem) => `(tactic| (refine of_lm ?_; with_reducible assumption))
theorem wordsL1 : True := by
  k_with_none
  k_with "STEPSC" => (repeat' (first | (k_unfold; (try dsimp only)) | (((fail_if_success (with_reducible show wpAny _ _ (setAttr _ _ _) _ _ _)); (fail_if_success (with_reducible show wpAny _ _ (exec (Stmt.For _ _ _ _ _) _) _ _ _)); (fail_if_success (with_reducible show wpAny _ _ (exec (Stmt.While _ _ _ _) _) _ _ _)); (fail_if_success (with_reducible show wpAny _ _ (exec (Stmt.Assign _ (Expr.ListComp _ _ _ _) _) _) _ _ _)); (fail_if_success (with_reducible show wpAny _ _ (eval (Expr.ListComp _ _ _ _) _) _ _ _)); (fail_if_success (with_reducible show LCg.CompSrc _ _ _ _ _ _ _ _ _ _ _ _ _ _)); (fail_if_success (with_reducible show wpAny _ _ (pyIter _) _ _ _)); (fail_if_success (with_reducible show RPost _ _ _ _ _ _ _ _ _)); (fail_if_success (with_reducible show CPost _ _ _ _ _ _ _ _)); (fail_if_success (with_reducible show Exists _)); (fail_if_success (with_reducible show wpAny _ _ (call (Value.ref _) _ _) _ _ _)); (fail_if_success (with_reducible show CPostJ _ _ _ _ _ _ _ _ _ _ _ _ _)); (fail_if_success (with_reducible show WhileStep2 _ _ _ _ _ _ _ _)); (fail_if_success (with_reducible show wpAny _ _ (binaryOp Operator.Mult _ _) _ _ _)); (fail_if_success (with_reducible show wpAny _ _ (compareOp _ (Value.bytes _ _) (Value.bytes _ _)) _ _ _)); first | walk1 | (dsimp only; walk1)) <;> ((try dsimp only [List.cons_append, List.nil_append]); (try k_fold)))))
  k_with "STEPSM" => (repeat' (first | (k_unfold; (try dsimp only)) | (((fail_if_success (with_reducible show wpAny _ _ (setAttr _ _ _) _ _ _)); (fail_if_success (with_reducible show wpAny _ _ (exec (Stmt.For _ _ _ _ _) _) _ _ _)); (fail_if_success (with_reducible show wpAny _ _ (exec (Stmt.While _ _ _ _) _) _ _ _)); (fail_if_success (with_reducible show wpAny _ _ (exec (Stmt.Assign _ (Expr.ListComp _ _ _ _) _) _) _ _ _)); (fail_if_success (with_reducible show wpAny _ _ (eval (Expr.ListComp _ _ _ _) _) _ _ _)); (fail_if_success (with_reducible show LCg.CompSrc _ _ _ _ _ _ _ _ _ _ _ _ _ _)); (fail_if_success (with_reducible show wpAny _ _ (pyIter _) _ _ _)); (fail_if_success (with_reducible show RPost _ _ _ _ _ _ _ _ _)); (fail_if_success (with_reducible show CPost _ _ _ _ _ _ _ _)); (fail_if_success (with_reducible show Exists _)); (fail_if_success (with_reducible show CPostJ _ _ _ _ _ _ _ _ _ _ _ _ _)); (fail_if_success (with_reducible show WhileStep2 _ _ _ _ _ _ _ _)); (fail_if_success (with_reducible show wpAny _ _ (binaryOp Operator.Mult _ _) _ _ _)); (fail_if_success (with_reducible show wpAny _ _ (compareOp _ (Value.bytes _ _) (Value.bytes _ _)) _ _ _)); first | walk1 | (dsimp only; walk1)) <;> ((try dsimp only [List.cons_append, List.nil_append]); (try k_fold)))))
  k_with "STEPSX" => (repeat' (first | (k_unfold; (try dsimp only)) | (((fail_if_success (with_reducible show wpAny _ _ (setAttr _ _ _) _ _ _)); (fail_if_success (with_reducible show wpAny _ _ (exec (Stmt.For _ _ _ _ _) _) _ _ _)); (fail_if_success (with_reducible show wpAny _ _ (exec (Stmt.While _ _ _ _) _) _ _ _)); (fail_if_success (with_reducible show wpAny _ _ (exec (Stmt.Assign _ (Expr.ListComp _ _ _ _) _) _) _ _ _)); (fail_if_success (with_reducible show wpAny _ _ (eval (Expr.ListComp _ _ _ _) _) _ _ _)); (fail_if_success (with_reducible show LCg.CompSrc _ _ _ _ _ _ _ _ _ _ _ _ _ _)); (fail_if_success (with_reducible show wpAny _ _ (pyIter _) _ _ _)); (fail_if_success (with_reducible show RPost _ _ _ _ _ _ _ _ _)); (fail_if_success (with_reducible show CPost _ _ _ _ _ _ _ _)); (fail_if_success (with_reducible show Exists _)); (fail_if_success (with_reducible show CPostJ _ _ _ _ _ _ _ _ _ _ _ _ _)); (fail_if_success (with_reducible show WhileStep2 _ _ _ _ _ _ _ _)); first | walk1 | (dsimp only; walk1)) <;> ((try dsimp only [List.cons_append, List.nil_append]); (try k_fold)))))
  k_with "subscriptTail" => (k_here; (with_reducible show wpAny _ _ (subscriptTail _ _ (Value.ref _) (Value.int _ _)) _ _ _); k_dflt (refine' item_IL ?qqN ?qqm ?qqa ?qqb ?qqc ?_; (case qqN => k_asm); (case qqm => ktr_rel); (case qqa => lia); (case qqb => lia); (case qqc => lia); k_whole); intro _)
  k_with "call builtin:len" => (k_here; (with_reducible show wpAny _ _ (call (Value.builtin "len") [Value.ref _]) _ _ _); k_dflt (refine' len_IL ?qqN ?qqm ?qqz ?_; (case qqN => k_asm); (case qqm => ktr_rel); (case qqz => lia); k_whole); intro _ _)
  k_with "ite" => (k_here; first | (refine ite_neg (by (simp only [bne_iff_ne, beq_iff_eq, decide_eq_true_eq, ne_eq, Decidable.not_not]; lia)) ?_) | (refine ite_pos (by (simp only [bne_iff_ne, beq_iff_eq, decide_eq_true_eq, ne_eq, Decidable.not_not]; lia)) ?_))
  k_with "eval Name" => (k_here; name_kind "local"; (with_reducible show wpAny _ _ (eval (Expr.Name _ _) (compEnvC _ _ _ _)) _ _ _); k_dflt (refine LCgL.ld_own (by k_asm) (by k_mem) (by assumption) (by assumption) ?_))
  k_with "eval Name" => (k_here; name_kind "globalImplicit"; (with_reducible show wpAny _ _ (eval (Expr.Name _ _) (compEnvC _ _ _ _)) _ _ _); k_dflt (refine LCgL.ld_global (by k_asm) (by k_asm) (by k_asm) (by k_is) ?_))
  k_with "eval Name" => (k_here; name_kind "free"; (with_reducible show wpAny _ _ (eval (Expr.Name _ _) (compEnvC _ _ _ _)) _ _ _); k_dflt (refine' ld_cell ?qqN ?qqc ?qqm ?qqd ?_ ?qqe ?qqf ?qqg; (case qqe => rfl); (case qqf => rfl); (case qqg => decide); (case qqN => k_asm); (case qqc => rfl); (case qqm => k_mem); (case qqd => k_asm); k_whole))
  k_with "eval Name" => (k_here; name_kind "local"; (fail_if_success (with_reducible show wpAny _ _ (eval (Expr.Name _ _) (compEnvC _ _ _ _)) _ _ _)); (with_reducible rename Fr _ _ _ _ => kF); k_dflt (refine' nameX_L kF ?qqv ?_ ?qqa ?qqb; (case qqa => rfl); (case qqb => rfl); (case qqv => ktr_rel); k_whole))
  k_with "subscriptTail" => (k_here; (with_reducible show wpAny _ _ (subscriptTail _ (Expr.Slice (some _) (some _) none _) (Value.ref _) (Value.ref _)) _ _ _); k_dflt (refine' slice_run' ?qqF ?qqN ?qqm ?qqz ?qqa ?qqb ?_; (case qqF => k_asm); (case qqN => k_asm); (case qqm => ktr_rel); (case qqz => lia); (case qqa => lia); (case qqb => lia); k_whole); intro D' h' F' ws' hw' N' l1; (try k_lt l1); (try k_sweep))
  k_with "call builtin:len" => (k_here; k_dflt (refine' len_blk ?qqN ?qqm ?qqz ?_; (case qqN => k_asm); (case qqm => ktr_rel); (case qqz => lia); k_whole); intro _ _)
  k_with "subscriptTail" => (k_here; (with_reducible show wpAny _ _ (subscriptTail _ (Expr.Slice (some _) (some _) none _) _ (Value.ref _)) _ _ _); k_dflt (refine' slice_blk' ?qqe ?qqF ?qqN ?qqm ?qqz ?qqa ?qqb ?_; (case qqe => exact ⟨_, _, _, _, _, rfl, rfl⟩); (case qqF => k_asm); (case qqN => k_asm); (case qqm => ktr_rel); (case qqz => lia); (case qqa => lia); (case qqb => lia); k_whole); intro v' h' k' led' F' N' hs' hb')
  k_with "call ref" => (k_here; k_dflt (refine' Tells.use (compactV _ _ _ _ ?qqhl ?qqh4 ?qqhi) ?qqB ?qqF ?qqX ?qqN ?qqT ?qqhk ?qqhd ?qqhu ?_; (case qqB => k_asm); (case qqF => k_asm); (case qqX => k_asm); (case qqN => k_asm); (case qqT => k_asm); (case qqhk => rfl); (case qqhl => ktr_rel); (case qqh4 => (simp only [List.length_take, List.length_drop]; lia)); (case qqhi => ktr_rel); (case qqhd => first | lia | (dsimp only [ktrTop, Around.deeper]; lia)); (case qqhu => first | lia | (dsimp only [ktrTop, Around.deeper]; lia))); intro v' news' h' tk' F' Nq' hO'; (obtain ⟨hO1, t', hO2⟩ := hO'; subst hO1; subst hO2); (have N9' := drop_led Nq' (by assumption)); (try dsimp only); (try k_sweep))
  k_with "call type:list" => (k_here; (with_reducible show wpAny _ _ (call (Value.type "list") [Value.ref _]) _ _ _); k_dflt (refine' copy_IL ?qqF ?qqN ?qqm ?qqz ?_; (case qqF => k_asm); (case qqN => k_asm); (case qqm => ktr_rel); (case qqz => lia); k_whole); intro D' c' h' vs' hv' F' N' l1; (try k_lt l1); (try k_sweep))
  k_with "setItem ref int" => (k_here; (with_reducible show wpAny _ _ (setItem (Value.ref _) (Value.int _ _) (Value.int _ _)) _ _ _); k_dflt (refine' set_IL ?qqk1 ?qqk2 ?qqk3 ?qqk4 ?qqk5 ?qqk6 ?qqk7 ?_; (case qqk1 => k_asm); (case qqk2 => k_asm); (case qqk3 => k_upd); (case qqk4 => with_reducible assumption); (case qqk5 => lia); (case qqk6 => lia); (case qqk7 => lia); k_whole); intro h' F' N' hi'; (try k_sweep))
  k_with "subscriptTail" => (k_here; (with_reducible show wpAny _ _ (subscriptTail _ _ (Value.ref _) (Value.int _ _)) _ _ _); k_dflt (refine' item_tab ?qqF ?qqX ?qqo ?qqa ?qqb ?qqc ?_; (case qqF => k_asm); (case qqX => k_asm); (case qqo => with_reducible (first | exact tab_S _ | exact tab_T1 _ | exact tab_T2 _ | exact tab_T3 _ | exact tab_T4 _)); (case qqa => exact (and255 _).1); (case qqb => exact (and255 _).2); (case qqc => decide); k_whole); intro _)
  k_with "binaryOp Mod int int" => (k_here; (with_reducible refine mod_pos (by first | decide | lia) ?_))
  k_with "call builtin:list.append" => (k_here; (with_reducible show wpAny _ _ (call (Value.builtin _) [Value.ref _, Value.int _ _]) _ _ _); k_dflt (refine' append_IL ?qqk1 ?qqk2 ?qqk3 ?qqk4 ?qqk5 ?_; (case qqk1 => k_asm); (case qqk2 => k_asm); (case qqk3 => k_upd); (case qqk4 => with_reducible assumption); (case qqk5 => ((try simp only [List.length_append, List.length_cons, List.length_nil]); lia)); k_whole); intro h' F' N' hi'; (try k_sweep))
  k_with "call type:range" => (k_here; (first | (with_reducible show wpAny _ _ (call _ [_]) _ _ _) | (with_reducible show wpAny _ _ (call _ [_, _]) _ _ _)); (rename Fr _ _ _ _ => F'); (rename News _ _ _ _ => N'); (first | (with_unfolding_all refine range1_rows F' N' ?_) | (with_unfolding_all refine range2_rows F' N' ?_)); intro _ _ _ _ _ _ _ _ _)
  k_with "subscriptTail" => (k_here; (with_reducible show wpAny _ _ (subscriptTail _ (Expr.Slice _ _ none _) (Value.bytes _ _) (Value.ref _)) _ _ _); k_dflt (refine' slice_b' ?qqF ?qqN ?qqk ?qql ?qqu ?qqz ?_; (case qqF => k_asm); (case qqN => k_asm); (case qqk => kba_ints); (case qql => constructor); (case qqu => constructor); (case qqz => kba_size); k_whole); intro _ _ _ _ _ kbcK; (try simp only [Option.elim, KBc.clip_lit, clipAt_nat, List.drop_zero, Nat.sub_zero] at kbcK))
  k_with "call type:bytes" => (k_here; (with_reducible show wpAny _ _ (call (Value.type "bytes") [Value.ref _]) _ _ _); k_dflt (refine' mk_IL ?qqF ?qqN ?qqhh ?qqm ?qqr ?qqz ?_; (case qqhh => rfl); (case qqF => k_asm); (case qqN => k_asm); (case qqm => ktr_rel); (case qqr => ktr_rel); (case qqz => lia); k_whole); intro b' h' t' k' F' N' hb'; (try k_sweep))
  k_with "binaryOp Add bytes bytes" => (k_here; k_dflt (refine' KBa.add_K ?qqb ?qqc ?qqz ?_; (case qqb => with_reducible assumption); (case qqc => with_reducible assumption); (case qqz => lia); k_whole); intro t' k' hb')
  k_with "eval Call" => (k_here; (with_reducible show wpAny _ _ (eval (Expr.Call (Expr.Name _ _) _ [] _) _) _ _ _); (fail_if_success (with_reducible show wpAny _ _ (eval _ (compEnvC _ _ _ _)) _ _ _)); k_dflt (refine Call_ ?_))
  k_with "getAttr ref" => (k_here; (with_reducible show wpAny _ _ (getAttr (Value.ref _) (PySem.Str.ofString "_shift_register") _) _ _ _); k_dflt (refine' mj_reg ?qqF ?qqX ?qqN ?qqM ?_; (case qqF => k_asm); (case qqX => k_asm); (case qqN => k_asm); (case qqM => ktr_rel); k_whole); intro _)
  k_with "getAttr ref" => (k_here; (with_reducible show wpAny _ _ (getAttr (Value.ref _) (PySem.Str.ofString "_segment_bytes") _) _ _ _); k_dflt (refine' mj_seg ?qqF ?qqX ?qqN ?qqM ?_; (case qqF => k_asm); (case qqX => k_asm); (case qqN => k_asm); (case qqM => ktr_rel); k_whole); intro _)
  k_with "getAttr ref" => (k_here; (with_reducible show wpAny _ _ (getAttr (Value.ref _) (PySem.Str.ofString "_aes") _) _ _ _); k_dflt (refine' mj_aes ?qqF ?qqX ?qqN ?qqM ?_; (case qqF => k_asm); (case qqX => k_asm); (case qqN => k_asm); (case qqM => ktr_rel); k_whole); intro _)
  k_with "getMethod ref" => (k_here; (with_reducible show wpAny _ _ (getMethod (Value.ref _) (PySem.Str.ofString "encrypt") _) _ _ _); k_dflt (refine' ke_method ?qqF ?qqX ?qqN ?qqK ?_; (case qqF => k_asm); (case qqX => k_asm); (case qqN => k_asm); (case qqK => ktr_rel); k_whole))
  k_with "call type:zip" => (k_here; k_dflt (refine' zip_IL ?qqF ?qqN ?qqm ?_; (case qqF => k_asm); (case qqN => k_asm); (case qqm => k_mem); k_whole); intro h' z' F' N' zR')
  k_with "subscriptTail" => (k_here; (with_reducible show wpAny _ _ (subscriptTail _ (Expr.Slice none (some _) none _) (Value.ref _) (Value.ref _)) _ _ _); k_dflt (refine' slice_upto' ?qqF ?qqN ?qqm ?qqz ?qqb ?_; (case qqF => k_asm); (case qqN => k_asm); (case qqm => ktr_rel); (case qqz => lia); (case qqb => lia); k_whole); intro D' h' F' ws' hw' N' l1; (try k_lt l1); (try k_sweep))
  k_with "call ref" => (k_here; k_dflt (refine' Tells.use (encV _ _ _ _ _ _ _ _ _ _ _ _ _ _ _ ?qqhl ?qqh16 ?qqhi ?qqhK ?qqhR) ?qqB ?qqF ?qqX ?qqN ?qqT ?qqhkk ?qqhd ?qqhu ?_; (case qqB => k_asm); (case qqF => k_asm); (case qqX => k_asm); (case qqN => k_asm); (case qqT => k_asm); (case qqhK => ktr_rel); (case qqhl => ktr_rel); (case qqh16 => with_reducible assumption); (case qqhi => with_reducible assumption); (case qqhR => with_reducible assumption); (case qqhkk => rfl); (case qqhd => first | decide | lia | (dsimp only [ktrTop, Around.deeper]; lia) | (simp only [depth_under_make, depth_deeper, ktrTop]; lia) | ktr_room); (case qqhu => first | decide | lia | (dsimp only [ktrTop, Around.deeper]; lia) | (simp only [units_under_make, units_deeper, ktrTop]; lia) | ktr_units)); intro v' news' h' tk' F' N' hO'; (obtain ⟨D', vs', n', hO1, hO2, hO3, hO4⟩ := hO'; subst hO1; subst hO2); (try dsimp only))
  k_with "subscriptTail Name Slice ref ref" => (k_here; (with_reducible show wpAny _ _ (subscriptTail _ (Expr.Slice none (some _) none _) (Value.ref _) (Value.ref _)) _ _ _); k_dflt (refine' slice_upto' ?qqF ?qqN ?qqm ?qqz ?qqb ?_; (case qqF => k_asm); (case qqN => k_asm); (case qqm => ktr_rel); (case qqz => lia); (case qqb => lia); k_whole); intro D' h' F' ws' hw' N' l1; (try k_lt l1); (try k_sweep))
  k_with "call builtin:list.extend" => (k_here; k_dflt (refine' extend_foc ?qqF ?qqN ?qqD ?qql ?qqz ?_; (case qqF => k_asm); (case qqN => k_asm); (case qqD => ktr_rel); (case qql => ktr_rel); (case qqz => lia); k_whole); intro h' o' F' N' hE')
  k_with "call ref" => (k_here; k_dflt (refine' TellsH.use (cellV _ _ _ _ _ ?qqhI ?qqhlay ?qqhlen _ _ ?qqa ?qqb) ?qqB ?qqF ?qqX ?qqN ?qqT ?qqhkk ?qqhd ?qqhu ?qqhH ?_; (case qqB => k_asm); (case qqF => k_asm); (case qqX => k_asm); (case qqN => k_asm); (case qqT => k_asm); (case qqhH => with_reducible assumption); (case qqhI => with_reducible assumption); (case qqhlay => with_reducible assumption); (case qqhlen => lia); (case qqa => lia); (case qqb => lia); (case qqhkk => rfl); (case qqhd => first | decide | lia | (dsimp only [ktrTop, Around.deeper]; lia) | (simp only [depth_under_make, depth_deeper, ktrTop]; lia) | ktr_room); (case qqhu => first | decide | lia | (dsimp only [ktrTop, Around.deeper]; lia) | (simp only [units_under_make, units_deeper, ktrTop]; lia) | ktr_units)); intro v' news' h' tk' F' N' hO'; (obtain ⟨hO1, z', t', hO2, hz0, hzb⟩ := hO'; replace hO1 := Eq.symm hO1; subst hO1; subst hO2); (try dsimp only); (try k_sweep))
  k_with "call ref" => (k_here; k_dflt (refine' TellsH.use (rowW _ _ _ _ _ ?qqhI ?qqhlay ?qqhlen _ _ ?qqa ?qqb _ _ ?qqhz0 ?qqhz) ?qqB ?qqF ?qqX ?qqN ?qqT ?qqhkk ?qqhd ?qqhu ?qqhH ?_; (case qqB => k_asm); (case qqF => k_asm); (case qqX => k_asm); (case qqN => k_asm); (case qqT => k_asm); (case qqhH => with_reducible assumption); (case qqhI => with_reducible assumption); (case qqhlay => with_reducible assumption); (case qqhlen => lia); (case qqa => lia); (case qqb => lia); (case qqhz0 => lia); (case qqhz => lia); (case qqhkk => rfl); (case qqhd => first | decide | lia | (dsimp only [ktrTop, Around.deeper]; lia) | (simp only [depth_under_make, depth_deeper, ktrTop]; lia) | ktr_room); (case qqhu => first | decide | lia | (dsimp only [ktrTop, Around.deeper]; lia) | (simp only [units_under_make, units_deeper, ktrTop]; lia) | ktr_units)); intro v' news' h' tk' F' N' hO'; (obtain ⟨D', us', n', row', hO1, hO2, hO3, hO4, hO5, hO6⟩ := hO'; subst hO1; subst hO2); (try simp only [AllLt, and_true] at hO6); (try dsimp only))
  k_with "eval Name" => (k_here; name_kind "cell"; (with_reducible show wpAny _ _ (eval (Expr.Name _ _) (envOfC _ _ _ _ _)) _ _ _); k_dflt (refine' PyProof.Rows.ldCN ?qqN ?qqc ?qqm ?qqd ?_ ?qqe ?qqf ?qqg; (case qqe => rfl); (case qqf => rfl); (case qqg => decide); (case qqN => k_asm); (case qqc => rfl); (case qqm => (refine of_lm ?_; with_reducible assumption)); (case qqd => with_reducible assumption); k_whole))
  k_with "getMethod ref" => (k_here; (with_reducible show wpAny _ _ (getMethod (Value.ref _) (PySem.Str.ofString "encrypt") _) _ _ _); k_dflt (refine' mode_enc ?qqF ?qqX ?qqN ?qqM ?_; (case qqF => k_asm); (case qqX => k_asm); (case qqN => k_asm); (case qqM => with_reducible assumption); k_whole))
  k_with "getMethod ref" => (k_here; (with_reducible show wpAny _ _ (getMethod (Value.ref _) (PySem.Str.ofString "decrypt") _) _ _ _); k_dflt (refine' mode_dec ?qqF ?qqX ?qqN ?qqM ?_; (case qqF => k_asm); (case qqX => k_asm); (case qqN => k_asm); (case qqM => with_reducible assumption); k_whole))
  k_with "subscriptTail" => (k_here; (with_reducible show wpAny _ _ (subscriptTail (Expr.Name _ _) (Expr.Constant _ _ _) (Value.ref _) (Value.int _ _)) _ _ _); k_dflt (refine' item_m ?qqN ?qqm _ ?qqk ?qqj ?_; (case qqN => k_asm); (case qqm => with_reducible assumption); (case qqk => first | exact (rfl : (0 : Int) = ((0 : Nat) : Int)) | exact (rfl : (1 : Int) = ((1 : Nat) : Int)) | exact (rfl : (2 : Int) = ((2 : Nat) : Int)) | exact (rfl : (3 : Int) = ((3 : Nat) : Int))); (case qqj => decide); k_whole))
  k_with "call type:bytes" => (k_here; (with_reducible show wpAny _ _ (call (Value.type "bytes") [Value.ref _]) _ _ _); k_dflt (refine' mk_IL ?qqF ?qqN ?qqhh ?qqm ?qqr ?qqz ?_; (case qqhh => rfl); (case qqF => k_asm); (case qqN => k_asm); (case qqm => ktr_rel); (case qqr => ktr_rel); (case qqz => ((try simp only [List.length_take, List.length_drop, List.length_append, List.length_replicate]); lia)); k_whole); intro b' h' t' k' F' N' hb'; (try k_sweep))
  k_with "getAttr ref" => (k_here; (with_reducible show wpAny _ _ (getAttr (Value.ref _) (PySem.Str.ofString "encrypt") _) _ _ _); k_dflt (refine' mode_benc ?qqF ?qqX ?qqN ?qqM ?_; (case qqF => k_asm); (case qqX => k_asm); (case qqN => k_asm); (case qqM => with_reducible assumption); k_whole); intro q' h' k' F' N' l1; (try k_sweep))
  k_with "getAttr ref" => (k_here; (with_reducible show wpAny _ _ (getAttr (Value.ref _) (PySem.Str.ofString "decrypt") _) _ _ _); k_dflt (refine' mode_bdec ?qqF ?qqX ?qqN ?qqM ?_; (case qqF => k_asm); (case qqX => k_asm); (case qqN => k_asm); (case qqM => with_reducible assumption); k_whole); intro q' h' k' F' N' l1; (try k_sweep))
  k_with "subscriptTail Name Slice ref ref" => (k_here; (with_reducible show wpAny _ _ (subscriptTail _ (Expr.Slice (some _) none none _) (Value.ref _) (Value.ref _)) _ _ _); k_dflt (refine' slice_from' ?qqF ?qqN ?qqm ?qqz ?qqb ?_; (case qqF => k_asm); (case qqN => k_asm); (case qqm => ktr_rel); (case qqz => lia); (case qqb => lia); k_whole); intro D' h' F' ws' hw' N' l1; (try k_lt l1); (try k_sweep))
  exact trivial
set_option maxHeartbeats 8000000 in
theorem lawL : PySem.Challenge.rw_yv0002_01.Holds := by
  refine holds_law Mine.hd.okT (fun said => ?_)
  refine holds_open (q := Mine.hd.view_39) (loose := [PySem.Str.ofString "AES", PySem.Str.ofString "Counter", PySem.Str.ofString "AESBlockModeOfOperation", PySem.Str.ofString "AESStreamModeOfOperation", PySem.Str.ofString "AESSegmentModeOfOperation", PySem.Str.ofString "AESModeOfOperationECB", PySem.Str.ofString "AESModeOfOperationCBC", PySem.Str.ofString "AESModeOfOperationCFB", PySem.Str.ofString "AESModeOfOperationOFB", PySem.Str.ofString "AESModeOfOperationCTR"]) (Xt := fun s => xlAt Mine.hd.view_39 [] s && recOk (RowW.records PySem.Challenge.rw_yv0002_01.row.toRowW) s) (XP := XL Mine.hd.view_39 []) (Yf := (kHook Mine.hd.heap_39 Mine.hd.as Mine.hd.asEq).obs) (Ya := (kHook Mine.hd.heap_39 Mine.hd.as Mine.hd.asEq).val) (YP := (kHook Mine.hd.heap_39 Mine.hd.as Mine.hd.asEq).says) (N := Mine.hd.NN) Mine.hd.left (kHook Mine.hd.heap_39 Mine.hd.as Mine.hd.asEq).of (kHook Mine.hd.heap_39 Mine.hd.as Mine.hd.asEq).keeps (fun s e => xl_of s (Bool.and_eq_true_iff.mp e).1) XL.keeps (by rfl) (by rfl) (by rfl) (fun s e => recFacts_of (Bool.and_eq_true_iff.mp e).2) (by rfl) said (by decide +kernel) ⟨rfl, rfl, rfl, rfl, rfl, by decide +kernel⟩ ?hw ?hc
  case hw => w_witness2
  case hc =>
  clear said
  w_strict (k_go0; (all_goals try k_fold))
  dsimp only
  have D' := trivial; have F' := trivial; have N' := trivial; have N9' := trivial; have Nq' := trivial; have b' := trivial; have c' := trivial; have h' := trivial; have hE' := trivial; have hO' := trivial; have hO1 := trivial; have hO2 := trivial; have hO3 := trivial; have hO4 := trivial; have hO5 := trivial; have hO6 := trivial; have hb' := trivial; have hi' := trivial; have hs' := trivial; have hv' := trivial; have hw' := trivial; have hz0 := trivial; have hzb := trivial; have k' := trivial; have kF := trivial; have kbcK := trivial; have l1 := trivial; have led' := trivial; have n' := trivial; have news' := trivial; have o' := trivial; have q' := trivial; have row' := trivial; have t' := trivial; have tk' := trivial; have us' := trivial; have v' := trivial; have vs' := trivial; have ws' := trivial; have z' := trivial; have zR' := trivial
  rename_i w s0 s1 mg mb G Y fa o pm doc ho hg KX X V GL T B TE TW u1 u2 M u3 u4 hcd ns hs hlay0 hlay hr0 hl2 u5 u6 sl vs u7 hsl ra w1 r0 hsI hr hlen hcond K0 hD h1 tk1 F0 o3 o2 o1 d3 d2 d1 N0 X0
  clear D' F' N' N9' Nq' b' c' h' hE' hO' hO1 hO2 hO3 hO4 hO5 hO6 hb' hi' hs' hv' hw' hz0 hzb k' kF kbcK l1 led' n' news' o' q' row' t' tk' us' v' vs' ws' z' zR'
  obtain ⟨m0, F1, hm0⟩ : ∃ m0, Fr s1.heap s1.heap.objs.size h1 m0 ∧ m0 (Str.ofString "script") = some (.ref sl) := ⟨_, F0, by kernel_rfl⟩
  clear F0
  replace d1 : o1.data = .cell none := d1
  replace d2 : o2.data = .cell none := d2
  replace d3 : o3.data = .cell none := d3
  have hlen63 : ns.length ≤ 63 := by lia
  clear X0 G Y V B M X TE hcond hs hlay0 hr0 hl2 ra w1 r0 hr ho hlen
  have K1 : Below callerA s1.heap [] s1.heap := K0
  clear K0
  k_extra "STEPSC"
  walk1
  k_extra "STEPSC"
  have D' := trivial; have F' := trivial; have N' := trivial; have N9' := trivial; have Nq' := trivial; have b' := trivial; have c' := trivial; have h' := trivial; have hE' := trivial; have hO' := trivial; have hO1 := trivial; have hO2 := trivial; have hO3 := trivial; have hO4 := trivial; have hO5 := trivial; have hO6 := trivial; have hb' := trivial; have hi' := trivial; have hs' := trivial; have hv' := trivial; have hw' := trivial; have hz0 := trivial; have hzb := trivial; have k' := trivial; have kF := trivial; have kbcK := trivial; have l1 := trivial; have led' := trivial; have n' := trivial; have news' := trivial; have o' := trivial; have q' := trivial; have row' := trivial; have t' := trivial; have tk' := trivial; have us' := trivial; have v' := trivial; have vs' := trivial; have ws' := trivial; have z' := trivial; have zR' := trivial
  rename_i D0 hA l1a hB tkA FA zc tcA hzc hzcb NA tA
  clear D' F' N' N9' Nq' b' c' h' hE' hO' hO1 hO2 hO3 hO4 hO5 hO6 hb' hi' hs' hv' hw' hz0 hzb k' kF kbcK l1 led' n' news' o' q' row' t' tk' us' v' vs' ws' z' zR'
  have hkz : ([16, 24, 32] : List Int).getD (zc % 3).toNat 0 = 16 ∨ ([16, 24, 32] : List Int).getD (zc % 3).toNat 0 = 24 ∨ ([16, 24, 32] : List Int).getD (zc % 3).toNat 0 = 32 := by
    have h3 : (zc % 3).toNat < 3 := by lia
    generalize (zc % 3).toNat = i at h3 ⊢
    rcases (show i = 0 ∨ i = 1 ∨ i = 2 by lia) with rfl | rfl | rfl <;> simp
  generalize hkd : ([16, 24, 32] : List Int).getD (zc % 3).toNat 0 = kz at hkz ⊢
  clear hkd hzc hzcb
  k_extra "STEPSM"
  have D' := trivial; have F' := trivial; have N' := trivial; have N9' := trivial; have Nq' := trivial; have b' := trivial; have c' := trivial; have h' := trivial; have hE' := trivial; have hO' := trivial; have hO1 := trivial; have hO2 := trivial; have hO3 := trivial; have hO4 := trivial; have hO5 := trivial; have hO6 := trivial; have hb' := trivial; have hi' := trivial; have hs' := trivial; have hv' := trivial; have hw' := trivial; have hz0 := trivial; have hzb := trivial; have k' := trivial; have kF := trivial; have kbcK := trivial; have l1 := trivial; have led' := trivial; have n' := trivial; have news' := trivial; have o' := trivial; have q' := trivial; have row' := trivial; have t' := trivial; have tk' := trivial; have us' := trivial; have v' := trivial; have vs' := trivial; have ws' := trivial; have z' := trivial; have zR' := trivial
  rename_i ha1 ta1 kl usk nk key hkI hkl hkin hk6 ha2 ok dk _ _ _ _ _ _ _ _ _ _ _ _ _ _ ha3 ta2 fl usf nf' first hfI hfl hfin hf6 ha4 of' df _ _ _ _ _ _ _ _ _ _ _ _ _ _ _ _ _ _ _ _ _ _ ha5 ta3 zs tzs hzs0 hzsb _ _ ha6 oz dz tkx _ _ _ _ _ _ _ _ _ _ _ _ _ _ _ _ _ _ _ _ ha7 ta4 zm tzm hzm0 hzmb ha8 FB NB _ _ _ _ _ _ _ _ _ _ _ _ _ _
  clear D' F' N' N9' Nq' b' c' h' hE' hO' hO1 hO2 hO3 hO4 hO5 hO6 hb' hi' hs' hv' hw' hz0 hzb k' kF kbcK l1 led' n' news' o' q' row' t' tk' us' v' vs' ws' z' zR'
  obtain ⟨sz, hsz, hsz1, hsz2⟩ : ∃ sz : Nat, (1 + zs % 16 : Int) = (sz : Int) ∧ 1 ≤ sz ∧ sz ≤ 16 := ⟨(1 + zs % 16).toNat, by lia, by lia, by lia⟩
  obtain ⟨mn, hmn, hmn2⟩ : ∃ mn : Nat, (zm % 11 : Int) = (mn : Int) ∧ mn ≤ 10 := ⟨(zm % 11).toNat, by lia, by lia⟩
  rw [hsz] at dz ⊢
  rw [hmn] at FB ⊢
  have hp2 : sz * mn ≤ 160 := Nat.mul_le_mul hsz2 hmn2
  have hp3 : (sz : Int) * (mn : Int) = ((sz * mn : Nat) : Int) := by push_cast; rfl
  have hkl2 : key.length = 16 ∨ key.length = 24 ∨ key.length = 32 := by lia
  have hfl2 : first.length = 16 := hfl
  obtain ⟨R, hR⟩ : ∃ R, RoundsOf key.length R := by
    unfold RoundsOf
    rcases hkl2 with h | h | h
    · exact ⟨10, .inl ⟨h, rfl⟩⟩
    · exact ⟨12, .inr (.inl ⟨h, rfl⟩)⟩
    · exact ⟨14, .inr (.inr ⟨h, rfl⟩)⟩
  have hkIL := il_mem NB (.tail _ (.head _)) hkI
  have hfIL := il_mem NB (.head _) hfI
  have hcz := mem4 NB
  have hcf := mem5 NB
  have hck := mem6 NB
  obtain ⟨LED, hLED⟩ := ex_led NB
  rw [← hLED] at NB hkIL hfIL hcz hcf hck
  clear hLED hkz hkl hk6 hf6 l1a hzs0 hzsb hzm0 hzmb hsz hmn hkI hfI
  refine PyProof.Rows.mul_int ?_ (PyProof.Rows.mulOk_of_bits (m := 64) (n := 64) (PySem.intBits_le_64 (by lia) (by lia)) (PySem.intBits_le_64 (by lia) (by lia)) (by decide))
  rw [hp3]
  (try dsimp only)
  k_extra "STEPSC"
  k_dflt (refine' TellsH.use (rowW w _ sl vs ns hsI hlay hlen63 6 _ (by decide) (by decide) _ _ (by lia) (by lia)) ?B ?F ?X ?N ?T ?hkk ?hd ?hu ?hH ?_); (case B => exact K1); (case F => k_asm); (case X => exact KX); (case N => k_asm); (case T => exact T); (case hkk => rfl); (case hd => first | decide | ktr_room); (case hu => first | decide | ktr_units); (case hH => exact hsl)
  intro v1 nw1 hb1 tb1 FC NC hO
  obtain ⟨dl, usd, nd, data, rfl, rfl, hdI, hdl, hdin, hd6⟩ := hO
  rw [show ((sz * mn : Nat) : Int).toNat = sz * mn by lia] at hdl
  have hdIL := il_mem NC (.head _) hdI
  replace hkIL := hkIL.skip (p := (dl, listOf usd.toArray nd))
  replace hfIL := hfIL.skip (p := (dl, listOf usd.toArray nd))
  replace hck : List.Mem (s1.heap.objs.size + 1, ok) ((dl, listOf usd.toArray nd) :: LED) := .tail _ hck
  replace hcf : List.Mem (s1.heap.objs.size + 1 + 1, of') ((dl, listOf usd.toArray nd) :: LED) := .tail _ hcf
  replace hcz : List.Mem (s1.heap.objs.size + 1 + 1 + 1, oz) ((dl, listOf usd.toArray nd) :: LED) := .tail _ hcz
  obtain ⟨LED2, hLED2⟩ := ex_led NC
  rw [← hLED2] at NC hkIL hfIL hdIL hck hcf hcz
  clear hLED2 hdI hd6 NB
  try dsimp only
  (try dsimp only)
  k_extra "STEPSC"
  rename KBw.bInts _ = key => hbk
  k_dflt (refine' Tells.use (aesV w _ _ _ key hbk hkin R hR) ?B ?F ?X ?N ?T ?hkk ?hd ?hu ?_); (case B => exact K1); (case F => k_asm); (case X => exact KX); (case N => k_asm); (case T => exact T); (case hkk => rfl); (case hd => first | decide | ktr_room); (case hu => first | decide | ktr_units)
  intro v2 led3 hc1 tc1 FD ND hO
  obtain ⟨x, dx, ke, kd, q1, q2, k1, k2, nke, rows, rfl, hKE, hsub, hne⟩ := hO
  replace hck := lm_sub hck hsub
  replace hcf := lm_sub hcf hsub
  replace hcz := lm_sub hcz hsub
  replace hkIL := hkIL.mono hsub
  replace hfIL := hfIL.mono hsub
  replace hdIL := hdIL.mono hsub
  have hKl : 2 ≤ (keOf w.params key).length ∧ (keOf w.params key).length ≤ 15 := by rw [keOf_len]; lia
  clear hne hsub hbk
  try dsimp only
  (try dsimp only)
  k_extra "STEPSC"
  k_dflt (refine' Tells.use (ruleV w led3 x dx ke kd q1 q2 k1 k2 nke rows _ hKE hKl fl dl first data hfIL hfl2 hfin hdIL hdin sz mn hdl ⟨hsz1, hsz2⟩ (by lia) _ _ _) ?B ?F ?X ?N ?T ?hkk ?hd ?hu ?_); (case B => exact K1); (case F => k_asm); (case X => exact KX); (case N => k_asm); (case T => exact T); (case hkk => rfl); (case hd => first | decide | ktr_room); (case hu => first | decide | ktr_units)
  intro v3 led4 hd1' td1 FE NE hO
  obtain ⟨el, rfl, heIL, hsub, hne⟩ := hO
  replace hck := lm_sub hck hsub
  replace hcf := lm_sub hcf hsub
  replace hcz := lm_sub hcz hsub
  replace hkIL := hkIL.mono hsub
  replace hfIL := hfIL.mono hsub
  replace hdIL := hdIL.mono hsub
  clear hne hsub hKE
  have hel : (cO w.params (keOf w.params key) sz first data mn).length = sz * mn := cO_len hdl hsz2 (Nat.le_refl _)
  have hein : KBa.In (cO w.params (keOf w.params key) sz first data mn) := cO_in hdin
  try dsimp only
  (try dsimp only)
  k_extra "STEPSM"
  have D' := trivial; have F' := trivial; have N' := trivial; have N9' := trivial; have Nq' := trivial; have b' := trivial; have c' := trivial; have h' := trivial; have hE' := trivial; have hO' := trivial; have hO1 := trivial; have hO2 := trivial; have hO3 := trivial; have hO4 := trivial; have hO5 := trivial; have hO6 := trivial; have hb' := trivial; have hi' := trivial; have hs' := trivial; have hv' := trivial; have hw' := trivial; have hz0 := trivial; have hzb := trivial; have k' := trivial; have kF := trivial; have kbcK := trivial; have l1 := trivial; have led' := trivial; have n' := trivial; have news' := trivial; have o' := trivial; have q' := trivial; have row' := trivial; have t' := trivial; have tk' := trivial; have us' := trivial; have v' := trivial; have vs' := trivial; have ws' := trivial; have z' := trivial; have zR' := trivial
  rename_i hd2 td2 FF zc8 tc8 hc80 hc8b NF _ _
  clear D' F' N' N9' Nq' b' c' h' hE' hO' hO1 hO2 hO3 hO4 hO5 hO6 hb' hi' hs' hv' hw' hz0 hzb k' kF kbcK l1 led' n' news' o' q' row' t' tk' us' v' vs' ws' z' zR'
  obtain ⟨a, ha, ha2⟩ : ∃ a : Nat, (zc8 % ((mn : Int) + 1) : Int) = (a : Int) ∧ a ≤ mn := by
    have e1 := Int.emod_nonneg zc8 (show ((mn : Int) + 1) ≠ 0 by lia)
    have e2 := Int.emod_lt_of_pos zc8 (show (0 : Int) < (mn : Int) + 1 by lia)
    exact ⟨(zc8 % ((mn : Int) + 1)).toNat, by lia, by lia⟩
  rw [ha]
  clear ha hc80 hc8b
  have hp4 : sz * a ≤ sz * mn := Nat.mul_le_mul_left sz ha2
  have hp5 : (sz : Int) * (a : Int) = ((sz * a : Nat) : Int) := by push_cast; rfl
  refine PyProof.Rows.mul_int ?_ (PyProof.Rows.mulOk_of_bits (m := 64) (n := 64) (PySem.intBits_le_64 (by lia) (by lia)) (PySem.intBits_le_64 (by lia) (by lia)) (by decide))
  rw [hp5]
  (try dsimp only)
  k_extra "STEPSM"
  rename Fr _ _ _ _ => FG
  rename News _ _ _ _ => NG
  k_dflt (refine Assign_step FG (by rfl) (by with_unfolding_all rfl) (by rfl) (by decide) (by rfl) (by decide) (by rfl) (by rfl) (by rfl) (by rfl) ?_)
  k_extra "STEPSX"
  rename IsRange _ _ _ _ _ _ _ _ => R14
  rename Fr _ _ _ _ => F14
  rename News _ _ _ _ => N14
  refine ⟨_, _, _, _, _, _, _, 4, _, rfl, F14, N14, R14, (by decide), (by decide), (by rw [sizeLine_eq]; decide), ?_⟩
  intro s2 hs2
  obtain ⟨g3, hs2⟩ := hs2
  subst hs2
  refine comp_inv (fun i ys nx => ∃ c dc ad, ModesJ led4 first sz (keOf w.params key) i ys nx c dc ad) ⟨_, _, _, ModesJ.nil _ _ _ _⟩ ?_ ?_
  · intro i ti I oI C oC D ys nx m₂ s₁ E' hi4 hJ hC hx2 F15 N15 off ne
    obtain ⟨ne1, ne2, ne3⟩ := ne
    obtain ⟨c, dc, ad, J⟩ := hJ
    clear F14 N14 R14
    have hs3 : ∀ p ∈ led4, p ∈ (I, oI) :: (C, oC) :: (D, LCg.lst ys) :: nx := fun p hp => .tail _ (.tail _ (.tail _ (J.hb p hp)))
    have hckN := lm_sub hck hs3
    have hcfN := lm_sub hcf hs3
    have hczN := lm_sub hcz hs3
    have hkN := hkIL.mono hs3
    have hfN := hfIL.mono hs3
    have hkl32 : key.length ≤ 32 := by lia
    k_extra "STEPSC"
    k_dflt (refine' Tells.use (modeV w _ kl fl key first hkN hkin R hR hkl32 hfN hfin hfl2 sz hsz2 _ _ _) ?B ?F ?X ?N ?T ?hkk ?hd ?hu ?_); (case B => exact K1); (case F => k_asm); (case X => exact KX); (case N => k_asm); (case T => exact T); (case hkk => rfl); (case hd => first | decide | ktr_room); (case hu => first | decide | ktr_units)
    intro v9 led9 h9 tk9 F9 N9 hO
    obtain ⟨c', dc', ad', rfl, hMo, hsub, hne⟩ := hO
    rw [show zOf sz = sz from if_neg (by lia)] at hMo
    k_unfold
    try dsimp only
    refine CPostJ.intro F9 N9 (led9.filter fun p => p.1 ≠ I ∧ p.1 ≠ C ∧ p.1 ≠ D) (modes_in hsub) (off3_of fun p hp => by simpa using (List.mem_filter.mp hp).2) ⟨_, _, _, J.snoc (c' := c') (dc' := dc') (ad' := ad') (fun p hp => List.mem_filter.mpr ⟨hsub p (.tail _ (.tail _ (.tail _ hp))), by simpa using off.mem p hp⟩) (hMo.to fun p hp ha => List.mem_filter.mpr ⟨hp, ?_⟩) (fun p hp => hne p (.tail _ (.tail _ (.tail _ hp))))⟩
    have n1 := hne _ (.head _) _ ha
    have n2 := hne _ (.tail _ (.head _)) _ ha
    have n3 := hne _ (.tail _ (.tail _ (.head _))) _ ha
    simpa using ⟨fun e => n1 e.symm, fun e => n2 e.symm, fun e => n3 e.symm⟩
  intro ys nx hJ
  obtain ⟨c, dc, ad, J⟩ := hJ
  unfold LCg.FinA
  intro ml h9 tk9 F15 N15 o9
  try dsimp only
  dsimp only at F15
  have hy := J.hy
  obtain ⟨LED5, hLED5⟩ := ex_led N15
  have hsb : ∀ p ∈ led4, p ∈ LED5 := fun p hp => hLED5 ▸ .tail _ (J.hb p hp)
  obtain ⟨vk, nk1, hk1, -⟩ := id hkIL
  obtain ⟨vf, nf1, hf1, -⟩ := id hfIL
  obtain ⟨vd, nd1, hd1, -⟩ := id hdIL
  obtain ⟨ve, ne1, he1, -⟩ := id heIL
  have Z : LS LED5 s1.heap.objs.size ok of' oz kl fl dl el key first data (cO w.params (keOf w.params key) sz first data mn) ml (listOf (((List.range 4).map c).map Value.ref).toArray 4) c dc ad (fun _ => first) sz (keOf w.params key) := by
    refine ⟨hsb _ hck, hsb _ hcf, hsb _ hcz, hkIL.mono hsb, hfIL.mono hsb, hdIL.mono hsb, heIL.mono hsb, ?_, fun j hj => (J.hM j hj).to fun p hp _ => hLED5 ▸ .tail _ hp, J.hd, fun a ha j hj => ?_⟩
    · rw [hLED5, hy, List.map_map]
      exact .head _
    · simp only [List.mem_cons, List.not_mem_nil, or_false] at ha
      rcases ha with rfl | rfl | rfl | rfl | rfl | rfl | rfl | rfl
      · exact J.hn _ hck j hj
      · exact J.hn _ hcf j hj
      · exact J.hn _ hcz j hj
      · exact J.hn _ hk1 j hj
      · exact J.hn _ hf1 j hj
      · exact J.hn _ hd1 j hj
      · exact J.hn _ he1 j hj
      · intro e
        obtain ⟨o', ho'⟩ := (J.hM j hj).dict
        exact off1_ne o9 _ ho' e.symm
  rw [← hLED5] at N15
  clear hLED5 hsb vk nk1 hk1 vf nf1 hf1 vd nd1 hd1 ve ne1 he1 hy J o9 hkIL hfIL hdIL heIL hck hcf hcz F14 N14 R14
  obtain ⟨m5, F5, hm5⟩ : ∃ m5 : Str → Option Value, Fr s1.heap s1.heap.objs.size h9 m5 ∧ m5 (Str.ofString "modes") = some (.ref ml) ∧ (∃ t, m5 (Str.ofString "cut") = some (.int ((sz * a : Nat) : Int) t)) ∧ m5 (Str.ofString "due") = some (.ref el) ∧ m5 (Str.ofString "data") = some (.ref dl) := ⟨_, F15, rfl, ⟨_, rfl⟩, rfl, rfl⟩
  obtain ⟨hm5a, ⟨tcut, hm5b⟩, hm5c, hm5d⟩ := hm5
  clear F15
  generalize hW : cO w.params (keOf w.params key) sz first data mn = due at Z hel hein
  have hck := Z.hck
  have hcf := Z.hcf
  have hcz := Z.hcz
  have hkIL := Z.hkIL
  have hfIL := Z.hfIL
  have hdIL := Z.hdIL
  have heIL := Z.heIL
  have hml := Z.hml
  have hM0 := Z.hM 0 (by decide)
  have hM1 := Z.hM 1 (by decide)
  have hM2 := Z.hM 2 (by decide)
  have hM3 := Z.hM 3 (by decide)
  try simp (decide := true) only [↓reduceIte] at hM0
  try simp (decide := true) only [↓reduceIte] at hM1
  try simp (decide := true) only [↓reduceIte] at hM2
  try simp (decide := true) only [↓reduceIte] at hM3
  k_extra "STEPSC"
  rename KBw.bInts _ = data => hbd
  k_dflt (refine' Tells.use (encryptV w LED5 (c 0) (dc 0) (ad 0) first sz _ hM0 hfl2 hfin hKl _ _ data hbd mn hdl ⟨hsz1, hsz2⟩ (by lia)) ?B ?F ?X ?N ?T ?hkk ?hd ?hu ?_); (case B => exact K1); (case F => k_asm); (case X => exact KX); (case N => k_asm); (case T => exact T); (case hkk => rfl); (case hd => first | decide | ktr_room); (case hu => first | decide | ktr_units)
  intro v10 led6 h10 tk10 F10 N10 hO
  obtain ⟨b6, t6, rfl, hb6, hM, hs⟩ := hO
  rw [hW] at hb6
  replace Z := Z.upd 0 (by decide) hM hs
  clear hbd hM hs
  clear hck hcf hcz hkIL hfIL hdIL heIL hml hM0 hM1 hM2 hM3
  have hck := Z.hck
  have hcf := Z.hcf
  have hcz := Z.hcz
  have hkIL := Z.hkIL
  have hfIL := Z.hfIL
  have hdIL := Z.hdIL
  have heIL := Z.heIL
  have hml := Z.hml
  have hM0 := Z.hM 0 (by decide)
  have hM1 := Z.hM 1 (by decide)
  have hM2 := Z.hM 2 (by decide)
  have hM3 := Z.hM 3 (by decide)
  try simp (decide := true) only [↓reduceIte] at hM0
  try simp (decide := true) only [↓reduceIte] at hM1
  try simp (decide := true) only [↓reduceIte] at hM2
  try simp (decide := true) only [↓reduceIte] at hM3
  try dsimp only
  (try dsimp only)
  k_extra "STEPSM"
  rename KBw.bInts _ = due => hbe
  refine ne_same hb6 hbe ?_
  clear hb6
  k_extra "STEPSC"
  clear hbe
  rename KBw.bInts _ = due => hbe
  k_dflt (refine' Tells.use (decryptV w led6 (c 1) (dc 1) (ad 1) first sz _ hM1 hfl2 hfin hKl _ _ due hbe mn hel ⟨hsz1, hsz2⟩ (by lia)) ?B ?F ?X ?N ?T ?hkk ?hd ?hu ?_); (case B => exact K1); (case F => k_asm); (case X => exact KX); (case N => k_asm); (case T => exact T); (case hkk => rfl); (case hd => first | decide | ktr_room); (case hu => first | decide | ktr_units)
  intro v11 led7 h11 tk11 F11 N11 hO
  obtain ⟨b7, t7, rfl, hb7, hM, hs⟩ := hO
  rw [show dO w.params (keOf w.params key) sz first due mn = data from by rw [← hW]; exact (dec_all hdl hdin hsz2).1] at hb7
  replace Z := Z.upd 1 (by decide) hM hs
  clear hbe hM hs
  clear hck hcf hcz hkIL hfIL hdIL heIL hml hM0 hM1 hM2 hM3
  have hck := Z.hck
  have hcf := Z.hcf
  have hcz := Z.hcz
  have hkIL := Z.hkIL
  have hfIL := Z.hfIL
  have hdIL := Z.hdIL
  have heIL := Z.heIL
  have hml := Z.hml
  have hM0 := Z.hM 0 (by decide)
  have hM1 := Z.hM 1 (by decide)
  have hM2 := Z.hM 2 (by decide)
  have hM3 := Z.hM 3 (by decide)
  try simp (decide := true) only [↓reduceIte] at hM0
  try simp (decide := true) only [↓reduceIte] at hM1
  try simp (decide := true) only [↓reduceIte] at hM2
  try simp (decide := true) only [↓reduceIte] at hM3
  try dsimp only
  (try dsimp only)
  k_extra "STEPSM"
  rename KBw.bInts _ = data => hbe
  refine ne_same hb7 hbe ?_
  clear hb7 hbe
  k_extra "STEPSC"
  have hp6 : ((sz * a : Nat) : Int).toNat = sz * a := rfl
  have hla : (data.take (sz * a)).length = sz * a := by rw [List.length_take, hdl]; exact Nat.min_eq_left hp4
  have hle : (due.take (sz * a)).length = sz * a := by rw [List.length_take, hel]; exact Nat.min_eq_left hp4
  rename KBw.bInts _ = _ => hbd
  rw [hp6] at hbd
  rename News _ _ _ _ => NQ
  have NR := drop_led NQ (news := led7) fun p hp => .tail _ hp
  clear NQ
  k_dflt (refine' Tells.use (encryptV w led7 (c 2) (dc 2) (ad 2) first sz _ hM2 hfl2 hfin hKl _ _ _ hbd a hla ⟨hsz1, hsz2⟩ (by lia)) ?B ?F ?X ?N ?T ?hkk ?hd ?hu ?_); (case B => exact K1); (case F => k_asm); (case X => exact KX); (case N => k_asm); (case T => exact T); (case hkk => rfl); (case hd => first | decide | ktr_room); (case hu => first | decide | ktr_units)
  intro v12 led8 h12 tk12 F12 N12 hO
  obtain ⟨b8, t8, rfl, hb8, hM, hs⟩ := hO
  rw [pre.1, show cO w.params (keOf w.params key) sz first data a = due.take (sz * a) from by rw [← hW, cO_take hdl hsz2 ha2]] at hb8
  rw [pre.2] at hM
  replace Z := Z.upd 2 (by decide) hM hs
  clear hbd hM hs
  clear hck hcf hcz hkIL hfIL hdIL heIL hml hM0 hM1 hM2 hM3
  have hck := Z.hck
  have hcf := Z.hcf
  have hcz := Z.hcz
  have hkIL := Z.hkIL
  have hfIL := Z.hfIL
  have hdIL := Z.hdIL
  have heIL := Z.heIL
  have hml := Z.hml
  have hM0 := Z.hM 0 (by decide)
  have hM1 := Z.hM 1 (by decide)
  have hM2 := Z.hM 2 (by decide)
  have hM3 := Z.hM 3 (by decide)
  try simp (decide := true) only [↓reduceIte] at hM0
  try simp (decide := true) only [↓reduceIte] at hM1
  try simp (decide := true) only [↓reduceIte] at hM2
  try simp (decide := true) only [↓reduceIte] at hM3
  try dsimp only
  (try dsimp only)
  k_extra "STEPSM"
  rename KBw.bInts _ = _ => hbe
  rw [hp6] at hbe
  refine ne_same hb8 hbe ?_
  clear hb8 hbe
  rename News _ _ _ _ => NQ
  have NR := drop_led NQ (news := led8) fun p hp => .tail _ hp
  clear NQ
  k_extra "STEPSC"
  rename KBw.bInts _ = _ => hbd
  rw [hp6] at hbd
  rename News _ _ _ _ => NQ
  have NR := drop_led NQ (news := led8) fun p hp => .tail _ hp
  clear NQ
  k_dflt (refine' Tells.use (decryptV w led8 (c 3) (dc 3) (ad 3) first sz _ hM3 hfl2 hfin hKl _ _ _ hbd a hle ⟨hsz1, hsz2⟩ (by lia)) ?B ?F ?X ?N ?T ?hkk ?hd ?hu ?_); (case B => exact K1); (case F => k_asm); (case X => exact KX); (case N => k_asm); (case T => exact T); (case hkk => rfl); (case hd => first | decide | ktr_room); (case hu => first | decide | ktr_units)
  intro v13 led9 h13 tk13 F13 N13 hO
  obtain ⟨b9, t9, rfl, hb9, hM, hs⟩ := hO
  have hdp := dec_pre (P := w.params) (KE := keOf w.params key) (reg := first) hdl hdin hsz2 ha2
  rw [hW] at hdp
  rw [hdp.1] at hb9
  rw [hdp.2] at hM
  replace Z := Z.upd 3 (by decide) hM hs
  clear hbd hM hs hdp
  clear hck hcf hcz hkIL hfIL hdIL heIL hml hM0 hM1 hM2 hM3
  have hck := Z.hck
  have hcf := Z.hcf
  have hcz := Z.hcz
  have hkIL := Z.hkIL
  have hfIL := Z.hfIL
  have hdIL := Z.hdIL
  have heIL := Z.heIL
  have hml := Z.hml
  have hM0 := Z.hM 0 (by decide)
  have hM1 := Z.hM 1 (by decide)
  have hM2 := Z.hM 2 (by decide)
  have hM3 := Z.hM 3 (by decide)
  try simp (decide := true) only [↓reduceIte] at hM0
  try simp (decide := true) only [↓reduceIte] at hM1
  try simp (decide := true) only [↓reduceIte] at hM2
  try simp (decide := true) only [↓reduceIte] at hM3
  try dsimp only
  (try dsimp only)
  k_extra "STEPSM"
  rename KBw.bInts _ = _ => hbe
  rw [hp6] at hbe
  refine ne_same hb9 hbe ?_
  clear hb9 hbe
  rename News _ _ _ _ => NQ
  have NR := drop_led NQ (news := led9) fun p hp => .tail _ hp
  clear NQ
  k_extra "STEPSC"
  clear hck hcf hcz hkIL hfIL hdIL heIL hml hM0 hM1 hM2 hM3
  k_dflt (refine For_invV s1.heap (by rfl) (by rfl) ?_)
  have hcz := Z.hcz
  k_extra "STEPSX"
  rename IsRange _ _ _ _ _ _ _ _ => R7
  rename Fr _ _ _ _ => F7
  rename News _ _ _ _ => N7
  refine rng_inv (fun i m nx => (m (Str.ofString "modes") = some (.ref ml) ∧ (∃ t, m (Str.ofString "cut") = some (.int ((sz * a : Nat) : Int) t)) ∧ m (Str.ofString "due") = some (.ref el) ∧ m (Str.ofString "data") = some (.ref dl)) ∧ nx = led9) (n := sz - 1) rfl R7 (small_one (by lia) (by lia) (by lia) (by lia)) (by rw [rangeSize_nat]; lia) F7 N7 ⟨⟨hm5a, ⟨_, hm5b⟩, hm5c, hm5d⟩, rfl⟩ ?_ ?_
  · clear F7 N7 R7 hcz hm5a hm5b hm5c hm5d
    intro I i it ti m₁ nx s₁ hi hJ off F8 N8 hs₁
    obtain ⟨⟨hm5a, ⟨tcut, hm5b⟩, hm5c, hm5d⟩, rfl⟩ := hJ
    have Z9 := Z
    replace Z := Z.mono (led' := (I, it) :: nx) fun p hp => .tail _ hp
    have F9 : Fr s1.heap s1.heap.objs.size s₁.heap (fun y => if y = (Str.ofString "less") then some (.int (1 + (i : Int) * 1) ti) else m₁ y) := F8
    have N9 : News s1.heap s1.heap.objs.size s₁.heap ((I, it) :: nx) := N8
    clear F8 N8
    have hck := Z.hck
    have hcf := Z.hcf
    have hcz := Z.hcz
    have hkIL := Z.hkIL
    have hfIL := Z.hfIL
    have hdIL := Z.hdIL
    have heIL := Z.heIL
    have hml := Z.hml
    have hM0 := Z.hM 0 (by decide)
    have hM1 := Z.hM 1 (by decide)
    have hM2 := Z.hM 2 (by decide)
    have hM3 := Z.hM 3 (by decide)
    try simp (decide := true) only [↓reduceIte] at hM0
    try simp (decide := true) only [↓reduceIte] at hM1
    try simp (decide := true) only [↓reduceIte] at hM2
    try simp (decide := true) only [↓reduceIte] at hM3
    k_extra "STEPSM"
    have D' := trivial; have F' := trivial; have N' := trivial; have N9' := trivial; have Nq' := trivial; have b' := trivial; have c' := trivial; have h' := trivial; have hE' := trivial; have hO' := trivial; have hO1 := trivial; have hO2 := trivial; have hO3 := trivial; have hO4 := trivial; have hO5 := trivial; have hO6 := trivial; have hb' := trivial; have hi' := trivial; have hs' := trivial; have hv' := trivial; have hw' := trivial; have hz0 := trivial; have hzb := trivial; have k' := trivial; have kF := trivial; have kbcK := trivial; have l1 := trivial; have led' := trivial; have n' := trivial; have news' := trivial; have o' := trivial; have q' := trivial; have row' := trivial; have t' := trivial; have tk' := trivial; have us' := trivial; have v' := trivial; have vs' := trivial; have ws' := trivial; have z' := trivial; have zR' := trivial
    rename_i q hA1 kA1 lA1 _ _ _ _ _ _ _ _ _ _ l5 hA2 FQ NQ lA2
    clear D' F' N' N9' Nq' b' c' h' hE' hO' hO1 hO2 hO3 hO4 hO5 hO6 hb' hi' hs' hv' hw' hz0 hzb k' kF kbcK l1 led' n' news' o' q' row' t' tk' us' v' vs' ws' z' zR'
    have e5 : (1 + (i : Int) * 1).toNat = 1 + i := by lia
    refine rep_IL (k := 5) FQ NQ ⟨[Value.int 5 _], 0, .head _, .cons _ _ .nil⟩ (by lia) (by lia) ?_
    intro D5 us5 hA3 FQ2 hu5 NQ2 lA3
    rw [e5] at hu5
    clear FQ NQ lA1 lA2 lA3
    try dsimp only
    refine add_IL FQ2 NQ2 (hdIL.skip.skip.skip) (IL.here hu5) (by rw [List.length_replicate, hdl]; lia) ?_
    intro D6 us6 hA4 FQ3 hu6 NQ3 lA4
    clear FQ2 NQ2 lA4 hu5
    try dsimp only
    (try dsimp only)
    k_extra "STEPSC"
    obtain ⟨x2, dx2, ke2, kd2, r1, r2, r3, p1, p2, j1, j2, j3, n1, n2, nke2, rows2, ts2, rb2, rt2, -, -, MM⟩ := hM2.toMJ
    have hl6 : (data ++ List.replicate (1 + i) 5).length = sz * mn + (1 + i) := by rw [List.length_append, List.length_replicate, hdl]
    k_dflt (refine' Tells0.use (refusedV w _ q D6 (c 2) (dc 2) x2 dx2 ke2 kd2 _ _ _ _ _ _ _ _ _ _ _ _ _ _ _ _ _ MM.skip.skip.skip.skip (.tail _ (.tail _ (.tail _ (.head _)))) _ (IL.here hu6) (pad_in hdin _) (by rw [hl6]; lia) (by lia) (pad_mod hl6 hi)) ?B ?F ?X ?N ?T ?hkk ?hd ?hu ?_); (case B => exact K1); (case F => k_asm); (case X => exact KX); (case N => k_asm); (case T => exact T); (case hkk => rfl); (case hd => first | decide | ktr_room); (case hu => first | decide | ktr_units)
    intro v14 led10 h14 tk14 F14 N14 hO
    obtain ⟨rfl, rfl⟩ := hO
    replace N14 := drop_led N14 (news := (I, it) :: nx) fun p hp => .tail _ (.tail _ (.tail _ (.tail _ hp)))
    clear hu6 MM hl6
    try dsimp only
    (try dsimp only)
    k_extra "STEPSM"
    have D' := trivial; have F' := trivial; have N' := trivial; have N9' := trivial; have Nq' := trivial; have b' := trivial; have c' := trivial; have h' := trivial; have hE' := trivial; have hO' := trivial; have hO1 := trivial; have hO2 := trivial; have hO3 := trivial; have hO4 := trivial; have hO5 := trivial; have hO6 := trivial; have hb' := trivial; have hi' := trivial; have hs' := trivial; have hv' := trivial; have hw' := trivial; have hz0 := trivial; have hzb := trivial; have k' := trivial; have kF := trivial; have kbcK := trivial; have l1 := trivial; have led' := trivial; have n' := trivial; have news' := trivial; have o' := trivial; have q' := trivial; have row' := trivial; have t' := trivial; have tk' := trivial; have us' := trivial; have v' := trivial; have vs' := trivial; have ws' := trivial; have z' := trivial; have zR' := trivial
    rename_i q' hB1 kB1 lB1 _ _ _ _ _ _ _ _ _ _ l5' hB2 FQ NQ lB2
    clear D' F' N' N9' Nq' b' c' h' hE' hO' hO1 hO2 hO3 hO4 hO5 hO6 hb' hi' hs' hv' hw' hz0 hzb k' kF kbcK l1 led' n' news' o' q' row' t' tk' us' v' vs' ws' z' zR'
    refine rep_IL (k := 5) FQ NQ ⟨[Value.int 5 _], 0, .head _, .cons _ _ .nil⟩ (by lia) (by lia) ?_
    intro D5' us5' hB3 FQ2 hu5 NQ2 lB3
    rw [e5] at hu5
    clear FQ NQ lB1 lB2 lB3
    try dsimp only
    refine add_IL FQ2 NQ2 (heIL.skip.skip.skip) (IL.here hu5) (by rw [List.length_replicate, hel]; lia) ?_
    intro D6' us6' hB4 FQ3 hu6 NQ3 lB4
    clear FQ2 NQ2 lB4 hu5
    try dsimp only
    (try dsimp only)
    k_extra "STEPSC"
    obtain ⟨y2, dy2, ye2, yd2, w1, w2, w3, p1, p2, j1, j2, j3, n1, n2, nye2, yows2, ys2, yb2, yt2, -, -, MM⟩ := hM3.toMJ
    have hl6 : (due ++ List.replicate (1 + i) 5).length = sz * mn + (1 + i) := by rw [List.length_append, List.length_replicate, hel]
    k_dflt (refine' Tells0.use (refusedW w _ q' D6' (c 3) (dc 3) y2 dy2 ye2 yd2 _ _ _ _ _ _ _ _ _ _ _ _ _ _ _ _ _ MM.skip.skip.skip.skip (.tail _ (.tail _ (.tail _ (.head _)))) _ (IL.here hu6) (pad_in hein _) (by rw [hl6]; lia) (by lia) (pad_mod hl6 hi)) ?B ?F ?X ?N ?T ?hkk ?hd ?hu ?_); (case B => exact K1); (case F => k_asm); (case X => exact KX); (case N => k_asm); (case T => exact T); (case hkk => rfl); (case hd => first | decide | ktr_room); (case hu => first | decide | ktr_units)
    intro v15 led11 h15 tk15 F15 N15 hO
    obtain ⟨rfl, rfl⟩ := hO
    replace N15 := drop_led N15 (news := (I, it) :: nx) fun p hp => .tail _ (.tail _ (.tail _ (.tail _ hp)))
    clear hu6 MM hl6
    try dsimp only
    (try dsimp only)
    k_extra "STEPSM"
    rename Fr _ _ _ _ => FQ
    rename News _ _ _ _ => NQ
    exact RPost.next FQ NQ nx (fun p hp => hp) off ⟨⟨Eq.trans (if_neg (by decide)) hm5a, ⟨_, Eq.trans (if_neg (by decide)) hm5b⟩, Eq.trans (if_neg (by decide)) hm5c, Eq.trans (if_neg (by decide)) hm5d⟩, rfl⟩
  clear F7 N7 R7 hcz hm5a hm5b hm5c hm5d
  intro m₁ nx h14 tk14 hJ F8 N8
  obtain ⟨⟨hm5a, ⟨tcut, hm5b⟩, hm5c, hm5d⟩, hnx⟩ := hJ
  rw [hnx] at N8
  clear hnx
  try dsimp only
  (try dsimp only)
  have F9 : Fr s1.heap s1.heap.objs.size h14 m₁ := F8
  have N9 : News s1.heap s1.heap.objs.size h14 led9 := N8
  clear F8 N8
  have hck := Z.hck
  have hcf := Z.hcf
  have hcz := Z.hcz
  have hkIL := Z.hkIL
  have hfIL := Z.hfIL
  have hdIL := Z.hdIL
  have heIL := Z.heIL
  have hml := Z.hml
  have hM0 := Z.hM 0 (by decide)
  have hM1 := Z.hM 1 (by decide)
  have hM2 := Z.hM 2 (by decide)
  have hM3 := Z.hM 3 (by decide)
  try simp (decide := true) only [↓reduceIte] at hM0
  try simp (decide := true) only [↓reduceIte] at hM1
  try simp (decide := true) only [↓reduceIte] at hM2
  try simp (decide := true) only [↓reduceIte] at hM3
  k_extra "STEPSC"
  have hld : (data.drop (sz * a)).length = sz * (mn - a) := by rw [List.length_drop, hdl, Nat.mul_sub]
  have hlf : (due.drop (sz * a)).length = sz * (mn - a) := by rw [List.length_drop, hel, Nat.mul_sub]
  have hra : (cR w.params (keOf w.params key) sz first data a).length = 16 := cR_len hfl2 hdl hsz2 ha2
  have hri : KBa.In (cR w.params (keOf w.params key) sz first data a) := cR_in hfin hdin
  rename KBw.bInts _ = _ => hbd
  rw [hp6] at hbd
  rename News _ _ _ _ => NQ
  have NR := drop_led NQ (news := led9) fun p hp => .tail _ hp
  clear NQ
  k_dflt (refine' Tells.use (encryptV w led9 (c 2) (dc 2) (ad 2) _ sz _ hM2 hra hri hKl _ _ _ hbd (mn - a) hld ⟨hsz1, hsz2⟩ (by lia)) ?B ?F ?X ?N ?T ?hkk ?hd ?hu ?_); (case B => exact K1); (case F => k_asm); (case X => exact KX); (case N => k_asm); (case T => exact T); (case hkk => rfl); (case hd => first | decide | ktr_room); (case hu => first | decide | ktr_units)
  intro v16 led12 h16 tk16 F16 N16 hO
  obtain ⟨b12, t12, rfl, hb12, hM, hs⟩ := hO
  rw [← cO_drop hdl hsz2 ha2, hW] at hb12
  replace Z := Z.upd 2 (by decide) hM hs
  clear hbd hM hs
  clear hck hcf hcz hkIL hfIL hdIL heIL hml hM0 hM1 hM2 hM3
  have hck := Z.hck
  have hcf := Z.hcf
  have hcz := Z.hcz
  have hkIL := Z.hkIL
  have hfIL := Z.hfIL
  have hdIL := Z.hdIL
  have heIL := Z.heIL
  have hml := Z.hml
  have hM0 := Z.hM 0 (by decide)
  have hM1 := Z.hM 1 (by decide)
  have hM2 := Z.hM 2 (by decide)
  have hM3 := Z.hM 3 (by decide)
  try simp (decide := true) only [↓reduceIte] at hM0
  try simp (decide := true) only [↓reduceIte] at hM1
  try simp (decide := true) only [↓reduceIte] at hM2
  try simp (decide := true) only [↓reduceIte] at hM3
  try dsimp only
  (try dsimp only)
  k_extra "STEPSM"
  rename KBw.bInts _ = _ => hbe
  rw [hp6] at hbe
  refine ne_same hb12 hbe ?_
  clear hb12 hbe
  rename News _ _ _ _ => NQ
  have NR := drop_led NQ (news := led12) fun p hp => .tail _ hp
  clear NQ
  k_extra "STEPSC"
  rename KBw.bInts _ = _ => hbd
  rw [hp6] at hbd
  rename News _ _ _ _ => NQ
  have NR := drop_led NQ (news := led12) fun p hp => .tail _ hp
  clear NQ
  k_dflt (refine' Tells.use (decryptV w led12 (c 3) (dc 3) (ad 3) _ sz _ hM3 hra hri hKl _ _ _ hbd (mn - a) hlf ⟨hsz1, hsz2⟩ (by lia)) ?B ?F ?X ?N ?T ?hkk ?hd ?hu ?_); (case B => exact K1); (case F => k_asm); (case X => exact KX); (case N => k_asm); (case T => exact T); (case hkk => rfl); (case hd => first | decide | ktr_room); (case hu => first | decide | ktr_units)
  intro v17 led13 h17 tk17 F17 N17 hO
  obtain ⟨b13, t13, rfl, hb13, hM, hs⟩ := hO
  have hds := dec_suf (P := w.params) (KE := keOf w.params key) (reg := first) hdl hdin hsz2 ha2
  rw [hW] at hds
  rw [hds] at hb13
  replace Z := Z.upd 3 (by decide) hM hs
  clear hbd hM hs hds
  clear hck hcf hcz hkIL hfIL hdIL heIL hml hM0 hM1 hM2 hM3
  have hck := Z.hck
  have hcf := Z.hcf
  have hcz := Z.hcz
  have hkIL := Z.hkIL
  have hfIL := Z.hfIL
  have hdIL := Z.hdIL
  have heIL := Z.heIL
  have hml := Z.hml
  have hM0 := Z.hM 0 (by decide)
  have hM1 := Z.hM 1 (by decide)
  have hM2 := Z.hM 2 (by decide)
  have hM3 := Z.hM 3 (by decide)
  try simp (decide := true) only [↓reduceIte] at hM0
  try simp (decide := true) only [↓reduceIte] at hM1
  try simp (decide := true) only [↓reduceIte] at hM2
  try simp (decide := true) only [↓reduceIte] at hM3
  try dsimp only
  (try dsimp only)
  k_extra "STEPSM"
  rename KBw.bInts _ = _ => hbe
  rw [hp6] at hbe
  refine ne_same hb13 hbe ?_
  clear hb13 hbe
  rename News _ _ _ _ => NQ
  have NR := drop_led NQ (news := led13) fun p hp => .tail _ hp
  clear NQ
  k_extra "STEPSC"
  have D' := trivial; have F' := trivial; have N' := trivial; have N9' := trivial; have Nq' := trivial; have b' := trivial; have c' := trivial; have h' := trivial; have hE' := trivial; have hO' := trivial; have hO1 := trivial; have hO2 := trivial; have hO3 := trivial; have hO4 := trivial; have hO5 := trivial; have hO6 := trivial; have hb' := trivial; have hi' := trivial; have hs' := trivial; have hv' := trivial; have hw' := trivial; have hz0 := trivial; have hzb := trivial; have k' := trivial; have kF := trivial; have kbcK := trivial; have l1 := trivial; have led' := trivial; have n' := trivial; have news' := trivial; have o' := trivial; have q' := trivial; have row' := trivial; have t' := trivial; have tk' := trivial; have us' := trivial; have v' := trivial; have vs' := trivial; have ws' := trivial; have z' := trivial; have zR' := trivial
  rename_i shl hC1 uss hss lC1 hC2 _ _ _ _ _ _ _ _ _ _ _ _ _ _ _ _ _ _ _ _ _ _ bC hC3 tC kC FQ NQ hbk
  clear D' F' N' N9' Nq' b' c' h' hE' hO' hO1 hO2 hO3 hO4 hO5 hO6 hb' hi' hs' hv' hw' hz0 hzb k' kF kbcK l1 led' n' news' o' q' row' t' tk' us' v' vs' ws' z' zR'
  have hsh : IL ((shl, listOf uss.toArray 0) :: led13) shl (data.take 20) := IL.here hss
  replace Z := Z.mono (led' := (shl, listOf uss.toArray 0) :: led13) fun p hp => .tail _ hp
  clear hss lC1
  clear hck hcf hcz hkIL hfIL hdIL heIL hml hM0 hM1 hM2 hM3
  k_dflt (refine' Tells.use (aesV w _ _ _ key hbk hkin R hR) ?B ?F ?X ?N ?T ?hkk ?hd ?hu ?_); (case B => exact K1); (case F => k_asm); (case X => exact KX); (case N => k_asm); (case T => exact T); (case hkk => rfl); (case hd => first | decide | ktr_room); (case hu => first | decide | ktr_units)
  intro v18 led14 h18 tk18 F18 N18 hO
  obtain ⟨x', dx', ke', kd', q1', q2', k1', k2', nke', rows', rfl, hKE, hsub, -⟩ := hO
  replace Z := Z.mono hsub
  replace hsh := hsh.mono hsub
  clear hsub hbk
  have hck := Z.hck
  have hcf := Z.hcf
  have hcz := Z.hcz
  have hkIL := Z.hkIL
  have hfIL := Z.hfIL
  have hdIL := Z.hdIL
  have heIL := Z.heIL
  have hml := Z.hml
  have hM0 := Z.hM 0 (by decide)
  have hM1 := Z.hM 1 (by decide)
  have hM2 := Z.hM 2 (by decide)
  have hM3 := Z.hM 3 (by decide)
  try simp (decide := true) only [↓reduceIte] at hM0
  try simp (decide := true) only [↓reduceIte] at hM1
  try simp (decide := true) only [↓reduceIte] at hM2
  try simp (decide := true) only [↓reduceIte] at hM3
  try dsimp only
  (try dsimp only)
  k_extra "STEPSC"
  have hsn : (data.take 20).length ≤ 20 := by rw [List.length_take]; lia
  have hsin : KBa.In (data.take 20) := In.take hdin 20
  k_dflt (refine' Tells.use (ruleV w led14 x' dx' ke' kd' q1' q2' k1' k2' nke' rows' _ hKE hKl fl _ first (data.take 20) hfIL hfl2 hfin hsh hsin 1 (data.take 20).length (Nat.one_mul _).symm (by decide) (by lia) _ _ _) ?B ?F ?X ?N ?T ?hkk ?hd ?hu ?_); (case B => exact K1); (case F => k_asm); (case X => exact KX); (case N => k_asm); (case T => exact T); (case hkk => rfl); (case hd => first | decide | ktr_room); (case hu => first | decide | ktr_units)
  intro v19 led15 h19 tk19 F19 N19 hO
  obtain ⟨sgl, rfl, hsg, hsub, -⟩ := hO
  replace Z := Z.mono hsub
  replace hsh := hsh.mono hsub
  clear hck hcf hcz hkIL hfIL hdIL heIL hml hM0 hM1 hM2 hM3
  clear hsub hKE
  have hck := Z.hck
  have hcf := Z.hcf
  have hcz := Z.hcz
  have hkIL := Z.hkIL
  have hfIL := Z.hfIL
  have hdIL := Z.hdIL
  have heIL := Z.heIL
  have hml := Z.hml
  have hM0 := Z.hM 0 (by decide)
  have hM1 := Z.hM 1 (by decide)
  have hM2 := Z.hM 2 (by decide)
  have hM3 := Z.hM 3 (by decide)
  try simp (decide := true) only [↓reduceIte] at hM0
  try simp (decide := true) only [↓reduceIte] at hM1
  try simp (decide := true) only [↓reduceIte] at hM2
  try simp (decide := true) only [↓reduceIte] at hM3
  generalize hW1 : cO w.params (keOf w.params key) 1 first (data.take 20) (data.take 20).length = single at hsg
  try dsimp only
  (try dsimp only)
  k_extra "STEPSC"
  have hsgi : KBa.In single := hW1 ▸ cO_in hsin
  have hsgl : single.length ≤ 20 := by rw [← hW1, cO_len (Nat.one_mul _).symm (by decide) (Nat.le_refl _), Nat.one_mul]; exact hsn
  have hkl32 : key.length ≤ 32 := by lia
  k_dflt (refine' Tells.use (modeV w led15 kl fl key first hkIL hkin R hR hkl32 hfIL hfin hfl2 0 (by decide) _ _ _) ?B ?F ?X ?N ?T ?hkk ?hd ?hu ?_); (case B => exact K1); (case F => k_asm); (case X => exact KX); (case N => k_asm); (case T => exact T); (case hkk => rfl); (case hd => first | decide | ktr_room); (case hu => first | decide | ktr_units)
  intro v20 led16 h20 tk20 F20 N20 hO
  obtain ⟨c', dc', ad', rfl, hMo, hsub, hne⟩ := hO
  rw [show zOf 0 = 1 from rfl] at hMo
  obtain ⟨vg, ng, hg1, hg2⟩ := id hsg
  have hN0 : ∀ p ∈ led15, (@Ne Nat p.1 dc') := fun p hp => hne p hp dc' (.tail _ (.head _))
  have hsgd : sgl ≠ dc' := hN0 _ hg1
  have hczd : s1.heap.objs.size + 1 + 1 + 1 ≠ dc' := hN0 _ hcz
  have hmld : ml ≠ dc' := hN0 _ hml
  have hM0d : dc' ∉ c 0 :: dc 0 :: ad 0 := fun hm => by
    obtain ⟨oo, ho⟩ := hM0.has _ hm
    exact hN0 _ ho rfl
  replace Z := Z.mono hsub
  replace hsh := hsh.mono hsub
  replace hsg := hsg.mono hsub
  clear vg ng hg1 hg2 hne hN0 hsub
  clear hck hcf hcz hkIL hfIL hdIL heIL hml hM0 hM1 hM2 hM3
  have hck := Z.hck
  have hcf := Z.hcf
  have hcz := Z.hcz
  have hkIL := Z.hkIL
  have hfIL := Z.hfIL
  have hdIL := Z.hdIL
  have heIL := Z.heIL
  have hml := Z.hml
  have hM0 := Z.hM 0 (by decide)
  have hM1 := Z.hM 1 (by decide)
  have hM2 := Z.hM 2 (by decide)
  have hM3 := Z.hM 3 (by decide)
  try simp (decide := true) only [↓reduceIte] at hM0
  try simp (decide := true) only [↓reduceIte] at hM1
  try simp (decide := true) only [↓reduceIte] at hM2
  try simp (decide := true) only [↓reduceIte] at hM3
  try dsimp only
  (try dsimp only)
  k_extra "STEPSC"
  rename KBw.bInts _ = _ => hbd
  k_dflt (refine' Tells.use (encryptV w led16 c' dc' ad' first 1 _ hMo hfl2 hfin hKl _ _ _ hbd (data.take 20).length (Nat.one_mul _).symm (by decide) (by lia)) ?B ?F ?X ?N ?T ?hkk ?hd ?hu ?_); (case B => exact K1); (case F => k_asm); (case X => exact KX); (case N => k_asm); (case T => exact T); (case hkk => rfl); (case hd => first | decide | ktr_room); (case hu => first | decide | ktr_units)
  intro v21 led17 h21 tk21 F21 N21 hO
  obtain ⟨b21, t21, rfl, hb21, -, hs⟩ := hO
  rw [hW1] at hb21
  replace hsg := hsg.lift hsgd hs
  replace hcz : List.Mem (s1.heap.objs.size + 1 + 1 + 1, oz) led17 := hs _ hcz hczd
  replace hml : List.Mem (ml, listOf (((List.range 4).map c).map Value.ref).toArray 4) led17 := hs _ hml hmld
  replace hM0 := hM0.lift2 hM0d hs
  clear Z hck hcf hkIL hfIL hdIL heIL hM1 hM2 hM3 hsh hMo hs hbd
  try dsimp only
  (try dsimp only)
  k_extra "STEPSM"
  rename KBw.bInts _ = single => hbe
  refine eq_same hb21 hbe ?_
  clear hb21 hbe
  k_extra "STEPSX"
  rename Fr _ _ _ _ => F5
  rename News _ _ _ _ => N5
  have B1 := K1
  have X1 := KX
  have T1 := T
  obtain ⟨x2, dx2, ke2, kd2, r1, r2, r3, p1, p2, j1, j2, j3, n1, n2, nke2, rows2, ts2, rb2, rt2, -, -, MM⟩ := hM0.toMJ
  k_dflt (refine' get_prop (C := 375) F5 X1 (InstAt.of_news N5 MM.hc MM.hd) ?k4 ?k5 ?k6 ?k7 ?k8 ?k9 ?_; (case k4 => k_is); (case k5 => k_is); (case k6 => k_is); (case k7 => k_is); (case k8 => k_is); (case k9 => k_is))
  try dsimp only
  k_dflt (ktl_enter)
  k_extra "STEPSX"
  rw [show ((sz : Int) == (sz : Int)) = true from beq_self_eq_true _]
  rename Fr s1.heap s1.heap.objs.size _ _ => FZ
  dsimp only at FZ
  refine goodW_bool FZ hg (raisesW_false ?_) ?_
  · wrow_none_raised
  · exact postL _
end

end Mine
theorem PySem.Challenge.cw_yv0002_01_holds : PySem.Challenge.rw_yv0002_01.Holds := by
  exact Mine.lawL
