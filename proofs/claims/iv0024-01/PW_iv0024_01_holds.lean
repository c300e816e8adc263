import PyProof.Rows.All
import Wide.All
import OpenK.AllK
import Wide.FinOn
import PySem.Challenge.RW_iv0024_01
open PySem PySem.W PyProof.Rows PySem.Calls PySem.Spec
set_option Elab.async false
set_option linter.unusedSimpArgs false
set_option linter.unusedVariables false
set_option compiler.extract_closed false
namespace Mine
section
noncomputable def runT (tb : String → Option Builtin) (p : Program) (w : World) (n₀ : Nat) (ann : Option Value) : Nat → SharedT → Thread → Option SharedT
  | 0, _, _ => none
  | n + 1, s, t => match through t with
    | true => some s
    | false => match stepOk n₀ ann t with
      | false => none
      | true => match stepT (denote tb) p w s t with
        | some (s', t') => runT tb p w n₀ ann n s' t'
        | none => none
theorem runT_spec {tb : String → Option Builtin} {p : Program} {w : World} {n₀ : Nat} {ann : Option Value} : ∀ {n : Nat} {s s' : SharedT} {t : Thread}, runT tb p w n₀ ann n s t = some s' → topRun tb p w n₀ ann n s.abs t = some s'.abs
  | 0, _, _, _, h => by simp [runT] at h
  | n + 1, s, s', t, h => by
    unfold runT at h
    unfold topRun
    cases ht : through t with
    | true => rw [ht] at h; exact congrArg some (congrArg SharedT.abs (Option.some.inj h))
    | false =>
      rw [ht] at h
      dsimp only at h ⊢
      cases hk : stepOk n₀ ann t with
      | false => rw [hk] at h; cases h
      | true =>
        rw [hk] at h
        dsimp only at h ⊢
        cases hs : stepT (denote tb) p w s t with
        | none => rw [hs] at h; cases h
        | some x =>
          obtain ⟨s1, t1⟩ := x
          rw [hs] at h
          rw [stepT_spec hs]
          exact runT_spec h
noncomputable def bootT (P : Params) : BT := ((boot_heap P).objs.toList.zipIdx).foldl (fun t x => t.ins x.2 x.1) .nil
theorem left_tree {p q : Program} {loose : List Str} {Xt : Shared → Bool} {α : Type} {Yf : Shared → α} {Ya : World → α} {N : Nat} {g0 : Bool} {m₀ : Nat} {ann : Option Value} {M : Nat} {life : Life}
    (open_ : ∀ w : World, (fencedOpening treeTable p w N).map (fun s => (s.heap, s.gens, s.drawn, s.toks)) = some (boot_heap w.params, Array.mk [], boot_drawn, boot_toks))
    (size : ∀ w : World, ((boot_heap w.params).isNs mainGlobals && (Array.mk [] : Array GenState).size == 0, (boot_heap w.params).objs.size, (boot_heap w.params).nsMap mainGlobals "__annotations__") = (true, m₀, ann))
    (tree : ∀ w : World, absHeap (bootT w.params) m₀ life = boot_heap w.params)
    (run : ∀ (w : World) (os : OsState), (runT treeTable p w m₀ ann M ⟨bootT w.params, m₀, life, Array.mk [], boot_drawn, boot_toks, os⟩ (topStub p)).map (fun s => ((staticsOk (importedModules p.main.body) (boot_heap w.params) s.abs.heap && namesBound p s.abs.heap && gensDone s.abs && laidKept (boot_heap w.params) s.abs.heap),
        openSeen q loose (importedModules p.main.body) Xt g0 s.abs, Yf s.abs)) = some (true, openGood q loose, Ya w)) (le : Nat.ble M N = true) : LeftO p q loose Xt Yf Ya N g0 := fun w => by
  obtain ⟨⟨h, gs, d, k, os⟩, e, e'⟩ := Option.map_eq_some_iff.mp (open_ w)
  obtain ⟨rfl, rfl, rfl, rfl⟩ : h = boot_heap w.params ∧ gs = Array.mk [] ∧ d = boot_drawn ∧ k = boot_toks := by simpa using e'
  obtain ⟨z1, z2, z3⟩ : _ ∧ _ ∧ _ := by simpa only [Prod.mk.injEq] using size w
  obtain ⟨s1, r1, l⟩ := Option.map_eq_some_iff.mp (run w os)
  obtain ⟨l1, l2, l3⟩ : _ ∧ _ ∧ _ := by simpa only [Prod.mk.injEq] using l
  have r := runT_spec r1
  have r0 : topRun treeTable p w m₀ ann M ⟨boot_heap w.params, Array.mk [], boot_drawn, boot_toks, os⟩ (topStub p) = some s1.abs := by
    rw [← tree w]; exact r
  have r := topRun_mono (N - M) _ _ _ _ r0
  rw [Nat.add_sub_of_le (Nat.le_of_ble_eq_true le)] at r
  have t : topFrom treeTable p w N ⟨boot_heap w.params, Array.mk [], boot_drawn, boot_toks, os⟩ = some s1.abs := by
    unfold topFrom
    dsimp only
    rw [z1, z2, z3, r]
    show (match staticsOk (importedModules p.main.body) (boot_heap w.params) s1.abs.heap && namesBound p s1.abs.heap && gensDone s1.abs && laidKept (boot_heap w.params) s1.abs.heap with | true => _ | false => _) = _
    rw [l1]
  show (openEnds treeTable p w N).map _ = _
  unfold openEnds
  rw [e]
  show (topFrom treeTable p w N ⟨boot_heap w.params, Array.mk [], boot_drawn, boot_toks, os⟩).map _ = _
  rw [t]
  show some (_, _) = _
  rw [l2, l3]
noncomputable def vw : Program := view PySem.Challenge.rw_iv0024_01.row.prog [0, 2, 3, 5, 6, 7, 9, 10, 12, 13, 14, 15, 16, 17, 18]
theorem tsize (w : World) : ((boot_heap w.params).isNs mainGlobals && (Array.mk [] : Array GenState).size == 0, (boot_heap w.params).objs.size, (boot_heap w.params).nsMap mainGlobals "__annotations__") = (true, 11, some (.ref 6)) := by kernel_rfl
theorem ttree (w : World) : absHeap (bootT w.params) 11 {} = boot_heap w.params := by kernel_rfl
theorem topen : ∀ w : World, (fencedOpening treeTable PySem.Challenge.rw_iv0024_01.row.prog w 10244).map (fun s => (s.heap, s.gens, s.drawn, s.toks)) = some (boot_heap w.params, Array.mk [], boot_drawn, boot_toks) := boot_open (by kernel_rfl) (by kernel_rfl) (fun s => by kernel_rfl)
set_option maxRecDepth 100000 in
theorem said1 : namesResolve PySem.Challenge.rw_iv0024_01.row.prog = true := by kernel_rfl
set_option maxRecDepth 100000 in
theorem said2 {p : Program} (h : p = PySem.Challenge.rw_iv0024_01.row.prog) : noRoadLSs { strict := !(importedModules p.main.body).all cThrough.contains, foot := none, bare := (["vars", "dir", "locals"] : List Str).filter (readsOut p p.main.body) } p.main.body = true := by subst h; kernel_rfl
set_option maxRecDepth 100000 in
theorem said3 : (namesMeet PySem.Challenge.rw_iv0024_01.row.prog PySem.Challenge.rw_iv0024_01.row.prog.main.body fun _ n => attrL n) = true := by kernel_rfl
set_option maxRecDepth 100000 in
theorem said4 : looksOpen PySem.Challenge.rw_iv0024_01.row.prog = true := by
  delta looksOpen
  repeat' (with_reducible refine look_both ?_ ?_)
  all_goals first | with_reducible exact said1 | with_reducible exact said2 rfl | with_reducible exact said3 | kernel_rfl
set_option maxRecDepth 100000 in
theorem said : PySem.Challenge.rw_iv0024_01.wellSaid = true := by
  delta OpenLaw.wellSaid
  repeat' (with_reducible refine look_both ?_ ?_)
  all_goals (try delta OpenRow.wellSaid)
  all_goals (try delta OpenRow.partSaid)
  all_goals repeat' (with_reducible refine look_both ?_ ?_)
  all_goals first | with_reducible exact said4 | kernel_rfl
local macro_rules | `(tactic| o_law) => `(tactic| (refine holds_law said fun said => ?_))
local macro_rules | `(tactic| o_head $H:term) => `(tactic| (refine holds_open (q := vw) (loose := [Str.ofString "PythonTokenTypes", Str.ofString "_tuplegetter", Str.ofString "PythonToken"]) (Xt := fun s => xlAt vw [] s && recOk PySem.Challenge.rw_iv0024_01.row.toRowW.records s) (XP := XL vw []) (Yf := Hook.obs $H) (Ya := Hook.val $H) (YP := Hook.says $H) (N := 10244) ?hl (Hook.of $H) (Hook.keeps $H) (fun s e => xl_of s (Bool.and_eq_true_iff.mp e).1) XL.keeps (by rfl) (by rfl) (by rfl) (fun s e => recFacts_of (Bool.and_eq_true_iff.mp e).2) (by rfl) (by first | assumption | decide +kernel) (by decide +kernel) ⟨rfl, rfl, rfl, rfl, rfl, by decide +kernel⟩ ?hw ?hc; (case hl => exact left_tree (M := 5200) topen tsize ttree (fun w os => by kernel_rfl) (by kernel_rfl))))
set_option maxRecDepth 100000 in
set_option maxHeartbeats 8000000 in
open_top hd for PySem.Challenge.rw_iv0024_01

end
section
abbrev Tc := Lean.TSyntax `tactic
abbrev Mc := Lean.MacroM Tc
/-- A step by its word: the rules of `wtm_at "t .."`. -/
def tWord (w : String) : Mc := `(tactic| wtm_at $(Lean.Syntax.mkStrLit ("t " ++ w)))
/-- A name of the rule's own (as in a quotation). -/
def tNm (s : String) : Lean.MacroM Lean.Ident := return Lean.mkIdent (← Lean.Macro.addMacroScope (.mkSimple s))
/-- One word of a term: a hole, a number, a literal, a name; [w] is (by w). -/
def tAtom (a : String) : Lean.MacroM Lean.Term := do
  if a == "_" then `(_) else if a == "?" then `(?_) else if a.isNat then pure ⟨Lean.Syntax.mkNumLit a⟩
  else if a.startsWith "[" then `(by $(← tWord ((a.drop 1).dropEnd 1).toString):tactic)
  else if a.startsWith "-" then `(-$(Lean.Syntax.mkNumLit (a.drop 1).toString))
  else if a.startsWith "\"" then pure ⟨Lean.Syntax.mkStrLit ((a.drop 1).dropEnd 1).toString⟩
  else if a.startsWith "?" then `(?$(← tNm (a.drop 1).toString)) else pure ⟨Lean.mkIdent a.toName⟩
def tCall (x : List Lean.Term) : Lean.Term := Lean.Syntax.mkApp (x.reverse.headD ⟨.missing⟩) x.reverse.tail.toArray
/-- A term of a plain text: a name and what it is applied to, with brackets. -/
def tApp (r : List String) : Lean.MacroM Lean.Term := do
  let s ← r.foldlM (init := [([] : List Lean.Term)]) fun s a => match a, s with
    | "(", s => pure ([] :: s)
    | ")", x :: y :: s => pure ((tCall x :: y) :: s)
    | a, x :: s => return ((← tAtom a) :: x) :: s
    | _, [] => pure []
  return tCall (s.headD [])
/-- One step: ! exact, ? refine, by refine' (byn: with no news; r! r? the first two at reducible transparency); wp: the goal is a wpAny of this tree (sh: at the transparency at hand); X! the goal X by exact; X=w the goal X by a word; intro:a,b; lt:h; ds:a,b; or a word. -/
def tStep : List String → Mc
  | "!" :: r => do `(tactic| exact $(← tApp r))
  | "?" :: r => do `(tactic| refine $(← tApp r))
  | "by" :: r => do `(tactic| refine' $(← tApp r))
  | "r!" :: r => do `(tactic| with_reducible exact $(← tApp r))
  | "r?" :: r => do `(tactic| with_reducible refine $(← tApp r))
  | "byn" :: f :: r => do `(tactic| refine' $(Lean.mkIdent f.toName):ident (news := []) $((← r.mapM tAtom).toArray)*)
  | "sh" :: r => do `(tactic| show wpAny _ _ $(← tApp r) _ _ _)
  | "wp" :: r => do `(tactic| with_reducible show wpAny _ _ $(← tApp r) _ _ _)
  | [w] => do match w.splitOn "=", w.splitOn ":" with
    | [a, c], _ => `(tactic| case $(Lean.mkIdent (.mkSimple a)):ident => $(← tWord c):tactic)
    | _, ["intro", s] => `(tactic| intro $[$((← (s.splitOn ",").mapM tNm).toArray)]*)
    | _, ["ds", s] => `(tactic| try dsimp only at $[$((← (s.splitOn ",").mapM tNm).toArray):ident]* ⊢)
    | _, ["lt", s] => `(tactic| try k_lt $(← tNm s))
    | _, _ => tWord w
  | a :: r => do `(tactic| case $(Lean.mkIdent (.mkSimple (a.dropEnd 1).toString)):ident => exact $(← tApp r))
  | [] => Lean.Macro.throwUnsupported
def tSeq (c : List Tc) : Mc := `(tactic| ($[$(c.reverse.toArray)];*))
def tFin (c l : List Tc) : Mc := do
  let s ← tSeq c
  if l.isEmpty then pure s else `(tactic| first $[| $((s :: l).reverse.toArray):tactic]*)
def tPut (w : List String) (c : List Tc) : Lean.MacroM (List Tc) := do
  if w.isEmpty then pure c else return (← tStep w.reverse) :: c
/-- A tactic of a plain text: steps parted by ; and alternatives parted by | ; df { .. } at the library's default transparency, un { .. } at full transparency, gr { .. } as they stand. -/
def tac (s : String) : Mc := do
  let (w, f) ← (s.splitOn " ").foldlM (init := (([] : List String), [("", ([] : List Tc), ([] : List Tc))])) fun (w, f) a => match a, f with
    | ";", (k, c, l) :: f => return ([], (k, ← tPut w c, l) :: f)
    | "|", (k, c, l) :: f => return ([], (k, [], (← tSeq (← tPut w c)) :: l) :: f)
    | "{", f => return ([], (w.headD "", [], []) :: f)
    | "}", (k, c, l) :: (k', c', l') :: f => do
      let t ← tFin (← tPut w c) l
      return ([], (k', (← if k == "df" then `(tactic| k_dflt $t) else if k == "un" then `(tactic| with_unfolding_all $t:tactic) else pure t) :: c', l') :: f)
    | a, f => return (a :: w, f)
  match f with
  | (_, c, l) :: _ => tFin (← tPut w c) l
  | [] => Lean.Macro.throwUnsupported

end
section
/-- the end is put out of sight while a walk goes on -/
theorem hideQ {α : Type} {M : Model} {A : Around} {t : Sem α} {E : Value → Shared → Prop} {Q : α → Shared → Prop} {s : Shared} (h : ∀ Qt : α → Shared → Prop, (∀ f s', Q f s' → Qt f s') → wpAny M A t Qt E s) : wpAny M A t Q E s := h Q fun _ _ x => x
/-- what a segment of the law leaves to the rest -/
noncomputable def SegQ (P : Shared → Prop) (Q : Flow → Shared → Prop) (f : Flow) (s : Shared) : Prop :=
  match f with
  | .next => P s
  | f => Q f s
theorem SegQ.next {P : Shared → Prop} {Q : Flow → Shared → Prop} {s : Shared} (h : P s) : SegQ P Q .next s := h
theorem SegQ.ret {P : Shared → Prop} {Q : Flow → Shared → Prop} {s : Shared} {v : Value} (h : Q (.ret v) s) : SegQ P Q (.ret v) s := h
theorem seg_cons {M : Model} {A : Around} {E : Value → Shared → Prop} {Q : Flow → Shared → Prop} {s : Shared} {env : Env} {st : Stmt} {rest : List Stmt} (P : Shared → Prop)
    (h : wpAny M A (exec st env) (SegQ P Q) E s) (k : ∀ s', P s' → wpAny M A (execs rest env) Q E s') : wpAny M A (execs (st :: rest) env) Q E s :=
  wpAny_execs_cons (wpAny_mono h (fun f s' hs => by
    cases f with
    | next => exact k s' hs
    | brk => exact hs
    | cont => exact hs
    | ret v => exact hs) fun _ _ e => e)
/-- what a test tells, and no more -/
inductive TestP (c : Prop) (s : Shared) (b : Bool) (s' : Shared) : Prop
  | mk (tk : Nat) (e : s' = { s with toks := tk }) (h : b = true ↔ c) : TestP c s b s'
theorem if_cut {M : Model} {A : Around} {E : Value → Shared → Prop} {Q : Flow → Shared → Prop} {s : Shared} {env : Env} {test : PySem.Expr} {body orelse : List Stmt} {pos : Pos} (c : Prop)
    (h : wpAny M A (isTrue test env (eval test env)) (TestP c s) E s) (t : c → ∀ tk, wpAny M A (execs body env) Q E { s with toks := tk }) (f : ¬ c → ∀ tk, wpAny M A (execs orelse env) Q E { s with toks := tk }) :
    wpAny M A (exec (.If test body orelse pos) env) Q E s := by
  refine wpAny_If (wpAny_mono h (fun b s' hb => ?_) fun _ _ h => h)
  obtain ⟨tk, rfl, hb⟩ := hb
  cases b with
  | true => exact t (hb.mp rfl) tk
  | false => exact f (fun hc => absurd (hb.mpr hc) (by simp)) tk
/-- a test that made objects of its own: the frame and the ledger stand -/
inductive TestF (c : Prop) (g : Heap) (L : Addr) (m : Str → Option Value) (news : List (Addr × Obj)) (s : Shared) (b : Bool) (s' : Shared) : Prop
  | mk (h : Heap) (tk : Nat) (e : s' = { s with heap := h, toks := tk }) (hb : b = true ↔ c) (F : Fr g L h m) (N : News g L h news) : TestF c g L m news s b s'
theorem turn_cut {M : Model} {A : Around} {E : Value → Shared → Prop} {Q : Flow → Shared → Prop} {Qn : Shared → Prop} {s : Shared} {env : Env} {test : PySem.Expr} {body : List Stmt} {g : Heap} {L : Addr} {m : Str → Option Value} {news : List (Addr × Obj)} (c : Prop) (_F : Fr g L s.heap m) (_N : News g L s.heap news)
    (h : wpAny M A (isTrue test env (eval test env)) (TestF c g L m news s) E s) (t : c → ∀ h tk, Fr g L h m → News g L h news → wpAny M A (execs body env) Q E { s with heap := h, toks := tk })
    (f : ¬ c → ∀ h tk, Fr g L h m → News g L h news → Qn { s with heap := h, toks := tk }) :
    wpAny M A (isTrue test env (eval test env)) (fun b s₂ => if b = true then wpAny M A (execs body env) Q E s₂ else Qn s₂) E s := by
  refine wpAny_mono h (fun b s' hb => ?_) fun _ _ h => h
  obtain ⟨h, tk, rfl, hb, F, N⟩ := hb
  cases b with
  | true => exact t (hb.mp rfl) h tk F N
  | false => exact f (fun hc => absurd (hb.mpr hc) (by simp)) h tk F N
theorem if_cutF {M : Model} {A : Around} {E : Value → Shared → Prop} {Q : Flow → Shared → Prop} {s : Shared} {env : Env} {test : PySem.Expr} {body orelse : List Stmt} {pos : Pos} {g : Heap} {L : Addr} {m : Str → Option Value} {news : List (Addr × Obj)} (c : Prop) (_F : Fr g L s.heap m) (_N : News g L s.heap news)
    (h : wpAny M A (isTrue test env (eval test env)) (TestF c g L m news s) E s) (t : c → ∀ h tk, Fr g L h m → News g L h news → wpAny M A (execs body env) Q E { s with heap := h, toks := tk })
    (f : ¬ c → ∀ h tk, Fr g L h m → News g L h news → wpAny M A (execs orelse env) Q E { s with heap := h, toks := tk }) :
    wpAny M A (exec (.If test body orelse pos) env) Q E s := by
  refine wpAny_If (wpAny_mono h (fun b s' hb => ?_) fun _ _ h => h)
  obtain ⟨h, tk, rfl, hb, F, N⟩ := hb
  cases b with
  | true => exact t (hb.mp rfl) h tk F N
  | false => exact f (fun hc => absurd (hb.mpr hc) (by simp)) h tk F N
section
variable {d x a b i j k r c o o' : Nat}
theorem rg {X Y : Nat} (h : X + a < b) (l : Y ≤ X + i) (e : Nat.ble (i + b) (a + r) = true) : Y < r := by have := Nat.le_of_ble_eq_true e; omega
theorem rm1 (h : d + a < b) (e : Nat.ble (i + b) (a + r) = true) : d + i < r := rg h (Nat.le_refl _) e
theorem rm0 (h : d + a < b) (e : Nat.ble (0 + b) (a + r) = true) : d < r := rm1 (i := 0) h e
theorem rm2 (h : d + a < b) (e : Nat.ble (i + j + b) (a + r) = true) : d + i + j < r := rg h (Nat.le_of_eq (Nat.add_assoc _ _ _)) e
theorem rx1 (h : d + x + a < b) (e : Nat.ble (i + b) (a + r) = true) : d + i < r := rg h (Nat.add_le_add_right (Nat.le_add_right d x) i) e
theorem rx0 (h : d + x + a < b) (e : Nat.ble (0 + b) (a + r) = true) : d < r := rx1 (i := 0) h e
theorem rx2 (h : d + x + a < b) (e : Nat.ble (i + j + b) (a + r) = true) : d + i + j < r := Nat.add_assoc d i j ▸ rx1 h e
theorem ro0 (h : d + c * o + a < b) (ho : o' ≤ o) (e : Nat.ble (j + b) (a + r) = true) : d + c * o' + j < r := rg h (Nat.add_le_add_right (Nat.add_le_add_left (Nat.mul_le_mul_left c ho) d) j) e
theorem ro1 (h : d + c * o + a < b) (ho : o' ≤ o) (e : Nat.ble (i + j + b) (a + r) = true) : d + i + c * o' + j < r := by
  rw [Nat.add_right_comm d i, Nat.add_assoc _ i j]
  exact ro0 h ho e
end
section
variable {α : Type} {a b l : List α} {x y : α}
theorem subId : ∀ q ∈ a, q ∈ a := fun _ h => h
theorem subNil : ∀ q ∈ ([] : List α), q ∈ b := fun _ h => nomatch h
theorem subCC (h : ∀ q ∈ a, q ∈ b) : ∀ q ∈ x :: a, q ∈ x :: b := fun q hq => by
  rcases List.mem_cons.mp hq with rfl | hq
  · exact .head _
  · exact .tail _ (h q hq)
theorem subCons (m : x ∈ b) (h : ∀ q ∈ a, q ∈ b) : ∀ q ∈ x :: a, q ∈ b := List.forall_mem_cons.mpr ⟨m, h⟩
theorem subApp (h : ∀ q ∈ a, q ∈ b) (h' : ∀ q ∈ l, q ∈ b) : ∀ q ∈ a ++ l, q ∈ b := fun q hq => (List.mem_append.mp hq).elim (h q) (h' q)
theorem subTail (h : ∀ q ∈ a, q ∈ b) : ∀ q ∈ a, q ∈ y :: b := fun q hq => .tail _ (h q hq)
theorem subL (h : ∀ q ∈ a, q ∈ b) : ∀ q ∈ a, q ∈ b ++ l := fun q hq => List.mem_append_left _ (h q hq)
theorem subR (h : ∀ q ∈ a, q ∈ b) : ∀ q ∈ a, q ∈ l ++ b := fun q hq => List.mem_append_right _ (h q hq)
end
theorem fitsMap {α β : Type} {f : α → β} {l : List α} {n : Nat} (h : l.length < n) (e : Nat.ble n 16777217 = true) : (l.map f).toArray.size ≤ sizeLine := by
  have := Nat.le_of_ble_eq_true e
  simp only [List.size_toArray, List.length_map]; unfold sizeLine; omega
theorem fitsL {α : Type} {l : List α} {n : Nat} (h : l.length < n) (e : Nat.ble n 16777217 = true) : l.toArray.size ≤ sizeLine := by
  have := Nat.le_of_ble_eq_true e
  simp only [List.size_toArray]; unfold sizeLine; omega
/-- the end of a statement that others follow -/
noncomputable def SeqQ (M : Model) (A : Around) (rest : List Stmt) (env : Env) (Q : Flow → Shared → Prop) (E : Value → Shared → Prop) (f : Flow) (s : Shared) : Prop :=
  match f with
  | .next => wpAny M A (execs rest env) Q E s
  | f => Q f s
section
variable {M : Model} {A : Around} {E : Value → Shared → Prop} {Q : Flow → Shared → Prop} {s : Shared} {env : Env} {st : Stmt} {rest : List Stmt} {v : Value}
theorem SeqQ.next (h : wpAny M A (execs rest env) Q E s) : SeqQ M A rest env Q E .next s := h
theorem SeqQ.ret (h : Q (.ret v) s) : SeqQ M A rest env Q E (.ret v) s := h
theorem SeqQ.brk (h : Q .brk s) : SeqQ M A rest env Q E .brk s := h
theorem SeqQ.cont (h : Q .cont s) : SeqQ M A rest env Q E .cont s := h
theorem execs_consL (h : let Qx := SeqQ M A rest env Q E; wpAny M A (exec st env) Qx E s) : wpAny M A (execs (st :: rest) env) Q E s :=
  wpAny_execs_cons (wpAny_mono h (fun f s' h => by cases f <;> exact h) fun _ _ e => e)
theorem execs_last (h : wpAny M A (exec st env) Q E s) : wpAny M A (execs [st] env) Q E s :=
  wpAny_execs_cons (wpAny_mono h (fun f s' h => by
    cases f with
    | next => exact wpAny_execs_nil h
    | _ => exact h) fun _ _ e => e)
theorem wpId {α : Type} {t : Sem α} {Q : α → Shared → Prop} (h : wpAny M A t Q E s) : wpAny M A t Q E s := h
theorem foldQ {α : Type} {t : Sem α} {Q : α → Shared → Prop} (h : let Qx := Q; wpAny M A t Qx E s) : wpAny M A t Q E s := h
theorem letBody {body : List Stmt} (h : let e := env; let A' := A.deeper e; wpAny M A' (execs body e) Q E s) : wpAny M (A.deeper env) (execs body env) Q E s := h
end

end
section
local macro_rules | `(tactic| kse_small) => tac "r! List.mem_cons_self | r! subId | r! subNil | rass | r? List.mem_cons_of_mem _ ? ; small | r? List.mem_append_left _ ? ; small | r? List.mem_append_right _ ? ; small | r? subTail ? ; small | r? subL ? ; small | r? subR ? ; small"
local macro_rules | `(tactic| kmod_is) => tac "rass | ! Nat.lt_of_lt_of_le [rass] [dec] | ! Nat.le_of_lt [rass] | ! Nat.lt_succ_of_lt [rass] | ! Nat.lt_of_lt_of_le [rass] [rass] | ! Nat.lt_of_le_of_lt [rass] [rass] | ! Nat.lt_trans [rass] [rass] | ! Nat.le_trans [rass] [rass] | lia"
local macro_rules | `(tactic| wtm_at "t roomx") => tac "by rm1 ?h ?e ; h=rass ; e=rfl | by rm2 ?h ?e ; h=rass ; e=rfl | by rm0 ?h ?e ; h=rass ; e=rfl | by rx1 ?h ?e ; h=rass ; e=rfl | by rx2 ?h ?e ; h=rass ; e=rfl | by rx0 ?h ?e ; h=rass ; e=rfl | by ro1 ?h ?o ?e ; h=rass ; o=z19 ; e=rfl | by ro0 ?h ?o ?e ; h=rass ; o=z19 ; e=rfl | lia"
local macro_rules | `(tactic| wtm_at "t sub1") => tac "r! subId | r! subNil | r? subCC ? | r? subCons ? ? | r? subApp ? ?"
local macro_rules | `(tactic| wtm_at "t sub") => tac "r! subId | z20 | z21"
set_option hygiene false
local macro_rules | `(tactic| wtm_at "t asm") => `(tactic| k_asm)
local macro_rules | `(tactic| wtm_at "t mem") => `(tactic| k_mem)
local macro_rules | `(tactic| wtm_at "t rfl") => `(tactic| exact rfl)
local macro_rules | `(tactic| wtm_at "t rfl0") => `(tactic| rfl)
local macro_rules | `(tactic| wtm_at "t wrfl") => `(tactic| with_unfolding_all rfl)
local macro_rules | `(tactic| wtm_at "t ass") => `(tactic| assumption)
local macro_rules | `(tactic| wtm_at "t rass") => `(tactic| with_reducible assumption)
local macro_rules | `(tactic| wtm_at "t units") => `(tactic| ktr_units)
local macro_rules | `(tactic| wtm_at "t room") => `(tactic| ktr_room)
local macro_rules | `(tactic| wtm_at "t is") => `(tactic| k_is)
local macro_rules | `(tactic| wtm_at "t inst") => `(tactic| k_inst)
local macro_rules | `(tactic| wtm_at "t handed") => `(tactic| k_handed)
local macro_rules | `(tactic| wtm_at "t upd") => `(tactic| k_upd)
local macro_rules | `(tactic| wtm_at "t dec") => `(tactic| decide)
local macro_rules | `(tactic| wtm_at "t lia") => `(tactic| lia)
local macro_rules | `(tactic| wtm_at "t lt") => `(tactic| kmod_is)
local macro_rules | `(tactic| wtm_at "t isty") => `(tactic| simp [IsTy])
local macro_rules | `(tactic| wtm_at "t here") => `(tactic| k_here)
local macro_rules | `(tactic| wtm_at "t q") => `(tactic| ktyn_q)
local macro_rules | `(tactic| wtm_at "t tryq") => `(tactic| (try ktyn_q))
local macro_rules | `(tactic| wtm_at "t dso") => `(tactic| (try dsimp only))
local macro_rules | `(tactic| wtm_at "t whole") => `(tactic| k_whole)
local macro_rules | `(tactic| wtm_at "t sweep") => `(tactic| (try k_sweep))
local macro_rules | `(tactic| wtm_at "t stop") => `(tactic| refine Stop.of ?_)
local macro_rules | `(tactic| wtm_at "t cast") => `(tactic| first | exact castS _ | exact rfl | assumption)
local macro_rules | `(tactic| wtm_at "t ty") => `(tactic| first | exact Sg.isTy _ | assumption)
local macro_rules | `(tactic| wtm_at "t ty3") => `(tactic| first | exact Sg.isTy _ | assumption | simp [IsTy])
local macro_rules | `(tactic| wtm_at "t memR") => `(tactic| (repeat' (first | (with_reducible exact List.mem_cons_self) | (with_reducible assumption) | (with_reducible refine List.mem_cons_of_mem _ ?_))))
local macro_rules | `(tactic| wtm_at "t memT") => `(tactic| (repeat' (first | assumption | exact List.Mem.head _ | refine List.Mem.tail _ ?_)))
local macro_rules | `(tactic| wtm_at "t lenlia") => `(tactic| ((try simp only [List.length_map, List.length_reverse, List.length_append, List.length_cons, List.length_nil, List.length_take, List.length_drop]); lia))
local macro_rules | `(tactic| wtm_at "t lenlt") => `(tactic| ((try simp only [List.length_map, List.length_reverse, List.length_append, List.length_cons, List.length_nil, List.length_take, List.length_drop]); kmod_is))
local macro_rules | `(tactic| wtm_at "t deck") => `(tactic| decide +kernel)
local macro_rules | `(tactic| wtm_at "t omega") => `(tactic| omega)
local macro_rules | `(tactic| wtm_at "t in") => `(tactic| k_in)
local macro_rules | `(tactic| wtm_at "t skip") => `(tactic| skip)
local macro_rules | `(tactic| wtm_at "t small") => `(tactic| kse_small)
local macro_rules | `(tactic| wtm_at "t z20") => `(tactic| ((repeat' (wtm_at "t sub1")) <;> kse_small))
local macro_rules | `(tactic| wtm_at "t z21") => `(tactic| (intro q hq; first | (simp only [List.mem_cons, List.mem_append, hq, true_or, or_true]; done) | (simp only [List.mem_cons, List.mem_append] at hq ⊢; grind)))
local macro_rules | `(tactic| wtm_at "t z1") => `(tactic| (with_reducible rename _ < _ ∧ _ => h9; first | exact Nat.ne_of_lt h9.1 | exact Nat.ne_of_gt h9.1 | exact Nat.ne_of_lt h9.2.1 | exact Nat.ne_of_gt h9.2.1 | exact Nat.ne_of_lt h9.2.2.1 | exact Nat.ne_of_gt h9.2.2.1))
local macro_rules | `(tactic| wtm_at "t z2") => `(tactic| (fail_if_success (fail_if_success (refine wpId ?_; k_fold))))
local macro_rules | `(tactic| wtm_at "t z3") => `(tactic| (try simp only [depth_under_make, depth_under_kw, depth_in1, depth_deeper, recursionLimit]))
local macro_rules | `(tactic| wtm_at "t z4") => `(tactic| (try simp only [recursionLimit] at *))
local macro_rules | `(tactic| wtm_at "t z5") => `(tactic| (try simp only [units_in1, units_deeper, Around.mark_units]))
local macro_rules | `(tactic| wtm_at "t z6") => `(tactic| (try simp only [units_in1, units_deeper, Around.mark_units, cLine]))
local macro_rules | `(tactic| wtm_at "t z7") => `(tactic| exact fun p hp => Nat.ne_of_lt ((by assumption : ∀ p ∈ _, p.1 < _) p hp))
local macro_rules | `(tactic| wtm_at "t z8") => `(tactic| exact fun p hp => Nat.ne_of_lt (ktn_ltOf (by assumption) p hp))
local macro_rules | `(tactic| wtm_at "t z9") => `(tactic| first | exact ps_gettoken | exact ps_expect)
local macro_rules | `(tactic| wtm_at "t z10") => `(tactic| (with_reducible rename StopNow => hfl))
local macro_rules | `(tactic| wtm_at "t z11") => `(tactic| clear hfl)
local macro_rules | `(tactic| wtm_at "t z12") => `(tactic| exact And.intro (Exists.intro _ (Exists.intro (some _, 0) (And.intro rfl (oneNew_of (by assumption))))) (And.intro rfl (And.intro rfl rfl)))
local macro_rules | `(tactic| wtm_at "t z13") => `(tactic| k_dflt k_is)
local macro_rules | `(tactic| wtm_at "t z14") => `(tactic| first | exact keeps_of (by assumption) | exact fun _ _ q => q)
local macro_rules | `(tactic| wtm_at "t z15") => `(tactic| intro _ _ _ _ _ _ _ _ _)
local macro_rules | `(tactic| wtm_at "t z16") => `(tactic| first | exact chs_a | exact chs_o)
local macro_rules | `(tactic| wtm_at "t z17") => `(tactic| (rename InSt _ _ => hx1; exact hx1.up (by wtm_at "t sub")))
local macro_rules | `(tactic| wtm_at "t z18") => `(tactic| (rename AllSt _ _ => ha1; exact ha1.up (by wtm_at "t sub")))
local macro_rules | `(tactic| wtm_at "t z19") => `(tactic| first | with_reducible exact Nat.le_refl _ | with_reducible assumption)
set_option hygiene true
local macro_rules | `(tactic| k_ne) => tac "! Nat.ne_of_gt [rass] | ! Nat.ne_of_lt [rass] | z1 | ? neN ? ; dso ; omega"
local macro_rules | `(tactic| ktyn_q) => tac "z2 ; ? foldQ ? ; intro:Qx"
local macro_rules | `(tactic| walk_at "execs cons") => tac "here ; dso ; tryq ; gr { ? execs_last ? | ? execs_consL ? ; intro:Qx }"
local macro_rules | `(tactic| walk_at "isTrue Compare") => tac "here ; q"
local macro_rules | `(tactic| walk_at "isTrue BoolOp") => tac "here ; q"
local macro_rules | `(tactic| walk_at "isTrue Call") => tac "here ; q"
local macro_rules | `(tactic| walk_at "isTrue UnaryOp") => tac "here ; q"
local macro_rules | `(tactic| walk_at "eval Compare") => tac "here ; q"
local macro_rules | `(tactic| walk_at "eval BinOp") => tac "here ; q"
local macro_rules | `(tactic| walk_at "eval Call") => tac "here ; q"
local macro_rules | `(tactic| walk_at "eval Call Attribute") => tac "here ; q"
local macro_rules | `(tactic| walk_at "eval Call Name") => tac "here ; q"
local macro_rules | `(tactic| walk_at "eval Subscript") => tac "here ; q"
local macro_rules | `(tactic| walk_at "eval IfExp") => tac "here ; q"
local macro_rules | `(tactic| walk_at "eval Tuple") => tac "here ; q"
local macro_rules | `(tactic| walk_at "eval List") => tac "here ; q"
local macro_rules | `(tactic| walk_at "SeqQ") => tac "? SeqQ.next ? | ? SeqQ.ret ? | ? SeqQ.brk ? | ? SeqQ.cont ?"
section
-- the written part is made known to the walk's looks
theorem fill (w : World) (h : Heap) : (hd.heap_1 w.params).In h → PySem.Challenge.rw_iv0024_01.row.prog = PySem.Challenge.rw_iv0024_01.row.prog := by w_top off; k_fill; intro _; rfl

/-- an item of data seq, whatever its class -/
noncomputable def SeqAt (h : Heap) (t : Addr) (items : Array Value) : Prop := ∃ o, h.get? t = some o ∧ ∃ n, o.data = .seq items n
theorem SeqAt.extBut {h h' : Heap} {a b items} (x : SeqAt h a items) (hs : Heap.ExtBut b h h') (hab : a ≠ b) : SeqAt h' a items := let ⟨o, ho, r⟩ := x; ⟨o, hs a o hab ho, r⟩
theorem SeqAt.push {h : Heap} {a items} (x : SeqAt h a items) (o : Obj) : SeqAt (h.push o) a items := let ⟨o', ho, r⟩ := x; ⟨o', Heap.get?_push_of_some o ho, r⟩

section
variable {prog : Program} {w : World} {A : Around} {E : Value → Shared → Prop} {s : Shared}
theorem next_seq_item {it t : Addr} {i : Nat} {items} {x : Value} {Q : Option Value → Shared → Prop} (hit : IsTupIter s.heap it t i)
    (ht : SeqAt s.heap t items) (hx : items[i]? = some x)
    (hQ : ∀ h', IsTupIter h' it t (i + 1) → Heap.SameBut it s.heap h' → Q (some x) { s with heap := h' }) :
    wpAny (model prog w) A (pyNext (.ref it)) Q E s := by
  obtain ⟨o, ho, hc, hd⟩ := id hit
  obtain ⟨ol, hol, nl, hdl⟩ := ht
  unfold pyNext
  refine wpAny_bind (wpAny_attempt (wpAny_callSpecial?_slot (name := Str.ofString "__next__") hit.typeIs slot_tupleiter_next
    (wpAny_call_entry slot_tupleiter_next hit.typeIs entry_tupleiter_next ?_ (args_tupleiter_next _))))
  show wpAny _ _ (field (.ref it) 0 >>= _) _ _ s
  refine wpAny_bind (wpAny_field ho hd (x := .ref t) rfl ?_)
  show wpAny _ _ (if (Value.ref t == Value.none) = true then _ else _) _ _ s
  rw [if_neg (show ¬ ((Value.ref t == Value.none) = true) from Bool.false_ne_true)]
  show wpAny _ _ (field (.ref it) 1 >>= _) _ _ s
  refine wpAny_bind (wpAny_field ho hd (x := .int i 0) rfl ?_)
  show wpAny _ _ (seqItems? (.ref t) >>= _) _ _ s
  refine wpAny_bind (wpAny_seqItems hol hdl ?_)
  simp only [Int.toNat_natCast, hx]
  refine wpAny_bind (wpAny_setField ho hd (by simp) (wpAny_pure ⟨x, rfl, wpAny_pure (hQ _ ?_ (Heap.SameBut.update ..))⟩))
  exact ⟨_, Heap.get?_update_self _ ho (Obj.isFreed_of_fields (Obj.data_mapFields hd _)), (Obj.cls_mapFields ..).trans hc, by
    rw [Obj.data_mapFields hd]; simp [rawInt]⟩

theorem next_seq_end {it t : Addr} {i : Nat} {items} {Q : Option Value → Shared → Prop} (hh : A.handled = none)
    (hit : IsTupIter s.heap it t i) (ht : SeqAt s.heap t items) (hx : items[i]? = none)
    (hQ : ∀ h', Heap.ExtBut it s.heap h' → Q none { s with heap := h' }) : wpAny (model prog w) A (pyNext (.ref it)) Q E s := by
  obtain ⟨o, ho, hc, hd⟩ := id hit
  obtain ⟨ol, hol, nl, hdl⟩ := ht
  unfold pyNext
  refine wpAny_bind (wpAny_attempt (wpAny_callSpecial?_slot (name := Str.ofString "__next__") hit.typeIs slot_tupleiter_next
    (wpAny_call_entry slot_tupleiter_next hit.typeIs entry_tupleiter_next ?_ (args_tupleiter_next _))))
  show wpAny _ _ (field (.ref it) 0 >>= _) _ _ s
  refine wpAny_bind (wpAny_field ho hd (x := .ref t) rfl ?_)
  show wpAny _ _ (if (Value.ref t == Value.none) = true then _ else _) _ _ s
  rw [if_neg (show ¬ ((Value.ref t == Value.none) = true) from Bool.false_ne_true)]
  show wpAny _ _ (field (.ref it) 1 >>= _) _ _ s
  refine wpAny_bind (wpAny_field ho hd (x := .int i 0) rfl ?_)
  show wpAny _ _ (seqItems? (.ref t) >>= _) _ _ s
  refine wpAny_bind (wpAny_seqItems hol hdl ?_)
  simp only [Int.toNat_natCast, hx]
  refine wpAny_bind (wpAny_rule (wpAny_bind (wpAny_setField ho hd (by simp) ?_)))
  show wpAny _ _ (newExc (.type "StopIteration") [] >>= _) _ _ _
  refine wpAny_bind ?_
  simp only [newExc, newTuple]
  refine wpAny_bind (wpAny_newObj_type ?_ (by size_fits))
  refine wpAny_bind (m := firstArgMember _ _) (wpAny_of_eq (a := Value.none) (by first | rfl | (simp only [firstArgMember]; rfl)) ?_)
  refine wpAny_newObj_type ?_ (by size_fits)
  simp only [raiseNew]
  refine wpAny_bind (wpAny_handled ?_)
  first | rw [show A.in1.handled = none from hh] | rw [hh]
  refine wpAny_bind (wpAny_pure (wpAny_throw ?_))
  refine wpAny_bind (wpAny_isInstance (T := "StopIteration") (b := true) ⟨_, Heap.get?_push_size _ rfl, rfl⟩ isSubtype_stop ?_)
  exact wpAny_pure (hQ _ (((Heap.SameBut.update ..).extBut.push _).push _))

theorem draw_seq {it t : Addr} {items : Array Value} (hne : t ≠ it) : ∀ (n i : Nat) (s : Shared) (Q : List Value → Shared → Prop), IsTupIter s.heap it t i → SeqAt s.heap t items → i + n ≤ items.size →
    (∀ h', IsTupIter h' it t (i + n) → Heap.SameBut it s.heap h' → Q ((items.toList.drop i).take n) { s with heap := h' }) → wpAny (model prog w) A (draw (.ref it) n) Q E s
  | 0, i, s, Q, hit, _, _, hQ => by
    show wpAny _ _ (pure []) Q E s
    exact wpAny_pure (by simpa using hQ s.heap hit (Heap.SameBut.refl ..))
  | n + 1, i, s, Q, hit, ht, hle, hQ => by
    have hlt : i < items.size := by kmod_is
    show wpAny _ _ (pyNext (.ref it) >>= _) Q E s
    refine wpAny_bind (next_seq_item hit ht (x := items[i]) (by simp [hlt]) fun h₁ hit₁ hs₁ => ?_)
    refine wpAny_bind (wpAny_holding (draw_seq hne n (i + 1) _ _ hit₁ (ht.extBut hs₁.extBut hne) (by kmod_is) fun h₂ hit₂ hs₂ => wpAny_pure ?_))
    have hd : items.toList.drop i = items[i] :: items.toList.drop (i + 1) := by simp [List.drop_eq_getElem_cons, hlt]
    have := hQ h₂ (by rw [show i + (n + 1) = i + 1 + n by kmod_is]; exact hit₂) (hs₁.trans hs₂)
    rw [hd, List.take_succ_cons] at this
    exact this
end

/-- a token: an object of the class PythonToken -/
noncomputable abbrev tokObj (items : Array Value) (n : Option Addr × Nat) : Obj := { cls := .ref 341, dict := n.1, data := .seq items n.2 }

section
variable {w : World} {A : Around} {E : Value → Shared → Prop} {s : Shared}
theorem sub_tok (X : (hd.heap_1 w.params).In s.heap) : Looks (model PySem.Challenge.rw_iv0024_01.row.prog w) s.heap (isSubtype (.ref 341) (.type "tuple")) true := Looks.of_peek X (by kernel_rfl)

theorem tok_check {id n : String} {t : Addr} {items : Array Value} {k : Option Addr × Nat} {rest : List Value} {Q : Unit → Shared → Prop} (hk : builtinKind id = some .slot ∨ builtinKind id = some .method) (hs : splitId id = some ("tuple", n))
    (ha : argsOk id ⟨.ref t :: rest, []⟩) (X : (hd.heap_1 w.params).In s.heap) (ht : s.heap.get? t = some (tokObj items k)) (q : Q () s) : wpAny (model PySem.Challenge.rw_iv0024_01.row.prog w) A (checkBuiltinCall id ⟨.ref t :: rest, []⟩) Q E s := by
  have hin : ∀ {A : Around} {E : Value → Shared → Prop} {Q : Bool → Shared → Prop}, Q true s → wpAny (model PySem.Challenge.rw_iv0024_01.row.prog w) A (isInstance (.ref t) (.type "tuple")) Q E s := fun q => by
    simp only [isInstance, typeOf]
    exact wpAny_bind (wpAny_bind (wpAny_loadPart ht (wpAny_pure ((sub_tok X).here q))))
  rcases hk with hk | hk <;>
  · simp only [checkBuiltinCall, hk, hs]
    refine wpAny_bind (hin ?_)
    simp only [Bool.not_true, Bool.false_eq_true, if_false]
    cases hsig : Manifest.signature? id with
    | none => exact wpAny_pure q
    | some sig =>
      simp only [argsOk, hsig] at ha
      have h2 : Bind.checkArgs id sig ⟨.ref t :: rest, []⟩ = pure () := ha
      show wpAny _ A (Bind.checkArgs id sig ⟨.ref t :: rest, []⟩) Q E s
      rw [h2]; exact wpAny_pure q

theorem tok_special {t : Addr} {items : Array Value} {k : Option Addr × Nat} {name : Str} {r : Option Value} {Q : Option Value → Shared → Prop} (ht : s.heap.get? t = some (tokObj items k))
    (L1 : Looks (model PySem.Challenge.rw_iv0024_01.row.prog w) s.heap (typeLookup (.ref 341) name) r) (q : Q r s) : wpAny (model PySem.Challenge.rw_iv0024_01.row.prog w) A (specialOf (.ref t) name) Q E s := by
  simp only [specialOf, typeOf]
  exact wpAny_bind (wpAny_bind (wpAny_loadPart ht (wpAny_pure (L1.here q))))

theorem tok_iter {t : Addr} {items : Array Value} {n : Option Addr × Nat} {Q : Value → Shared → Prop} (X : (hd.heap_1 w.params).In s.heap) (ht : s.heap.get? t = some (tokObj items n))
    (hQ : Q (.ref s.heap.objs.size) { s with heap := s.heap.push { cls := .type "tuple_iterator", data := .fields #[.ref t, .int 0 0] } }) :
    wpAny (model PySem.Challenge.rw_iv0024_01.row.prog w) A (pyIter (.ref t)) Q E s := by
  have L1 : Looks (model PySem.Challenge.rw_iv0024_01.row.prog w) s.heap (typeLookup (.ref 341) (Str.ofString "__iter__")) (some (.builtin "tuple.__iter__")) := looks_findIn X (by k_is)
  unfold pyIter
  refine wpAny_bind (tok_special ht L1 ?_)
  show wpAny _ A (callSpecialIfBoundUnlessNone? _ "__iter__" _ >>= _) Q E s
  refine wpAny_bind ?_
  simp only [callSpecialIfBoundUnlessNone?, bindSpecialIfBound?]
  refine wpAny_holding (wpAny_bind (wpAny_bind (tok_special ht L1 ?_)))
  simp only [slot_tuple_iter.bind]
  refine wpAny_bind (wpAny_askSetting (wpAny_ite ?_))
  have hk : builtinKind "tuple.__iter__" = some .slot := by kernel_rfl
  have hs : splitId "tuple.__iter__" = some ("tuple", "__iter__") := by kernel_rfl
  have fin : ∀ {Q' : Value → Shared → Prop}, Q' (.ref s.heap.objs.size) { s with heap := s.heap.push { cls := .type "tuple_iterator", data := .fields #[.ref t, .int 0 0] } } →
      wpAny (model PySem.Challenge.rw_iv0024_01.row.prog w) A (call (.builtin "tuple.__iter__") [.ref t]) Q' E s := fun q => by
    refine wpAny_call (codeAny_call_builtin slot_tuple_iter.plain entry_tuple_iter ?_)
    have ha : argsOk "tuple.__iter__" ⟨[.ref t], []⟩ := args_tuple_iter _
    refine tok_check (id := "tuple.__iter__") (n := "__iter__") (rest := []) (.inl hk) hs ha X ht ?_
    show wpAny _ _ (do ret (← newFields "tuple_iterator" [.ref t, rawInt 0])) _ _ s
    exact wpAny_bind (wpAny_newObj_type (wpAny_pure q))
  split
  · refine wpAny_bind (wpAny_pure (wpAny_pure (wpAny_bind (fin ?_))))
    exact wpAny_pure (wpAny_bind (wpAny_specialOf ⟨_, Heap.get?_push_size _ rfl, rfl⟩ slot_tupleiter_next.lookup (wpAny_pure hQ)))
  · refine wpAny_tryCatch (wpAny_bind (wpAny_pure (wpAny_pure (wpAny_bind (fin ?_)))))
    exact wpAny_pure (wpAny_bind (wpAny_specialOf ⟨_, Heap.get?_push_size _ rfl, rfl⟩ slot_tupleiter_next.lookup (wpAny_pure hQ)))

theorem tok_unpackItems {t : Addr} {items : Array Value} {k : Option Addr × Nat} {Q : List Value → Shared → Prop} (hh : A.handled = none) (X : (hd.heap_1 w.params).In s.heap) (ht : s.heap.get? t = some (tokObj items k))
    (hQ : ∀ h', Heap.ExtBut s.heap.objs.size s.heap h' → Q items.toList { s with heap := h' }) : wpAny (model PySem.Challenge.rw_iv0024_01.row.prog w) A (unpackItems (.ref t) items.size none) Q E s := by
  have hlt : t ≠ s.heap.objs.size := Nat.ne_of_lt (Heap.lt_size ht)
  have L1 : Looks (model PySem.Challenge.rw_iv0024_01.row.prog w) s.heap (typeLookup (.ref 341) (Str.ofString "__iter__")) (some (.builtin "tuple.__iter__")) := looks_findIn X (by k_is)
  have hs : SeqAt s.heap t items := ⟨_, ht, _, rfl⟩
  unfold unpackItems
  refine wpAny_bind ?_
  unfold notIterableAtAll
  refine wpAny_bind (tok_special ht L1 ?_)
  refine wpAny_pure ?_
  simp only [Bool.false_eq_true, if_false]
  refine wpAny_bind (wpAny_holding (tok_iter X ht ?_))
  refine wpAny_bind (wpAny_holding (draw_seq hlt items.size 0 _ _ ⟨_, Heap.get?_push_size _ rfl, rfl, rfl⟩ (hs.push _) (by kmod_is) fun h₁ hit₁ hs₁ => ?_))
  have hall : List.take items.size (List.drop 0 items.toList) = items.toList := by
    rw [List.drop_zero]; exact List.take_of_length_le (by simp)
  rw [hall]
  rw [if_neg (by simp)]
  have ht₁ : SeqAt h₁ t items := (hs.push _).extBut hs₁.extBut hlt
  refine wpAny_bind (wpAny_holding (next_seq_end hh hit₁ ht₁ (by simp) fun h₂ he₂ => ?_))
  simp only [Option.isSome_none, Bool.false_eq_true, if_false]
  exact wpAny_pure (hQ h₂ fun b o hb e => he₂ b o hb (hs₁.extBut b o hb (Heap.get?_push_of_some _ e)))

theorem tok_unpack {t : Addr} {items : Array Value} {k : Option Addr × Nat} {h₀ : Heap} {L : Addr} {m : Str → Option Value} {news : List (Addr × Obj)} {env : Env} {elts : List Expr} {e0} {pos : Pos} {Q : Unit → Shared → Prop} (F : Fr h₀ L s.heap m) (X : (hd.heap_1 w.params).In h₀) (N : News h₀ L s.heap news)
    (ht : s.heap.get? t = some (tokObj items k)) (hh : A.handled = none) (hn : (assignEach elts env).length = items.size) (hstar : (assignEach elts env).findIdx? (·.1) = none)
    (h : ∀ h', Fr h₀ L h' m → News h₀ L h' news → wpAny (model PySem.Challenge.rw_iv0024_01.row.prog w) A (assignInOrder ((assignEach elts env).map (·.2)) items.toList) Q E { s with heap := h' }) :
    wpAny (model PySem.Challenge.rw_iv0024_01.row.prog w) A (assign (.Tuple elts e0 pos) env (.ref t)) Q E s := by
  rw [assign_Tuple]
  refine wpAny_bind (wpAny_standAt ?_)
  unfold unpack
  rw [hn, hstar]
  exact wpAny_bind (wpAny_holding (tok_unpackItems hh (X.keeps F.keep) ht fun h' he => h h' (F.extBut he (Nat.le_refl _)) (N.extBut he (Nat.le_refl _))))
end

end
section
theorem fillC (w : World) (h : Heap) : (hd.heap_1 w.params).In h → PySem.Challenge.rw_iv0024_01.row.prog = PySem.Challenge.rw_iv0024_01.row.prog := by w_top off; k_fill; intro _; rfl

/-- the parser's fields -/
structure PS where
  tg : Nat → Tok
  gv : Value
  tl : Addr
  pl : Nat
  tkp : Tok
  tyv : Value
  vv : Value
  bv : Value
  rule : Option Value
noncomputable def PS.ents (P : Params) (q : PS) : List DictEntry := [⟨PyData.keyHash P (Str.ofString "_bnf_grammar"), .str (Str.ofString "_bnf_grammar") (q.tg 0), q.gv⟩,
  ⟨PyData.keyHash P (Str.ofString "generator"), .str (Str.ofString "generator") (q.tg 1), .ref q.tl⟩,
  ⟨PyData.keyHash P (Str.ofString "place"), .str (Str.ofString "place") (q.tg 2), .int (q.pl : Int) q.tkp⟩,
  ⟨PyData.keyHash P (Str.ofString "type"), .str (Str.ofString "type") (q.tg 3), q.tyv⟩,
  ⟨PyData.keyHash P (Str.ofString "value"), .str (Str.ofString "value") (q.tg 4), q.vv⟩,
  ⟨PyData.keyHash P (Str.ofString "begin"), .str (Str.ofString "begin") (q.tg 5), q.bv⟩] ++ match q.rule with
  | none => []
  | some v => [⟨PyData.keyHash P (Str.ofString "_current_rule_name"), .str (Str.ofString "_current_rule_name") (q.tg 6), v⟩]
noncomputable def PS.cnt (q : PS) : Nat := match q.rule with
  | none => 6
  | some _ => 7
noncomputable abbrev PS.obj (P : Params) (q : PS) : Obj := dictOf (q.ents P) q.cnt

theorem listItem_N {w : World} {A : Around} {E : Value → Shared → Prop} {s : Shared} {h₀ : Heap} {L l : Addr} {vs : List Value} {c : Nat} {value slice : PySem.Expr} {k : Int} {u : Tok} {v : Value} {Q : Value → Shared → Prop} {news : List (Addr × Obj)}
    (N : News h₀ L s.heap news) (hm : (l, listOf vs.toArray c) ∈ news) (h0 : 0 ≤ k) (hhi : k < 2 ^ 63) (hx : vs[k.toNat]? = some v) (h : Q v s)
    (hs : subscripted slice false (.ref l) (.int k u) = operate [.ref l, .int k u] (getItem (.ref l) (.int k u)) := by with_unfolding_all rfl) :
    wpAny (model PySem.Challenge.rw_iv0024_01.row.prog w) A (subscriptTail value slice (.ref l) (.int k u)) Q E s :=
  have hl' : s.heap.IsList l vs.toArray := N.isList hm
  tail_any hl'.typeIs slot_list_getitem.lookup (wpAny_getItem_list hl' h0 hhi (by simpa using hx) h) hs

local macro_rules | `(tactic| walk_at "last subscriptTail") => tac "here ; wp subscriptTail _ _ ( Value.ref _ ) ( Value.int _ _ ) ; un { by listItem_N ?N ?l ?a ?b ?x ? ?z ; N=asm ; l=memT ; a=lt ; b=lt ; x=ass ; z=wrfl ; whole }"
local macro_rules | `(tactic| walk_at "assign Tuple") => tac "here ; wp assign ( Expr.Tuple _ _ _ ) _ ( Value.ref _ ) ; df { by tok_unpack ?F ?X ?N ?t ?h ?n ?st ? ; F=asm ; X=asm ; N=asm ; t! News.get [asm] [memT] ; h=rfl ; n=rfl ; st=rfl ; whole } ; intro:h',F',N' ; sweep"
local macro_rules | `(tactic| k_all) => tac "ass"

local macro_rules | `(tactic| ktr_room) => tac "z3 ; z4 ; dso ; roomx"
set_option maxRecDepth 100000 in
set_option maxHeartbeats 8000000 in
theorem gettoken {w : World} {mean : ExcName → Option Value} {mg mb : Str → Option Value} {dp un : Nat} {gd : Option (List Code)} {cn : Str} {cs : Scope} {a : Addr} {ccd : Value} {cl : List (Str × Addr)} {outer : List Env} {A₀ : Around} {base h₀ : Heap} {L : Addr} {m : Str → Option Value} {s : Shared} {Q E : Value → Shared → Prop} {news : List (Addr × Obj)} {p pd : Nat} {t : Addr} {q : PS} {toks : List Value} {nt : Option Addr × Nat} {nl : Nat} {ty v b pf : Value} {rest : List (Addr × Obj)}
    (B : Below A₀ base outer h₀) (F : Fr h₀ L s.heap m) (X : (hd.heap_1 w.params).In h₀) (N : News h₀ L s.heap ((p, instObj 220 pd) :: (pd, q.obj w.params) :: rest)) (T : Top vw (looseW vw [Str.ofString "PythonTokenTypes", Str.ofString "_tuplegetter", Str.ofString "PythonToken"]) mean mg mb h₀) (hk : cs.kind = .function)
    (hroom : dp + 3 < 1000)
    (hne : pd < p) (hr : ∀ p ∈ rest, p.1 ≠ pd) (hl : (q.tl, listOf toks.toArray nl) ∈ rest) (hpl : q.pl < 1000000) (hx : toks[((q.pl : Nat) : Int).toNat]? = some (.ref t)) (ht : (t, tokObj #[ty, v, b, pf] nt) ∈ rest)
    (hQ : ∀ h' tk' tkp, Fr h₀ L h' m → News h₀ L h' ((p, instObj 220 pd) :: (pd, ({ q with pl := q.pl + 1, tkp := tkp, tyv := ty, vv := v, bv := b } : PS).obj w.params) :: rest) → Q .none { s with heap := h', toks := tk' }) :
    wpAny (model PySem.Challenge.rw_iv0024_01.row.prog w) (ktrTop dp un gd cn cs L a ccd cl outer) (call (.ref 210) [.ref p]) Q E s := by
  obtain ⟨tg', gv, tl, pl, tkp, tyv, vv, bv, rule⟩ := q
  cases rule
  all_goals (
    dsimp only [PS.obj, PS.cnt] at N
    refine wpAny_call ?_
    k_dflt (refine' code_def ?k1 ?k2 ?k3 ?k4 ?k5 ?kA ?kF ?kK ?k6 ?k7 ?k8 ?k9 ?kB ?_ ?c2 ?c3 ?c4 ?c5; (case kA => exact rfl); (case kF => exact rfl); (case kK => first | exact rfl | assumption); (case k1 => k_asm); (case k2 => k_asm); (case k3 => k_asm); (case k4 => k_asm); (case k5 => k_asm); (case k6 => k_is); (case k7 => k_is); (case k8 => ktr_room); (case k9 => first | exact BindsTo.of_eq rfl | exact binds_K (by k_in) rfl (by k_is) rfl rfl rfl); (case c5 => decide); (case kB => exact locs rfl); (case c2 => exact rfl); (case c3 => exact rfl); (case c4 => exact rfl); k_whole; intro g' L' hh' FG F' N' B' X' T'; (try dsimp only); (try k_fold))
    dsimp only at hl
    k_steps
    exact hQ _ _ _ (by k_asm) (by k_asm))

end
section
/-- a weaker surrounding will do -/
theorem wpAny_up {α : Type} {M : Model} {D U : Nat} {t : Sem α} {Q : α → Shared → Prop} {E : Value → Shared → Prop} {s : Shared} {A : Around}
    (h : wpAny M { handled := none, depth := D, frames := none, guards := none, units := U } t Q E s) (hh : A.handled = none) (hd : A.depth ≤ D) (hu : A.units ≤ U) : wpAny M A t Q E s :=
  fun Γ p hΓ => h Γ p ⟨hΓ.1.trans hh, Nat.le_trans hΓ.2.1 hd, (fun _ hl => nomatch hl), (fun _ hg => nomatch hg), Nat.le_trans hΓ.2.2.2.2 hu⟩

/-- a fresh SyntaxError with its two arguments -/
noncomputable def SynMade (h h' : Heap) (v : Value) (m : Value) (tp : Addr) : Prop :=
  (∀ b o, h.get? b = some o → h'.get? b = some o) ∧ ∃ e t vs, v = .ref e ∧ h.get? e = none ∧ h.get? t = none ∧ h'.get? e = some { cls := .type "SyntaxError", data := .fields vs } ∧ vs[0]? = some (.ref t) ∧ vs[1]? = some .none ∧
    h'.get? t = some { cls := .type "tuple", data := .seq #[m, .ref tp] }

theorem synMade_of {h₀ h : Heap} {e a a1 tp : Addr} {m : Value} {vs : Array Value} {o1 : Obj} (D : X.Mem h₀ h [] [(a, { cls := Value.type "tuple", data := Data.seq ⟨[m, Value.ref tp]⟩ }), (e, { cls := Value.type "SyntaxError", data := .fields vs }), (a1, o1)])
    (h0 : vs[0]? = some (.ref a)) (h1 : vs[1]? = some .none) : SynMade h₀ h (.ref e) m tp := by
  refine ⟨fun b o q => D.keep b o q (by simp [X.away]), e, a, vs, rfl, (D.nw _ (.tail _ (.head _))).2, (D.nw _ (.head _)).2, (D.nw _ (.tail _ (.head _))).1, h0, h1, (D.nw _ (.head _)).1⟩

/-- nothing but the heap and the tokens has turned -/
noncomputable def SameRest (s s' : Shared) : Prop := s'.gens = s.gens ∧ s'.drawn = s.drawn ∧ s'.os = s.os
theorem SameRest.eq {s s' : Shared} (h : SameRest s s') : s' = { s with heap := s'.heap, toks := s'.toks } := by
  obtain ⟨h1, g1, d1, t1, o1⟩ := s'
  obtain ⟨h2, g2, d2, t2, o2⟩ := s
  obtain ⟨a, b, c⟩ := h
  cases a; cases b; cases c; rfl

local macro_rules | `(tactic| x_close) => tac "! And.intro ( synMade_of [ass] rfl rfl ) ( And.intro rfl ( And.intro rfl rfl ) )"
set_option maxRecDepth 100000 in
set_option maxHeartbeats 0 in
theorem syn_make0 {w : World} {s : Shared} {x g : Str} {tm t1 t2 t3 t4 : Tok} {tp : Addr} {k : Int} {n : Nat} {E : Value → Shared → Prop}
   (ht : s.heap.get? tp = some { cls := .type "tuple", data := .seq #[.str g t1, .int 1 t2, .int k t3, .str (Str.ofString "a") t4] n }) :
   wpAny (model PySem.Challenge.rw_iv0024_01.row.prog w) { handled := none, depth := 700, frames := none, guards := none, units := 9000 } (call (.type "SyntaxError") [.str x tm, .ref tp]) (fun v s' => SynMade s.heap s'.heap v (.str x tm) tp ∧ SameRest s s') E s := by
  x_run
theorem syn_make {w : World} {s : Shared} {x g : Str} {tm t1 t2 t3 t4 : Tok} {tp : Addr} {k : Int} {n : Nat} {A : Around} {Q E : Value → Shared → Prop}
   (ht : s.heap.get? tp = some { cls := .type "tuple", data := .seq #[.str g t1, .int 1 t2, .int k t3, .str (Str.ofString "a") t4] n })
   (hh : A.handled = none) (hd : A.depth ≤ 700) (hu : A.units ≤ 9000)
   (hQ : ∀ v h' tk, SynMade s.heap h' v (.str x tm) tp → Q v { s with heap := h', toks := tk }) :
   wpAny (model PySem.Challenge.rw_iv0024_01.row.prog w) A (call (.type "SyntaxError") [.str x tm, .ref tp]) Q E s :=
  wpAny_up (wpAny_mono (syn_make0 ht) (fun v s' h => by rw [h.2.eq]; exact hQ v _ _ h.1) fun _ _ x => x) hh hd hu

/-- one new object -/
noncomputable def OneNew (h h' : Heap) (l : Addr) (o : Obj) : Prop := (∀ b o, h.get? b = some o → h'.get? b = some o) ∧ h.get? l = none ∧ h'.get? l = some o
theorem oneNew_of {h₀ h : Heap} {l : Addr} {o : Obj} {r : List (Addr × Obj)} (D : X.Mem h₀ h [] ((l, o) :: r)) : OneNew h₀ h l o :=
  ⟨fun b o q => D.keep b o q (by simp [X.away]), (D.nw _ (.head _)).2, (D.nw _ (.head _)).1⟩
theorem oneNew_F {h₀ h h' : Heap} {L l : Addr} {m : Str → Option Value} {o : Obj} (F : Fr h₀ L h m) (x : OneNew h h' l o) : Fr h₀ L h' m := F.keeps x.1
theorem oneNew_N {h₀ h h' : Heap} {L l : Addr} {m : Str → Option Value} {o : Obj} {news : List (Addr × Obj)} (F : Fr h₀ L h m) (N : News h₀ L h news) (x : OneNew h h' l o) : News h₀ L h' ((l, o) :: news) := fun q hq => by
  rcases List.mem_cons.mp hq with rfl | hq
  · refine ⟨x.2.2, fun e => ?_, ?_⟩
    · obtain ⟨oL, _, _, hL, _⟩ := F.ns
      have h2 := x.2.1
      dsimp only at e
      rw [e, hL] at h2; cases h2
    · cases h : h₀.get? l with
      | none => rfl
      | some o' => have := F.keep _ _ h; rw [x.2.1] at this; cases this
  · exact ⟨x.1 _ _ (N q hq).1, (N q hq).2⟩

local macro_rules | `(tactic| x_close) => tac "! And.intro ( Exists.intro _ ( Exists.intro _ ( Exists.intro _ ( And.intro rfl ( oneNew_of [ass] ) ) ) ) ) ( And.intro rfl ( And.intro rfl rfl ) )"
set_option maxRecDepth 100000 in
set_option maxHeartbeats 0 in
theorem splitlines_a0 {w : World} {s : Shared} {tg : Tok} {E : Value → Shared → Prop} :
   wpAny (model PySem.Challenge.rw_iv0024_01.row.prog w) { handled := none, depth := 700, frames := none, guards := none, units := 9000 } (call (.builtin "str.splitlines") [.str (Str.ofString "a") tg])
     (fun v s' => (∃ l t c, v = .ref l ∧ OneNew s.heap s'.heap l (listOf [.str (Str.ofString "a") t].toArray c)) ∧ SameRest s s') E s := by
  x_run
theorem splitlines_a {w : World} {s : Shared} {tg : Tok} {A : Around} {h₀ : Heap} {L : Addr} {m : Str → Option Value} {news : List (Addr × Obj)} {Q E : Value → Shared → Prop} (F : Fr h₀ L s.heap m) (N : News h₀ L s.heap news)
   (hh : A.handled = none) (hd : A.depth ≤ 700) (hu : A.units ≤ 9000)
   (hQ : ∀ l t c h' tk, Fr h₀ L h' m → News h₀ L h' ((l, listOf [.str (Str.ofString "a") t].toArray c) :: news) → Q (.ref l) { s with heap := h', toks := tk }) :
   wpAny (model PySem.Challenge.rw_iv0024_01.row.prog w) A (call (.builtin "str.splitlines") [.str (Str.ofString "a") tg]) Q E s :=
  wpAny_up (wpAny_mono splitlines_a0 (fun v s' h => by
    obtain ⟨⟨l, t, c, rfl, x⟩, r⟩ := h
    rw [r.eq]; exact hQ l t c _ _ (oneNew_F F x) (oneNew_N F N x)) fun _ _ x => x) hh hd hu

end
section
theorem fillE (w : World) (h : Heap) : (hd.heap_1 w.params).In h → PySem.Challenge.rw_iv0024_01.row.prog = PySem.Challenge.rw_iv0024_01.row.prog := by w_top off; k_fill; intro _; rfl

/-- entries of the ledger that outlive a flying exception -/
noncomputable def Kept (kept rest : List (Addr × Obj)) : Prop := ∀ q ∈ kept, q ∈ rest
theorem Kept.up {kept r r' : List (Addr × Obj)} (h : Kept kept r) (k : ∀ q ∈ r, q ∈ r') : Kept kept r' := fun q hq => k q (h q hq)
theorem Kept.news {h₀ h : Heap} {L : Addr} {kept l : List (Addr × Obj)} (N : News h₀ L h l) (k : Kept kept l) : News h₀ L h kept := fun q hq => N q (k q hq)
noncomputable def RaisableS (E : Value → Shared → Prop) (v : Value) (s₁ : Shared) : Prop :=
  ∃ a ob vs, v = .ref a ∧ s₁.heap.get? a = some ob ∧ ob.cls = .type "SyntaxError" ∧ ob.data = .fields vs ∧ vs[1]? = some .none ∧ E (.ref a) s₁
theorem syn_base : isSubtype (.type "SyntaxError") (.type "BaseException") = pure true := by rw [isSubtype_type]; kernel_rfl
theorem syn_meta : (Value.type ((Manifest.find? "SyntaxError").elim "type" (·.metatype)) == Value.type "type") = true := by kernel_rfl

theorem Raise_syn {M : Model} {A : Around} {s : Shared} {env : Env} {E : Value → Shared → Prop} {e : PySem.Expr} {pos : Pos} {Q : Flow → Shared → Prop} (hh : A.handled = none)
    (h : wpAny M A (eval e env) (RaisableS E) E s) : wpAny M A (exec (.Raise (some e) none pos) env) Q E s := by
  show wpAny M A (do standAt pos; raiseStmt env (some (do let v ← eval e env; standAt pos; pure v)) none) Q E s
  refine wpAny_bind (wpAny_standAt ?_)
  unfold raiseStmt
  dsimp only
  refine wpAny_bind (wpAny_bind (wpAny_mono h (fun v s₁ h₁ => wpAny_bind (wpAny_standAt (wpAny_pure ?_))) fun _ _ x => x))
  obtain ⟨a, ob, vs, rfl, ha, hcls, hd, h1, hE⟩ := h₁
  have hT : s₁.TypeIs (.ref a) "SyntaxError" := ⟨ob, ha, hcls⟩
  have hnt : ∀ {Q' : Bool → Shared → Prop}, Q' false s₁ → wpAny M A (isType (.ref a)) Q' E s₁ := by
    intro Q' hq
    simp only [isType, loadHead]
    refine wpAny_bind (wpAny_loadPart ha ?_)
    rw [hd]; exact wpAny_pure hq
  refine wpAny_bind (wpAny_pure ?_)
  dsimp only
  refine wpAny_bind (wpAny_holding ?_)
  unfold excFromValue isExcClass
  refine wpAny_bind (wpAny_bind (hnt ?_))
  simp only [Bool.false_eq_true, if_false]
  refine wpAny_pure ?_
  simp only [Bool.false_eq_true, if_false]
  refine wpAny_bind (wpAny_isInstance hT syn_base ?_)
  simp only [if_true]
  refine wpAny_pure ?_
  refine wpAny_bind (hnt ?_)
  simp only [Bool.false_eq_true, if_false]
  unfold raisedInstance
  refine wpAny_bind (wpAny_bind (wpAny_typeOf hT (wpAny_bind (m := typeOf (.type "SyntaxError")) (wpAny_pure ?_))))
  rw [if_pos syn_meta]
  refine wpAny_pure ?_
  unfold setFlight raiseNew
  refine wpAny_bind (wpAny_bind (wpAny_field ha hd h1 ?_))
  rw [if_neg (by decide)]
  refine wpAny_pure (wpAny_bind (wpAny_handled ?_))
  rw [hh]
  first
    | exact wpAny_throw hE
    | exact wpAny_bind (wpAny_pure (wpAny_throw hE))

theorem raisableS_of {E : Value → Shared → Prop} {h : Heap} {v m : Value} {tp : Addr} {s₁ : Shared} (x : SynMade h s₁.heap v m tp) (hE : E v s₁) : RaisableS E v s₁ := by
  obtain ⟨_, e, t, vs, rfl, _, _, he, _, h1, _⟩ := x
  exact ⟨e, _, vs, rfl, he, rfl, rfl, h1, hE⟩

section
variable {M : Model} {A : Around} {E : Value → Shared → Prop} {s' : Shared} {base g g₂ h : Heap} {outer : List Env} {L a e t : Addr} {m : Str → Option Value} {name : Str} {scope : Scope} {cd : Value} {Q : Unit → Shared → Prop} {news : List (Addr × Obj)}
theorem leave_raiseS {mv : Value} {tp : Addr} (K : Below A base outer g) (hx : SynMade h s'.heap (.ref e) mv tp) (F : Fr g L h m) (N : News g L h news)
    (hQ : ∀ h' t, RaisedK base outer e (.type "SyntaxError") t [mv, .ref tp] news h' → g.UpToSlots h' → Q () { s' with heap := h' }) (hk : scope.kind = .function := by rfl) :
    wpAny M (A.deeper (envOf name scope L a cd)) (leaving (envOf name scope L a cd) (.ref e)) Q E s' := by
  obtain ⟨hkeep, e', t, vs, he0, hen, htn, he, h0, h1, ht⟩ := hx
  obtain rfl : e = e' := Value.ref.inj he0
  have K' := K.push (name := name) (a := a) (cd := cd) F hk
  have hin : ∀ env ∈ (envOf name scope L a cd :: outer), ∀ b, env.frame = some b → b ∈ (envOf name scope L a cd :: outer).filterMap (·.frame) := fun env he b hb => List.mem_filterMap.mpr ⟨env, he, hb⟩
  have hH : ∀ b o, (hideAll h ((envOf name scope L a cd :: outer).filterMap (·.frame))).get? b = some o → h.get? b = some o := fun b o q => of_hideAll _ q
  have st : base.StaysIn (hideAll h ((envOf name scope L a cd :: outer).filterMap (·.frame))) := fun b o q => hideAll_get _ (K'.stays b o q) fun hm => by
    rw [(K'.frames.mem hm).1] at q; cases q
  have hl : ∀ q ∈ news, (hideAll h ((envOf name scope L a cd :: outer).filterMap (·.frame))).get? q.1 = some q.2 ∧ base.get? q.1 = none := fun q hq => by
    refine ⟨hideAll_get _ (N q hq).1 fun hm => ?_, fresh_of_stays K.stays (N q hq).2.2⟩
    obtain ⟨env, he, hf⟩ := List.mem_filterMap.mp hm
    rcases List.mem_cons.mp he with rfl | he
    · exact (N q hq).2.1 (Option.some.inj hf).symm
    · obtain ⟨o, ho, _⟩ := (K.frames.mem (List.mem_filterMap.mpr ⟨env, he, hf⟩)).2
      rw [(N q hq).2.2] at ho; cases ho
  have fresh : ∀ b, h.get? b = none → (hideAll h ((envOf name scope L a cd :: outer).filterMap (·.frame))).get? b = none := fun b hb => by
    cases hq : (hideAll h ((envOf name scope L a cd :: outer).filterMap (·.frame))).get? b with
    | none => rfl
    | some o' => have := hH b o' hq; rw [hb] at this; cases this
  have hFF := funFrames_hide K'.frames hin
  refine wpAny_leaving_firstW (a0 := .ref t) (base := hideAll h ((envOf name scope L a cd :: outer).filterMap (·.frame))) K'.stack (hFF.of_keeps fun b o hb _ => ⟨o, hkeep b o hb, rfl⟩) rfl he (fun b o hb => hkeep b o (hH b o hb)) (fresh e hen) rfl h1 h0 fun h' hL => ?_
  obtain ⟨k1, ⟨_, _, k2⟩, k3, k4⟩ := hL
  exact hQ h' t ⟨⟨_, st, hl, ⟨k1, fresh e hen, k2, k3⟩, fresh t htn⟩, Heap.TupAt.of_slots ⟨_, _, ht, rfl, rfl⟩ k4⟩ (((Heap.UpToSlots.of_keeps F.keep).trans (Heap.UpToSlots.of_keeps hkeep)).trans k4)
end

theorem tupItem_N {w : World} {A : Around} {E : Value → Shared → Prop} {s : Shared} {h₀ : Heap} {L l : Addr} {n : Nat} {vs : List Value} {value slice : PySem.Expr} {k : Int} {u : Tok} {j : Nat} {v : Value} {Q : Value → Shared → Prop} {news : List (Addr × Obj)}
    (N : News h₀ L s.heap news) (hm : (l, { cls := .type "tuple", data := .seq vs.toArray n }) ∈ news) (hlo : -(2 ^ 63) ≤ k) (hhi : k < 2 ^ 63) (hj : seqIndex? k vs.length = some j) (hx : vs[j]? = some v) (h : Q v s)
    (hs : subscripted slice false (.ref l) (.int k u) = operate [.ref l, .int k u] (getItem (.ref l) (.int k u)) := by with_unfolding_all rfl) :
    wpAny (model PySem.Challenge.rw_iv0024_01.row.prog w) A (subscriptTail value slice (.ref l) (.int k u)) Q E s := item_tupleT ⟨_, N.get hm, rfl, _, rfl⟩ hlo hhi (by simpa using hj) (by simpa using hx) h hs

theorem syn_call {w : World} {s : Shared} {x g : Str} {tm t1 t2 t3 t4 : Tok} {tp : Addr} {k : Int} {n : Nat} {A : Around} {E : Value → Shared → Prop} {h₀ : Heap} {L : Addr} {news : List (Addr × Obj)} (N : News h₀ L s.heap news)
   (hm : (tp, { cls := .type "tuple", data := .seq [.str g t1, .int 1 t2, .int k t3, .str (Str.ofString "a") t4].toArray n }) ∈ news)
   (hh : A.handled = none) (hd : A.depth ≤ 700) (hu : A.units ≤ 9000)
   (hE : ∀ e h' tk, SynMade s.heap h' (.ref e) (.str x tm) tp → E (.ref e) { s with heap := h', toks := tk }) :
   wpAny (model PySem.Challenge.rw_iv0024_01.row.prog w) A (call (.type "SyntaxError") [.str x tm, .ref tp]) (RaisableS E) E s :=
  syn_make (N.get hm) hh hd hu fun v h' tk hx => by
    obtain ⟨_, e, _, _, rfl, _⟩ := id hx
    exact raisableS_of hx (hE e h' tk hx)

local macro_rules | `(tactic| walk_at "subscriptTail Name Constant ref int") => tac "here ; wp subscriptTail _ _ ( Value.ref _ ) ( Value.int _ _ ) ; un { by tupItem_N ?N ?l ?a ?b ?j ?x ? ?z ; N=asm ; l=memT ; a=dec ; b=dec ; j=rfl0 ; x=rfl0 ; z=wrfl ; whole }"
local macro_rules | `(tactic| walk_at "subscriptTail") => tac "here ; wp subscriptTail _ _ ( Value.ref _ ) ( Value.int _ _ ) ; un { by listItem_N ?N ?l ?a ?b ?x ? ?z ; N=asm ; l=mem ; a=dec ; b=dec ; x=rfl0 ; z=wrfl ; whole }"
local macro_rules | `(tactic| walk_at "call type:SyntaxError") => tac "here ; df { by syn_call ?N ?m ?h ?d ?u ? ; N=asm ; m=mem ; h=rfl ; d=room ; u=units ; whole ; intro:e,h',tk,hx }"
local macro_rules | `(tactic| walk_at "leaving ref") => tac "here ; by leave_raiseS ?k1 ?hx ?k2 ?k3 ? ; hx=ass ; k1=ass ; k2=ass ; k3! Kept.news [ass] ( Kept.up [ass] [sub] ) ; whole ; intro:h',t',R',U' ; ds:R',U'"
local macro_rules | `(tactic| ktr_room) => tac "z3 ; dso ; roomx"
local macro_rules | `(tactic| ktr_units) => tac "z5 ; dso ; roomx"
local macro_rules | `(tactic| walk_at "exec Raise some none") => tac "here ; ? Raise_syn rfl ?"
local macro_rules | `(tactic| walk_at "call builtin:str.splitlines") => tac "here ; df { by splitlines_a ?F ?N ?h ?d ?u ? ; F=asm ; N=asm ; h=rfl ; d=room ; u=units ; whole ; intro:l,t,c,h',tk,F',N' ; sweep }"
set_option maxRecDepth 100000 in
set_option maxHeartbeats 8000000 in
theorem raise_error {w : World} {mean : ExcName → Option Value} {mg mb : Str → Option Value} {dp un : Nat} {gd : Option (List Code)} {cn : Str} {cs : Scope} {a : Addr} {ccd : Value} {cl : List (Str × Addr)} {outer : List Env} {A₀ : Around} {base h₀ : Heap} {L : Addr} {m : Str → Option Value} {s : Shared} {Q E : Value → Shared → Prop} {news kept : List (Addr × Obj)} {p pd bt : Nat} {q : PS} {nb : Nat} {x : Str} {tm t1 t2 tg : Tok} {k : Int} {rest : List (Addr × Obj)}
    (B : Below A₀ base outer h₀) (F : Fr h₀ L s.heap m) (X : (hd.heap_1 w.params).In h₀) (N : News h₀ L s.heap ((p, instObj 220 pd) :: (pd, q.obj w.params) :: rest)) (T : Top vw (looseW vw [Str.ofString "PythonTokenTypes", Str.ofString "_tuplegetter", Str.ofString "PythonToken"]) mean mg mb h₀) (hk : cs.kind = .function)
    (hroom : dp + 3 < 600) (hun : un + 20 < 8000)
    (hg : q.gv = .str (Str.ofString "a") tg) (hb : q.bv = .ref bt) (hbt : (bt, { cls := .type "tuple", data := .seq [.int 1 t1, .int k t2].toArray nb }) ∈ rest)
    (hkp : Kept kept rest)
    (hE : ∀ g e t tp h' tk', Fr h₀ L g m → g.UpToSlots h' → RaisedK base (envX cn cs L a ccd cl :: outer) e (.type "SyntaxError") t [.str x tm, .ref tp] kept h' → E (.ref e) { s with heap := h', toks := tk' }) :
    wpAny (model PySem.Challenge.rw_iv0024_01.row.prog w) (ktrTop dp un gd cn cs L a ccd cl outer) (call (.ref 217) [.ref p, .str x tm]) Q E s := by
  obtain ⟨tg', gv, tl, pl, tkp, tyv, vv, bv, rule⟩ := q
  dsimp only at hg hb
  subst hg hb
  cases rule
  all_goals (
    refine wpAny_call ?_
    k_dflt (refine' code_def ?k1 ?k2 ?k3 ?k4 ?k5 ?kA ?kF ?kK ?k6 ?k7 ?k8 ?k9 ?kB ?_ ?c2 ?c3 ?c4 ?c5; (case kA => exact rfl); (case kF => exact rfl); (case kK => first | exact rfl | assumption); (case k1 => k_asm); (case k2 => k_asm); (case k3 => k_asm); (case k4 => k_asm); (case k5 => k_asm); (case k6 => k_is); (case k7 => k_is); (case k8 => ktr_room); (case k9 => first | exact BindsTo.of_eq rfl | exact binds_K (by k_in) rfl (by k_is) rfl rfl rfl); (case c5 => decide); (case kB => exact locs rfl); (case c2 => exact rfl); (case c3 => exact rfl); (case c4 => exact rfl); k_whole; intro g' L' hh' FG F' N' B' X' T'; (try dsimp only); (try k_fold))
    k_steps
    exact hE _ _ _ _ _ _ FG (by assumption) (by assumption))

end
section
theorem fillF (w : World) (h : Heap) : (hd.heap_1 w.params).In h → PySem.Challenge.rw_iv0024_01.row.prog = PySem.Challenge.rw_iv0024_01.row.prog := by w_top off; k_fill; intro _; rfl
open PySem.SeqAt

theorem ns_of {K : Frag} {h : Heap} {P : Params} {a : Addr} {es : Array DictEntry} {n : Nat} (X : K.In h) (hl : K.lookup a = some ⟨.type "dict", none, .dict es n, #[]⟩) (hk : KeysLit P es.toList) :
    h.Ns a (fun x => nsFind es x) :=
  ⟨_, es, n, X _ _ hl, rfl, fun e he => by
    obtain ⟨x, t, e1, _⟩ := hk.all e (by simpa using he)
    exact ⟨x, t, e1⟩, fun _ => rfl⟩
theorem ns_of2 {K : Frag} {h : Heap} {P : Params} {a : Addr} {es : Array DictEntry} {n : Nat} (X : K.In h) (hl : K.lookup a = some ⟨.type "dict", none, .dict es n, #[]⟩) (hk : KeysLit P es.toList) (h1 : nsFind es "__eq__" = none) (h2 : nsFind es "__ne__" = none) :
    ∃ mN, h.Ns a mN ∧ mN "__eq__" = none ∧ mN "__ne__" = none := ⟨_, ns_of X hl hk, h1, h2⟩

section
variable {w : World} {h : Heap}
theorem ns39 (X : (hd.heap_1 w.params).In h) : ∃ mN, h.Ns 38 mN ∧ mN "__eq__" = none ∧ mN "__ne__" = none := by
  k_dflt (refine' ns_of2 (P := w.params) X ?l ?k ?a ?b; (case l => k_is); (case k => k_keys); (case a => kernel_rfl); (case b => kernel_rfl))
theorem ns142 (X : (hd.heap_1 w.params).In h) : ∃ mN, h.Ns 141 mN ∧ mN "__eq__" = none ∧ mN "__ne__" = none := by
  k_dflt (refine' ns_of2 (P := w.params) X ?l ?k ?a ?b; (case l => k_is); (case k => k_keys); (case a => kernel_rfl); (case b => kernel_rfl))
/-- one of the five types of the law's tokens -/
noncomputable def IsTy (x : Addr) : Prop := x = 52 ∨ x = 58 ∨ x = 64 ∨ x = 85 ∨ x = 88
theorem tyObj (X : (hd.heap_1 w.params).In h) {x : Addr} (hx : IsTy x) : ∃ d, h.get? x = some (instObj 39 d) := by
  rcases hx with rfl | rfl | rfl | rfl | rfl
  · exact ⟨_, X _ _ (by k_is)⟩
  · exact ⟨_, X _ _ (by k_is)⟩
  · exact ⟨_, X _ _ (by k_is)⟩
  · exact ⟨_, X _ _ (by k_is)⟩
  · exact ⟨_, X _ _ (by k_is)⟩
theorem cmpTy (X : (hd.heap_1 w.params).In h) {x : Addr} (hx : IsTy x) : h.CmpInst x 39 [.type "object"] := by
  obtain ⟨d, ho⟩ := tyObj X hx
  obtain ⟨mN, hn, he, hne⟩ := ns39 X
  exact ⟨_, _, _, 38, _, _, _, _, _, _, _, _, _, _, _, _, _, mN, ho, rfl, X _ _ (by k_is), hn, he, hne⟩
theorem cmpSt (X : (hd.heap_1 w.params).In h) {x d : Addr} (ho : h.get? x = some (instObj 142 d)) : h.CmpInst x 142 [.type "object"] := by
  obtain ⟨mN, hn, he, hne⟩ := ns142 X
  exact ⟨_, _, _, 141, _, _, _, _, _, _, _, _, _, _, _, _, _, mN, ho, rfl, X _ _ (by k_is), hn, he, hne⟩
end

theorem rcInst {A : Around} {s : Shared} {x y C : Addr} (X : s.heap.CmpInst x C [.type "object"]) (Y : s.heap.CmpInst y C [.type "object"]) (hu : A.units < cLine) : RcAt A s (.ref x) (.ref y) (decide (x = y)) := fun prog w E Q hq => by
  obtain ⟨hp, g, d, t, os⟩ := s
  by_cases e : x = y
  · subst e
    rw [decide_eq_true rfl] at hq
    exact richCompare_eq_same F.cmp_object X hu hq
  · rw [decide_eq_false e] at hq
    exact richCompare_eq_other F.cmp_object F.cmp_object X Y e hu hq
theorem eqInst {A : Around} {s : Shared} {x y C : Addr} (X : s.heap.CmpInst x C [.type "object"]) (Y : s.heap.CmpInst y C [.type "object"]) (hu : A.units < cLine) : EqAt A s (.ref x) (.ref y) (decide (x = y)) := by
  by_cases e : x = y
  · subst e
    rw [decide_eq_true rfl]; exact EqAt.same _
  · exact EqAt.of_refs e (rcInst X Y hu)
theorem neInst {prog : Program} {w : World} {E : Value → Shared → Prop} {A : Around} {s : Shared} {x y C : Addr} {Q : Value → Shared → Prop} (X : s.heap.CmpInst x C [.type "object"]) (Y : s.heap.CmpInst y C [.type "object"]) (hu : A.units + 1 < cLine) (hq : Q (.bool (decide (x ≠ y))) s) :
    wpAny (model prog w) A (compareOp .NotEq (.ref x) (.ref y)) Q E s := by
  obtain ⟨hp, g, d, t, os⟩ := s
  by_cases e : x = y
  · subst e
    rw [decide_eq_false (by simp)] at hq
    exact compareOp_ne_same F.cmp_object X hu hq
  · rw [decide_eq_true e] at hq
    exact compareOp_ne_other F.cmp_object F.cmp_object X Y e hu hq
theorem eqInstOp {prog : Program} {w : World} {E : Value → Shared → Prop} {A : Around} {s : Shared} {x y C : Addr} {Q : Value → Shared → Prop} (X : s.heap.CmpInst x C [.type "object"]) (Y : s.heap.CmpInst y C [.type "object"]) (hu : A.units < cLine) (hq : Q (.bool (decide (x = y))) s) :
    wpAny (model prog w) A (compareOp .Eq (.ref x) (.ref y)) Q E s := rcInst X Y hu prog w E Q hq

section
variable {w : World} {A : Around} {E : Value → Shared → Prop} {s : Shared} {h₀ : Heap} {L : Addr} {m : Str → Option Value} {Q : Value → Shared → Prop} {x y : Addr}
theorem neTy (F : Fr h₀ L s.heap m) (X : (hd.heap_1 w.params).In h₀) (hx : IsTy x) (hy : IsTy y) (hu : A.units + 1 < cLine) (hq : Q (.bool (decide (x ≠ y))) s) : wpAny (model PySem.Challenge.rw_iv0024_01.row.prog w) A (compareOp .NotEq (.ref x) (.ref y)) Q E s :=
  neInst (cmpTy (X.keeps F.keep) hx) (cmpTy (X.keeps F.keep) hy) hu hq
theorem eqTy (F : Fr h₀ L s.heap m) (X : (hd.heap_1 w.params).In h₀) (hx : IsTy x) (hy : IsTy y) (hu : A.units < cLine) (hq : Q (.bool (decide (x = y))) s) : wpAny (model PySem.Challenge.rw_iv0024_01.row.prog w) A (compareOp .Eq (.ref x) (.ref y)) Q E s :=
  eqInstOp (cmpTy (X.keeps F.keep) hx) (cmpTy (X.keeps F.keep) hy) hu hq
theorem inTy {l : Addr} {y1 y2 : Addr} {n : Nat} {news : List (Addr × Obj)} (F : Fr h₀ L s.heap m) (X : (hd.heap_1 w.params).In h₀) (N : News h₀ L s.heap news) (hm : (l, { cls := .type "tuple", data := .seq [Value.ref y1, Value.ref y2].toArray n }) ∈ news)
    (hx : IsTy x) (h1 : IsTy y1) (h2 : IsTy y2) (hu : A.units + 1 < cLine) (hq : Q (.bool (decide (y1 = x ∨ y2 = x))) s) : wpAny (model PySem.Challenge.rw_iv0024_01.row.prog w) A (compareOp .In (.ref x) (.ref l)) Q E s := by
  refine in_tupleAt (fun v => match v with | .ref a => decide (a = x) | _ => false) ⟨_, N.get hm, rfl, _, rfl⟩ (fun y hy => ?_) (by simpa using hq)
  have X' := X.keeps F.keep
  have hu' : A.in1.units < cLine := hu
  rcases (by simpa using hy : y = Value.ref y1 ∨ y = Value.ref y2) with rfl | rfl
  · exact eqInst (cmpTy X' h1) (cmpTy X' hx) hu'
  · exact eqInst (cmpTy X' h2) (cmpTy X' hx) hu'
end

end
section
theorem fillG (w : World) (h : Heap) : (hd.heap_1 w.params).In h → PySem.Challenge.rw_iv0024_01.row.prog = PySem.Challenge.rw_iv0024_01.row.prog := by w_top off; k_fill; intro _; rfl

/-- the signs of the law's tokens -/
inductive Sg where
  | nr | ns | nt | nN | sx | si | sp | co | ba | lp | rp | lb | rb | pl | st | nl | em
  deriving DecidableEq
noncomputable def Sg.text : Sg → Str
  | .nr => "r" | .ns => "s" | .nt => "t" | .nN => "NAME" | .sx => "'x'" | .si => "\"if\"" | .sp => "'+'" | .co => ":" | .ba => "|" | .lp => "(" | .rp => ")" | .lb => "[" | .rb => "]" | .pl => "+" | .st => "*" | .nl => "\n" | .em => ""
noncomputable def Sg.ty : Sg → Nat
  | .nr => 58
  | .ns => 58
  | .nt => 58
  | .nN => 58
  | .sx => 52
  | .si => 52
  | .sp => 52
  | .co => 85
  | .ba => 85
  | .lp => 85
  | .rp => 85
  | .lb => 85
  | .rb => 85
  | .pl => 85
  | .st => 85
  | .nl => 64
  | .em => 88
noncomputable def sgL : List Sg := [.nr, .ns, .nt, .nN, .sx, .si, .sp, .co, .ba, .lp, .rp, .lb, .rb, .pl, .st, .nl, .em]
theorem sgAll {P : Sg → Prop} (h : ∀ τ ∈ sgL, P τ) (σ : Sg) : P σ := h σ (by cases σ <;> decide)
theorem Sg.isTy (σ : Sg) : IsTy σ.ty := sgAll (P := fun σ => σ.ty = 52 ∨ σ.ty = 58 ∨ σ.ty = 64 ∨ σ.ty = 85 ∨ σ.ty = 88) (by decide +kernel) σ

/-- a token of the sign σ stands at the place i -/
noncomputable def TokIs (kept : List (Addr × Obj)) (vs : List Value) (i : Nat) (σ : Sg) : Prop :=
  ∃ t b pf n nb tk t1 t2 k, vs[i]? = some (.ref t) ∧ (t, tokObj #[.ref σ.ty, .str σ.text tk, .ref b, pf] n) ∈ kept ∧ (b, { cls := .type "tuple", data := .seq [.int 1 t1, .int k t2].toArray nb }) ∈ kept
/-- the parser stands at σ -/
noncomputable def CurIs (kept : List (Addr × Obj)) (q : PS) (σ : Sg) : Prop :=
  q.tyv = .ref σ.ty ∧ (∃ tk, q.vv = .str σ.text tk) ∧ ∃ b t1 t2 k nb, q.bv = .ref b ∧ (b, { cls := .type "tuple", data := .seq [.int 1 t1, .int k t2].toArray nb }) ∈ kept
/-- the parser stands at the first of the signs; they are what is left of the tokens `vs` -/
noncomputable def AtV (kept : List (Addr × Obj)) (vs : List Value) (nl : Nat) (q : PS) : List Sg → Prop
  | [] => False
  | σ :: l => CurIs kept q σ ∧ (∃ tg, q.gv = .str (Str.ofString "a") tg) ∧ q.pl < 1000000 ∧ (q.tl, listOf vs.toArray nl) ∈ kept ∧ vs.length < 1000000 ∧ ∀ j σ', l[j]? = some σ' → TokIs kept vs (q.pl + j) σ'
noncomputable def At (kept : List (Addr × Obj)) (q : PS) (l : List Sg) : Prop := ∃ vs nl, AtV kept vs nl q l
theorem At.keeps {kept : List (Addr × Obj)} {q : PS} {l : List Sg} {P : Prop} (x : At kept q l) (_ : P) : At kept q l := x
theorem At.nil {kept : List (Addr × Obj)} {q : PS} (x : At kept q []) : False := let ⟨_, _, h⟩ := x; h
theorem At.cur {kept : List (Addr × Obj)} {q : PS} {σ : Sg} {l : List Sg} (x : At kept q (σ :: l)) : CurIs kept q σ ∧ True := let ⟨_, _, h, _⟩ := x; ⟨h, trivial⟩

/-- from what is left at q to what is left at q' -/
noncomputable def Moves (kept : List (Addr × Obj)) (q : PS) (l : List Sg) (q' : PS) (l' : List Sg) : Prop := At kept q l → At kept q' l'
theorem Moves.trans {kept : List (Addr × Obj)} {q q' q'' : PS} {l l' l'' : List Sg} (x : Moves kept q l q' l') (y : Moves kept q' l' q'' l'') : Moves kept q l q'' l'' := fun z => y (x z)
theorem Moves.down {kept : List (Addr × Obj)} {q q' : PS} {l l' : List Sg} {P : Prop} (x : Moves kept q l q' l') (_ : P) : Moves kept q l q' l' := x
theorem Moves.here {kept : List (Addr × Obj)} {q q' : PS} {l l' : List Sg} (x : Moves kept q l q' l') (z : At kept q l) : At kept q' l' := x z

/-- the parser's fields where it stands at σ -/
inductive Shape (σ : Sg) (r : Option Value) : PS → Prop
  | mk (tg : Nat → Tok) (gv : Value) (tl : Addr) (pl : Nat) (tkp tk : Tok) (bv : Value) : Shape σ r ⟨tg, gv, tl, pl, tkp, .ref σ.ty, .str σ.text tk, bv, r⟩
theorem At.shape {kept : List (Addr × Obj)} {q : PS} {σ : Sg} {l : List Sg} {r : Option Value} (x : At kept q (σ :: l)) (h : q.rule = r) : Shape σ r q := by
  obtain ⟨⟨htv, ⟨tk, hvv⟩, -⟩, -⟩ := x.cur
  obtain ⟨tg, gv, tl, pl, tkp, tyv, vv, bv, rule⟩ := q
  dsimp only at htv hvv h
  subst htv hvv h
  exact .mk ..
inductive ShapeR (r : Option Value) : PS → Prop
  | mk (tg : Nat → Tok) (gv : Value) (tl : Addr) (pl : Nat) (tkp : Tok) (tyv vv bv : Value) : ShapeR r ⟨tg, gv, tl, pl, tkp, tyv, vv, bv, r⟩
theorem PS.shapeR {q : PS} {r : Option Value} (h : q.rule = r) : ShapeR r q := h ▸ .mk ..
theorem At.step {kept : List (Addr × Obj)} {q : PS} {σ σ' : Sg} {l : List Sg} (x : At kept q (σ :: σ' :: l)) : ∃ toks nl t b pf nt tk, (q.tl, listOf (toks : List Value).toArray nl) ∈ kept ∧ q.pl < 1000000 ∧ toks[((q.pl : Nat) : Int).toNat]? = some (.ref t) ∧ (t, tokObj #[.ref σ'.ty, .str σ'.text tk, .ref b, pf] nt) ∈ kept ∧
    ∀ tkp, Moves kept q (σ :: σ' :: l) { q with pl := q.pl + 1, tkp := tkp, tyv := .ref σ'.ty, vv := .str σ'.text tk, bv := .ref b } (σ' :: l) := by
  obtain ⟨vs, nl, _, x2, x3, x4, x5, x6⟩ := x
  obtain ⟨t, b, pf, n, nb, tk, t1, t2, c, h1, h2, h3⟩ := x6 0 σ' rfl
  refine ⟨vs, nl, t, b, pf, n, tk, x4, x3, by simpa using h1, h2, fun tkp _ => ?_⟩
  have hlt : q.pl < vs.length := (List.getElem?_eq_some_iff.mp h1).1
  refine ⟨vs, nl, ⟨rfl, ⟨_, rfl⟩, _, t1, t2, c, nb, rfl, h3⟩, x2, by show q.pl + 1 < 1000000; kmod_is, x4, x5, fun j σ'' e => ?_⟩
  have := x6 (j + 1) σ'' (by simpa using e)
  show TokIs kept vs (q.pl + 1 + j) σ''
  rw [show q.pl + 1 + j = q.pl + (j + 1) by kmod_is]; exact this

theorem gettoken2 {w : World} {mean : ExcName → Option Value} {mg mb : Str → Option Value} {dp un : Nat} {gd : Option (List Code)} {cn : Str} {cs : Scope} {a : Addr} {ccd : Value} {cl : List (Str × Addr)} {outer : List Env} {A₀ : Around} {base h₀ : Heap} {L : Addr} {m : Str → Option Value} {s : Shared} {Q E : Value → Shared → Prop} {news kept : List (Addr × Obj)} {p pd : Nat} {q : PS} {rest : List (Addr × Obj)} {σ σ' : Sg} {l : List Sg}
    (B : Below A₀ base outer h₀) (F : Fr h₀ L s.heap m) (X : (hd.heap_1 w.params).In h₀) (N : News h₀ L s.heap ((p, instObj 220 pd) :: (pd, q.obj w.params) :: rest)) (T : Top vw (looseW vw [Str.ofString "PythonTokenTypes", Str.ofString "_tuplegetter", Str.ofString "PythonToken"]) mean mg mb h₀) (hk : cs.kind = .function)
    (hroom : dp + 3 < 1000)
    (hne : pd < p) (hr : ∀ p ∈ rest, p.1 ≠ pd) (hkp : Kept kept rest) (hat : At kept q (σ :: σ' :: l))
    (hQ : ∀ h' tk' q', Fr h₀ L h' m → News h₀ L h' ((p, instObj 220 pd) :: (pd, PS.obj w.params q') :: rest) → Moves kept q (σ :: σ' :: l) q' (σ' :: l) → q'.rule = q.rule → Q .none { s with heap := h', toks := tk' }) :
    wpAny (model PySem.Challenge.rw_iv0024_01.row.prog w) (ktrTop dp un gd cn cs L a ccd cl outer) (call (.ref 210) [.ref p]) Q E s := by
  obtain ⟨toks, nl, t, b, pf, nt, tk, h1, h2, h3, h4, h5⟩ := hat.step
  exact gettoken (news := []) B F X N T hk hroom hne hr (hkp _ h1) h2 h3 (hkp _ h4) fun h' tk' tkp F' N' => hQ h' tk' _ F' N' (h5 tkp) rfl

/-- a SyntaxError is on its way through the frames l -/
noncomputable def SynFly (kept : List (Addr × Obj)) (base : Heap) (l : List Env) (e : Addr) (h : Heap) : Prop := ∃ t vs, RaisedK base l e (.type "SyntaxError") t vs kept h

theorem raise_error2 {w : World} {mean : ExcName → Option Value} {mg mb : Str → Option Value} {dp un : Nat} {gd : Option (List Code)} {cn : Str} {cs : Scope} {a : Addr} {ccd : Value} {cl : List (Str × Addr)} {outer : List Env} {A₀ : Around} {base h₀ : Heap} {L : Addr} {m : Str → Option Value} {s : Shared} {Q E : Value → Shared → Prop} {news kept : List (Addr × Obj)} {p pd : Nat} {q : PS} {x : Str} {tm : Tok} {rest : List (Addr × Obj)} {l : List Sg}
    (B : Below A₀ base outer h₀) (F : Fr h₀ L s.heap m) (X : (hd.heap_1 w.params).In h₀) (N : News h₀ L s.heap ((p, instObj 220 pd) :: (pd, q.obj w.params) :: rest)) (T : Top vw (looseW vw [Str.ofString "PythonTokenTypes", Str.ofString "_tuplegetter", Str.ofString "PythonToken"]) mean mg mb h₀) (hk : cs.kind = .function)
    (hroom : dp + 3 < 600) (hun : un + 20 < 8000) (hkp : Kept kept rest) (hat : At kept q l)
    (hE : ∀ g e h' tk', Fr h₀ L g m → g.UpToSlots h' → SynFly kept base (envX cn cs L a ccd cl :: outer) e h' → E (.ref e) { s with heap := h', toks := tk' }) :
    wpAny (model PySem.Challenge.rw_iv0024_01.row.prog w) (ktrTop dp un gd cn cs L a ccd cl outer) (call (.ref 217) [.ref p, .str x tm]) Q E s := by
  cases l with
  | nil => exact hat.nil.elim
  | cons σ l =>
    obtain ⟨_, _, ⟨_, _, b, t1, t2, c, nb, hb, hbt⟩, ⟨tg, hg⟩, _⟩ := hat
    exact raise_error (news := []) B F X N T hk hroom hun hg hb (hkp _ hbt) hkp fun g e t tp h' tk' f u r => hE g e h' tk' f u ⟨t, _, r⟩

section
variable {M : Model} {A : Around} {E : Value → Shared → Prop} {s' : Shared} {base g g₂ h : Heap} {outer : List Env} {L a e : Addr} {m : Str → Option Value} {name : Str} {scope : Scope} {cd : Value} {Q : Unit → Shared → Prop} {kept : List (Addr × Obj)}
theorem leave_onS (K : Below A base outer g) (F : Fr g L g₂ m) (R : SynFly kept base (envOf name scope L a cd :: outer) e s'.heap) (hsm : g₂.UpToSlots s'.heap)
    (hQ : ∀ h', SynFly kept base outer e h' → g.UpToSlots h' → Q () { s' with heap := h' }) :
    wpAny M (A.deeper (envOf name scope L a cd)) (leaving (envOf name scope L a cd) (.ref e)) Q E s' := by
  obtain ⟨t, vs, R⟩ := R
  exact leave_onK K F R hsm fun h' R' U' => hQ h' ⟨t, vs, R'⟩ U'
end

theorem ne_of_bne {a b : Str} (h : (a != b) = true) : a ≠ b := by simpa using h
theorem eq_of_not_bne {a b : Str} (h : (a != b) = false) : a = b := by simpa using h

-- the rooms
local macro_rules | `(tactic| ktr_room) => tac "z3 ; dso ; roomx"
local macro_rules | `(tactic| ktr_units) => tac "z6 ; dso ; roomx"
local macro_rules | `(tactic| k_all) => tac "ass"
local macro_rules | `(tactic| walk_at "compareOp NotEq ref ref") => tac "here ; df { by neTy ?F ?X ?a ?b ?u ? ; F=asm ; X=asm ; a=ty ; b=ty ; u=units ; whole }"
local macro_rules | `(tactic| walk_at "call ref") => tac "here ; df { byn raise_error2 ?B ?F ?X ?N ?T ?k ?r ?u ?kp ?tt ? ; kp=ass ; B=asm ; F=asm ; X=asm ; N=asm ; T=asm ; k=rfl ; tt=ass ; r=room ; u=units ; whole ; intro:g,e,h',tk',FG,U',R' | byn gettoken2 ?B ?F ?X ?N ?T ?k ?r ?ne ?hr ?kp ?tt ? ; kp=ass ; B=asm ; F=asm ; X=asm ; N=asm ; T=asm ; k=rfl ; tt=ass ; ne=ass ; hr=ass ; r=room ; whole ; intro:h',tk',q',F',N',hat',hru' }"
local macro_rules | `(tactic| walk_at "leaving ref") => tac "here ; by leave_onS ?k1 ?k2 ?k3 ?k4 ? ; k3=ass ; k1=ass ; k4=ass ; k2=ass ; whole ; intro:h',R',U' ; ds:R',U'"

set_option maxRecDepth 100000 in
set_option maxHeartbeats 8000000 in
theorem expect {w : World} {mean : ExcName → Option Value} {mg mb : Str → Option Value} {dp un : Nat} {gd : Option (List Code)} {cn : Str} {cs : Scope} {a : Addr} {ccd : Value} {cl : List (Str × Addr)} {outer : List Env} {A₀ : Around} {base h₀ : Heap} {L : Addr} {m : Str → Option Value} {s : Shared} {Q E : Value → Shared → Prop} {news kept : List (Addr × Obj)} {p pd ty : Nat} {q : PS} {x : Str} {tx : Tok} {rest : List (Addr × Obj)} {σ σ' : Sg} {l : List Sg}
    (B : Below A₀ base outer h₀) (F : Fr h₀ L s.heap m) (X : (hd.heap_1 w.params).In h₀) (N : News h₀ L s.heap ((p, instObj 220 pd) :: (pd, q.obj w.params) :: rest)) (T : Top vw (looseW vw [Str.ofString "PythonTokenTypes", Str.ofString "_tuplegetter", Str.ofString "PythonToken"]) mean mg mb h₀) (hk : cs.kind = .function)
    (hroom : dp + 10 < 600) (hun : un + 40 < 8000)
    (hne : pd < p) (hr : ∀ p ∈ rest, p.1 ≠ pd) (hkp : Kept kept rest) {rl : Value} (hat : At kept q (σ :: σ' :: l)) (hty : IsTy ty) (hrule : q.rule = some rl)
    (hQ : ∀ h' tk' q' tv, σ.ty = ty → σ.text = x → Fr h₀ L h' m → News h₀ L h' ((p, instObj 220 pd) :: (pd, PS.obj w.params q') :: rest) → Moves kept q (σ :: σ' :: l) q' (σ' :: l) → q'.rule = q.rule → Q (.str σ.text tv) { s with heap := h', toks := tk' })
    (hE : ∀ g e h' tk', ¬ (σ.ty = ty ∧ σ.text = x) → Fr h₀ L g m → g.UpToSlots h' → SynFly kept base (envX cn cs L a ccd cl :: outer) e h' → E (.ref e) { s with heap := h', toks := tk' }) :
    wpAny (model PySem.Challenge.rw_iv0024_01.row.prog w) (ktrTop dp un gd cn cs L a ccd cl outer) (call (.ref 203) [.ref p, .ref ty, .str x tx]) Q E s := by
  obtain ⟨tg', gv, tl, pl, tkp, tk0, bv⟩ := At.shape hat hrule
  clear hrule
  refine wpAny_call ?_
  k_dflt (refine' code_def ?k1 ?k2 ?k3 ?k4 ?k5 ?kA ?kF ?kK ?k6 ?k7 ?k8 ?k9 ?kB ?_ ?c2 ?c3 ?c4 ?c5; (case kA => exact rfl); (case kF => exact rfl); (case kK => first | exact rfl | assumption); (case k1 => k_asm); (case k2 => k_asm); (case k3 => k_asm); (case k4 => k_asm); (case k5 => k_asm); (case k6 => k_is); (case k7 => k_is); (case k8 => ktr_room); (case k9 => first | exact BindsTo.of_eq rfl | exact binds_K (by k_in) rfl (by k_is) rfl rfl rfl); (case c5 => decide); (case kB => exact locs rfl); (case c2 => exact rfl); (case c3 => exact rfl); (case c4 => exact rfl); k_whole; intro g' L' hh' FG F' N' B' X' T'; (try dsimp only); (try k_fold))
  have hat' := hat.keeps FG.keep
  k_steps
  · exact hE _ _ _ _ (fun c => absurd c.1 (by assumption)) FG (by assumption) (by assumption)
  · exact hE _ _ _ _ (fun c => absurd c.2 (ne_of_bne (by assumption))) FG (by assumption) (by assumption)
  · exact hQ _ _ _ _ (Decidable.of_not_not (by assumption)) (eq_of_not_bne (by assumption)) (by k_asm) (by k_asm) (Moves.down (by assumption) FG.keep) (by assumption)

end
section
theorem fillH (w : World) (h : Heap) : (hd.heap_1 w.params).In h → PySem.Challenge.rw_iv0024_01.row.prog = PySem.Challenge.rw_iv0024_01.row.prog := by w_top off; k_fill; intro _; rfl
local macro_rules | `(tactic| ktr_room) => tac "z3 ; dso ; roomx"
local macro_rules | `(tactic| ktr_units) => tac "z6 ; dso ; roomx"
local macro_rules | `(tactic| k_all) => tac "ass"
local macro_rules | `(tactic| walk_at "compareOp NotEq ref ref") => tac "here ; df { by neTy ?F ?X ?a ?b ?u ? ; F=asm ; X=asm ; a=ty ; b=ty ; u=units ; whole }"
local macro_rules | `(tactic| walk_at "call ref") => tac "here ; df { byn raise_error2 ?B ?F ?X ?N ?T ?k ?r ?u ?kp ?tt ? ; kp=ass ; B=asm ; F=asm ; X=asm ; N=asm ; T=asm ; k=rfl ; tt=ass ; r=room ; u=units ; whole ; intro:g,e,h',tk',FG,U',R' | byn gettoken2 ?B ?F ?X ?N ?T ?k ?r ?ne ?hr ?kp ?tt ? ; kp=ass ; B=asm ; F=asm ; X=asm ; N=asm ; T=asm ; k=rfl ; tt=ass ; ne=ass ; hr=ass ; r=room ; whole ; intro:h',tk',q',F',N',hat',hru' }"
local macro_rules | `(tactic| walk_at "leaving ref") => tac "here ; by leave_onS ?k1 ?k2 ?k3 ?k4 ? ; k3=ass ; k1=ass ; k4=ass ; k2=ass ; whole ; intro:h',R',U' ; ds:R',U'"

local macro_rules | `(tactic| walk_at "z0") => `(tactic| skip)
set_option maxRecDepth 100000 in
set_option maxHeartbeats 8000000 in
theorem expect1 {w : World} {mean : ExcName → Option Value} {mg mb : Str → Option Value} {dp un : Nat} {gd : Option (List Code)} {cn : Str} {cs : Scope} {a : Addr} {ccd : Value} {cl : List (Str × Addr)} {outer : List Env} {A₀ : Around} {base h₀ : Heap} {L : Addr} {m : Str → Option Value} {s : Shared} {Q E : Value → Shared → Prop} {news kept : List (Addr × Obj)} {p pd ty : Nat} {q : PS} {rest : List (Addr × Obj)} {σ σ' : Sg} {l : List Sg}
    (B : Below A₀ base outer h₀) (F : Fr h₀ L s.heap m) (X : (hd.heap_1 w.params).In h₀) (N : News h₀ L s.heap ((p, instObj 220 pd) :: (pd, q.obj w.params) :: rest)) (T : Top vw (looseW vw [Str.ofString "PythonTokenTypes", Str.ofString "_tuplegetter", Str.ofString "PythonToken"]) mean mg mb h₀) (hk : cs.kind = .function)
    (hroom : dp + 10 < 600) (hun : un + 40 < 8000)
    (hne : pd < p) (hr : ∀ p ∈ rest, p.1 ≠ pd) (hkp : Kept kept rest) (hat : At kept q (σ :: σ' :: l)) (hty : IsTy ty)
    (hQ : ∀ h' tk' q' tv, σ.ty = ty → Fr h₀ L h' m → News h₀ L h' ((p, instObj 220 pd) :: (pd, PS.obj w.params q') :: rest) → Moves kept q (σ :: σ' :: l) q' (σ' :: l) → q'.rule = q.rule → Q (.str σ.text tv) { s with heap := h', toks := tk' })
    (hE : ∀ g e h' tk', ¬ (σ.ty = ty) → Fr h₀ L g m → g.UpToSlots h' → SynFly kept base (envX cn cs L a ccd cl :: outer) e h' → E (.ref e) { s with heap := h', toks := tk' }) :
    wpAny (model PySem.Challenge.rw_iv0024_01.row.prog w) (ktrTop dp un gd cn cs L a ccd cl outer) (call (.ref 203) [.ref p, .ref ty]) Q E s := by
  obtain ⟨⟨htv, ⟨tk0, hvv⟩, -⟩, -⟩ := hat.cur
  obtain ⟨tg', gv, tl, pl, tkp, tyv, vv, bv, rule⟩ := q
  dsimp only at htv hvv
  subst htv hvv
  cases rule
  all_goals (
    refine wpAny_call ?_
    k_dflt (refine' code_def ?k1 ?k2 ?k3 ?k4 ?k5 ?kA ?kF ?kK ?k6 ?k7 ?k8 ?k9 ?kB ?_ ?c2 ?c3 ?c4 ?c5; (case kA => exact rfl); (case kF => exact rfl); (case kK => first | exact rfl | assumption); (case k1 => k_asm); (case k2 => k_asm); (case k3 => k_asm); (case k4 => k_asm); (case k5 => k_asm); (case k6 => k_is); (case k7 => k_is); (case k8 => ktr_room); (case k9 => first | exact BindsTo.of_eq rfl | exact binds_K (by k_in) rfl (by k_is) rfl rfl rfl); (case c5 => decide); (case kB => exact locs rfl); (case c2 => exact rfl); (case c3 => exact rfl); (case c4 => exact rfl); k_whole; intro g' L' hh' FG F' N' B' X' T'; (try dsimp only); (try k_fold))
    have hat' := hat.keeps FG.keep
    k_steps
    · exact hE _ _ _ _ (by assumption) FG (by assumption) (by assumption)
    · exact hQ _ _ _ _ (Decidable.of_not_not (by assumption)) (by k_asm) (by k_asm) (Moves.down (by assumption) FG.keep) (by assumption))

/-- the end of the text: there a token is only looked at -/
theorem expect1_em {w : World} {mean : ExcName → Option Value} {mg mb : Str → Option Value} {dp un : Nat} {gd : Option (List Code)} {cn : Str} {cs : Scope} {a : Addr} {ccd : Value} {cl : List (Str × Addr)} {outer : List Env} {A₀ : Around} {base h₀ : Heap} {L : Addr} {m : Str → Option Value} {s : Shared} {Q E : Value → Shared → Prop} {news kept : List (Addr × Obj)} {p pd ty : Nat} {q : PS} {rest : List (Addr × Obj)} {σ : Sg}
    (B : Below A₀ base outer h₀) (F : Fr h₀ L s.heap m) (X : (hd.heap_1 w.params).In h₀) (N : News h₀ L s.heap ((p, instObj 220 pd) :: (pd, q.obj w.params) :: rest)) (T : Top vw (looseW vw [Str.ofString "PythonTokenTypes", Str.ofString "_tuplegetter", Str.ofString "PythonToken"]) mean mg mb h₀) (hk : cs.kind = .function)
    (hroom : dp + 10 < 600) (hun : un + 40 < 8000)
    (hne : pd < p) (hr : ∀ p ∈ rest, p.1 ≠ pd) (hkp : Kept kept rest) (hat : At kept q [σ]) (hty : IsTy ty) (hnt : σ.ty ≠ ty)
    (hE : ∀ g e h' tk', Fr h₀ L g m → g.UpToSlots h' → SynFly kept base (envX cn cs L a ccd cl :: outer) e h' → E (.ref e) { s with heap := h', toks := tk' }) :
    wpAny (model PySem.Challenge.rw_iv0024_01.row.prog w) (ktrTop dp un gd cn cs L a ccd cl outer) (call (.ref 203) [.ref p, .ref ty]) Q E s := by
  obtain ⟨⟨htv, ⟨tk0, hvv⟩, -⟩, -⟩ := hat.cur
  obtain ⟨tg', gv, tl, pl, tkp, tyv, vv, bv, rule⟩ := q
  dsimp only at htv hvv
  subst htv hvv
  cases rule
  all_goals (
    refine wpAny_call ?_
    k_dflt (refine' code_def ?k1 ?k2 ?k3 ?k4 ?k5 ?kA ?kF ?kK ?k6 ?k7 ?k8 ?k9 ?kB ?_ ?c2 ?c3 ?c4 ?c5; (case kA => exact rfl); (case kF => exact rfl); (case kK => first | exact rfl | assumption); (case k1 => k_asm); (case k2 => k_asm); (case k3 => k_asm); (case k4 => k_asm); (case k5 => k_asm); (case k6 => k_is); (case k7 => k_is); (case k8 => ktr_room); (case k9 => first | exact BindsTo.of_eq rfl | exact binds_K (by k_in) rfl (by k_is) rfl rfl rfl); (case c5 => decide); (case kB => exact locs rfl); (case c2 => exact rfl); (case c3 => exact rfl); (case c4 => exact rfl); k_whole; intro g' L' hh' FG F' N' B' X' T'; (try dsimp only); (try k_fold))
    have hat' := hat.keeps FG.keep
    k_steps
    all_goals exact hE _ _ _ _ FG (by assumption) (by assumption))

set_option maxRecDepth 100000 in
set_option maxHeartbeats 8000000 in
theorem expect_em {w : World} {mean : ExcName → Option Value} {mg mb : Str → Option Value} {dp un : Nat} {gd : Option (List Code)} {cn : Str} {cs : Scope} {a : Addr} {ccd : Value} {cl : List (Str × Addr)} {outer : List Env} {A₀ : Around} {base h₀ : Heap} {L : Addr} {m : Str → Option Value} {s : Shared} {Q E : Value → Shared → Prop} {news kept : List (Addr × Obj)} {p pd ty : Nat} {q : PS} {x : Str} {tx : Tok} {rest : List (Addr × Obj)} {σ : Sg} {rl : Value}
    (B : Below A₀ base outer h₀) (F : Fr h₀ L s.heap m) (X : (hd.heap_1 w.params).In h₀) (N : News h₀ L s.heap ((p, instObj 220 pd) :: (pd, q.obj w.params) :: rest)) (T : Top vw (looseW vw [Str.ofString "PythonTokenTypes", Str.ofString "_tuplegetter", Str.ofString "PythonToken"]) mean mg mb h₀) (hk : cs.kind = .function)
    (hroom : dp + 10 < 600) (hun : un + 40 < 8000)
    (hne : pd < p) (hr : ∀ p ∈ rest, p.1 ≠ pd) (hkp : Kept kept rest) (hat : At kept q [σ]) (hty : IsTy ty) (hnt : σ.ty ≠ ty) (hrule : q.rule = some rl)
    (hE : ∀ g e h' tk', Fr h₀ L g m → g.UpToSlots h' → SynFly kept base (envX cn cs L a ccd cl :: outer) e h' → E (.ref e) { s with heap := h', toks := tk' }) :
    wpAny (model PySem.Challenge.rw_iv0024_01.row.prog w) (ktrTop dp un gd cn cs L a ccd cl outer) (call (.ref 203) [.ref p, .ref ty, .str x tx]) Q E s := by
  obtain ⟨tg', gv, tl, pl, tkp, tk0, bv⟩ := At.shape hat hrule
  clear hrule
  refine wpAny_call ?_
  k_dflt (refine' code_def ?k1 ?k2 ?k3 ?k4 ?k5 ?kA ?kF ?kK ?k6 ?k7 ?k8 ?k9 ?kB ?_ ?c2 ?c3 ?c4 ?c5; (case kA => exact rfl); (case kF => exact rfl); (case kK => first | exact rfl | assumption); (case k1 => k_asm); (case k2 => k_asm); (case k3 => k_asm); (case k4 => k_asm); (case k5 => k_asm); (case k6 => k_is); (case k7 => k_is); (case k8 => ktr_room); (case k9 => first | exact BindsTo.of_eq rfl | exact binds_K (by k_in) rfl (by k_is) rfl rfl rfl); (case c5 => decide); (case kB => exact locs rfl); (case c2 => exact rfl); (case c3 => exact rfl); (case c4 => exact rfl); k_whole; intro g' L' hh' FG F' N' B' X' T'; (try dsimp only); (try k_fold))
  have hat' := hat.keeps FG.keep
  k_steps
  all_goals exact hE _ _ _ _ FG (by assumption) (by assumption)

theorem expectW {w : World} {mean : ExcName → Option Value} {mg mb : Str → Option Value} {dp un : Nat} {gd : Option (List Code)} {cn : Str} {cs : Scope} {a : Addr} {ccd : Value} {cl : List (Str × Addr)} {outer : List Env} {A₀ : Around} {base h₀ : Heap} {L : Addr} {m : Str → Option Value} {s : Shared} {Q E : Value → Shared → Prop} {news kept : List (Addr × Obj)} {p pd ty : Nat} {q : PS} {x : Str} {tx : Tok} {rest : List (Addr × Obj)} {σ : Sg} {l : List Sg} {rl : Value}
    (B : Below A₀ base outer h₀) (F : Fr h₀ L s.heap m) (X : (hd.heap_1 w.params).In h₀) (N : News h₀ L s.heap ((p, instObj 220 pd) :: (pd, q.obj w.params) :: rest)) (T : Top vw (looseW vw [Str.ofString "PythonTokenTypes", Str.ofString "_tuplegetter", Str.ofString "PythonToken"]) mean mg mb h₀) (hk : cs.kind = .function)
    (hroom : dp + 10 < 600) (hun : un + 40 < 8000)
    (hne : pd < p) (hr : ∀ p ∈ rest, p.1 ≠ pd) (hkp : Kept kept rest) (hat : At kept q (σ :: l)) (hem : l = [] → σ.ty ≠ ty) (hty : IsTy ty) (hrule : q.rule = some rl)
    (hQ : ∀ h' tk' q' tv, σ.ty = ty → σ.text = x → Fr h₀ L h' m → News h₀ L h' ((p, instObj 220 pd) :: (pd, PS.obj w.params q') :: rest) → Moves kept q (σ :: l) q' l → q'.rule = q.rule → Q (.str σ.text tv) { s with heap := h', toks := tk' })
    (hE : ∀ g e h' tk', ¬ (σ.ty = ty ∧ σ.text = x) → Fr h₀ L g m → g.UpToSlots h' → SynFly kept base (envX cn cs L a ccd cl :: outer) e h' → E (.ref e) { s with heap := h', toks := tk' }) :
    wpAny (model PySem.Challenge.rw_iv0024_01.row.prog w) (ktrTop dp un gd cn cs L a ccd cl outer) (call (.ref 203) [.ref p, .ref ty, .str x tx]) Q E s := by
  cases l with
  | nil => exact expect_em (news := []) B F X N T hk hroom hun hne hr hkp hat hty (hem rfl) hrule fun g e h' tk' f u r => hE g e h' tk' (fun c => hem rfl c.1) f u r
  | cons σ' l => exact expect (news := []) B F X N T hk hroom hun hne hr hkp hat hty hrule hQ hE

theorem expectW1 {w : World} {mean : ExcName → Option Value} {mg mb : Str → Option Value} {dp un : Nat} {gd : Option (List Code)} {cn : Str} {cs : Scope} {a : Addr} {ccd : Value} {cl : List (Str × Addr)} {outer : List Env} {A₀ : Around} {base h₀ : Heap} {L : Addr} {m : Str → Option Value} {s : Shared} {Q E : Value → Shared → Prop} {news kept : List (Addr × Obj)} {p pd ty : Nat} {q : PS} {rest : List (Addr × Obj)} {σ : Sg} {l : List Sg}
    (B : Below A₀ base outer h₀) (F : Fr h₀ L s.heap m) (X : (hd.heap_1 w.params).In h₀) (N : News h₀ L s.heap ((p, instObj 220 pd) :: (pd, q.obj w.params) :: rest)) (T : Top vw (looseW vw [Str.ofString "PythonTokenTypes", Str.ofString "_tuplegetter", Str.ofString "PythonToken"]) mean mg mb h₀) (hk : cs.kind = .function)
    (hroom : dp + 10 < 600) (hun : un + 40 < 8000)
    (hne : pd < p) (hr : ∀ p ∈ rest, p.1 ≠ pd) (hkp : Kept kept rest) (hat : At kept q (σ :: l)) (hem : l = [] → σ.ty ≠ ty) (hty : IsTy ty)
    (hQ : ∀ h' tk' q' tv, σ.ty = ty → Fr h₀ L h' m → News h₀ L h' ((p, instObj 220 pd) :: (pd, PS.obj w.params q') :: rest) → Moves kept q (σ :: l) q' l → q'.rule = q.rule → Q (.str σ.text tv) { s with heap := h', toks := tk' })
    (hE : ∀ g e h' tk', ¬ (σ.ty = ty) → Fr h₀ L g m → g.UpToSlots h' → SynFly kept base (envX cn cs L a ccd cl :: outer) e h' → E (.ref e) { s with heap := h', toks := tk' }) :
    wpAny (model PySem.Challenge.rw_iv0024_01.row.prog w) (ktrTop dp un gd cn cs L a ccd cl outer) (call (.ref 203) [.ref p, .ref ty]) Q E s := by
  cases l with
  | nil => exact expect1_em (news := []) B F X N T hk hroom hun hne hr hkp hat hty (hem rfl) fun g e h' tk' f u r => hE g e h' tk' (hem rfl) f u r
  | cons σ' l => exact expect1 (news := []) B F X N T hk hroom hun hne hr hkp hat hty hQ hE

end
section
theorem fillI (w : World) (h : Heap) : (hd.heap_1 w.params).In h → PySem.Challenge.rw_iv0024_01.row.prog = PySem.Challenge.rw_iv0024_01.row.prog := by w_top off; k_fill; intro _; rfl
local macro_rules | `(tactic| ktr_room) => tac "z3 ; dso ; roomx"
local macro_rules | `(tactic| k_room) => tac "z3 ; dso ; roomx"
local macro_rules | `(tactic| ktr_units) => tac "z6 ; dso ; roomx"
local macro_rules | `(tactic| k_all) => tac "ass | z7 | z8"

theorem News.sub {h₀ h : Heap} {L : Addr} {l l' : List (Addr × Obj)} (N : News h₀ L h l) (k : ∀ q ∈ l', q ∈ l) : News h₀ L h l' := fun q hq => N q (k q hq)
theorem perm5 {α : Type} {a b c d e : α} {r : List α} : ∀ q ∈ c :: d :: e :: a :: b :: r, q ∈ a :: b :: c :: d :: e :: r := by
  intro q hq
  simp only [List.mem_cons] at hq ⊢
  rcases hq with h | h | h | h | h | h <;> simp only [h, true_or, or_true]
/-- the fields of a state -/
noncomputable def stEnts (P : Params) (k1 k2 : Tok) (r : Value) (al : Addr) : List DictEntry := [⟨PyData.keyHash P (Str.ofString "from_rule"), .str (Str.ofString "from_rule") k1, r⟩, ⟨PyData.keyHash P (Str.ofString "arcs"), .str (Str.ofString "arcs") k2, .ref al⟩]
noncomputable def arcEnts (P : Params) (k1 k2 : Tok) (nx lab : Value) : List DictEntry := [⟨PyData.keyHash P (Str.ofString "next"), .str (Str.ofString "next") k1, nx⟩, ⟨PyData.keyHash P (Str.ofString "nonterminal_or_string"), .str (Str.ofString "nonterminal_or_string") k2, lab⟩]

set_option maxRecDepth 100000 in
set_option maxHeartbeats 8000000 in
theorem mkState {w : World} {mean : ExcName → Option Value} {mg mb : Str → Option Value} {dp un : Nat} {gd : Option (List Code)} {cn : Str} {cs : Scope} {a : Addr} {ccd : Value} {cl : List (Str × Addr)} {outer : List Env} {A₀ : Around} {base h₀ : Heap} {L : Addr} {m : Str → Option Value} {s : Shared} {Q E : Value → Shared → Prop} {news : List (Addr × Obj)} {r : Value}
    (B : Below A₀ base outer h₀) (F : Fr h₀ L s.heap m) (X : (hd.heap_1 w.params).In h₀) (N : News h₀ L s.heap news) (T : Top vw (looseW vw [Str.ofString "PythonTokenTypes", Str.ofString "_tuplegetter", Str.ofString "PythonToken"]) mean mg mb h₀) (hk : cs.kind = .function)
    (hroom : dp + 10 < 600) (hun : un + 40 < 8000)
    (hQ : ∀ (x dx al : Nat) h' tk' k1 k2 c, (∀ q ∈ news, q.1 < dx) → dx < x → x < al → Fr h₀ L h' m → News h₀ L h' ((x, instObj 142 dx) :: (dx, dictOf (stEnts w.params k1 k2 r al) 2) :: (al, listOf #[] c) :: news) → Q (.ref x) { s with heap := h', toks := tk' }) :
    wpAny (model PySem.Challenge.rw_iv0024_01.row.prog w) (ktrTop dp un gd cn cs L a ccd cl outer) (call (.ref 142) [r]) Q E s := by
  k_dflt (refine' call_cls ?k1 ?k2 ?k3 ?k4 ?k5 ?k6 ?_; (case k1 => k_asm); (case k2 => k_asm); (case k3 => k_asm); (case k4 => k_is); (case k5 => k_is); (case k6 => k_is); k_whole; intro x dx h1 F1 N1 l1 l2)
  replace l2 := ltN l2
  clear F N
  k_dflt (refine' code_def ?k1 ?k2 ?k3 ?k4 ?k5 ?kA ?kF ?kK ?k6 ?k7 ?k8 ?k9 ?kB ?_ ?c2 ?c3 ?c4 ?c5; (case kA => exact rfl); (case kF => exact rfl); (case kK => first | exact rfl | assumption); (case k1 => k_asm); (case k2 => k_asm); (case k3 => k_asm); (case k4 => k_asm); (case k5 => k_asm); (case k6 => k_is); (case k7 => k_is); (case k8 => ktr_room); (case k9 => first | exact BindsTo.of_eq rfl | exact binds_K (by k_in) rfl (by k_is) rfl rfl rfl); (case c5 => decide); (case kB => exact locs rfl); (case c2 => exact rfl); (case c3 => exact rfl); (case c4 => exact rfl); k_whole; intro g' L' hh' FG F' N' B' X' T'; (try dsimp only); (try k_fold))
  k_steps
  rename _ ∧ _ => l3
  exact hQ x dx _ _ _ _ _ _ l1 l2 l3.1 (by k_asm) (News.sub (by k_asm) (fun q hq => by
    rcases List.mem_cons.mp hq with rfl | hq
    · exact .tail _ (.head _)
    rcases List.mem_cons.mp hq with rfl | hq
    · exact .tail _ (.tail _ (.head _))
    rcases List.mem_cons.mp hq with rfl | hq
    · exact .head _
    · exact .tail _ (.tail _ (.tail _ hq))))

theorem looks_inst {M : Model} {h₀ h : Heap} {L C c cd : Addr} {news : List (Addr × Obj)} (N : News h₀ L h news) (hm : (c, instObj C cd) ∈ news) : Looks M h (typeOf (.ref c)) (.ref C) :=
  fun _ _ _ _ k q => wpAny_bind (wpAny_loadPart (k _ _ (N.get hm)) (wpAny_pure q))
local macro_rules | `(tactic| k_types) => tac "intro:M ; gr { ! looks_inst [asm] [ass] | ! Looks.of_pure rfl | ! looks_typeIn [in] [is] }"
set_option maxRecDepth 100000 in
set_option maxHeartbeats 8000000 in
theorem addArc {w : World} {mean : ExcName → Option Value} {mg mb : Str → Option Value} {dp un : Nat} {gd : Option (List Code)} {cn : Str} {cs : Scope} {a : Addr} {ccd : Value} {cl : List (Str × Addr)} {outer : List Env} {A₀ : Around} {base h₀ : Heap} {L : Addr} {m : Str → Option Value} {s : Shared} {Q E : Value → Shared → Prop} {news : List (Addr × Obj)} {b bd c cd : Nat} {al : Nat} {k1 k2 : Tok} {r lab : Value} {arcs : List Value} {n : Nat} {rest : List (Addr × Obj)}
    (B : Below A₀ base outer h₀) (F : Fr h₀ L s.heap m) (X : (hd.heap_1 w.params).In h₀) (N : News h₀ L s.heap ((b, instObj 142 bd) :: (bd, dictOf (stEnts w.params k1 k2 r al) 2) :: (al, listOf arcs.toArray n) :: rest)) (T : Top vw (looseW vw [Str.ofString "PythonTokenTypes", Str.ofString "_tuplegetter", Str.ofString "PythonToken"]) mean mg mb h₀) (hk : cs.kind = .function)
    (hroom : dp + 10 < 600) (hun : un + 40 < 8000)
    (hc : (c, instObj 142 cd) ∈ (b, instObj 142 bd) :: (bd, dictOf (stEnts w.params k1 k2 r al) 2) :: (al, listOf arcs.toArray n) :: rest)
    (hlab : lab = .none ∨ ∃ x t, lab = .str x t) (hd1 : b ≠ al) (hd2 : bd ≠ al) (hr : ∀ q ∈ rest, q.1 ≠ al) (hlen : arcs.length < 1000)
    (hQ : ∀ (y yd : Nat) h' tk' j1 j2, yd < y → (∀ q ∈ rest, q.1 < yd) → al < yd → b < yd → bd < yd → Fr h₀ L h' m →
      News h₀ L h' ((b, instObj 142 bd) :: (bd, dictOf (stEnts w.params k1 k2 r al) 2) :: (al, listOf (arcs ++ [Value.ref y]).toArray (n + 1)) :: (y, instObj 113 yd) :: (yd, dictOf (arcEnts w.params j1 j2 (.ref c) lab) 2) :: rest) → Q .none { s with heap := h', toks := tk' }) :
    wpAny (model PySem.Challenge.rw_iv0024_01.row.prog w) (ktrTop dp un gd cn cs L a ccd cl outer) (call (.ref 139) [.ref b, .ref c, lab]) Q E s := by
  rcases hlab with rfl | ⟨x, t, rfl⟩
  all_goals (
    refine wpAny_call ?_
    k_dflt (refine' code_def ?k1 ?k2 ?k3 ?k4 ?k5 ?kA ?kF ?kK ?k6 ?k7 ?k8 ?k9 ?kB ?_ ?c2 ?c3 ?c4 ?c5; (case kA => exact rfl); (case kF => exact rfl); (case kK => first | exact rfl | assumption); (case k1 => k_asm); (case k2 => k_asm); (case k3 => k_asm); (case k4 => k_asm); (case k5 => k_asm); (case k6 => k_is); (case k7 => k_is); (case k8 => ktr_room); (case k9 => first | exact BindsTo.of_eq rfl | exact binds_K (by k_in) rfl (by k_is) rfl rfl rfl); (case c5 => decide); (case kB => exact locs rfl); (case c2 => exact rfl); (case c3 => exact rfl); (case c4 => exact rfl); k_whole; intro g' L' hh' FG F' N' B' X' T'; (try dsimp only); (try k_fold))
    k_steps
    rename _ ∧ _ ∧ _ ∧ _ => l1
    rename @LT.lt Nat _ _ _ => l2
    rename News h₀ L _ _ => kN
    rw [List.push_toArray] at kN
    exact hQ _ _ _ _ _ _ l2 (ktn_ltOf l1.2.2.2) l1.2.2.1 l1.1 l1.2.1 (by k_asm) (News.sub kN perm5))
set_option maxRecDepth 100000 in
set_option maxHeartbeats 8000000 in
theorem addArc0 {w : World} {mean : ExcName → Option Value} {mg mb : Str → Option Value} {dp un : Nat} {gd : Option (List Code)} {cn : Str} {cs : Scope} {a : Addr} {ccd : Value} {cl : List (Str × Addr)} {outer : List Env} {A₀ : Around} {base h₀ : Heap} {L : Addr} {m : Str → Option Value} {s : Shared} {Q E : Value → Shared → Prop} {news : List (Addr × Obj)} {b bd c cd : Nat} {al : Nat} {k1 k2 : Tok} {r : Value} {arcs : List Value} {n : Nat} {rest : List (Addr × Obj)}
    (B : Below A₀ base outer h₀) (F : Fr h₀ L s.heap m) (X : (hd.heap_1 w.params).In h₀) (N : News h₀ L s.heap ((b, instObj 142 bd) :: (bd, dictOf (stEnts w.params k1 k2 r al) 2) :: (al, listOf arcs.toArray n) :: rest)) (T : Top vw (looseW vw [Str.ofString "PythonTokenTypes", Str.ofString "_tuplegetter", Str.ofString "PythonToken"]) mean mg mb h₀) (hk : cs.kind = .function)
    (hroom : dp + 10 < 600) (hun : un + 40 < 8000)
    (hc : (c, instObj 142 cd) ∈ (b, instObj 142 bd) :: (bd, dictOf (stEnts w.params k1 k2 r al) 2) :: (al, listOf arcs.toArray n) :: rest)
    (hd1 : b ≠ al) (hd2 : bd ≠ al) (hr : ∀ q ∈ rest, q.1 ≠ al) (hlen : arcs.length < 1000)
    (hQ : ∀ (y yd : Nat) h' tk' j1 j2, yd < y → (∀ q ∈ rest, q.1 < yd) → al < yd → b < yd → bd < yd → Fr h₀ L h' m →
      News h₀ L h' ((b, instObj 142 bd) :: (bd, dictOf (stEnts w.params k1 k2 r al) 2) :: (al, listOf (arcs ++ [Value.ref y]).toArray (n + 1)) :: (y, instObj 113 yd) :: (yd, dictOf (arcEnts w.params j1 j2 (.ref c) .none) 2) :: rest) → Q .none { s with heap := h', toks := tk' }) :
    wpAny (model PySem.Challenge.rw_iv0024_01.row.prog w) (ktrTop dp un gd cn cs L a ccd cl outer) (call (.ref 139) [.ref b, .ref c]) Q E s := by
  (
    refine wpAny_call ?_
    k_dflt (refine' code_def ?k1 ?k2 ?k3 ?k4 ?k5 ?kA ?kF ?kK ?k6 ?k7 ?k8 ?k9 ?kB ?_ ?c2 ?c3 ?c4 ?c5; (case kA => exact rfl); (case kF => exact rfl); (case kK => first | exact rfl | assumption); (case k1 => k_asm); (case k2 => k_asm); (case k3 => k_asm); (case k4 => k_asm); (case k5 => k_asm); (case k6 => k_is); (case k7 => k_is); (case k8 => ktr_room); (case k9 => first | exact BindsTo.of_eq rfl | exact binds_K (by k_in) rfl (by k_is) rfl rfl rfl); (case c5 => decide); (case kB => exact locs rfl); (case c2 => exact rfl); (case c3 => exact rfl); (case c4 => exact rfl); k_whole; intro g' L' hh' FG F' N' B' X' T'; (try dsimp only); (try k_fold))
    k_steps
    rename _ ∧ _ ∧ _ ∧ _ => l1
    rename @LT.lt Nat _ _ _ => l2
    rename News h₀ L _ _ => kN
    rw [List.push_toArray] at kN
    exact hQ _ _ _ _ _ _ l2 (ktn_ltOf l1.2.2.2) l1.2.2.1 l1.1 l1.2.1 (by k_asm) (News.sub kN perm5))

end
section
/-- an arc object y (its fields yd) to the state nx -/
structure Arc where
  y : Nat
  yd : Nat
  nx : Nat
  j1 : Tok
  j2 : Tok
  lab : Option (Sg × Tok)
/-- a state object x (its fields xd, its list of arcs al) -/
structure St where
  x : Nat
  xd : Nat
  al : Nat
  n : Nat
  k1 : Tok
  k2 : Tok
  arcs : List Arc
noncomputable def labV : Option (Sg × Tok) → Value
  | none => .none
  | some (σ, t) => .str σ.text t
noncomputable def Arc.led (P : Params) (a : Arc) : List (Addr × Obj) := [(a.y, instObj 113 a.yd), (a.yd, dictOf (arcEnts P a.j1 a.j2 (.ref a.nx) (labV a.lab)) 2)]
noncomputable def St.lst (st : St) : List Value := st.arcs.map fun a => Value.ref a.y
noncomputable def St.led (P : Params) (r : Value) (st : St) : List (Addr × Obj) := (st.x, instObj 142 st.xd) :: (st.xd, dictOf (stEnts P st.k1 st.k2 r st.al) 2) :: (st.al, listOf st.lst.toArray st.n) :: st.arcs.flatMap (Arc.led P)
noncomputable def gled (P : Params) (r : Value) (G : List St) : List (Addr × Obj) := G.flatMap (St.led P r)
theorem gled_append {P : Params} {r : Value} {G G' : List St} : gled P r (G ++ G') = gled P r G ++ gled P r G' := by simp [gled]
theorem gled_cons {P : Params} {r : Value} {st : St} {G : List St} : gled P r (st :: G) = st.led P r ++ gled P r G := by simp [gled]
theorem gled_nil {P : Params} {r : Value} : gled P r [] = [] := rfl

/-- one more arc at the state b -/
noncomputable def addTo (b : Nat) (a : Arc) (G : List St) : List St := G.map fun st => if st.x = b then { st with arcs := st.arcs ++ [a], n := st.n + 1 } else st
theorem addTo_xs {b : Nat} {a : Arc} {G : List St} : (addTo b a G).map St.x = G.map St.x := by
  simp only [addTo, List.map_map]
  congr 1; funext st
  simp only [Function.comp]; split <;> rfl
theorem addTo_als {b : Nat} {a : Arc} {G : List St} : (addTo b a G).map St.al = G.map St.al := by
  simp only [addTo, List.map_map]
  congr 1; funext st
  simp only [Function.comp]; split <;> rfl
theorem addTo_append {b : Nat} {a : Arc} {G G' : List St} : addTo b a (G ++ G') = addTo b a G ++ addTo b a G' := by simp [addTo]
theorem addTo_out {b : Nat} {a : Arc} {G : List St} (h : b ∉ G.map St.x) : addTo b a G = G := by
  induction G with
  | nil => rfl
  | cons st G ih =>
    simp only [List.map_cons, List.mem_cons, not_or] at h
    simp only [addTo, List.map_cons, if_neg (fun e => h.1 (Eq.symm e))]
    exact congrArg _ (ih h.2)

/-- an arc from x to y -/
noncomputable def Edge (G : List St) (x y : Nat) : Prop := ∃ st ∈ G, st.x = x ∧ ∃ a ∈ st.arcs, a.nx = y
inductive Path (G : List St) (a : Nat) : Nat → Prop
  | refl : Path G a a
  | step {x y : Nat} : Path G a x → Edge G x y → Path G a y
theorem Path.mono {G G' : List St} {a x : Nat} (h : Path G a x) (k : ∀ x y, Edge G x y → Edge G' x y) : Path G' a x := by
  induction h with
  | refl => exact .refl
  | step _ e ih => exact .step ih (k _ _ e)
theorem Path.trans {G : List St} {a x y : Nat} (h : Path G a x) (k : Path G x y) : Path G a y := by
  induction k with
  | refl => exact h
  | step _ e ih => exact .step ih e
theorem edge_addTo {b : Nat} {a : Arc} {G : List St} {x y : Nat} (e : Edge G x y) : Edge (addTo b a G) x y := by
  obtain ⟨st, hs, hx, c, hc, hy⟩ := e
  refine ⟨_, List.mem_map.mpr ⟨st, hs, rfl⟩, ?_, c, ?_, hy⟩
  · split <;> exact hx
  · split
    · exact List.mem_append_left _ hc
    · exact hc
theorem edge_new {b : Nat} {a : Arc} {G : List St} (h : b ∈ G.map St.x) : Edge (addTo b a G) b a.nx := by
  obtain ⟨st, hs, rfl⟩ := List.mem_map.mp h
  refine ⟨_, List.mem_map.mpr ⟨st, hs, rfl⟩, ?_, a, ?_, rfl⟩
  · split <;> rfl
  · rw [if_pos rfl]; exact List.mem_append_right _ (.head _)
theorem edge_left {G G' : List St} {x y : Nat} (e : Edge G x y) : Edge (G ++ G') x y := let ⟨st, hs, r⟩ := e; ⟨st, List.mem_append_left _ hs, r⟩
theorem edge_right {G G' : List St} {x y : Nat} (e : Edge G' x y) : Edge (G ++ G') x y := let ⟨st, hs, r⟩ := e; ⟨st, List.mem_append_right _ hs, r⟩

noncomputable def St.labs (st : St) : List Sg := st.arcs.filterMap fun a => a.lab.map Prod.fst
noncomputable def labs (G : List St) : List Sg := G.flatMap St.labs
noncomputable def narcs (G : List St) : Nat := (G.map fun st => st.arcs.length).sum
theorem labs_append {G G' : List St} : labs (G ++ G') = labs G ++ labs G' := by simp [labs]
theorem narcs_append {G G' : List St} : narcs (G ++ G') = narcs G + narcs G' := by simp [narcs]
theorem narcs_mem {G : List St} {st : St} (h : st ∈ G) : st.arcs.length ≤ narcs G := by
  induction G with
  | nil => cases h
  | cons s' G ih =>
    simp only [narcs, List.map_cons, List.sum_cons]
    rcases List.mem_cons.mp h with rfl | h
    · kmod_is
    · have := ih h; simp only [narcs] at this; kmod_is
theorem narcs_addTo {b : Nat} {a : Arc} {G : List St} (h : (G.map St.x).Nodup) : narcs (addTo b a G) ≤ narcs G + 1 := by
  induction G with
  | nil => simp [narcs, addTo]
  | cons st G ih =>
    simp only [List.map_cons, List.nodup_cons] at h
    by_cases e : st.x = b
    · have : addTo b a G = G := addTo_out (by rw [← e]; exact h.1)
      rw [show addTo b a (st :: G) = { st with arcs := st.arcs ++ [a], n := st.n + 1 } :: addTo b a G by simp [addTo, e], this]
      simp only [narcs, List.map_cons, List.sum_cons, List.length_append, List.length_cons, List.length_nil]; kmod_is
    · have := ih h.2
      rw [show addTo b a (st :: G) = st :: addTo b a G by simp [addTo, e]]
      simp only [narcs, List.map_cons, List.sum_cons] at this ⊢; kmod_is
theorem labs_addTo_none {b : Nat} {a : Arc} {G : List St} (ha : a.lab = none) : labs (addTo b a G) = labs G := by
  induction G with
  | nil => rfl
  | cons st G ih =>
    rw [show addTo b a (st :: G) = (if st.x = b then { st with arcs := st.arcs ++ [a], n := st.n + 1 } else st) :: addTo b a G from rfl]
    simp only [labs, List.flatMap_cons] at ih ⊢
    rw [ih]
    congr 1
    split
    · simp [St.labs, ha]
    · rfl

/-- the part of the automaton that one piece of a rule made: entry a, exit z, the signs on its arcs -/
structure Piece (G : List St) (a z : Nat) (ls : List Sg) : Prop where
  xs : (G.map St.x).Nodup
  als : (G.map St.al).Nodup
  ain : a ∈ G.map St.x
  zin : z ∈ G.map St.x
  closed : ∀ st ∈ G, ∀ c ∈ st.arcs, c.nx ∈ G.map St.x
  reach : ∀ x ∈ G.map St.x, Path G a x
  labs : (labs G).Perm ls

theorem mem_addTo {b : Nat} {a : Arc} {G : List St} {st : St} (h : st ∈ addTo b a G) : ∃ s₀ ∈ G, st.x = s₀.x ∧ (∀ c ∈ st.arcs, c ∈ s₀.arcs ∨ c = a) := by
  obtain ⟨s₀, h0, rfl⟩ := List.mem_map.mp h
  refine ⟨s₀, h0, ?_, ?_⟩
  · split <;> rfl
  · intro c hc
    split at hc
    · rcases List.mem_append.mp hc with h | h
      · exact .inl h
      · exact .inr (List.mem_singleton.mp h)
    · exact .inl hc
/-- an arc without a sign inside one piece -/
theorem Piece.add {G : List St} {a z b : Nat} {ls : List Sg} {c : Arc} (h : Piece G a z ls) (hc : c.nx ∈ G.map St.x) (hl : c.lab = none) {a' z' : Nat} (ha : a' ∈ G.map St.x) (hz : z' ∈ G.map St.x)
    (hr : ∀ x ∈ G.map St.x, Path G a' x) : Piece (addTo b c G) a' z' ls := by
  refine ⟨by rw [addTo_xs]; exact h.xs, by rw [addTo_als]; exact h.als, by rw [addTo_xs]; exact ha, by rw [addTo_xs]; exact hz, ?_, ?_, ?_⟩
  · intro st hs d hd
    obtain ⟨s₀, h0, _, k⟩ := mem_addTo hs
    rw [addTo_xs]
    rcases k d hd with k | rfl
    · exact h.closed _ h0 _ k
    · exact hc
  · intro x hx
    rw [addTo_xs] at hx
    exact (hr x hx).mono fun _ _ => edge_addTo
  · rw [labs_addTo_none hl]; exact h.labs

/-- two pieces, one after the other: an arc from b's exit to the entry of the second -/
theorem Piece.seq {G G' : List St} {a z a' z' : Nat} {ls ls' : List Sg} {c : Arc} (h : Piece G a z ls) (h' : Piece G' a' z' ls') (hc : c.nx = a') (hl : c.lab = none)
    (dx : ∀ x ∈ G.map St.x, x ∉ G'.map St.x) (da : ∀ x ∈ G.map St.al, x ∉ G'.map St.al) : Piece (addTo z c (G ++ G')) a z' (ls ++ ls') := by
  have mx : (G ++ G').map St.x = G.map St.x ++ G'.map St.x := by simp
  have nx : ((G ++ G').map St.x).Nodup := by rw [mx, List.nodup_append]; exact ⟨h.xs, h'.xs, fun x hx y hy e => dx x hx (e ▸ hy)⟩
  refine ⟨by rw [addTo_xs]; exact nx, by rw [addTo_als, List.map_append, List.nodup_append]; exact ⟨h.als, h'.als, fun x hx y hy e => da x hx (e ▸ hy)⟩, ?_, ?_, ?_, ?_, ?_⟩
  · rw [addTo_xs, mx]; exact List.mem_append_left _ h.ain
  · rw [addTo_xs, mx]; exact List.mem_append_right _ h'.zin
  · intro st hs d hd
    obtain ⟨s₀, h0, _, k⟩ := mem_addTo hs
    rw [addTo_xs, mx]
    rcases k d hd with k | rfl
    · rcases List.mem_append.mp h0 with h0 | h0
      · exact List.mem_append_left _ (h.closed _ h0 _ k)
      · exact List.mem_append_right _ (h'.closed _ h0 _ k)
    · rw [hc]; exact List.mem_append_right _ h'.ain
  · intro x hx
    rw [addTo_xs, mx] at hx
    have pz : Path (addTo z c (G ++ G')) a z := (h.reach _ h.zin).mono fun _ _ e => edge_addTo (edge_left e)
    rcases List.mem_append.mp hx with hx | hx
    · exact (h.reach x hx).mono fun _ _ e => edge_addTo (edge_left e)
    · have e : Edge (addTo z c (G ++ G')) z a' := hc ▸ edge_new (by rw [mx]; exact List.mem_append_left _ h.zin)
      exact (pz.step e).trans ((h'.reach x hx).mono fun _ _ e => edge_addTo (edge_right e))
  · rw [labs_addTo_none hl, labs_append]; exact h.labs.append h'.labs

end
section
/-- states made ahead of the alternatives: the exit may still be out of reach -/
structure Pre (G : List St) (a z : Nat) (ls : List Sg) : Prop where
  xs : (G.map St.x).Nodup
  als : (G.map St.al).Nodup
  ain : a ∈ G.map St.x
  zin : z ∈ G.map St.x
  closed : ∀ st ∈ G, ∀ c ∈ st.arcs, c.nx ∈ G.map St.x
  reach : ∀ x ∈ G.map St.x, x ≠ z → Path G a x
  labs : (labs G).Perm ls
theorem Piece.pre {G : List St} {a z : Nat} {ls : List Sg} (h : Piece G a z ls) : Pre G a z ls := ⟨h.xs, h.als, h.ain, h.zin, h.closed, fun x hx _ => h.reach x hx, h.labs⟩

theorem addTo_mem_xs {b : Nat} {a : Arc} {G : List St} {x : Nat} (h : x ∈ G.map St.x) : x ∈ (addTo b a G).map St.x := by rw [addTo_xs]; exact h

/-- one more alternative -/
theorem Pre.alt {G G' : List St} {aa zz a z : Nat} {ls ls' : List Sg} {c d : Arc} (h : Pre G aa zz ls) (h' : Piece G' a z ls') (hc : c.nx = a) (hl : c.lab = none) (hd : d.nx = zz) (hl' : d.lab = none)
    (dx : ∀ x ∈ G.map St.x, x ∉ G'.map St.x) (da : ∀ x ∈ G.map St.al, x ∉ G'.map St.al) : Piece (addTo z d (addTo aa c (G ++ G'))) aa zz (ls ++ ls') := by
  have mx : (G ++ G').map St.x = G.map St.x ++ G'.map St.x := by simp
  have m2 : (addTo z d (addTo aa c (G ++ G'))).map St.x = G.map St.x ++ G'.map St.x := by rw [addTo_xs, addTo_xs, mx]
  have up : ∀ x y, Edge (G ++ G') x y → Edge (addTo z d (addTo aa c (G ++ G'))) x y := fun x y e => edge_addTo (edge_addTo e)
  have e1 : Edge (addTo z d (addTo aa c (G ++ G'))) aa a := hc ▸ edge_addTo (edge_new (by rw [mx]; exact List.mem_append_left _ h.ain))
  have e2 : Edge (addTo z d (addTo aa c (G ++ G'))) z zz := hd ▸ edge_new (by rw [addTo_xs, mx]; exact List.mem_append_right _ h'.zin)
  have pz : Path (addTo z d (addTo aa c (G ++ G'))) aa z := (Path.refl.step e1).trans ((h'.reach _ h'.zin).mono fun _ _ e => up _ _ (edge_right e))
  refine ⟨by rw [m2, List.nodup_append]; exact ⟨h.xs, h'.xs, fun x hx y hy e => dx x hx (e ▸ hy)⟩,
    by rw [addTo_als, addTo_als, List.map_append, List.nodup_append]; exact ⟨h.als, h'.als, fun x hx y hy e => da x hx (e ▸ hy)⟩, ?_, ?_, ?_, ?_, ?_⟩
  · rw [m2]; exact List.mem_append_left _ h.ain
  · rw [m2]; exact List.mem_append_left _ h.zin
  · intro st hs e he
    rw [m2]
    obtain ⟨s₀, h0, _, k⟩ := mem_addTo hs
    obtain ⟨s₁, h1, _, k₁⟩ := mem_addTo h0
    rcases k e he with k | rfl
    · rcases k₁ e k with k | rfl
      · rcases List.mem_append.mp h1 with h1 | h1
        · exact List.mem_append_left _ (h.closed _ h1 _ k)
        · exact List.mem_append_right _ (h'.closed _ h1 _ k)
      · rw [hc]; exact List.mem_append_right _ h'.ain
    · rw [hd]; exact List.mem_append_left _ h.zin
  · intro x hx
    rw [m2] at hx
    by_cases hz : x = zz
    · rw [hz]; exact pz.step e2
    rcases List.mem_append.mp hx with hx | hx
    · exact (h.reach x hx hz).mono fun _ _ e => up _ _ (edge_left e)
    · exact (Path.refl.step e1).trans ((h'.reach x hx).mono fun _ _ e => up _ _ (edge_right e))
  · rw [labs_addTo_none hl', labs_addTo_none hl, labs_append]; exact h.labs.append h'.labs

noncomputable def newSt (x xd al n : Nat) (k1 k2 : Tok) : St := ⟨x, xd, al, n, k1, k2, []⟩
theorem Pre.new {x xd al n x' xd' al' n' : Nat} {k1 k2 k1' k2' : Tok} (hx : x ≠ x') (ha : al ≠ al') : Pre [newSt x xd al n k1 k2, newSt x' xd' al' n' k1' k2'] x x' [] := by
  refine ⟨by simp [newSt, hx], by simp [newSt, ha], by simp [newSt], by simp [newSt], by simp [newSt], fun y hy hn => ?_, by simp [Mine.labs, newSt, St.labs]⟩
  simp only [newSt, List.map_cons, List.map_nil, List.mem_cons, List.not_mem_nil, or_false] at hy
  rcases hy with rfl | rfl
  · exact .refl
  · exact (hn rfl).elim
theorem Piece.atom {x xd al n x' xd' al' n' : Nat} {k1 k2 k1' k2' : Tok} {c : Arc} {σ : Sg} {t : Tok} (hx : x ≠ x') (ha : al ≠ al') (hc : c.nx = x') (hl : c.lab = some (σ, t)) :
    Piece (addTo x c [newSt x xd al n k1 k2, newSt x' xd' al' n' k1' k2']) x x' [σ] := by
  have e0 : addTo x c [newSt x xd al n k1 k2, newSt x' xd' al' n' k1' k2'] = [⟨x, xd, al, n + 1, k1, k2, [c]⟩, ⟨x', xd', al', n', k1', k2', []⟩] := by simp [addTo, newSt, Ne.symm hx]
  rw [e0]
  refine ⟨by simp [hx], by simp [ha], by simp, by simp, ?_, fun y hy => ?_, by simp [Mine.labs, St.labs, hl]⟩
  · intro st hs d hd
    simp only [List.mem_cons, List.not_mem_nil, or_false] at hs
    rcases hs with rfl | rfl
    · obtain rfl := List.mem_singleton.mp hd
      simp [hc]
    · cases hd
  · simp only [List.map_cons, List.map_nil, List.mem_cons, List.not_mem_nil, or_false] at hy
    rcases hy with rfl | rfl
    · exact .refl
    · exact Path.refl.step ⟨_, .head _, rfl, c, .head _, hc⟩

/-- all the addresses of a piece -/
noncomputable def adrs (G : List St) : List Nat := G.flatMap fun st => st.x :: st.xd :: st.al :: st.arcs.flatMap fun a => [a.y, a.yd]
theorem adrs_append {G G' : List St} : adrs (G ++ G') = adrs G ++ adrs G' := by simp [adrs]
theorem mem_arc_led {P : Params} {a : Arc} {q : Addr × Obj} (h : q ∈ a.led P) : q.1 ∈ [a.y, a.yd] := by
  simp only [Arc.led, List.mem_cons, List.not_mem_nil, or_false] at h
  rcases h with rfl | rfl <;> simp
theorem mem_st_led {P : Params} {r : Value} {st : St} {q : Addr × Obj} (h : q ∈ st.led P r) : q.1 ∈ adrs [st] := by
  simp only [St.led, List.mem_cons, List.mem_flatMap] at h
  simp only [adrs, List.flatMap_cons, List.flatMap_nil, List.append_nil, List.mem_cons, List.mem_flatMap]
  rcases h with rfl | rfl | rfl | ⟨a, ha, h⟩
  · exact .inl rfl
  · exact .inr (.inl rfl)
  · exact .inr (.inr (.inl rfl))
  · exact .inr (.inr (.inr ⟨a, ha, by simpa using mem_arc_led h⟩))
theorem mem_gled {P : Params} {r : Value} {G : List St} {q : Addr × Obj} (h : q ∈ gled P r G) : q.1 ∈ adrs G := by
  simp only [gled, List.mem_flatMap] at h
  obtain ⟨st, hs, h⟩ := h
  have := mem_st_led h
  simp only [adrs, List.flatMap_cons, List.flatMap_nil, List.append_nil] at this
  exact List.mem_flatMap.mpr ⟨st, hs, this⟩
theorem adr_x {G : List St} {x : Nat} (h : x ∈ G.map St.x) : x ∈ adrs G := by
  obtain ⟨st, hs, rfl⟩ := List.mem_map.mp h
  exact List.mem_flatMap.mpr ⟨st, hs, .head _⟩
theorem adr_al {G : List St} {x : Nat} (h : x ∈ G.map St.al) : x ∈ adrs G := by
  obtain ⟨st, hs, rfl⟩ := List.mem_map.mp h
  exact List.mem_flatMap.mpr ⟨st, hs, .tail _ (.tail _ (.head _))⟩
theorem adrs_addTo {b : Nat} {c : Arc} {G : List St} {x : Nat} (h : x ∈ adrs (addTo b c G)) : x ∈ adrs G ∨ x = c.y ∨ x = c.yd := by
  obtain ⟨st, hs, h⟩ := List.mem_flatMap.mp h
  obtain ⟨s₀, h0, rfl⟩ := List.mem_map.mp hs
  split at h
  · simp only [List.flatMap_append, List.mem_cons, List.mem_append, List.flatMap_cons, List.flatMap_nil, List.append_nil, List.not_mem_nil, or_false] at h
    rcases h with h | h | h | h | h
    · exact .inl (List.mem_flatMap.mpr ⟨s₀, h0, by rw [h]; exact .head _⟩)
    · exact .inl (List.mem_flatMap.mpr ⟨s₀, h0, by rw [h]; exact .tail _ (.head _)⟩)
    · exact .inl (List.mem_flatMap.mpr ⟨s₀, h0, by rw [h]; exact .tail _ (.tail _ (.head _))⟩)
    · exact .inl (List.mem_flatMap.mpr ⟨s₀, h0, .tail _ (.tail _ (.tail _ h))⟩)
    · exact .inr h
  · exact .inl (List.mem_flatMap.mpr ⟨s₀, h0, h⟩)

theorem addTo_at {b : Nat} {c : Arc} {G₁ G₂ : List St} {st : St} (h : st.x = b) (hn : ((G₁ ++ st :: G₂).map St.x).Nodup) :
    addTo b c (G₁ ++ st :: G₂) = G₁ ++ { st with arcs := st.arcs ++ [c], n := st.n + 1 } :: G₂ := by
  simp only [List.map_append, List.map_cons, List.nodup_append, List.nodup_cons] at hn
  rw [addTo_append, addTo_out (G := G₁) (fun hm => hn.2.2 b hm b (by rw [h]; exact .head _) rfl)]
  congr 1
  show (if st.x = b then _ else _) :: addTo b c G₂ = _
  rw [if_pos h, addTo_out (h ▸ hn.2.1.1)]

theorem dict_ne_list {es : List DictEntry} {n : Nat} {its : Array Value} {k : Nat} (e : dictOf es n = listOf its k) : False := by
  have := congrArg Obj.cls e
  injection this with h
  exact absurd h (by decide)
theorem inst_ne_list {c d : Addr} {its : Array Value} {k : Nat} (e : instObj c d = listOf its k) : False := by
  have := congrArg Obj.cls e
  cases this

theorem arc_ready {P : Params} {h₀ h : Heap} {L : Addr} {news : List (Addr × Obj)} {b cN : Nat} {G : List St} {r : Value} {keep : List (Addr × Obj)} (lb : Option (Sg × Tok))
    (N : News h₀ L h news) (hG : ∀ q ∈ gled P r G, q ∈ news) (hK : ∀ q ∈ keep, q ∈ news) (hKa : ∀ q ∈ keep, ∀ st ∈ G, q.1 ≠ st.al)
    (hxs : (G.map St.x).Nodup) (hals : (G.map St.al).Nodup) (hb : b ∈ G.map St.x) (hc : cN ∈ G.map St.x) (hna : narcs G < 1000) :
    ∃ (st sc : St) (rest : List (Addr × Obj)), st.x = b ∧ sc.x = cN ∧ News h₀ L h ((st.x, instObj 142 st.xd) :: (st.xd, dictOf (stEnts P st.k1 st.k2 r st.al) 2) :: (st.al, listOf st.lst.toArray st.n) :: rest) ∧
      (sc.x, instObj 142 sc.xd) ∈ (st.x, instObj 142 st.xd) :: (st.xd, dictOf (stEnts P st.k1 st.k2 r st.al) 2) :: (st.al, listOf st.lst.toArray st.n) :: rest ∧
      st.x ≠ st.al ∧ st.xd ≠ st.al ∧ (∀ q ∈ rest, q.1 ≠ st.al) ∧ st.lst.length < 1000 ∧
      ∀ (y yd : Nat) j1 j2 h₁ (h' : Heap) (L' : Addr), (∀ q ∈ rest, q.1 < yd) → st.x < yd →
        News h₁ L' h' ((st.x, instObj 142 st.xd) :: (st.xd, dictOf (stEnts P st.k1 st.k2 r st.al) 2) :: (st.al, listOf (st.lst ++ [Value.ref y]).toArray (st.n + 1)) :: (y, instObj 113 yd) :: (yd, dictOf (arcEnts P j1 j2 (.ref sc.x) (labV lb)) 2) :: rest) →
        (∀ q ∈ keep, q.1 < yd) ∧ (∀ x ∈ G.map St.x, x < yd) ∧ News h₁ L' h' (gled P r (addTo b ⟨y, yd, cN, j1, j2, lb⟩ G) ++ keep) := by
  obtain ⟨st, hst, hsb⟩ := List.mem_map.mp hb
  obtain ⟨sc, hsc, hscb⟩ := List.mem_map.mp hc
  obtain ⟨G₁, G₂, rfl⟩ := List.append_of_mem hst
  subst hsb hscb
  have hled : ∀ {s' : St}, s' ∈ G₁ ++ st :: G₂ → ∀ q ∈ s'.led P r, q ∈ news := fun hs q hq => hG q (List.mem_flatMap.mpr ⟨_, hs, hq⟩)
  have getS : ∀ {s' : St}, s' ∈ G₁ ++ st :: G₂ → ∀ q ∈ s'.led P r, h.get? q.1 = some q.2 := fun hs q hq => N.get (hled hs q hq)
  have hal : h.get? st.al = some (listOf st.lst.toArray st.n) := getS hst _ (.tail _ (.tail _ (.head _)))
  -- no other entry of the piece lies at the list
  have apart : ∀ {s' : St}, s' ∈ G₁ ++ st :: G₂ → s' ≠ st ∨ True → ∀ q ∈ s'.led P r, q.1 = st.al → q.1 = s'.al := by
    intro s' hs _ q hq e
    have g := getS hs q hq
    rw [e, hal] at g
    simp only [St.led, List.mem_cons, List.mem_flatMap] at hq
    rcases hq with rfl | rfl | rfl | ⟨a, ha, hq⟩
    · exact (inst_ne_list (Option.some.inj g).symm).elim
    · exact (dict_ne_list (Option.some.inj g).symm).elim
    · rfl
    · simp only [Arc.led, List.mem_cons, List.not_mem_nil, or_false] at hq
      rcases hq with rfl | rfl
      · exact (inst_ne_list (Option.some.inj g).symm).elim
      · exact (dict_ne_list (Option.some.inj g).symm).elim
  have hals' := hals
  simp only [List.map_append, List.map_cons, List.nodup_append, List.nodup_cons] at hals'
  have out : ∀ q ∈ (gled P r G₁ ++ gled P r G₂) ++ st.arcs.flatMap (Arc.led P) ++ keep, q.1 ≠ st.al := by
    intro q hq
    rcases List.mem_append.mp hq with hq | hq
    · rcases List.mem_append.mp hq with hq | hq
      · rcases List.mem_append.mp hq with hq | hq
        · obtain ⟨s', hs, hq⟩ := List.mem_flatMap.mp hq
          intro e
          have e2 := apart (List.mem_append_left _ hs) (.inr trivial) q hq e
          exact hals'.2.2 s'.al (List.mem_map.mpr ⟨s', hs, rfl⟩) st.al (.head _) (e2 ▸ e)
        · obtain ⟨s', hs, hq⟩ := List.mem_flatMap.mp hq
          intro e
          have e2 := apart (List.mem_append_right _ (.tail _ hs)) (.inr trivial) q hq e
          exact hals'.2.1.1 (List.mem_map.mpr ⟨s', hs, (e2 ▸ e : s'.al = st.al)⟩)
      · intro e
        have g := getS hst q (.tail _ (.tail _ (.tail _ hq)))
        rw [e, hal] at g
        obtain ⟨a, ha, hq⟩ := List.mem_flatMap.mp hq
        simp only [Arc.led, List.mem_cons, List.not_mem_nil, or_false] at hq
        rcases hq with rfl | rfl
        · exact (inst_ne_list (Option.some.inj g).symm).elim
        · exact (dict_ne_list (Option.some.inj g).symm).elim
    · exact hKa q hq st hst
  have e1 : st.x ≠ st.al := fun e => by
    have g := getS hst (st.x, instObj 142 st.xd) (.head _)
    rw [e, hal] at g; exact inst_ne_list (Option.some.inj g).symm
  have e2 : st.xd ≠ st.al := fun e => by
    have g := getS hst (st.xd, _) (.tail _ (.head _))
    rw [e, hal] at g; exact dict_ne_list (Option.some.inj g).symm
  have N' : News h₀ L h ((st.x, instObj 142 st.xd) :: (st.xd, dictOf (stEnts P st.k1 st.k2 r st.al) 2) :: (st.al, listOf st.lst.toArray st.n) :: ((gled P r G₁ ++ gled P r G₂) ++ st.arcs.flatMap (Arc.led P) ++ keep)) := News.sub N fun q hq => by
    rcases List.mem_cons.mp hq with rfl | hq
    · exact hled hst _ (.head _)
    rcases List.mem_cons.mp hq with rfl | hq
    · exact hled hst _ (.tail _ (.head _))
    rcases List.mem_cons.mp hq with rfl | hq
    · exact hled hst _ (.tail _ (.tail _ (.head _)))
    rcases List.mem_append.mp hq with hq | hq
    · rcases List.mem_append.mp hq with hq | hq
      · rcases List.mem_append.mp hq with hq | hq
        · obtain ⟨s', hs, hq⟩ := List.mem_flatMap.mp hq
          exact hled (List.mem_append_left _ hs) q hq
        · obtain ⟨s', hs, hq⟩ := List.mem_flatMap.mp hq
          exact hled (List.mem_append_right _ (.tail _ hs)) q hq
      · exact hled hst _ (.tail _ (.tail _ (.tail _ hq)))
    · exact hK q hq
  have hcm : (sc.x, instObj 142 sc.xd) ∈ (st.x, instObj 142 st.xd) :: (st.xd, dictOf (stEnts P st.k1 st.k2 r st.al) 2) :: (st.al, listOf st.lst.toArray st.n) :: ((gled P r G₁ ++ gled P r G₂) ++ st.arcs.flatMap (Arc.led P) ++ keep) := by
    rcases List.mem_append.mp hsc with h | h
    · exact .tail _ (.tail _ (.tail _ (List.mem_append_left _ (List.mem_append_left _ (List.mem_append_left _ (List.mem_flatMap.mpr ⟨sc, h, .head _⟩))))))
    · rcases List.mem_cons.mp h with rfl | h
      · exact .head _
      · exact .tail _ (.tail _ (.tail _ (List.mem_append_left _ (List.mem_append_left _ (List.mem_append_right _ (List.mem_flatMap.mpr ⟨sc, h, .head _⟩))))))
  have hlen : st.lst.length < 1000 := by
    have := narcs_mem hst
    simp only [St.lst, List.length_map]; kmod_is
  refine ⟨st, sc, _, rfl, rfl, N', hcm, e1, e2, out, hlen, fun y yd j1 j2 h₁ h' L' l2 l4 N'' => ⟨fun q hq => l2 q (List.mem_append_right _ hq), fun x hx => ?_, ?_⟩⟩
  · obtain ⟨s', hs, rfl⟩ := List.mem_map.mp hx
    rcases List.mem_append.mp hs with h | h
    · exact l2 (s'.x, instObj 142 s'.xd) (List.mem_append_left _ (List.mem_append_left _ (List.mem_append_left _ (List.mem_flatMap.mpr ⟨s', h, .head _⟩))))
    · rcases List.mem_cons.mp h with rfl | h
      · exact l4
      · exact l2 (s'.x, instObj 142 s'.xd) (List.mem_append_left _ (List.mem_append_left _ (List.mem_append_right _ (List.mem_flatMap.mpr ⟨s', h, .head _⟩))))
  · rw [addTo_at rfl hxs]
    refine News.sub N'' ?_
    simp only [gled_append, gled_cons, St.led, St.lst, List.map_append, List.map_cons, List.map_nil, List.flatMap_append, List.flatMap_cons, List.flatMap_nil, Arc.led, List.append_nil]
    (first | with_reducible exact subId | ((repeat' (first | with_reducible exact subId | with_reducible exact subNil | with_reducible refine subCC ?_ | with_reducible refine subCons ?_ ?_ | with_reducible refine subApp ?_ ?_)) <;> kse_small) | (intro q hq; first | (simp only [List.mem_cons, List.mem_append, hq, true_or, or_true]; done) | (simp only [List.mem_cons, List.mem_append] at hq ⊢; grind)))

theorem addArcG {w : World} {mean : ExcName → Option Value} {mg mb : Str → Option Value} {dp un : Nat} {gd : Option (List Code)} {cn : Str} {cs : Scope} {a : Addr} {ccd : Value} {cl : List (Str × Addr)} {outer : List Env} {A₀ : Around} {base h₀ : Heap} {L : Addr} {m : Str → Option Value} {s : Shared} {Q E : Value → Shared → Prop} {news : List (Addr × Obj)} {b cN : Nat} {G : List St} {r lab : Value} {keep : List (Addr × Obj)} {lb : Option (Sg × Tok)}
    (B : Below A₀ base outer h₀) (F : Fr h₀ L s.heap m) (X : (hd.heap_1 w.params).In h₀) (N : News h₀ L s.heap news) (T : Top vw (looseW vw [Str.ofString "PythonTokenTypes", Str.ofString "_tuplegetter", Str.ofString "PythonToken"]) mean mg mb h₀) (hk : cs.kind = .function)
    (hroom : dp + 10 < 600) (hun : un + 40 < 8000) (hG : ∀ q ∈ gled w.params r G, q ∈ news) (hK : ∀ q ∈ keep, q ∈ news) (hKa : ∀ q ∈ keep, ∀ st ∈ G, q.1 ≠ st.al)
    (hxs : (G.map St.x).Nodup) (hals : (G.map St.al).Nodup) (hb : b ∈ G.map St.x) (hc : cN ∈ G.map St.x) (hna : narcs G < 1000) (hlab : lab = labV lb)
    (hQ : ∀ (c : Arc) h' tk', c.nx = cN → c.lab = lb → (∀ q ∈ keep, q.1 < c.yd) → (∀ x ∈ G.map St.x, x < c.yd) → c.yd < c.y → Fr h₀ L h' m → News h₀ L h' (gled w.params r (addTo b c G) ++ keep) → Q .none { s with heap := h', toks := tk' }) :
    wpAny (model PySem.Challenge.rw_iv0024_01.row.prog w) (ktrTop dp un gd cn cs L a ccd cl outer) (call (.ref 139) [.ref b, .ref cN, lab]) Q E s := by
  subst hlab
  obtain ⟨st, sc, rest, rfl, rfl, N', hcm, e1, e2, out, hlen, fin⟩ := arc_ready lb N hG hK hKa hxs hals hb hc hna
  refine addArc (news := []) B F X N' T hk hroom hun hcm (by
    cases lb with
    | none => exact .inl rfl
    | some p => exact .inr ⟨_, _, rfl⟩) e1 e2 out hlen ?_
  intro y yd h' tk' j1 j2 l1 l2 l3 l4 l5 F' N''
  obtain ⟨f1, f2, f3⟩ := fin y yd j1 j2 _ h' _ l2 l4 N''
  exact hQ ⟨y, yd, sc.x, j1, j2, lb⟩ h' tk' rfl rfl f1 f2 l1 F' f3

theorem addArcG0 {w : World} {mean : ExcName → Option Value} {mg mb : Str → Option Value} {dp un : Nat} {gd : Option (List Code)} {cn : Str} {cs : Scope} {a : Addr} {ccd : Value} {cl : List (Str × Addr)} {outer : List Env} {A₀ : Around} {base h₀ : Heap} {L : Addr} {m : Str → Option Value} {s : Shared} {Q E : Value → Shared → Prop} {news : List (Addr × Obj)} {b cN : Nat} {G : List St} {r : Value} {keep : List (Addr × Obj)}
    (B : Below A₀ base outer h₀) (F : Fr h₀ L s.heap m) (X : (hd.heap_1 w.params).In h₀) (N : News h₀ L s.heap news) (T : Top vw (looseW vw [Str.ofString "PythonTokenTypes", Str.ofString "_tuplegetter", Str.ofString "PythonToken"]) mean mg mb h₀) (hk : cs.kind = .function)
    (hroom : dp + 10 < 600) (hun : un + 40 < 8000) (hG : ∀ q ∈ gled w.params r G, q ∈ news) (hK : ∀ q ∈ keep, q ∈ news) (hKa : ∀ q ∈ keep, ∀ st ∈ G, q.1 ≠ st.al)
    (hxs : (G.map St.x).Nodup) (hals : (G.map St.al).Nodup) (hb : b ∈ G.map St.x) (hc : cN ∈ G.map St.x) (hna : narcs G < 1000)
    (hQ : ∀ (c : Arc) h' tk', c.nx = cN → c.lab = none → (∀ q ∈ keep, q.1 < c.yd) → (∀ x ∈ G.map St.x, x < c.yd) → c.yd < c.y → Fr h₀ L h' m → News h₀ L h' (gled w.params r (addTo b c G) ++ keep) → Q .none { s with heap := h', toks := tk' }) :
    wpAny (model PySem.Challenge.rw_iv0024_01.row.prog w) (ktrTop dp un gd cn cs L a ccd cl outer) (call (.ref 139) [.ref b, .ref cN]) Q E s := by
  skip
  obtain ⟨st, sc, rest, rfl, rfl, N', hcm, e1, e2, out, hlen, fin⟩ := arc_ready none N hG hK hKa hxs hals hb hc hna
  refine addArc0 (news := []) B F X N' T hk hroom hun hcm e1 e2 out hlen ?_
  intro y yd h' tk' j1 j2 l1 l2 l3 l4 l5 F' N''
  obtain ⟨f1, f2, f3⟩ := fin y yd j1 j2 _ h' _ l2 l4 N''
  exact hQ ⟨y, yd, sc.x, j1, j2, none⟩ h' tk' rfl rfl f1 f2 l1 F' f3

/-- a state's first entries in front -/
theorem News.expo {P : Params} {h₀ h : Heap} {L : Addr} {r : Value} {G : List St} {st : St} {l : List (Addr × Obj)} (N : News h₀ L h l) (hst : st ∈ G) (k : ∀ q ∈ gled P r G, q ∈ l) :
    News h₀ L h ((st.x, instObj 142 st.xd) :: (st.xd, dictOf (stEnts P st.k1 st.k2 r st.al) 2) :: l) := News.sub N fun q hq => by
  rcases List.mem_cons.mp hq with rfl | hq
  · exact k _ (List.mem_flatMap.mpr ⟨st, hst, .head _⟩)
  rcases List.mem_cons.mp hq with rfl | hq
  · exact k _ (List.mem_flatMap.mpr ⟨st, hst, .tail _ (.head _)⟩)
  exact hq

end
section
theorem fillL (w : World) (h : Heap) : (hd.heap_1 w.params).In h → PySem.Challenge.rw_iv0024_01.row.prog = PySem.Challenge.rw_iv0024_01.row.prog := by w_top off; k_fill; intro _; rfl

/-- the text ends with its end sign, and has no other -/
noncomputable def Ends : List Sg → Prop
  | [] => False
  | [σ] => σ = .em
  | σ :: τ :: l => σ ≠ .em ∧ Ends (τ :: l)
noncomputable def opens (l : List Sg) : Nat := l.countP fun σ => σ = .lp || σ = .lb
theorem Ends.tail {σ : Sg} {l : List Sg} (h : Ends (σ :: l)) (hn : σ ≠ .em) : l ≠ [] ∧ Ends l := by
  cases l with
  | nil => exact (hn h).elim
  | cons τ l => exact ⟨by simp, h.2⟩
theorem opens_le {σ : Sg} {l : List Sg} : opens l ≤ opens (σ :: l) := by
  unfold opens
  rw [List.countP_cons]; exact Nat.le_add_right _ _

noncomputable abbrev PR := List Sg → Option (List Sg × List Sg)
noncomputable def isName (σ : Sg) : Bool := σ.ty = 58 || σ.ty = 52
noncomputable def starts (l : List Sg) : Bool := match l with
  | [] => false
  | σ :: _ => isName σ || σ = .lp || σ = .lb
noncomputable def closeF (τ : Sg) : Option (List Sg × List Sg) → Option (List Sg × List Sg)
  | some (ls, σ :: l) => if σ = τ then some (ls, l) else none
  | _ => none
noncomputable def atomF (R : PR) : PR
  | [] => none
  | σ :: l => if σ = .lp then closeF .rp (R l) else if isName σ then some ([σ], l) else none
noncomputable def suffF : Option (List Sg × List Sg) → Option (List Sg × List Sg)
  | some (ls, σ :: l) => if σ = .pl ∨ σ = .st then some (ls, l) else some (ls, σ :: l)
  | r => r
noncomputable def itemF (R : PR) : PR
  | [] => none
  | σ :: l => if σ = .lb then closeF .rb (R l) else suffF (atomF R (σ :: l))
noncomputable def itemsF (R : PR) : Nat → PR
  | 0, _ => none
  | n + 1, l => match itemF R l with
    | none => none
    | some (ls, l') => if starts l' then (itemsF R n l').map (fun x => (ls ++ x.1, x.2)) else some (ls, l')
noncomputable def altsF (R : PR) : Nat → PR
  | 0, _ => none
  | n + 1, l => match itemsF R l.length l with
    | none => none
    | some (ls, []) => some (ls, [])
    | some (ls, σ :: l') => if σ = .ba then (altsF R n l').map (fun x => (ls ++ x.1, x.2)) else some (ls, σ :: l')
noncomputable def rhsF : Nat → PR
  | 0 => fun _ => none
  | n + 1 => fun l => altsF (rhsF n) l.length l

/-- what is left is a good text, and shorter -/
noncomputable def Cuts (R : PR) : Prop := ∀ l ls l', Ends l → R l = some (ls, l') → Ends l' ∧ l'.length < l.length ∧ opens l' ≤ opens l
theorem close_cuts {R : PR} (h : Cuts R) {σ τ : Sg} {l ls l'} (hσ : σ ≠ .em) (hτ : τ ≠ .em) (e : Ends (σ :: l)) (k : closeF τ (R l) = some (ls, l')) : Ends l' ∧ l'.length < (σ :: l).length ∧ opens l' ≤ opens (σ :: l) := by
  obtain ⟨_, e1⟩ := e.tail hσ
  cases hr : R l with
  | none => rw [hr] at k; cases k
  | some x =>
    obtain ⟨ls₁, l₁⟩ := x
    rw [hr] at k
    cases l₁ with
    | nil => cases k
    | cons ρ l₁ =>
      simp only [closeF] at k
      split at k
      · rename_i hc
        cases k
        obtain ⟨a, b, c⟩ := h _ _ _ e1 hr
        have := (a.tail (by rw [hc]; exact hτ)).2
        have o1 := opens_le (σ := ρ) (l := l')
        have o2 := opens_le (σ := σ) (l := l)
        simp only [List.length_cons] at b ⊢
        exact ⟨this, by kmod_is, by kmod_is⟩
      · cases k
theorem isName_ne {σ : Sg} (h : isName σ = true) : σ ≠ .em := by rintro rfl; exact absurd h (by decide)
theorem atom_cuts {R : PR} (h : Cuts R) : Cuts (atomF R) := by
  intro l ls l' e k
  cases l with
  | nil => exact e.elim
  | cons σ l =>
    simp only [atomF] at k
    split at k
    · rename_i hc
      exact close_cuts h (by rw [hc]; decide) (by decide) e k
    · split at k
      · rename_i hn
        cases k
        exact ⟨(e.tail (isName_ne hn)).2, by simp, opens_le⟩
      · cases k
theorem item_cuts {R : PR} (h : Cuts R) : Cuts (itemF R) := by
  intro l ls l' e k
  cases l with
  | nil => exact e.elim
  | cons σ l =>
    simp only [itemF] at k
    split at k
    · rename_i hc
      exact close_cuts h (by rw [hc]; decide) (by decide) e k
    · cases ha : atomF R (σ :: l) with
      | none => rw [ha] at k; cases k
      | some x =>
        obtain ⟨ls₁, l₁⟩ := x
        obtain ⟨a, b, c⟩ := atom_cuts h _ _ _ e ha
        rw [ha] at k
        cases l₁ with
        | nil => exact a.elim
        | cons ρ l₁ =>
          simp only [suffF] at k
          split at k
          · rename_i hc
            cases k
            have := (a.tail (by rcases hc with rfl | rfl <;> decide)).2
            have o1 := opens_le (σ := ρ) (l := l')
            simp only [List.length_cons] at b ⊢
            exact ⟨this, by kmod_is, by kmod_is⟩
          · cases k
            exact ⟨a, b, c⟩
theorem items_cuts {R : PR} (h : Cuts R) : ∀ n, Cuts (itemsF R n)
  | 0 => fun _ _ _ _ k => by cases k
  | n + 1 => fun l ls l' e k => by
    simp only [itemsF] at k
    cases hi : itemF R l with
    | none => rw [hi] at k; cases k
    | some x =>
      obtain ⟨ls₁, l₁⟩ := x
      obtain ⟨a, b, c⟩ := item_cuts h _ _ _ e hi
      rw [hi] at k
      dsimp only at k
      split at k
      · cases hn : itemsF R n l₁ with
        | none => rw [hn] at k; cases k
        | some y =>
          obtain ⟨ls₂, l₂⟩ := y
          rw [hn] at k
          simp only [Option.map_some, Option.some.injEq, Prod.mk.injEq] at k
          obtain ⟨rfl, rfl⟩ := k
          obtain ⟨a', b', c'⟩ := items_cuts h n _ _ _ a hn
          exact ⟨a', by kmod_is, by kmod_is⟩
      · cases k
        exact ⟨a, b, c⟩
theorem alts_cuts {R : PR} (h : Cuts R) : ∀ n, Cuts (altsF R n)
  | 0 => fun _ _ _ _ k => by cases k
  | n + 1 => fun l ls l' e k => by
    simp only [altsF] at k
    cases hi : itemsF R l.length l with
    | none => rw [hi] at k; cases k
    | some x =>
      obtain ⟨ls₁, l₁⟩ := x
      obtain ⟨a, b, c⟩ := items_cuts h _ _ _ _ e hi
      rw [hi] at k
      cases l₁ with
      | nil => exact a.elim
      | cons ρ l₁ =>
        dsimp only at k
        split at k
        · rename_i hc
          have a₁ := (a.tail (by rw [hc]; decide)).2
          have o1 := opens_le (σ := ρ) (l := l₁)
          cases hn : altsF R n l₁ with
          | none => rw [hn] at k; cases k
          | some y =>
            obtain ⟨ls₂, l₂⟩ := y
            rw [hn] at k
            simp only [Option.map_some, Option.some.injEq, Prod.mk.injEq] at k
            obtain ⟨rfl, rfl⟩ := k
            obtain ⟨a', b', c'⟩ := alts_cuts h n _ _ _ a₁ hn
            simp only [List.length_cons] at b
            exact ⟨a', by kmod_is, by kmod_is⟩
        · cases k
          exact ⟨a, b, c⟩
theorem rhs_cuts : ∀ n, Cuts (rhsF n)
  | 0 => fun _ _ _ _ k => by cases k
  | n + 1 => fun l => alts_cuts (rhs_cuts n) l.length l

/-- a stop of the walk -/
noncomputable def Stop (P : Prop) : Prop := P
theorem Stop.of {P : Prop} (h : Stop P) : P := h

theorem gettokenG {w : World} {mean : ExcName → Option Value} {mg mb : Str → Option Value} {dp un : Nat} {gd : Option (List Code)} {cn : Str} {cs : Scope} {a : Addr} {ccd : Value} {cl : List (Str × Addr)} {outer : List Env} {A₀ : Around} {base h₀ : Heap} {L : Addr} {m : Str → Option Value} {s : Shared} {Q E : Value → Shared → Prop} {news kept : List (Addr × Obj)} {p pd : Nat} {q : PS} {rest : List (Addr × Obj)} {σ : Sg} {l : List Sg}
    (B : Below A₀ base outer h₀) (F : Fr h₀ L s.heap m) (X : (hd.heap_1 w.params).In h₀) (N : News h₀ L s.heap news) (T : Top vw (looseW vw [Str.ofString "PythonTokenTypes", Str.ofString "_tuplegetter", Str.ofString "PythonToken"]) mean mg mb h₀) (hk : cs.kind = .function)
    (hroom : dp + 3 < 1000) (hp : (p, instObj 220 pd) ∈ news) (hpd : (pd, q.obj w.params) ∈ news) (hrest : ∀ q ∈ rest, q ∈ news)
    (hne : pd < p) (hr : ∀ p ∈ rest, p.1 ≠ pd) (hkp : Kept kept rest) (hat : At kept q (σ :: l)) (hl : l ≠ [])
    (hQ : ∀ h' tk' q', Fr h₀ L h' m → News h₀ L h' ((p, instObj 220 pd) :: (pd, PS.obj w.params q') :: rest) → Moves kept q (σ :: l) q' l → q'.rule = q.rule → Q .none { s with heap := h', toks := tk' }) :
    wpAny (model PySem.Challenge.rw_iv0024_01.row.prog w) (ktrTop dp un gd cn cs L a ccd cl outer) (call (.ref 210) [.ref p]) Q E s := by
  cases l with
  | nil => exact (hl rfl).elim
  | cons σ' l =>
    exact gettoken2 (news := []) B F X (News.sub N fun x hx => by
      rcases List.mem_cons.mp hx with rfl | hx
      · exact hp
      rcases List.mem_cons.mp hx with rfl | hx
      · exact hpd
      exact hrest x hx) T hk hroom hne hr hkp hat hQ

noncomputable abbrev tupObj (vs : List Value) (n : Nat) : Obj := { cls := .type "tuple", data := .seq vs.toArray n }
theorem raise_errorG {w : World} {mean : ExcName → Option Value} {mg mb : Str → Option Value} {dp un : Nat} {gd : Option (List Code)} {cn : Str} {cs : Scope} {a : Addr} {ccd : Value} {cl : List (Str × Addr)} {outer : List Env} {A₀ : Around} {base h₀ : Heap} {L : Addr} {m : Str → Option Value} {s : Shared} {Q E : Value → Shared → Prop} {news kept : List (Addr × Obj)} {p pd : Nat} {q : PS} {x : Str} {tm : Tok} {l : List Sg}
    (B : Below A₀ base outer h₀) (F : Fr h₀ L s.heap m) (X : (hd.heap_1 w.params).In h₀) (N : News h₀ L s.heap news) (T : Top vw (looseW vw [Str.ofString "PythonTokenTypes", Str.ofString "_tuplegetter", Str.ofString "PythonToken"]) mean mg mb h₀) (hk : cs.kind = .function)
    (hroom : dp + 3 < 600) (hun : un + 20 < 8000) (hp : (p, instObj 220 pd) ∈ news) (hpd : (pd, q.obj w.params) ∈ news) (hkp : Kept kept news) (hat : At kept q l)
    (hE : ∀ g e h' tk', Fr h₀ L g m → g.UpToSlots h' → SynFly kept base (envX cn cs L a ccd cl :: outer) e h' → E (.ref e) { s with heap := h', toks := tk' }) :
    wpAny (model PySem.Challenge.rw_iv0024_01.row.prog w) (ktrTop dp un gd cn cs L a ccd cl outer) (call (.ref 217) [.ref p, .str x tm]) Q E s :=
  raise_error2 (news := []) (rest := kept) B F X (News.sub N fun x hx => by
      rcases List.mem_cons.mp hx with rfl | hx
      · exact hp
      rcases List.mem_cons.mp hx with rfl | hx
      · exact hpd
      · exact hkp x hx) T hk hroom hun (fun _ h => h) hat hE
theorem expectG {w : World} {mean : ExcName → Option Value} {mg mb : Str → Option Value} {dp un : Nat} {gd : Option (List Code)} {cn : Str} {cs : Scope} {a : Addr} {ccd : Value} {cl : List (Str × Addr)} {outer : List Env} {A₀ : Around} {base h₀ : Heap} {L : Addr} {m : Str → Option Value} {s : Shared} {Q E : Value → Shared → Prop} {news kept : List (Addr × Obj)} {p pd ty : Nat} {q : PS} {x : Str} {tx : Tok} {rest : List (Addr × Obj)} {σ : Sg} {l : List Sg} {rl : Value}
    (B : Below A₀ base outer h₀) (F : Fr h₀ L s.heap m) (X : (hd.heap_1 w.params).In h₀) (N : News h₀ L s.heap news) (T : Top vw (looseW vw [Str.ofString "PythonTokenTypes", Str.ofString "_tuplegetter", Str.ofString "PythonToken"]) mean mg mb h₀) (hk : cs.kind = .function)
    (hroom : dp + 10 < 600) (hun : un + 40 < 8000) (hp : (p, instObj 220 pd) ∈ news) (hpd : (pd, q.obj w.params) ∈ news) (hrest : ∀ q ∈ rest, q ∈ news)
    (hne : pd < p) (hr : ∀ p ∈ rest, p.1 ≠ pd) (hkp : Kept kept rest) (hat : At kept q (σ :: l)) (hem : l = [] → σ.ty ≠ ty) (hty : IsTy ty) (hrule : q.rule = some rl)
    (hQ : ∀ h' tk' q' tv, σ.ty = ty → σ.text = x → Fr h₀ L h' m → News h₀ L h' ((p, instObj 220 pd) :: (pd, PS.obj w.params q') :: rest) → Moves kept q (σ :: l) q' l → q'.rule = q.rule → Q (.str σ.text tv) { s with heap := h', toks := tk' })
    (hE : ∀ g e h' tk', ¬ (σ.ty = ty ∧ σ.text = x) → Fr h₀ L g m → g.UpToSlots h' → SynFly kept base (envX cn cs L a ccd cl :: outer) e h' → E (.ref e) { s with heap := h', toks := tk' }) :
    wpAny (model PySem.Challenge.rw_iv0024_01.row.prog w) (ktrTop dp un gd cn cs L a ccd cl outer) (call (.ref 203) [.ref p, .ref ty, .str x tx]) Q E s :=
  expectW (news := []) B F X (News.sub N fun x hx => by
      rcases List.mem_cons.mp hx with rfl | hx
      · exact hp
      rcases List.mem_cons.mp hx with rfl | hx
      · exact hpd
      exact hrest x hx) T hk hroom hun hne hr hkp hat hem hty hrule hQ hE
theorem expectG1 {w : World} {mean : ExcName → Option Value} {mg mb : Str → Option Value} {dp un : Nat} {gd : Option (List Code)} {cn : Str} {cs : Scope} {a : Addr} {ccd : Value} {cl : List (Str × Addr)} {outer : List Env} {A₀ : Around} {base h₀ : Heap} {L : Addr} {m : Str → Option Value} {s : Shared} {Q E : Value → Shared → Prop} {news kept : List (Addr × Obj)} {p pd ty : Nat} {q : PS} {rest : List (Addr × Obj)} {σ : Sg} {l : List Sg}
    (B : Below A₀ base outer h₀) (F : Fr h₀ L s.heap m) (X : (hd.heap_1 w.params).In h₀) (N : News h₀ L s.heap news) (T : Top vw (looseW vw [Str.ofString "PythonTokenTypes", Str.ofString "_tuplegetter", Str.ofString "PythonToken"]) mean mg mb h₀) (hk : cs.kind = .function)
    (hroom : dp + 10 < 600) (hun : un + 40 < 8000) (hp : (p, instObj 220 pd) ∈ news) (hpd : (pd, q.obj w.params) ∈ news) (hrest : ∀ q ∈ rest, q ∈ news)
    (hne : pd < p) (hr : ∀ p ∈ rest, p.1 ≠ pd) (hkp : Kept kept rest) (hat : At kept q (σ :: l)) (hem : l = [] → σ.ty ≠ ty) (hty : IsTy ty)
    (hQ : ∀ h' tk' q' tv, σ.ty = ty → Fr h₀ L h' m → News h₀ L h' ((p, instObj 220 pd) :: (pd, PS.obj w.params q') :: rest) → Moves kept q (σ :: l) q' l → q'.rule = q.rule → Q (.str σ.text tv) { s with heap := h', toks := tk' })
    (hE : ∀ g e h' tk', ¬ (σ.ty = ty) → Fr h₀ L g m → g.UpToSlots h' → SynFly kept base (envX cn cs L a ccd cl :: outer) e h' → E (.ref e) { s with heap := h', toks := tk' }) :
    wpAny (model PySem.Challenge.rw_iv0024_01.row.prog w) (ktrTop dp un gd cn cs L a ccd cl outer) (call (.ref 203) [.ref p, .ref ty]) Q E s :=
  expectW1 (news := []) B F X (News.sub N fun x hx => by
      rcases List.mem_cons.mp hx with rfl | hx
      · exact hp
      rcases List.mem_cons.mp hx with rfl | hx
      · exact hpd
      exact hrest x hx) T hk hroom hun hne hr hkp hat hem hty hQ hE
theorem Stop.go {P : Prop} (h : P) : Stop P := h
theorem Ends.single {σ : Sg} {l : List Sg} (h : Ends (σ :: l)) {ty : Nat} (hty : ty ≠ 88) : l = [] → σ.ty ≠ ty := by
  rintro rfl e
  cases h
  exact hty e.symm

/-- the contract of a part of the parser -/
noncomputable def PartC (f : Addr) (R : PR) (dd uu aa n : Nat) : Prop := ∀ {w : World} {mean : ExcName → Option Value} {mg mb : Str → Option Value} {dp un : Nat} {gd : Option (List Code)} {cn : Str} {cs : Scope} {a : Addr} {ccd : Value} {cl : List (Str × Addr)} {outer : List Env} {A₀ : Around} {base h₀ : Heap} {L : Addr} {m : Str → Option Value} {s : Shared} {Q E : Value → Shared → Prop} {kept : List (Addr × Obj)} {p pd : Nat} {q : PS} {rest : List (Addr × Obj)} {l : List Sg} {rx : Str} {rt : Tok},
  Below A₀ base outer h₀ → Fr h₀ L s.heap m → (hd.heap_1 w.params).In h₀ → News h₀ L s.heap ((p, instObj 220 pd) :: (pd, q.obj w.params) :: rest) → Top vw (looseW vw [Str.ofString "PythonTokenTypes", Str.ofString "_tuplegetter", Str.ofString "PythonToken"]) mean mg mb h₀ → cs.kind = .function →
  dp + 12 * opens l + dd < 600 → un + 100 * opens l + uu < 8000 → pd < p → (∀ q ∈ rest, q.1 ≠ pd) → At kept q l → Ends l → l.length < n ∧ l.length < 300 → q.rule = some (.str rx rt) → Kept kept rest →
  (∀ (G : List St) (x z : Nat) (ls l' : List Sg) (q' : PS) (t : Nat) (nt : Nat) h' tk', R l = some (ls, l') → Piece G x z ls → narcs G + aa + 3 * l'.length ≤ 3 * l.length →
    (∀ y ∈ adrs G, p < y ∧ pd < y ∧ ∀ q ∈ rest, q.1 < y) → Fr h₀ L h' m → News h₀ L h' ((t, tupObj [.ref x, .ref z] nt) :: (p, instObj 220 pd) :: (pd, q'.obj w.params) :: (gled w.params (.str rx rt) G ++ rest)) →
    Moves kept q l q' l' → q'.rule = q.rule → Q (.ref t) { s with heap := h', toks := tk' }) →
  (∀ g e h' tk', R l = none → Fr h₀ L g m → g.UpToSlots h' → SynFly kept base (envX cn cs L a ccd cl :: outer) e h' → E (.ref e) { s with heap := h', toks := tk' }) →
  wpAny (model PySem.Challenge.rw_iv0024_01.row.prog w) (ktrTop dp un gd cn cs L a ccd cl outer) (call (.ref f) [.ref p]) Q E s
/- the counts -/
section
variable {x y g a j L L' L2 n d o c : Nat}
theorem rS (h : d + c * (o + 1) + a < n) : d + c * o + (c + a) < n := by rw [Nat.mul_succ] at h; omega
theorem nrA (hn : x ≤ g + 1) (h : g + 0 + 3 * (L' + 1) ≤ 3 * L) : x + 2 + 3 * L' ≤ 3 * (L + 1) := by kmod_is
theorem nrB (hn : x ≤ g + 1) (h : g + 2 + 3 * (L' + 1) ≤ 3 * L) : x + 2 + 3 * L' ≤ 3 * L := by kmod_is
theorem nrC (hn : x ≤ g + 1) (h : g = 0) : x + 2 + 3 * L ≤ 3 * (L + 1) := by kmod_is
theorem nrS (h : g + j + 3 * L' ≤ 3 * L) (hl : L < 300) : g < 900 := by kmod_is
theorem nrS2 (h : g + 2 + 3 * L' ≤ 3 * L) (h' : a + 2 + 3 * L2 ≤ 3 * L') (hl : L < 300) : g + a < 900 := by kmod_is
theorem nrD {z : Nat} (h6 : x ≤ y + 1) (h5 : y ≤ g + 1) (h : g + 2 + z ≤ L) : x + 0 + z ≤ L := by kmod_is
theorem nrE (h6 : x ≤ y + 1) (h5 : y ≤ g + 1) (h : g + 2 + 3 * (L' + 1) ≤ 3 * (L + 1)) (h' : a + 2 + 3 * L2 ≤ 3 * L') : x + a + 2 + 3 * L2 ≤ 3 * (L + 1) := by kmod_is
theorem nrF (h5 : x ≤ g + a + 1) (h : g + 2 + 3 * L' ≤ 3 * L) (h' : a + 2 + 3 * L2 ≤ 3 * L') : x + 2 + 3 * L2 ≤ 3 * L := by kmod_is
theorem lt1000 (h : g < 900) : g < 1000 := Nat.lt_trans h (by decide)
theorem lt1000' (h : x ≤ g + 1) (h' : g < 900) : x < 1000 := Nat.lt_of_le_of_lt h (Nat.lt_of_le_of_lt h' (by decide))
theorem predK (h : L + 1 ≤ x) : x = x - 1 + 1 := (Nat.sub_add_cancel (Nat.le_trans (Nat.succ_le_succ (Nat.zero_le _)) h)).symm
end
theorem low_two {x xd al n x' xd' al' n' y : Nat} {k1 k2 k1' k2' : Tok} (h : xd < x) (h' : x < al) (k : xd' < x') (k' : x' < al') (b : al < xd') (hy : y ∈ adrs [newSt x xd al n k1 k2, newSt x' xd' al' n' k1' k2']) : xd ≤ y := by
  simp only [adrs, newSt, List.flatMap_cons, List.flatMap_nil, List.mem_append, List.mem_cons, List.not_mem_nil, or_false] at hy
  omega

end
section
open PySem.W.X
section
variable {prog : Program} {w : World} {A : Around} {c : Code} {fs : List Frame} {P : End → Shared → Prop} {s : Shared} {env : Env}
  {K : Flow → Sem Fin} {H : Value → Sem Fin} {gd : Bool → Bool} {lv : List Value → List Value}

theorem sx_wrap {α : Type} {m : Sem α} {K : α → Sem Fin} {H : Value → Sem Fin} {gd lv} (h : wpAny (model prog w) (A.over c fs) m (fun a s' => SegX (model prog w) A c (K a) fs s' P) (fun x s' => SegX (model prog w) A c (H x) fs s' P) s) :
    SegX (model prog w) A c (m.wrap K H gd lv) fs s P := by
  rintro Γ p rfl hΓ
  obtain ⟨e, s', hr, hq⟩ := runs_wrap_of_wp (Φ := fun e s' => e.quiet = true ∧ P e s') K H gd lv m (h (Γ.over fs) p (hΓ.over fs)) (fun a p' s' h' => h' Γ p' rfl hΓ) (fun x p' s' h' => h' Γ p' rfl hΓ)
  exact ⟨e, s', hr, hq⟩
theorem sx_at {p' : Pos} {k : Unit → Sem Fin} (h : SegX (model prog w) A c (k ()) fs s P) : SegX (model prog w) A c (.at p' k) fs s P :=
  sx_wrap (m := standAt p') (K := k) (H := .raise) (gd := id) (lv := id) (wpAny_standAt h)
theorem sx_point {l : List Value} {k : Unit → Sem Fin} (h : SegX (model prog w) A c (k ()) fs s P) : SegX (model prog w) A c (.point l k) fs s P :=
  sx_wrap (m := point) (K := k) (H := .raise) (gd := id) (lv := fun _ => l) (wpAny_point h)
theorem sx_cons {st : Stmt} {rest : List Stmt}
    (h : SegX (model prog w) A c ((exec st env).wrap (fun f => match f with | .next => (execs rest env).wrap K H gd lv | f => K f) H gd lv) fs s P) :
    SegX (model prog w) A c ((execs (st :: rest) env).wrap K H gd lv) fs s P := by rw [execs_cons_wrap]; exact h
theorem sx_yield {e : PySem.Expr} {ypos pos : Pos} (hfs : splitAtGen fs = none) (hgd : gd false = false) (hfg : fs.any Frame.guarded = false)
    (h : wpAny (model prog w) (A.over c fs) (eval e env) (fun v s' => ∀ l kk p, kk (.send .none) = K .next → P (.susp v false l kk c p fs) s')
      (fun x s' => SegX (model prog w) A c (H x) fs s' P) s) (hco : env.scope.isCoroutine = false := by rfl) (hi : interactive env = false := by rfl) :
    SegX (model prog w) A c ((exec (.Expr (.Yield (some e) ypos) pos) env).wrap K H gd lv) fs s P := by
  rw [exec_Expr env _ pos hi rfl]
  show SegX (model prog w) A c (.at pos fun _ => ((eval e env >>= fun v => (standAt ypos >>= fun _ => yieldOut env v)) >>= fun x =>
    dropValue (.Yield (some e) ypos) pos x).wrap K H gd lv) fs s P
  have hy : ∀ v, yieldOut env v = yieldValue v := fun v => by simp only [yieldOut, hco, Bool.false_eq_true, if_false]
  simp only [hy]
  refine sx_at ?_
  rw [Sem.bind_eq_wrap', Sem.bind_eq_wrap', Sem.wrap_wrap, Sem.wrap_wrap]
  refine sx_wrap (wpAny_mono h (fun v s' h' => ?_) fun _ _ x => x)
  refine sx_at ?_
  show SegX (model prog w) A c (.yield v (gd false) _ _) fs s' P
  rw [hgd]
  exact s_yield prog w A c fs P s' v _ _ hfs hfg fun p => h' _ _ _ rfl
theorem sx_While {test : PySem.Expr} {body orelse : List Stmt} {pos : Pos}
    (h : ∀ p, SegX (model prog w) A (.whileLoop test body orelse env) (denote table (.whileLoop test body orelse env))
      (.ret (fun r => ((match r with | .ok f => (.pure f : Sem Flow) | .error e => .raise e).onRaise fun (x : Value) => do
        if (← field x 1) == Value.none then unsupported "frame.own-activation:exception-without-traceback"
        setFlight x env.frame).wrap K H gd lv) none (gd false) (lv []) c p [] :: fs) s P) :
    SegX (model prog w) A c ((exec (.While test body orelse pos) env).wrap K H gd lv) fs s P :=
  sx_at (s_call prog w A c fs P s _ _ _ _ _ h)
end

section
variable {prog : Program} {w : World} {A : Around} {fs : List Frame} {P : End → Shared → Prop} {s : Shared} {env : Env}
theorem sx_whileLoop {test : PySem.Expr} {body orelse : List Stmt}
    (h : wpAny (model prog w) (A.over (.whileLoop test body orelse env) fs) (isTrue test env (eval test env)) (fun b s' =>
        if b = true then
          SegX (model prog w) A (.whileLoop test body orelse env) ((execs body env).wrap (fun f => match f with
            | .next | .cont => .pure (.again (.whileLoop test body orelse env))
            | .brk => .pure (.done .next)
            | .ret v => .pure (.done (.ret v))) (fun e => (do noteFrame e env; theTreesLotGoes e : Sem Unit).wrap (fun _ => .raise e) .raise id id) id id) fs s' P
        else SegX (model prog w) A (.whileLoop test body orelse env) ((execs orelse env).wrap (fun f => .pure (.done f)) (fun e => (do noteFrame e env; theTreesLotGoes e : Sem Unit).wrap (fun _ => .raise e) .raise id id) id id) fs s' P)
      (fun x s' => SegX (model prog w) A (.whileLoop test body orelse env) ((do noteFrame x env; theTreesLotGoes x : Sem Unit).wrap (fun _ => .raise x) .raise id id) fs s' P) s) :
    SegX (model prog w) A (.whileLoop test body orelse env) (denote table (.whileLoop test body orelse env)) fs s P := by
  show SegX _ A _ ((whileTurn test body orelse env).onRaise (fun x => do noteFrame x env; theTreesLotGoes x)) fs s P
  unfold whileTurn
  rw [Sem.onRaise_eq_wrap, Sem.bind_eq_wrap', Sem.wrap_wrap]
  refine sx_wrap (wpAny_mono h (fun b s' hb => ?_) fun x s' hx => ?_)
  · cases b with
    | true =>
      rw [if_pos rfl] at hb
      show SegX _ A _ (Sem.wrap _ _ _ _ (if true = true then _ else _)) fs s' P
      rw [if_pos rfl, Sem.bind_eq_wrap', Sem.wrap_wrap]
      rw [Sem.wrap_congr (execs body env) _ _ (K' := fun f => match f with
            | .next | .cont => .pure (.again (.whileLoop test body orelse env))
            | .brk => .pure (.done .next)
            | .ret v => .pure (.done (.ret v))) (H' := (fun e => (do noteFrame e env; theTreesLotGoes e : Sem Unit).wrap (fun _ => .raise e) .raise id id))
        (fun f => by cases f <;> rfl)
        (fun e => by first | exact Sem.bind_eq_wrap _ _ | (show (do noteFrame e env; theTreesLotGoes e : Sem Unit).bind (fun _ => .raise e) = _; rw [Sem.bind_eq_wrap]))]
      exact hb
    | false =>
      rw [if_neg Bool.false_ne_true] at hb
      show SegX _ A _ (Sem.wrap _ _ _ _ (if false = true then _ else _)) fs s' P
      rw [if_neg Bool.false_ne_true, Sem.bind_eq_wrap', Sem.wrap_wrap]
      rw [Sem.wrap_congr (execs orelse env) _ _ (K' := fun f => (.pure (.done f) : Sem Fin)) (H' := (fun e => (do noteFrame e env; theTreesLotGoes e : Sem Unit).wrap (fun _ => .raise e) .raise id id))
        (fun f => by rfl)
        (fun e => by first | exact Sem.bind_eq_wrap _ _ | (show (do noteFrame e env; theTreesLotGoes e : Sem Unit).bind (fun _ => .raise e) = _; rw [Sem.bind_eq_wrap]))]
      exact hb
  · first
      | (rw [← Sem.bind_eq_wrap] at hx; exact hx)
      | (show SegX _ A _ ((do noteFrame x env; theTreesLotGoes x : Sem Unit).bind fun _ => .raise x) fs s' P; rw [Sem.bind_eq_wrap]; exact hx)
theorem sx_func {body : List Stmt}
    (h : SegX (model prog w) A (.func body env) ((execs body env).wrap (fun f => .pure (.done (.ret (match f with | .ret v => v | _ => .none))))
      (fun e => (leaving env e).wrap (fun _ => .raise e) .raise id id) id id) fs s P) :
    SegX (model prog w) A (.func body env) (denote table (.func body env)) fs s P := by
  show SegX _ A _ (.point [] fun _ => ((execs body env).onRaise (leaving env)) >>= _) fs s P
  refine sx_point ?_
  rw [Sem.onRaise_eq_wrap, Sem.bind_eq_wrap', Sem.wrap_wrap]
  rw [Sem.wrap_congr (execs body env) _ _ (K' := fun f => .pure (.done (.ret (match f with | .ret v => v | _ => .none))))
    (H' := fun e => (leaving env e).wrap (fun _ => .raise e) .raise id id) (fun f => by cases f <;> rfl)
    (fun e => by rw [Sem.bind_eq_wrap, Sem.wrap_wrap]; rfl)]
  exact h

/-- the frame that the loop of a generator's body returns to -/
noncomputable abbrev loopFs (body : List Stmt) (env : Env) (p : Pos) : List Frame :=
  [.ret (fun r => ((match r with | .ok f => (.pure f : Sem Flow) | .error e => .raise e).onRaise fun (x : Value) => do
        if (← field x 1) == Value.none then unsupported "frame.own-activation:exception-without-traceback"
        setFlight x env.frame).wrap (fun (f : Flow) => match f with | .next => (execs [] env).wrap (fun (f : Flow) => .pure (.done (.ret (match f with | .ret v => v | _ => .none)))) (fun e => (leaving env e).wrap (fun _ => .raise e) .raise id id) id id | f => .pure (.done (.ret (match (f : Flow) with | .ret v => v | _ => .none)))) (fun e => (leaving env e).wrap (fun _ => .raise e) .raise id id) id id) none false [] (.func body env) p []]

theorem sx_done {body : List Stmt} {c : Code} {p : Pos} (h : P (.ret (.ok (.ret .none))) s) : SegX (model prog w) A c (.pure (.done .next)) (loopFs body env p) s P :=
  s_pop prog w A c [] P s (.ok Flow.next) _ rfl _ _ _ _ _ _ _ (s_end prog w A _ P s (.ok (Flow.ret .none)) _ rfl h)

noncomputable def SynHeld (base : Heap) (l : List Env) (e L : Addr) (h : Heap) : Prop := ∃ t vs, (∃ B, base.StaysIn B ∧ Heap.HeldW B l e (.type "SyntaxError") (.ref t) L h ∧ B.get? t = none) ∧ h.TupAt t vs

theorem came_held {M : Model} {A : Around} {E : Value → Shared → Prop} {Q : Unit → Shared → Prop} {base : Heap} {l : List Env} {e L : Addr} {cls a0 : Value} (hf : env.frame = some L) (hh : Heap.HeldW base l e cls a0 L s.heap)
    (hQ : ∀ h', Heap.HeldW base l e cls a0 L h' → s.heap.UpToSlots h' → Q () { s with heap := h' }) :
    wpAny M A (do if (← field (.ref e) 1) == Value.none then unsupported "frame.own-activation:exception-without-traceback"
                  setFlight (.ref e) env.frame : Sem Unit) Q E s := by
  obtain ⟨f1, f2, hl, oe, vs, T, oT, ts, he, hcls, hd, h1, hnT, hTe, hT, hdT, h3⟩ := hh
  refine wpAny_bind (wpAny_field he hd h1 ?_)
  rw [if_neg (show ¬ ((Value.ref T == Value.none) = true) from by simp)]
  have hsz3 : 3 < ts.size := (Array.getElem?_eq_some_iff.mp h3).1
  rw [hf]
  have other : ∀ b, b ≠ T → (s.heap.update T (Obj.mapFields (·.setIfInBounds 3 ((some L : Option Addr).elim Value.none fun f => rawInt f)))).get? b = s.heap.get? b :=
    fun b hb => Heap.get?_update_other _ _ (Ne.symm hb)
  have noRecord : ∀ b o, s.heap.get? b = some o → (∀ vs, o.data ≠ .fields vs) → b ≠ T := fun b o hb hnf q => by
    rw [q, hT] at hb; injection hb with hb; subst hb; exact hnf ts hdT
  unfold setFlight
  refine wpAny_bind (wpAny_field he hd h1 ?_)
  rw [if_pos (show (Value.ref T != Value.none) = true from by simp)]
  refine wpAny_setField hT hdT hsz3 (hQ _ ⟨fun b o hbo => (other b fun q => by rw [q, hnT] at hbo; cases hbo).trans (f1 b o hbo), f2,
    hl.of_keeps fun b o hb hnf => ⟨o, (other b (noRecord b o hb hnf)).trans hb, rfl⟩, oe, vs, T, _, _, (other e (Ne.symm hTe)).trans he, hcls, hd, h1, hnT, hTe, Heap.get?_update_self _ hT (Obj.isFreed_of_fields (Obj.data_mapFields hdT _)), Obj.data_mapFields hdT _, by simp [hsz3]⟩
    fun b o hb hn => ⟨o.slots, (other b (noRecord b o hb hn)).trans hb⟩)

theorem leaves_heldS {M : Model} {A : Around} {E : Value → Shared → Prop} {Q : Unit → Shared → Prop} {base : Heap} {env : Env} {outer : List Env} {L e : Addr} {cls a0 : Value} {s : Shared} (hf : env.frame = some L)
    (hh : Heap.HeldW base (env :: outer) e cls a0 L s.heap) (hQ : ∀ h', Heap.FlyingW base outer e cls a0 h' → s.heap.UpToSlots h' → Q () { s with heap := h' }) : wpAny M A (leaving env (.ref e)) Q E s := by
  unfold leaving
  refine wpAny_bind (wpAny_noteFrame_againW hf hh.2.2.2 ?_)
  refine wpAny_landsW hh fun h' hfl sm => ?_
  obtain ⟨k1, k2, ⟨_, _, k3⟩, k4⟩ := hfl
  exact hQ h' ⟨k1, k2, k3, k4⟩ sm
theorem sx_raise {kept : List (Addr × Obj)} {body : List Stmt} {test : PySem.Expr} {lb : List Stmt} {p : Pos} {base : Heap} {outer : List Env} {L e : Addr} (hA : A.frames = some outer) (hf : env.frame = some L) (R : SynFly kept base (env :: outer) e s.heap)
    (h : ∀ h', SynFly kept base outer e h' → s.heap.UpToSlots h' → P (.ret (.error (.ref e))) { s with heap := h' }) (hbe : (Code.func body env).envs = [env] := by rfl) (hwe : (Code.whileLoop test lb [] env).envs = [] := by rfl) :
    SegX (model prog w) A (.whileLoop test lb [] env) ((do noteFrame (.ref e) env; theTreesLotGoes (.ref e) : Sem Unit).wrap (fun _ => .raise (.ref e)) .raise id id) (loopFs body env p) s P := by
  obtain ⟨t, vs, ⟨B, hB, hkl, hfl, hnew⟩, htup⟩ := R
  have fr1 : (A.over (.whileLoop test lb [] env) (loopFs body env p)).frames = some (env :: outer) := by
    simp only [Around.over, hwe, hA, List.map_cons, List.map_nil, Frame.where_, envsOf_cons, hbe]
    simp [envsOf, pushEnvs]
  have fr2 : (A.over (.func body env) []).frames = some (env :: outer) := by
    simp only [Around.over, hbe, hA, List.map_nil]
    simp [envsOf, pushEnvs]
  refine sx_wrap (wpAny_bind (wpAny_looks_onW fr1 hf hfl fun h₁ hh₁ sm₁ => wpAny_theTreesLotGoes ?_))
  refine s_pop prog w A _ [] P _ (.error (.ref e)) _ rfl _ _ _ _ _ _ _ ?_
  show SegX _ A _ (Sem.wrap _ _ _ _ (((do if (← field (.ref e) 1) == Value.none then unsupported "frame.own-activation:exception-without-traceback"
                                           setFlight (.ref e) env.frame : Sem Unit)).bind fun _ => .raise (.ref e))) [] _ P
  rw [Sem.bind_eq_wrap, Sem.wrap_wrap]
  refine sx_wrap ?_
  refine wpAny_mono (came_held (s := { s with heap := h₁ }) hf hh₁ fun h₂ hh₂ sm₂ => ?_) (fun _ _ x => x) fun _ _ x => x
  refine sx_wrap (m := leaving env (.ref e)) (K := fun _ => .raise (.ref e)) (H := .raise) (gd := id) (lv := id) ?_
  refine leaves_heldS (s := { s with heap := h₂ }) hf hh₂ fun h₃ hfl₃ sm₃ => ?_
  exact s_end prog w A _ P _ (.error (.ref e)) _ rfl (h h₃ ⟨t, vs, ⟨B, hB, hkl, hfl₃, hnew⟩, ((htup.of_slots sm₁).of_slots sm₂).of_slots sm₃⟩ ((sm₁.trans sm₂).trans sm₃))
end

end
section
open PySem.W.X
theorem fillR (w : World) (h : Heap) : (hd.heap_1 w.params).In h → PySem.Challenge.rw_iv0024_01.row.prog = PySem.Challenge.rw_iv0024_01.row.prog := by w_top off; k_fill; intro _; rfl

/-- a generator's object -/
noncomputable abbrev genObj (n : Nat) (name qual : Str) (t1 t2 : Tok) : Obj := { cls := .type "generator", data := .fields #[.int (n : Int) 0, .str name t1, .str qual t2] }

section
variable {prog : Program} {w : World} {A A₀ : Around} {E : Value → Shared → Prop} {s : Shared} {K : Frag} {L : Addr} {h₀ base : Heap} {m mg mb : Str → Option Value} {news : List (Addr × Obj)} {p : Program} {loose : List Str} {mean : ExcName → Option Value}
theorem gen_def {env : Env} {outer : List Env} {R : Result → Shared → Prop} {name qual : Str} {params : Arguments} {body : List Stmt} {scope : Scope} {dV kV doc pm cdv ct oc : Value} {an od : Option Addr} {osl : Array (Option Value)} {f : Addr} {args : Args} {binds : List (Str × Value)}
    (B : Below A₀ base outer h₀) (F : Fr h₀ L s.heap m) (X₀ : K.In h₀) (N : News h₀ L s.heap news) (T : Top p loose mean mg mb h₀) (hA : A.frames = some (env :: outer)) (hf : env.frame = some L) (hke : env.scope.kind = .function)
    (ho : K.lookup f = some ⟨oc, od, .func (fnOf name qual params body scope dV kV doc pm an cdv ct), osl⟩) (hcd : codeIn K cdv qual = true) (hroom : A.depth < recursionLimit)
    (hbind : BindsTo s (fnOf name qual params body scope dV kV doc pm an cdv ct) args binds) (hloc : ∀ y ∈ binds, scope.names.lookup y.1 = some .local)
    (h : ∀ g L' h₁ tk gv t1 t2, Fr h₀ L g m → Fr g L' h₁ (fun y => binds.reverse.lookup y) → News g L' h₁ ((gv, genObj s.gens.size name qual t1 t2) :: news) → (∀ q ∈ news, q.1 < gv) → Below A base (env :: outer) g → K.In g → Top p loose mean mg mb g →
      LeaveK h₀ L m g R (.ref gv) { s with heap := h₁, toks := tk, gens := s.gens.push (.fresh (.func body (envOf qual scope L' f cdv))) })
    (hco : scope.isCoroutine = false) (hgen : scope.isGenerator = true) (hk : scope.kind = .function)
    (hcell : ∀ x ∈ scope.names, x.2 ≠ .cell) : codeAny (model prog w) A (.call (.ref f) args) R s := by
  obtain ⟨FG, BG, st, lv⟩ := groundX (R := R) B F N hA hf hke
  refine codeAny_call_generator (fd := fnOf name qual params body scope dV kV doc pm an cdv ct) (body := body) hroom ((X₀.keeps F.keep) _ _ ho) rfl hco hgen rfl (codeRec_of (X₀.keeps F.keep) hcd) (hbind _ _ _ _ ?_)
  refine wpAny_newFunctionEnv hcell hloc (fun h₁ hns hsb => ⟨(T.nolimit.keeps F.keep).fresh _ hsb, ?_⟩) hk
  have hk₁ : ∀ b o, s.heap.get? b = some o → h₁.get? b = some o := fun b o e => hsb.extBut b o (Nat.ne_of_lt (Heap.lt_size e)) (Heap.get?_push_of_some _ e)
  have F₁ : Fr (hideAll s.heap (news.map (·.1))) s.heap.objs.size h₁ (fun y => binds.reverse.lookup y) := ⟨hns, fun b o e => hk₁ b o (of_hideAll _ e), Nat.le_of_eq (hideAll_size _ _)⟩
  have N₁ : News (hideAll s.heap (news.map (·.1))) s.heap.objs.size h₁ news := fun p hp => ⟨hk₁ _ _ (N p hp).1, Nat.ne_of_lt (Heap.lt_size (N p hp).1), hideAll_none _ (List.mem_map_of_mem hp)⟩
  have hlt : s.heap.objs.size < h₁.objs.size := by
    obtain ⟨o, _, _, ho, _⟩ := hns
    exact Heap.lt_size ho
  refine lv _ _ (h _ s.heap.objs.size _ _ h₁.objs.size (s.toks + binds.length) (s.toks + binds.length + 1) FG ?_ ?_ (fun q hq => Nat.lt_trans (Heap.lt_size (N q hq).1) hlt) BG (X₀.keeps st) (T.keeps st))
  · exact F₁.push _
  · refine fun q hq => ?_
    rcases List.mem_cons.mp hq with rfl | hq
    · refine ⟨Heap.get?_push_size _ rfl, (Nat.ne_of_gt hlt), ?_⟩
      cases e : (hideAll s.heap (news.map (·.1))).get? h₁.objs.size with
      | none => rfl
      | some o => exact absurd (Heap.lt_size (of_hideAll _ e)) (Nat.not_lt.mpr (Nat.le_of_lt hlt))
    · obtain ⟨a1, a2, a3⟩ := N₁ q hq
      exact ⟨Heap.get?_push_of_some _ a1, a2, a3⟩
end

/-- one row of the grammar's text -/
noncomputable def skipNl : List Sg → List Sg
  | .nl :: l => skipNl l
  | l => l
noncomputable def rowG : List Sg → Option (Sg × List Sg × List Sg)
  | σ :: τ :: l1 => if σ.ty = 58 ∧ τ = .co then (match rhsF 300 l1 with
    | some (ls, ρ :: l') => if ρ = .nl then some (σ, ls, l') else none
    | _ => none) else none
  | _ => none
noncomputable def rowF (l : List Sg) : Option (Sg × List Sg × List Sg) := rowG (skipNl l)

/-- a piece with not too many arcs -/
structure PieceB (G : List St) (a z : Nat) (ls : List Sg) : Prop extends Piece G a z ls where
  small : narcs G < 1000
/-- the names of the generator's body -/
noncomputable abbrev gfm (p : Nat) (ca cz : Option Value) : Str → Option Value := fun y => if y = Str.ofString "z" then cz else if y = Str.ofString "a" then ca else if y = Str.ofString "self" then some (.ref p) else none
noncomputable def RuleOk (q : PS) : Prop := q.rule = none ∨ ∃ rx rt, q.rule = some (.str rx rt)

inductive WakeRow (P : Params) (g : Heap) (L' p pd : Nat) (wk : List Sg → GenState → Prop) (rest kept : List (Addr × Obj)) (σ : Sg) (ls l' : List Sg) (s : Shared) (e : End) (s₁ : Shared) : Prop
  | mk (t nt : Nat) (h1 : Heap) (tk1 : Tok) (q1 : PS) (G : List St) (x z : Nat) (rt : Tok) (ca cz : Option Value) (x0 : e.result = .yielded (.ref t)) (x1 : wk l' e.genState) (x2 : s₁ = { s with heap := h1, toks := tk1 }) (x3 : Fr g L' h1 (gfm p ca cz)) (x4 : News g L' h1 ((t, tupObj [.ref x, .ref z] nt) :: (p, instObj 220 pd) :: (pd, PS.obj P q1) :: (gled P (.str σ.text rt) G ++ rest))) (x5 : PieceB G x z ls) (x6 : (∀ y ∈ adrs G, p < y ∧ pd < y ∧ ∀ q ∈ rest, q.1 < y)) (x7 : pd < t) (x8 : (∀ q ∈ gled P (.str σ.text rt) G ++ rest, q.1 < t)) (x9 : At kept q1 l') (x10 : RuleOk q1) : WakeRow P g L' p pd wk rest kept σ ls l' s e s₁
/-- what a waking of the parser's generator at the signs l leads to -/
noncomputable def WakeEnd (w : World) (base g : Heap) (fr : List Env) (L' p pd : Nat) (wk : List Sg → GenState → Prop) (l : List Sg) (s : Shared) (rest kept : List (Addr × Obj)) (e : End) (s₁ : Shared) : Prop :=
  if l.head? = some .em then e = .ret (.ok (.ret .none)) ∧ ∃ h1 tk1 q1 ca cz, s₁ = { s with heap := h1, toks := tk1 } ∧ Fr g L' h1 (gfm p ca cz) ∧ News g L' h1 ((p, instObj 220 pd) :: (pd, PS.obj w.params q1) :: rest)
  else match rowF l with
  | none => ∃ x h1 tk1, e = .ret (.error (.ref x)) ∧ s₁ = { s with heap := h1, toks := tk1 } ∧ SynFly kept base fr x h1 ∧ g.UpToSlots h1
  | some (σ, ls, l') => WakeRow w.params g L' p pd wk rest kept σ ls l' s e s₁

noncomputable def Wake (w : World) (base g : Heap) (A : Around) (fr : List Env) (L' p pd : Nat) : Nat → List Sg → GenState → Prop
  | 0, _, _ => False
  | n + 1, l, gs => ∃ c₀ t₀ fs₀, ((gs = .fresh c₀ ∧ t₀ = denote table c₀ ∧ fs₀ = []) ∨ (∃ k₀ l₀ p₀ cl, gs = .suspended k₀ l₀ c₀ p₀ fs₀ cl ∧ t₀ = k₀ (.send .none))) ∧
    ∀ (s : Shared) (q : PS) (rest kept : List (Addr × Obj)) (ca cz : Option Value), Fr g L' s.heap (gfm p ca cz) → News g L' s.heap ((p, instObj 220 pd) :: (pd, q.obj w.params) :: rest) → (∀ x ∈ rest, x.1 ≠ pd) → At kept q l → RuleOk q → Kept kept rest →
      SegX (model PySem.Challenge.rw_iv0024_01.row.prog w) A c₀ t₀ fs₀ s (WakeEnd w base g fr L' p pd (Wake w base g A fr L' p pd n) l s rest kept)

/-- the loop's segment -/
noncomputable def LoopAt (w : World) (base g : Heap) (A : Around) (fr : List Env) (L' p pd : Nat) (test : PySem.Expr) (lb body : List Stmt) (env : Env) (n : Nat) (l : List Sg) : Prop :=
  ∀ (s : Shared) (q : PS) (rest kept : List (Addr × Obj)) (ca cz : Option Value) (p₀ : Pos), Fr g L' s.heap (gfm p ca cz) → News g L' s.heap ((p, instObj 220 pd) :: (pd, q.obj w.params) :: rest) → (∀ x ∈ rest, x.1 ≠ pd) → At kept q l → RuleOk q → Kept kept rest →
    SegX (model PySem.Challenge.rw_iv0024_01.row.prog w) A (.whileLoop test lb [] env) (denote table (.whileLoop test lb [] env)) (loopFs body env p₀) s (WakeEnd w base g fr L' p pd (Wake w base g A fr L' p pd n) l s rest kept)

theorem wake_of_loop {w : World} {base g : Heap} {A : Around} {fr : List Env} {L' p pd : Nat} {test : PySem.Expr} {lb : List Stmt} {env : Env} {pos : Pos} (n : Nat) (l : List Sg)
    (h : LoopAt w base g A fr L' p pd test lb [.While test lb [] pos] env n l) : Wake w base g A fr L' p pd (n + 1) l (.fresh (.func [.While test lb [] pos] env)) := by
  refine ⟨_, _, _, .inl ⟨rfl, rfl, rfl⟩, fun s q rest kept ca cz F N hr hat hru hkp => ?_⟩
  refine sx_func (sx_cons (sx_While fun p₀ => ?_))
  exact h s q rest kept ca cz p₀ F N hr hat hru hkp

theorem wpAny_upF {α : Type} {M : Model} {B : Around} {t : Sem α} {Q : α → Shared → Prop} {E : Value → Shared → Prop} {s : Shared} {A : Around}
    (h : wpAny M B t Q E s) (hh : A.handled = B.handled) (hd : A.depth ≤ B.depth) (hf : A.frames = B.frames) (hg : B.guards = none) (hu : A.units ≤ B.units) : wpAny M A t Q E s :=
  fun Γ p hΓ => h Γ p ⟨hΓ.1.trans hh, Nat.le_trans hΓ.2.1 hd, (fun l hl => hΓ.2.2.1 l (hf.trans hl)), (fun l hg' => by rw [hg] at hg'; cases hg'), Nat.le_trans hΓ.2.2.2.2 hu⟩

end
section
theorem fillW (w : World) (h : Heap) : (hd.heap_1 w.params).In h → PySem.Challenge.rw_iv0024_01.row.prog = PySem.Challenge.rw_iv0024_01.row.prog := by w_top off; k_fill; intro _; rfl
local macro_rules | `(tactic| walk_at "last subscriptTail") => tac "here ; wp subscriptTail _ _ ( Value.ref _ ) ( Value.int _ _ ) ; un { by listItem_N ?N ?l ?a ?b ?x ? ?z ; N=asm ; l=memT ; a=lt ; b=lt ; x=ass ; z=wrfl ; whole }"
local macro_rules | `(tactic| walk_at "assign Tuple") => tac "here ; wp assign ( Expr.Tuple _ _ _ ) _ ( Value.ref _ ) ; df { by tok_unpack ?F ?X ?N ?t ?h ?n ?st ? ; F=asm ; X=asm ; N=asm ; t! News.get [asm] [memT] ; h=rfl ; n=rfl ; st=rfl ; whole } ; intro:h',F',N' ; sweep"
local macro_rules | `(tactic| ktr_room) => tac "z3 ; dso ; roomx"
local macro_rules | `(tactic| k_room) => tac "z3 ; dso ; roomx"
local macro_rules | `(tactic| ktr_units) => tac "z6 ; dso ; roomx"
local macro_rules | `(tactic| k_all) => tac "ass | z7 | z8"
set_option maxRecDepth 100000 in
set_option maxHeartbeats 8000000 in
theorem mkParser {w : World} {mean : ExcName → Option Value} {mg mb : Str → Option Value} {dp un : Nat} {gd : Option (List Code)} {cn : Str} {cs : Scope} {a : Addr} {ccd : Value} {cl : List (Str × Addr)} {outer : List Env} {A₀ : Around} {base h₀ : Heap} {L : Addr} {m : Str → Option Value} {s : Shared} {Q E : Value → Shared → Prop} {news kept : List (Addr × Obj)} {tl nl : Nat} {toks : List Value} {tga : Tok} {σ : Sg} {l : List Sg} {rest : List (Addr × Obj)}
    (B : Below A₀ base outer h₀) (F : Fr h₀ L s.heap m) (X : (hd.heap_1 w.params).In h₀) (N : News h₀ L s.heap rest) (T : Top vw (looseW vw [Str.ofString "PythonTokenTypes", Str.ofString "_tuplegetter", Str.ofString "PythonToken"]) mean mg mb h₀) (hk : cs.kind = .function)
    (hroom : dp + 10 < 600) (hun : un + 40 < 8000) (hkp : Kept kept rest) (hl : (tl, listOf toks.toArray nl) ∈ kept) (hlen : toks.length < 1000000) (htok : ∀ j σ', (σ :: l)[j]? = some σ' → TokIs kept toks j σ')
    (hQ : ∀ (p pd : Nat) h' tk' q, pd < p → (∀ x ∈ rest, x.1 < pd) → Fr h₀ L h' m → News h₀ L h' ((p, instObj 220 pd) :: (pd, PS.obj w.params q) :: rest) → At kept q (σ :: l) → q.rule = none → Q (.ref p) { s with heap := h', toks := tk' }) :
    wpAny (model PySem.Challenge.rw_iv0024_01.row.prog w) (ktrTop dp un gd cn cs L a ccd cl outer) (call (.ref 220) [.str (Str.ofString "a") tga, .ref tl]) Q E s := by
  have hl' : (tl, listOf toks.toArray nl) ∈ rest := hkp _ hl
  obtain ⟨t, b, pf, n, nb, tk0, t1, t2, c, ht1, ht2, ht3⟩ := htok 0 σ rfl
  have ht2' := hkp _ ht2
  have hx : toks[(0 : Int).toNat]? = some (.ref t) := ht1
  k_dflt (refine' call_cls ?k1 ?k2 ?k3 ?k4 ?k5 ?k6 ?_; (case k1 => k_asm); (case k2 => k_asm); (case k3 => k_asm); (case k4 => k_is); (case k5 => k_is); (case k6 => k_is); k_whole; intro x dx h1 F1 N1 l1 l2)
  replace l2 := ltN l2
  clear F N
  k_dflt (refine' code_def ?k1 ?k2 ?k3 ?k4 ?k5 ?kA ?kF ?kK ?k6 ?k7 ?k8 ?k9 ?kB ?_ ?c2 ?c3 ?c4 ?c5; (case kA => exact rfl); (case kF => exact rfl); (case kK => first | exact rfl | assumption); (case k1 => k_asm); (case k2 => k_asm); (case k3 => k_asm); (case k4 => k_asm); (case k5 => k_asm); (case k6 => k_is); (case k7 => k_is); (case k8 => ktr_room); (case k9 => first | exact BindsTo.of_eq rfl | exact binds_K (by k_in) rfl (by k_is) rfl rfl rfl); (case c5 => decide); (case kB => exact locs rfl); (case c2 => exact rfl); (case c3 => exact rfl); (case c4 => exact rfl); k_whole; intro g' L' hh' FG F' N' B' X' T'; (try dsimp only); (try k_fold))
  k_steps
  rename News h₀ L _ _ => kN
  refine hQ x dx _ _ ⟨fun i => if i = 0 then _ else if i = 1 then _ else if i = 2 then _ else if i = 3 then _ else if i = 4 then _ else _, .str (Str.ofString "a") tga, tl, 1, _, .ref σ.ty, .str σ.text tk0, .ref b, none⟩ l2 l1 (by k_asm) kN ?_ rfl
  refine ⟨toks, nl, ⟨rfl, ⟨_, rfl⟩, b, t1, t2, c, nb, rfl, ht3⟩, ⟨_, rfl⟩, by show (1 : Nat) < 1000000; kmod_is, hl, hlen, fun j σ' e => ?_⟩
  have := htok (j + 1) σ' (by simpa using e)
  show TokIs kept toks (1 + j) σ'
  rw [Nat.add_comm]; exact this

end
section
local macro_rules | `(tactic| ktr_room) => tac "z3 ; dso ; roomx"
local macro_rules | `(tactic| k_room) => tac "room"
local macro_rules | `(tactic| ktr_units) => tac "z6 ; dso ; roomx"
local macro_rules | `(tactic| size_fits) => tac "by fitsMap ?h ?e ; h=rass ; e=rfl | by fitsL ?h ?e ; h=rass ; e=rfl"
local macro_rules | `(tactic| k_all) => tac "ass"
local macro_rules | `(tactic| walk_at "compareOp NotEq ref ref") => tac "here ; df { by neTy ?F ?X ?a ?b ?u ? ; F=asm ; X=asm ; a=ty3 ; b=ty3 ; u=units ; whole }"
local macro_rules | `(tactic| walk_at "compareOp Eq ref ref") => tac "here ; df { by eqTy ?F ?X ?a ?b ?u ? ; F=asm ; X=asm ; a=ty3 ; b=ty3 ; u=units ; whole }"
local macro_rules | `(tactic| walk_at "compareOp In ref ref") => tac "here ; df { by inTy ?F ?X ?N ?hm ?a ?b ?c ?u ? ; F=asm ; X=asm ; N=asm ; hm=mem ; a=ty ; b=isty ; c=isty ; u=units ; whole }"
local macro_rules | `(tactic| walk_at "call ref") => tac "here ; df { sh call ( Value.ref 174 ) _ _ ; stop | sh call ( Value.ref 181 ) _ _ ; stop | sh call ( Value.ref 188 ) _ _ ; stop | sh call ( Value.ref 195 ) _ _ ; stop | sh call ( Value.ref 139 ) _ _ ; stop | sh call ( Value.ref 203 ) _ _ ; stop | sh call ( Value.ref 210 ) _ _ ; stop | sh call ( Value.ref 142 ) _ _ ; stop | by raise_errorG ?B ?F ?X ?N ?T ?k ?r ?u ?hp ?hpd ?kp ?tt ? ; B=asm ; F=asm ; X=asm ; N=asm ; kp! Kept.up [ass] [sub] ; hp=mem ; hpd=mem ; T=asm ; k=rfl ; tt=ass ; r=room ; u=units ; whole ; intro:g,e,h',tk',FG,U',R' }"
local macro_rules | `(tactic| walk_at "exec While") => tac "here ; stop"
local macro_rules | `(tactic| walk_at "exec While BoolOp") => tac "here ; stop"
local macro_rules | `(tactic| walk_at "exec While Compare") => tac "here ; stop"
local macro_rules | `(tactic| walk_at "exec While Constant") => tac "here ; stop"
local macro_rules | `(tactic| walk_at "leaving ref") => tac "here ; by leave_onS ?k1 ?k2 ?k3 ?k4 ? ; k3=ass ; k1=ass ; k4=ass ; k2=ass ; whole ; intro:h',R',U' ; ds:R',U'"
section

theorem fillM (w : World) (h : Heap) : (hd.heap_1 w.params).In h → PySem.Challenge.rw_iv0024_01.row.prog = PySem.Challenge.rw_iv0024_01.row.prog := by w_top off; k_fill; intro _; rfl

theorem lp_of {σ : Sg} (h : (σ.text == Str.ofString "(") = true) : σ = .lp := by revert h; generalize σ = τ; revert τ; refine sgAll ?_; decide +kernel
theorem not_lp {σ : Sg} (h : (σ.text == Str.ofString "(") = false) : σ ≠ .lp := by rintro rfl; revert h; decide
theorem rp_of {σ : Sg} (h : σ.text = Str.ofString ")") : σ = .rp := by revert h; generalize σ = τ; revert τ; refine sgAll ?_; decide +kernel
theorem ne_gled {P : Params} {r : Value} {G : List St} {rest : List (Addr × Obj)} {pd : Nat} (h : ∀ y ∈ adrs G, pd < y) (hr : ∀ q ∈ rest, q.1 ≠ pd) : ∀ q ∈ gled P r G ++ rest, q.1 ≠ pd :=
  fun x hx => (List.mem_append.mp hx).elim (fun hg => Nat.ne_of_gt (h _ (mem_gled hg))) (hr x)
theorem gled_two {P : Params} {r : Value} {x xd al n x' xd' al' n' : Nat} {k1 k2 k1' k2' : Tok} : gled P r [newSt x xd al n k1 k2, newSt x' xd' al' n' k1' k2'] =
  [(x, instObj 142 xd), (xd, dictOf (stEnts P k1 k2 r al) 2), (al, listOf #[] n), (x', instObj 142 xd'), (xd', dictOf (stEnts P k1' k2' r al') 2), (al', listOf #[] n')] := rfl
theorem keepBelow {keep : List (Addr × Obj)} {lo : Nat} {G : List St} (h : ∀ q ∈ keep, q.1 < lo) (k : ∀ st ∈ G, lo ≤ st.al) : ∀ q ∈ keep, ∀ st ∈ G, q.1 ≠ st.al := fun q hq st hs => Nat.ne_of_lt (Nat.lt_of_lt_of_le (h q hq) (k st hs))
theorem keepO {rest : List (Addr × Obj)} {G : List St} {p pd : Nat} {o1 o2 : Obj} (O : ∀ y ∈ adrs G, p < y ∧ pd < y ∧ ∀ q ∈ rest, q.1 < y) : ∀ q ∈ (p, o1) :: (pd, o2) :: rest, ∀ st ∈ G, q.1 ≠ st.al := fun q hq st hs => by
  have o := O st.al (adr_al (List.mem_map.mpr ⟨st, hs, rfl⟩))
  rcases List.mem_cons.mp hq with rfl | hq
  · exact Nat.ne_of_lt o.1
  rcases List.mem_cons.mp hq with rfl | hq
  · exact Nat.ne_of_lt o.2.1
  · exact Nat.ne_of_lt (o.2.2 q hq)
theorem addO {rest : List (Addr × Obj)} {G : List St} {p pd b : Nat} {o1 o2 : Obj} {c : Arc} (O : ∀ y ∈ adrs G, p < y ∧ pd < y ∧ ∀ q ∈ rest, q.1 < y) (e : ∀ q ∈ (p, o1) :: (pd, o2) :: rest, q.1 < c.yd) (e' : c.yd < c.y) :
    ∀ y ∈ adrs (addTo b c G), p < y ∧ pd < y ∧ ∀ q ∈ rest, q.1 < y := fun y hy => by
  have k : p < c.yd ∧ pd < c.yd ∧ ∀ q ∈ rest, q.1 < c.yd := ⟨e _ (.head _), e _ (.tail _ (.head _)), fun q hq => e q (.tail _ (.tail _ hq))⟩
  rcases adrs_addTo hy with h | rfl | rfl
  · exact O y h
  · exact ⟨Nat.lt_trans k.1 e', Nat.lt_trans k.2.1 e', fun q hq => Nat.lt_trans (k.2.2 q hq) e'⟩
  · exact k
theorem isName_of {σ : Sg} (h : 58 = σ.ty ∨ 52 = σ.ty) : isName σ = true := by
  simp only [isName, Bool.or_eq_true, decide_eq_true_eq]
  rcases h with h | h
  · exact .inl h.symm
  · exact .inr h.symm
theorem not_isName {σ : Sg} (h : ¬ (58 = σ.ty ∨ 52 = σ.ty)) : isName σ = false := by
  cases e : isName σ
  · rfl
  · simp only [isName, Bool.or_eq_true, decide_eq_true_eq] at e
    exact (h (e.elim (fun h => .inl h.symm) fun h => .inr h.symm)).elim
set_option maxRecDepth 100000 in
set_option maxHeartbeats 8000000 in
theorem atomC {R : PR} {n : Nat} (hR : PartC 174 R 30 300 0 n) (cut : Cuts R) : PartC 195 (atomF R) 27 270 2 (n + 1) := by
  intro w mean mg mb dp un gd cn cs a ccd cl outer A₀ base h₀ L m s Q E kept p pd q rest l rx rt B F X N T hk hroom hun hne hr hat hend hlen hrule hkp hQ hE
  cases l with
  | nil => exact hat.nil.elim
  | cons σ l =>
  obtain ⟨tg', gv, tl, pl, tkp, tk0, bv⟩ := At.shape hat hrule
  clear hrule
  refine wpAny_call ?_
  k_dflt (refine' code_def ?k1 ?k2 ?k3 ?k4 ?k5 ?kA ?kF ?kK ?k6 ?k7 ?k8 ?k9 ?kB ?_ ?c2 ?c3 ?c4 ?c5; (case kA => exact rfl); (case kF => exact rfl); (case kK => first | exact rfl | assumption); (case k1 => k_asm); (case k2 => k_asm); (case k3 => k_asm); (case k4 => k_asm); (case k5 => k_asm); (case k6 => k_is); (case k7 => k_is); (case k8 => ktr_room); (case k9 => first | exact BindsTo.of_eq rfl | exact binds_K (by k_in) rfl (by k_is) rfl rfl rfl); (case c5 => decide); (case kB => exact locs rfl); (case c2 => exact rfl); (case c3 => exact rfl); (case c4 => exact rfl); k_whole; intro g' L' hh' FG F' N' B' X' T'; (try dsimp only); (try k_fold))
  have hat' := hat.keeps FG.keep
  k_steps
  · -- ( rhs )
    obtain rfl := lp_of (by assumption)
    obtain ⟨hl, hend'⟩ := hend.tail (by decide)
    have ho : opens (Sg.lp :: l) = opens l + 1 := by simp [opens]
    rw [ho] at hroom hun
    replace hroom := rS hroom
    replace hun := rS hun
    (refine Stop.go ?_; k_dflt (refine' gettokenG (rest := rest) ?B ?F ?X ?N ?T ?k ?r ?hp ?hpd ?hrest ?hne ?hr ?kp ?tt ?hl ?_; (case kp => exact Kept.up (by assumption) (by (first | with_reducible exact subId | ((repeat' (first | with_reducible exact subId | with_reducible exact subNil | with_reducible refine subCC ?_ | with_reducible refine subCons ?_ ?_ | with_reducible refine subApp ?_ ?_)) <;> kse_small) | (intro q hq; first | (simp only [List.mem_cons, List.mem_append, hq, true_or, or_true]; done) | (simp only [List.mem_cons, List.mem_append] at hq ⊢; grind))))); (case B => k_asm); (case F => k_asm); (case X => k_asm); (case N => k_asm); (case T => k_asm); (case k => exact rfl); (case tt => exact hat'); (case hp => k_mem); (case hpd => k_mem); (case hrest => (first | with_reducible exact subId | ((repeat' (first | with_reducible exact subId | with_reducible exact subNil | with_reducible refine subCC ?_ | with_reducible refine subCons ?_ ?_ | with_reducible refine subApp ?_ ?_)) <;> kse_small) | (intro q hq; first | (simp only [List.mem_cons, List.mem_append, hq, true_or, or_true]; done) | (simp only [List.mem_cons, List.mem_append] at hq ⊢; grind)))); (case hne => assumption); (case hr => assumption); (case r => ktr_room); (case hl => exact hl); k_whole))
    intro h1 tk1 q1 F1 N1 M1 R1
    have hat1 := M1.here hat'
    ((try dsimp only at R1); obtain ⟨_, _, _, _, _, _, _, _⟩ := PS.shapeR R1; clear R1)
    k_steps
    (refine Stop.go ?_; k_dflt (refine' hR (rest := rest) ?B ?F ?X ?N ?T ?k ?r ?u ?hne ?hr ?tt ?he ?hl ?rule ?kp ?_ ?_; (case kp => exact Kept.up (by assumption) (by (first | with_reducible exact subId | ((repeat' (first | with_reducible exact subId | with_reducible exact subNil | with_reducible refine subCC ?_ | with_reducible refine subCons ?_ ?_ | with_reducible refine subApp ?_ ?_)) <;> kse_small) | (intro q hq; first | (simp only [List.mem_cons, List.mem_append, hq, true_or, or_true]; done) | (simp only [List.mem_cons, List.mem_append] at hq ⊢; grind))))); (case B => k_asm); (case F => k_asm); (case X => k_asm); (case N => exact N1); (case T => k_asm); (case k => exact rfl); (case tt => exact hat1); (case hne => assumption); (case hr => assumption); (case r =>  ktr_room); (case u =>  ktr_units); (case he => exact hend'); (case hl => exact ⟨Nat.lt_of_succ_lt_succ hlen.1, Nat.lt_of_succ_lt hlen.2⟩); (case rule => exact rfl)))
    · intro G x z ls l' q2 t nt h2 tk2 hR2 P2 A2 O2 F2 N2 M2 R2
      have hat2 := M2.here hat1
      obtain ⟨c1, c2, c3⟩ := cut _ _ _ hend' hR2
      cases l' with
      | nil => exact c1.elim
      | cons τ l' =>
      ((try dsimp only at R2); obtain ⟨_, _, _, _, _, _, _, _⟩ := PS.shapeR R2; clear R2)
      k_steps
      (refine Stop.go ?_; k_dflt (refine' expectG (rest := (gled w.params (.str rx rt) G ++ rest)) ?B ?F ?X ?N ?T ?k ?r ?u ?hp ?hpd ?hrest ?hne ?hr ?kp ?tt ?hl ?ty ?rule ?_ ?_; (case kp => exact Kept.up (by assumption) (by (first | with_reducible exact subId | ((repeat' (first | with_reducible exact subId | with_reducible exact subNil | with_reducible refine subCC ?_ | with_reducible refine subCons ?_ ?_ | with_reducible refine subApp ?_ ?_)) <;> kse_small) | (intro q hq; first | (simp only [List.mem_cons, List.mem_append, hq, true_or, or_true]; done) | (simp only [List.mem_cons, List.mem_append] at hq ⊢; grind))))); (case B => k_asm); (case F => k_asm); (case X => k_asm); (case N => k_asm); (case T => k_asm); (case k => exact rfl); (case tt => exact hat2); (case hp => k_mem); (case hpd => k_mem); (case hrest => (first | with_reducible exact subId | ((repeat' (first | with_reducible exact subId | with_reducible exact subNil | with_reducible refine subCC ?_ | with_reducible refine subCons ?_ ?_ | with_reducible refine subApp ?_ ?_)) <;> kse_small) | (intro q hq; first | (simp only [List.mem_cons, List.mem_append, hq, true_or, or_true]; done) | (simp only [List.mem_cons, List.mem_append] at hq ⊢; grind)))); (case hne => assumption); (case hr => exact ne_gled (fun y hy => (O2 y hy).2.1) hr); (case r => ktr_room); (case u => ktr_units); (case hl => exact c1.single (by decide)); (case ty => simp [IsTy]); (case rule => exact rfl)))
      · intro h3 tk3 q3 tv ht hx F3 N3 M3 R3
        obtain rfl := rp_of hx
        ((try dsimp only at R3); obtain ⟨_, _, _, _, _, _, _, _⟩ := PS.shapeR R3; clear R3)
        k_steps
        refine' hQ G x z ls l' _ _ _ _ _ ?a P2 ?b O2 ?c ?d (Moves.down ((M1.trans M2).trans M3) FG.keep) rfl
        case a => simp [atomF, hR2, closeF]
        case b => exact nrA (Nat.le_succ _) A2
        case c => k_asm
        case d => k_asm
      · intro g e h' tk' hnt FG2 U2 R'
        k_steps
        refine hE _ _ _ _ ?_ FG (by assumption) (by assumption)
        simp only [atomF, if_true, hR2, closeF]
        rw [if_neg]; rintro rfl; exact hnt ⟨rfl, rfl⟩
    · intro g e h' tk' hnt FG2 U2 R'
      k_steps
      refine hE _ _ _ _ ?_ FG (by assumption) (by assumption)
      simp only [atomF, if_true, hnt, closeF]
  · -- a name or a string
    have hnm := isName_of (by assumption)
    have hnl := not_lp (by assumption)
    obtain ⟨hl, hend'⟩ := hend.tail (isName_ne hnm)
    (refine Stop.go ?_; k_dflt (refine' mkState ?B ?F ?X ?N ?T ?k ?hr ?u ?_; (case B => k_asm); (case F => k_asm); (case X => k_asm); (case N => k_asm); (case T => k_asm); (case k => exact rfl); (case hr => ktr_room); (case u => ktr_units); k_whole))
    intro x xd al h1 tk1 k1 k2 n1 a1 a2 a3 F1 N1
    k_steps
    (refine Stop.go ?_; k_dflt (refine' mkState ?B ?F ?X ?N ?T ?k ?hr ?u ?_; (case B => k_asm); (case F => k_asm); (case X => k_asm); (case N => k_asm); (case T => k_asm); (case k => exact rfl); (case hr => ktr_room); (case u => ktr_units); k_whole))
    intro x' xd' al' h2 tk2 k1' k2' n2 b1 b2 b3 F2 N2
    k_steps
    have a1' : p < xd ∧ pd < xd ∧ ∀ q ∈ rest, q.1 < xd := ⟨a1 _ (.tail _ (.head _)), a1 _ (.tail _ (.tail _ (.head _))), fun q hq => a1 q (.tail _ (.tail _ (.tail _ hq)))⟩
    have b1' : al < xd' := b1 _ (.tail _ (.tail _ (.head _)))
    (refine Stop.go ?_; k_dflt (refine' addArcG (G := [newSt x xd al n1 k1 k2, newSt x' xd' al' n2 k1' k2']) (r := .str rx rt) (keep := (p, instObj 220 pd) :: (pd, PS.obj w.params ⟨tg', gv, tl, pl, tkp, .ref σ.ty, .str σ.text tk0, bv, some (.str rx rt)⟩) :: rest) (lb := some (σ, tk0)) ?B ?F ?X ?N ?T ?k ?hr ?u ?hG ?hK ?hKa ?xs ?als ?hb ?hc ?hna ?lab ?_; (case B => k_asm); (case F => k_asm); (case X => k_asm); (case N => k_asm); (case T => k_asm); (case k => exact rfl); (case hr => ktr_room); (case u => ktr_units); (case hG => (rw [gled_two]; (first | with_reducible exact subId | ((repeat' (first | with_reducible exact subId | with_reducible exact subNil | with_reducible refine subCC ?_ | with_reducible refine subCons ?_ ?_ | with_reducible refine subApp ?_ ?_)) <;> kse_small) | (intro q hq; first | (simp only [List.mem_cons, List.mem_append, hq, true_or, or_true]; done) | (simp only [List.mem_cons, List.mem_append] at hq ⊢; grind))))); (case hK => (first | with_reducible exact subId | ((repeat' (first | with_reducible exact subId | with_reducible exact subNil | with_reducible refine subCC ?_ | with_reducible refine subCons ?_ ?_ | with_reducible refine subApp ?_ ?_)) <;> kse_small) | (intro q hq; first | (simp only [List.mem_cons, List.mem_append, hq, true_or, or_true]; done) | (simp only [List.mem_cons, List.mem_append] at hq ⊢; grind)))); (case hKa => exact keepBelow (lo := xd) (by intro q hq; rcases List.mem_cons.mp hq with rfl | hq; exact a1'.1; rcases List.mem_cons.mp hq with rfl | hq; exact a1'.2.1; exact a1'.2.2 q hq) (List.forall_mem_cons.mpr ⟨Nat.le_of_lt (Nat.lt_trans a2 a3), List.forall_mem_cons.mpr ⟨Nat.le_of_lt (Nat.lt_trans a2 (Nat.lt_trans a3 (Nat.lt_trans b1' (Nat.lt_trans b2 b3)))), fun _ h => nomatch h⟩⟩)); (case xs => (simp only [newSt, List.map_cons, List.map_nil, List.nodup_cons, List.mem_cons, List.not_mem_nil, or_false, not_false_eq_true, List.nodup_nil, and_true]; kmod_is)); (case als => (simp only [newSt, List.map_cons, List.map_nil, List.nodup_cons, List.mem_cons, List.not_mem_nil, or_false, not_false_eq_true, List.nodup_nil, and_true]; kmod_is)); (case lab => exact rfl); k_whole))
    case hb => simp [newSt]
    case hc => simp [newSt]
    case hna => simp [narcs, newSt]
    intro c h3 tk3 e1 e2 e3 e4 e5 F3 N3
    k_steps
    have P := Piece.atom (x := x) (xd := xd) (al := al) (n := n1) (x' := x') (xd' := xd') (al' := al') (n' := n2) (k1 := k1) (k2 := k2) (k1' := k1') (k2' := k2') (c := c) (by kmod_is) (by kmod_is) e1 e2
    have e4' : xd < c.yd := Nat.lt_trans a2 (e4 x (by simp [newSt]))
    have O : ∀ y ∈ adrs (addTo x c [newSt x xd al n1 k1 k2, newSt x' xd' al' n2 k1' k2']), p < y ∧ pd < y ∧ ∀ q ∈ rest, q.1 < y := by
      intro y hy
      have hy' : xd ≤ y := by
        rcases adrs_addTo hy with h | rfl | rfl
        · exact low_two a2 a3 b2 b3 b1' h
        · exact Nat.le_of_lt (Nat.lt_trans e4' e5)
        · exact Nat.le_of_lt e4'
      exact ⟨Nat.lt_of_lt_of_le a1'.1 hy', Nat.lt_of_lt_of_le a1'.2.1 hy', fun q hq => Nat.lt_of_lt_of_le (a1'.2.2 q hq) hy'⟩
    (refine Stop.go ?_; k_dflt (refine' gettokenG (rest := (gled w.params (.str rx rt) (addTo x c [newSt x xd al n1 k1 k2, newSt x' xd' al' n2 k1' k2']) ++ rest)) ?B ?F ?X ?N ?T ?k ?r ?hp ?hpd ?hrest ?hne ?hr ?kp ?tt ?hl ?_; (case kp => exact Kept.up (by assumption) (by (first | with_reducible exact subId | ((repeat' (first | with_reducible exact subId | with_reducible exact subNil | with_reducible refine subCC ?_ | with_reducible refine subCons ?_ ?_ | with_reducible refine subApp ?_ ?_)) <;> kse_small) | (intro q hq; first | (simp only [List.mem_cons, List.mem_append, hq, true_or, or_true]; done) | (simp only [List.mem_cons, List.mem_append] at hq ⊢; grind))))); (case B => k_asm); (case F => k_asm); (case X => k_asm); (case N => k_asm); (case T => k_asm); (case k => exact rfl); (case tt => exact hat'); (case hp => k_mem); (case hpd => k_mem); (case hrest => (first | with_reducible exact subId | ((repeat' (first | with_reducible exact subId | with_reducible exact subNil | with_reducible refine subCC ?_ | with_reducible refine subCons ?_ ?_ | with_reducible refine subApp ?_ ?_)) <;> kse_small) | (intro q hq; first | (simp only [List.mem_cons, List.mem_append, hq, true_or, or_true]; done) | (simp only [List.mem_cons, List.mem_append] at hq ⊢; grind)))); (case hne => assumption); (case hr => exact ne_gled (fun y hy => (O y hy).2.1) hr); (case r => ktr_room); (case hl => exact hl); k_whole))
    intro h4 tk4 q4 F4 N4 M4 R4
    ((try dsimp only at R4); obtain ⟨_, _, _, _, _, _, _, _⟩ := PS.shapeR R4; clear R4)
    k_steps
    refine' hQ _ x x' [σ] l _ _ _ _ _ ?a P ?b O ?c ?d (Moves.down M4 FG.keep) rfl
    case a => simp [atomF, hnl, hnm]
    case b =>
      have := narcs_addTo (b := x) (a := c) (G := [newSt x xd al n1 k1 k2, newSt x' xd' al' n2 k1' k2']) (by simp only [newSt, List.map_cons, List.map_nil, List.nodup_cons, List.mem_cons, List.not_mem_nil, or_false, not_false_eq_true, List.nodup_nil, and_true]; kmod_is)
      have h0 : narcs [newSt x xd al n1 k1 k2, newSt x' xd' al' n2 k1' k2'] = 0 := by simp [narcs, newSt]
      exact nrC this h0
    case c => k_asm
    case d => k_asm
  · -- no atom
    have hnm := not_isName (by assumption)
    have hnl := not_lp (by assumption)
    refine hE _ _ _ _ ?_ FG (by assumption) (by assumption)
    simp [atomF, hnl, hnm]

end
section

theorem fillN (w : World) (h : Heap) : (hd.heap_1 w.params).In h → PySem.Challenge.rw_iv0024_01.row.prog = PySem.Challenge.rw_iv0024_01.row.prog := by w_top off; k_fill; intro _; rfl

theorem News.turn {h₀ h : Heap} {L : Addr} {a b c : Addr × Obj} {A R : List (Addr × Obj)} (N : News h₀ L h (a :: (A ++ b :: c :: R))) : News h₀ L h (a :: b :: c :: (A ++ R)) := News.sub N (by (first | with_reducible exact subId | ((repeat' (first | with_reducible exact subId | with_reducible exact subNil | with_reducible refine subCC ?_ | with_reducible refine subCons ?_ ?_ | with_reducible refine subApp ?_ ?_)) <;> kse_small) | (intro q hq; first | (simp only [List.mem_cons, List.mem_append, hq, true_or, or_true]; done) | (simp only [List.mem_cons, List.mem_append] at hq ⊢; grind))))
theorem News.drop2 {h₀ h : Heap} {L : Addr} {a b c : Addr × Obj} {R : List (Addr × Obj)} (N : News h₀ L h (a :: b :: c :: R)) : News h₀ L h (a :: R) := News.sub N (by (first | with_reducible exact subId | ((repeat' (first | with_reducible exact subId | with_reducible exact subNil | with_reducible refine subCC ?_ | with_reducible refine subCons ?_ ?_ | with_reducible refine subApp ?_ ?_)) <;> kse_small) | (intro q hq; first | (simp only [List.mem_cons, List.mem_append, hq, true_or, or_true]; done) | (simp only [List.mem_cons, List.mem_append] at hq ⊢; grind))))
theorem News.drop1 {h₀ h : Heap} {L : Addr} {a b : Addr × Obj} {R : List (Addr × Obj)} (N : News h₀ L h (a :: b :: R)) : News h₀ L h (a :: R) := News.sub N (by (first | with_reducible exact subId | ((repeat' (first | with_reducible exact subId | with_reducible exact subNil | with_reducible refine subCC ?_ | with_reducible refine subCons ?_ ?_ | with_reducible refine subApp ?_ ?_)) <;> kse_small) | (intro q hq; first | (simp only [List.mem_cons, List.mem_append, hq, true_or, or_true]; done) | (simp only [List.mem_cons, List.mem_append] at hq ⊢; grind))))
theorem pm_of {σ : Sg} (h : ([Str.ofString "+", Str.ofString "*"].any fun x => x == σ.text) = true) : σ = .pl ∨ σ = .st := by revert h; generalize σ = τ; revert τ; refine sgAll ?_; decide +kernel
theorem not_pm {σ : Sg} (h : ([Str.ofString "+", Str.ofString "*"].any fun x => x == σ.text) = false) : ¬ (σ = .pl ∨ σ = .st) := by revert h; generalize σ = τ; revert τ; refine sgAll ?_; decide +kernel
theorem pl_of {σ : Sg} (h : (σ.text == Str.ofString "+") = true) : σ = .pl := by revert h; generalize σ = τ; revert τ; refine sgAll ?_; decide +kernel
theorem st_of {σ : Sg} (h0 : σ = .pl ∨ σ = .st) (h : (σ.text == Str.ofString "+") = false) : σ = .st := by
  rcases h0 with rfl | rfl
  · revert h; decide
  · rfl
theorem lb_of {σ : Sg} (h : (σ.text == Str.ofString "[") = true) : σ = .lb := by revert h; generalize σ = τ; revert τ; refine sgAll ?_; decide +kernel
theorem not_lb {σ : Sg} (h : (σ.text == Str.ofString "[") = false) : σ ≠ .lb := by rintro rfl; revert h; decide
theorem rb_of {σ : Sg} (h : σ.text = Str.ofString "]") : σ = .rb := by revert h; generalize σ = τ; revert τ; refine sgAll ?_; decide +kernel
set_option maxRecDepth 100000 in
set_option maxHeartbeats 8000000 in
theorem itemC {R : PR} {n : Nat} (hR : PartC 174 R 30 300 0 n) (hA : PartC 195 (atomF R) 27 270 2 (n + 1)) (cut : Cuts R) : PartC 188 (itemF R) 28 280 2 (n + 1) := by
  intro w mean mg mb dp un gd cn cs a ccd cl outer A₀ base h₀ L m s Q E kept p pd q rest l rx rt B F X N T hk hroom hun hne hr hat hend hlen hrule hkp hQ hE
  cases l with
  | nil => exact hat.nil.elim
  | cons σ l =>
  obtain ⟨tg', gv, tl, pl, tkp, tk0, bv⟩ := At.shape hat hrule
  clear hrule
  refine wpAny_call ?_
  k_dflt (refine' code_def ?k1 ?k2 ?k3 ?k4 ?k5 ?kA ?kF ?kK ?k6 ?k7 ?k8 ?k9 ?kB ?_ ?c2 ?c3 ?c4 ?c5; (case kA => exact rfl); (case kF => exact rfl); (case kK => first | exact rfl | assumption); (case k1 => k_asm); (case k2 => k_asm); (case k3 => k_asm); (case k4 => k_asm); (case k5 => k_asm); (case k6 => k_is); (case k7 => k_is); (case k8 => ktr_room); (case k9 => first | exact BindsTo.of_eq rfl | exact binds_K (by k_in) rfl (by k_is) rfl rfl rfl); (case c5 => decide); (case kB => exact locs rfl); (case c2 => exact rfl); (case c3 => exact rfl); (case c4 => exact rfl); k_whole; intro g' L' hh' FG F' N' B' X' T'; (try dsimp only); (try k_fold))
  have hat' := hat.keeps FG.keep
  k_steps
  · -- [ rhs ]
    obtain rfl := lb_of (by assumption)
    obtain ⟨hl, hend'⟩ := hend.tail (by decide)
    have ho : opens (Sg.lb :: l) = opens l + 1 := by simp [opens]
    rw [ho] at hroom hun
    replace hroom := rS hroom
    replace hun := rS hun
    (refine Stop.go ?_; k_dflt (refine' gettokenG (rest := rest) ?B ?F ?X ?N ?T ?k ?r ?hp ?hpd ?hrest ?hne ?hr ?kp ?tt ?hl ?_; (case kp => exact Kept.up (by assumption) (by (first | with_reducible exact subId | ((repeat' (first | with_reducible exact subId | with_reducible exact subNil | with_reducible refine subCC ?_ | with_reducible refine subCons ?_ ?_ | with_reducible refine subApp ?_ ?_)) <;> kse_small) | (intro q hq; first | (simp only [List.mem_cons, List.mem_append, hq, true_or, or_true]; done) | (simp only [List.mem_cons, List.mem_append] at hq ⊢; grind))))); (case B => k_asm); (case F => k_asm); (case X => k_asm); (case N => k_asm); (case T => k_asm); (case k => exact rfl); (case tt => exact hat'); (case hp => k_mem); (case hpd => k_mem); (case hrest => (first | with_reducible exact subId | ((repeat' (first | with_reducible exact subId | with_reducible exact subNil | with_reducible refine subCC ?_ | with_reducible refine subCons ?_ ?_ | with_reducible refine subApp ?_ ?_)) <;> kse_small) | (intro q hq; first | (simp only [List.mem_cons, List.mem_append, hq, true_or, or_true]; done) | (simp only [List.mem_cons, List.mem_append] at hq ⊢; grind)))); (case hne => assumption); (case hr => assumption); (case r => ktr_room); (case hl => exact hl); k_whole))
    intro h1 tk1 q1 F1 N1 M1 R1
    have hat1 := M1.here hat'
    ((try dsimp only at R1); obtain ⟨_, _, _, _, _, _, _, _⟩ := PS.shapeR R1; clear R1)
    k_steps
    (refine Stop.go ?_; k_dflt (refine' hR (rest := rest) ?B ?F ?X ?N ?T ?k ?r ?u ?hne ?hr ?tt ?he ?hl ?rule ?kp ?_ ?_; (case kp => exact Kept.up (by assumption) (by (first | with_reducible exact subId | ((repeat' (first | with_reducible exact subId | with_reducible exact subNil | with_reducible refine subCC ?_ | with_reducible refine subCons ?_ ?_ | with_reducible refine subApp ?_ ?_)) <;> kse_small) | (intro q hq; first | (simp only [List.mem_cons, List.mem_append, hq, true_or, or_true]; done) | (simp only [List.mem_cons, List.mem_append] at hq ⊢; grind))))); (case B => k_asm); (case F => k_asm); (case X => k_asm); (case N => exact N1); (case T => k_asm); (case k => exact rfl); (case tt => exact hat1); (case hne => assumption); (case hr => assumption); (case r =>  ktr_room); (case u =>  ktr_units); (case he => exact hend'); (case hl => exact ⟨Nat.lt_of_succ_lt_succ hlen.1, Nat.lt_of_succ_lt hlen.2⟩); (case rule => exact rfl)))
    · intro G x z ls l' q2 t nt h2 tk2 hR2 P2 A2 O2 F2 N2 M2 R2
      have hat2 := M2.here hat1
      obtain ⟨c1, c2, c3⟩ := cut _ _ _ hend' hR2
      cases l' with
      | nil => exact c1.elim
      | cons τ l' =>
      ((try dsimp only at R2); obtain ⟨_, _, _, _, _, _, _, _⟩ := PS.shapeR R2; clear R2)
      k_steps
      (refine Stop.go ?_; k_dflt (refine' expectG (rest := (gled w.params (.str rx rt) G ++ rest)) ?B ?F ?X ?N ?T ?k ?r ?u ?hp ?hpd ?hrest ?hne ?hr ?kp ?tt ?hl ?ty ?rule ?_ ?_; (case kp => exact Kept.up (by assumption) (by (first | with_reducible exact subId | ((repeat' (first | with_reducible exact subId | with_reducible exact subNil | with_reducible refine subCC ?_ | with_reducible refine subCons ?_ ?_ | with_reducible refine subApp ?_ ?_)) <;> kse_small) | (intro q hq; first | (simp only [List.mem_cons, List.mem_append, hq, true_or, or_true]; done) | (simp only [List.mem_cons, List.mem_append] at hq ⊢; grind))))); (case B => k_asm); (case F => k_asm); (case X => k_asm); (case N => k_asm); (case T => k_asm); (case k => exact rfl); (case tt => exact hat2); (case hp => k_mem); (case hpd => k_mem); (case hrest => (first | with_reducible exact subId | ((repeat' (first | with_reducible exact subId | with_reducible exact subNil | with_reducible refine subCC ?_ | with_reducible refine subCons ?_ ?_ | with_reducible refine subApp ?_ ?_)) <;> kse_small) | (intro q hq; first | (simp only [List.mem_cons, List.mem_append, hq, true_or, or_true]; done) | (simp only [List.mem_cons, List.mem_append] at hq ⊢; grind)))); (case hne => assumption); (case hr => exact ne_gled (fun y hy => (O2 y hy).2.1) hr); (case r => ktr_room); (case u => ktr_units); (case hl => exact c1.single (by decide)); (case ty => simp [IsTy]); (case rule => exact rfl)))
      · intro h3 tk3 q3 tv ht hx F3 N3 M3 R3
        obtain rfl := rb_of hx
        have hna : narcs G < 1000 := lt1000 (nrS A2 (Nat.lt_of_succ_lt hlen.2))
        (obtain ⟨st, hst, rfl⟩ := List.mem_map.mp P2.ain; have Nst := News.expo (P := w.params) (r := .str rx rt) N3 hst (by (first | with_reducible exact subId | ((repeat' (first | with_reducible exact subId | with_reducible exact subNil | with_reducible refine subCC ?_ | with_reducible refine subCons ?_ ?_ | with_reducible refine subApp ?_ ?_)) <;> kse_small) | (intro q hq; first | (simp only [List.mem_cons, List.mem_append, hq, true_or, or_true]; done) | (simp only [List.mem_cons, List.mem_append] at hq ⊢; grind)))); clear N3)
        k_steps
        (refine Stop.go ?_; k_dflt (refine' addArcG0 (G := G) (r := .str rx rt) (keep := (p, instObj 220 pd) :: (pd, PS.obj w.params q3) :: rest) ?B ?F ?X ?N ?T ?k ?hr ?u ?hG ?hK ?hKa ?xs ?als ?hb ?hc ?hna ?_; (case B => k_asm); (case F => k_asm); (case X => k_asm); (case N => k_asm); (case T => k_asm); (case k => exact rfl); (case hr => ktr_room); (case u => ktr_units); (case hG => (first | with_reducible exact subId | ((repeat' (first | with_reducible exact subId | with_reducible exact subNil | with_reducible refine subCC ?_ | with_reducible refine subCons ?_ ?_ | with_reducible refine subApp ?_ ?_)) <;> kse_small) | (intro q hq; first | (simp only [List.mem_cons, List.mem_append, hq, true_or, or_true]; done) | (simp only [List.mem_cons, List.mem_append] at hq ⊢; grind)))); (case hK => (first | with_reducible exact subId | ((repeat' (first | with_reducible exact subId | with_reducible exact subNil | with_reducible refine subCC ?_ | with_reducible refine subCons ?_ ?_ | with_reducible refine subApp ?_ ?_)) <;> kse_small) | (intro q hq; first | (simp only [List.mem_cons, List.mem_append, hq, true_or, or_true]; done) | (simp only [List.mem_cons, List.mem_append] at hq ⊢; grind)))); (case hKa => exact keepO (fun y hy => O2 y hy)); (case xs => exact P2.xs); (case als => exact P2.als); k_whole))
        case hb => exact P2.ain
        case hc => exact P2.zin
        case hna => exact hna
        intro c h4 tk4 e1 e2 e4 e5 e6 F4 N4
        have P4 := P2.add (b := st.x) (e1 ▸ P2.zin : c.nx ∈ G.map St.x) e2 P2.ain P2.zin P2.reach
        ((try dsimp only at R3); obtain ⟨_, _, _, _, _, _, _, _⟩ := PS.shapeR R3; clear R3)
        k_steps
        refine' hQ _ st.x z ls l' _ _ _ _ _ ?a P4 ?b ?o ?c ?d (Moves.down ((M1.trans M2).trans M3) FG.keep) rfl
        case a => simp [itemF, hR2, closeF]
        case b =>
          exact nrA (narcs_addTo (b := st.x) (a := c) P2.xs) A2
        case o => exact addO O2 e4 e6
        case c => k_asm
        case d => exact News.turn (by k_asm)
      · intro g e h' tk' hnt FG2 U2 R'
        k_steps
        refine hE _ _ _ _ ?_ FG (by assumption) (by assumption)
        simp only [itemF, if_true, hR2, closeF]
        rw [if_neg]; rintro rfl; exact hnt ⟨rfl, rfl⟩
    · intro g e h' tk' hnt FG2 U2 R'
      k_steps
      refine hE _ _ _ _ ?_ FG (by assumption) (by assumption)
      simp only [itemF, if_true, hnt, closeF]
  · -- an atom and its sign
    have hnb := not_lb (by assumption)
    (refine Stop.go ?_; k_dflt (refine' hA (rest := rest) ?B ?F ?X ?N ?T ?k ?r ?u ?hne ?hr ?tt ?he ?hl ?rule ?kp ?_ ?_; (case kp => exact Kept.up (by assumption) (by (first | with_reducible exact subId | ((repeat' (first | with_reducible exact subId | with_reducible exact subNil | with_reducible refine subCC ?_ | with_reducible refine subCons ?_ ?_ | with_reducible refine subApp ?_ ?_)) <;> kse_small) | (intro q hq; first | (simp only [List.mem_cons, List.mem_append, hq, true_or, or_true]; done) | (simp only [List.mem_cons, List.mem_append] at hq ⊢; grind))))); (case B => k_asm); (case F => k_asm); (case X => k_asm); (case N => exact N'); (case T => k_asm); (case k => exact rfl); (case tt => exact hat'); (case hne => assumption); (case hr => assumption); (case r =>  ktr_room); (case u =>  ktr_units); (case he => exact hend); (case hl => exact hlen); (case rule => exact rfl)))
    · intro G x z ls l' q2 t nt h2 tk2 hR2 P2 A2 O2 F2 N2 M2 R2
      have hat2 := M2.here hat'
      obtain ⟨c1, c2, c3⟩ := atom_cuts cut _ _ _ hend hR2
      cases l' with
      | nil => exact c1.elim
      | cons τ l' =>
      ((try dsimp only at R2); obtain ⟨tg2, gv2, tl2, pl2, tkp2, tkv2, bv2⟩ := At.shape hat2 R2; clear R2)
      k_steps
      · have hpm := pm_of (by assumption)
        obtain ⟨hl, hend'⟩ := c1.tail (by rcases hpm with rfl | rfl <;> decide)
        have hna : narcs G < 1000 := lt1000 (nrS A2 hlen.2)
        (refine Stop.go ?_; k_dflt (refine' gettokenG (rest := (gled w.params (.str rx rt) G ++ rest)) ?B ?F ?X ?N ?T ?k ?r ?hp ?hpd ?hrest ?hne ?hr ?kp ?tt ?hl ?_; (case kp => exact Kept.up (by assumption) (by (first | with_reducible exact subId | ((repeat' (first | with_reducible exact subId | with_reducible exact subNil | with_reducible refine subCC ?_ | with_reducible refine subCons ?_ ?_ | with_reducible refine subApp ?_ ?_)) <;> kse_small) | (intro q hq; first | (simp only [List.mem_cons, List.mem_append, hq, true_or, or_true]; done) | (simp only [List.mem_cons, List.mem_append] at hq ⊢; grind))))); (case B => k_asm); (case F => k_asm); (case X => k_asm); (case N => k_asm); (case T => k_asm); (case k => exact rfl); (case tt => exact hat2); (case hp => k_mem); (case hpd => k_mem); (case hrest => (first | with_reducible exact subId | ((repeat' (first | with_reducible exact subId | with_reducible exact subNil | with_reducible refine subCC ?_ | with_reducible refine subCons ?_ ?_ | with_reducible refine subApp ?_ ?_)) <;> kse_small) | (intro q hq; first | (simp only [List.mem_cons, List.mem_append, hq, true_or, or_true]; done) | (simp only [List.mem_cons, List.mem_append] at hq ⊢; grind)))); (case hne => assumption); (case hr => exact ne_gled (fun y hy => (O2 y hy).2.1) hr); (case r => ktr_room); (case hl => exact hl); k_whole))
        intro h3 tk3 q3 F3 N3 M3 R3
        (obtain ⟨st, hst, rfl⟩ := List.mem_map.mp P2.zin; have Nst := News.expo (P := w.params) (r := .str rx rt) N3 hst (by (first | with_reducible exact subId | ((repeat' (first | with_reducible exact subId | with_reducible exact subNil | with_reducible refine subCC ?_ | with_reducible refine subCons ?_ ?_ | with_reducible refine subApp ?_ ?_)) <;> kse_small) | (intro q hq; first | (simp only [List.mem_cons, List.mem_append, hq, true_or, or_true]; done) | (simp only [List.mem_cons, List.mem_append] at hq ⊢; grind)))); clear N3)
        k_steps
        (refine Stop.go ?_; k_dflt (refine' addArcG0 (G := G) (r := .str rx rt) (keep := (p, instObj 220 pd) :: (pd, PS.obj w.params q3) :: rest) ?B ?F ?X ?N ?T ?k ?hr ?u ?hG ?hK ?hKa ?xs ?als ?hb ?hc ?hna ?_; (case B => k_asm); (case F => k_asm); (case X => k_asm); (case N => k_asm); (case T => k_asm); (case k => exact rfl); (case hr => ktr_room); (case u => ktr_units); (case hG => (first | with_reducible exact subId | ((repeat' (first | with_reducible exact subId | with_reducible exact subNil | with_reducible refine subCC ?_ | with_reducible refine subCons ?_ ?_ | with_reducible refine subApp ?_ ?_)) <;> kse_small) | (intro q hq; first | (simp only [List.mem_cons, List.mem_append, hq, true_or, or_true]; done) | (simp only [List.mem_cons, List.mem_append] at hq ⊢; grind)))); (case hK => (first | with_reducible exact subId | ((repeat' (first | with_reducible exact subId | with_reducible exact subNil | with_reducible refine subCC ?_ | with_reducible refine subCons ?_ ?_ | with_reducible refine subApp ?_ ?_)) <;> kse_small) | (intro q hq; first | (simp only [List.mem_cons, List.mem_append, hq, true_or, or_true]; done) | (simp only [List.mem_cons, List.mem_append] at hq ⊢; grind)))); (case hKa => exact keepO (fun y hy => O2 y hy)); (case xs => exact P2.xs); (case als => exact P2.als); k_whole))
        case hb => exact P2.zin
        case hc => exact P2.ain
        case hna => exact hna
        intro c h4 tk4 e1 e2 e4 e5 e6 F4 N4
        have hn2 := narcs_addTo (b := st.x) (a := c) P2.xs
        ((try dsimp only at R3); obtain ⟨_, _, _, _, _, _, _, _⟩ := PS.shapeR R3; clear R3)
        k_steps
        · obtain rfl := pl_of (by assumption)
          have P4 := P2.add (b := st.x) (e1 ▸ P2.ain : c.nx ∈ G.map St.x) e2 P2.ain P2.zin P2.reach
          refine' hQ _ x st.x ls l' _ _ _ _ _ ?a P4 ?b ?o ?c ?d (Moves.down (M2.trans M3) FG.keep) rfl
          case a => simp [itemF, hnb, hR2, suffF]
          case b => exact nrB hn2 A2
          case o => exact addO O2 e4 e6
          case c => k_asm
          case d => exact News.turn (by k_asm)
        · obtain rfl := st_of hpm (by assumption)
          have P4 := P2.add (b := st.x) (e1 ▸ P2.ain : c.nx ∈ G.map St.x) e2 P2.ain P2.ain P2.reach
          refine' hQ _ x x ls l' _ _ _ _ _ ?a P4 ?b ?o ?c ?d (Moves.down (M2.trans M3) FG.keep) rfl
          case a => simp [itemF, hnb, hR2, suffF]
          case b => exact nrB hn2 A2
          case o => exact addO O2 e4 e6
          case c => k_asm
          case d => exact News.turn (by k_asm)
      · have hpm := not_pm (by assumption)
        refine' hQ G x z ls (τ :: l') _ _ _ _ _ ?a P2 ?b O2 ?c ?d (Moves.down M2 FG.keep) rfl
        case a => simp [itemF, hnb, hR2, suffF, hpm]
        case b => exact A2
        case c => k_asm
        case d => exact News.drop2 (by k_asm)
    · intro g e h' tk' hnt FG2 U2 R'
      k_steps
      refine hE _ _ _ _ ?_ FG (by assumption) (by assumption)
      simp [itemF, hnb, hnt, suffF]

end
section

theorem fillO (w : World) (h : Heap) : (hd.heap_1 w.params).In h → PySem.Challenge.rw_iv0024_01.row.prog = PySem.Challenge.rw_iv0024_01.row.prog := by w_top off; k_fill; intro _; rfl

noncomputable def Turn (J : Nat → Shared → Prop) (n : Nat) (Q : Flow → Shared → Prop) (f : Flow) (s : Shared) : Prop :=
  match f with
  | .next => ∃ m, m < n ∧ J m s
  | .cont => ∃ m, m < n ∧ J m s
  | .brk => Q .next s
  | .ret v => Q (.ret v) s
theorem While_syn {w : World} {A : Around} {E : Value → Shared → Prop} {Q : Flow → Shared → Prop} {s : Shared} {env : Env} {test : PySem.Expr} {body : List Stmt} {pos : Pos} (J : Nat → Shared → Prop) {n₀ : Nat}
    (hJ : J n₀ s) (turn : ∀ n s, J n s → wpAny (model PySem.Challenge.rw_iv0024_01.row.prog w) A (isTrue test env (eval test env)) (fun b s₂ => if b = true then wpAny (model PySem.Challenge.rw_iv0024_01.row.prog w) A (execs body env) (Turn J n Q) E s₂ else Q .next s₂) E s)
    (hE : PassesOwn (model PySem.Challenge.rw_iv0024_01.row.prog w) A env E) : wpAny (model PySem.Challenge.rw_iv0024_01.row.prog w) A (exec (.While test body [] pos) env) Q E s := by
  refine wpAny_While (codeAny_whileLoop J ?_ n₀ hJ)
  intro n s' hJ
  refine wpAny_mono (turn n s' hJ) (fun b s₂ h₂ => ?_) hE
  cases b with
  | false =>
    simp only [Bool.false_eq_true, if_false] at h₂ ⊢
    exact wpAny_execs_nil h₂
  | true =>
    simp only [if_true] at h₂ ⊢
    refine wpAny_mono h₂ (fun f s₃ h₃ => ?_) hE
    cases f <;> exact h₃
theorem look_cons {k : Str} {v : Value} {r : List (Str × Value)} (y : Str) : List.lookup y ((k, v) :: r) = if y = k then some v else List.lookup y r := by
  show (match y == k with | true => some v | false => List.lookup y r) = _
  by_cases h : y = k
  · rw [if_pos h, h, beq_self_eq_true]
  · rw [if_neg h, beq_false_of_ne h]
theorem look1 {k : Str} {v : Value} (y : Str) : List.lookup y [(k, v)] = if y = k then some v else none := look_cons y
theorem look3 {k l j : Str} {v u x : Value} (y : Str) : List.lookup y [(k, v), (l, u), (j, x)] = if y = k then some v else if y = l then some u else if y = j then some x else none := by
  rw [look_cons, look_cons, look1]
theorem drop_none {k : Str} {f : Str → Option Value} (h : f k = none) (y : Str) : (if y = k then none else f y) = f y := by
  by_cases e : y = k
  · rw [if_pos e, e, h]
  · rw [if_neg e]
theorem off_ite {c : Prop} [Decidable c] {a b : Option Value} (h : ¬ c) (e : b = none) : (if c then a else b) = none := (if_neg h).trans e
theorem ite_at {m : Str → Option Value} {k y : Str} {v e : Option Value} (h : m k = v) (r : y ≠ k → m y = e) : m y = if y = k then v else e := by
  by_cases q : y = k
  · rw [if_pos q, q, h]
  · rw [if_neg q, r q]
theorem frCongr {h₀ h : Heap} {L : Addr} {m m' : Str → Option Value} (F : Fr h₀ L h m) (k : ∀ y, m y = m' y) : Fr h₀ L h m' := (funext k : m = m') ▸ F

noncomputable def contF (f : PR) (ls l' : List Sg) : Option (List Sg × List Sg) := if starts l' then (f l').map (fun x => (ls ++ x.1, x.2)) else some (ls, l')
theorem items_first {R : PR} {n : Nat} {l ls l'} (h : itemF R l = some (ls, l')) : itemsF R (n + 1) l = contF (itemsF R n) ls l' := by
  simp only [itemsF, h, contF]
theorem cont_step {R : PR} {k : Nat} {ls l' ls2 l2} (hs : starts l' = true) (h : itemF R l' = some (ls2, l2)) : contF (itemsF R (k + 1)) ls l' = contF (itemsF R k) (ls ++ ls2) l2 := by
  rw [contF, if_pos hs, items_first h]
  unfold contF
  split
  · cases itemsF R k l2 <;> simp [List.append_assoc]
  · rfl
theorem cont_fail {R : PR} {k : Nat} {ls l'} (hs : starts l' = true) (h : itemF R l' = none) : contF (itemsF R (k + 1)) ls l' = none := by
  rw [contF, if_pos hs]; simp [itemsF, h]

theorem News.tail1 {h₀ h : Heap} {L : Addr} {a : Addr × Obj} {R : List (Addr × Obj)} (N : News h₀ L h (a :: R)) : News h₀ L h R := News.sub N fun q hq => .tail _ hq
theorem News.drop3 {h₀ h : Heap} {L : Addr} {a b c d : Addr × Obj} {R : List (Addr × Obj)} (N : News h₀ L h (a :: b :: c :: d :: R)) : News h₀ L h (a :: d :: R) := News.sub N (by (first | with_reducible exact subId | ((repeat' (first | with_reducible exact subId | with_reducible exact subNil | with_reducible refine subCC ?_ | with_reducible refine subCons ?_ ?_ | with_reducible refine subApp ?_ ?_)) <;> kse_small) | (intro q hq; first | (simp only [List.mem_cons, List.mem_append, hq, true_or, or_true]; done) | (simp only [List.mem_cons, List.mem_append] at hq ⊢; grind))))
theorem News.front {h₀ h : Heap} {L : Addr} {b c : Addr × Obj} {A R : List (Addr × Obj)} (N : News h₀ L h (A ++ b :: c :: R)) : News h₀ L h (b :: c :: (A ++ R)) := News.sub N (by (first | with_reducible exact subId | ((repeat' (first | with_reducible exact subId | with_reducible exact subNil | with_reducible refine subCC ?_ | with_reducible refine subCons ?_ ?_ | with_reducible refine subApp ?_ ?_)) <;> kse_small) | (intro q hq; first | (simp only [List.mem_cons, List.mem_append, hq, true_or, or_true]; done) | (simp only [List.mem_cons, List.mem_append] at hq ⊢; grind))))
theorem br_of {σ : Sg} (h : ([Str.ofString "(", Str.ofString "["].any fun x => x == σ.text) = true) : σ = .lp ∨ σ = .lb := by revert h; generalize σ = τ; revert τ; refine sgAll ?_; decide +kernel
theorem not_br {σ : Sg} (h : ([Str.ofString "(", Str.ofString "["].any fun x => x == σ.text) = false) : ¬ (σ = .lp ∨ σ = .lb) := by revert h; generalize σ = τ; revert τ; refine sgAll ?_; decide +kernel
theorem apart_x {P : Params} {r : Value} {G G' : List St} (h : ∀ y ∈ adrs G', ∀ q ∈ gled P r G, q.1 < y) : ∀ x ∈ G.map St.x, x ∉ G'.map St.x := fun x hx hx' => by
  obtain ⟨st, hs, rfl⟩ := List.mem_map.mp hx
  exact Nat.lt_irrefl _ (h _ (adr_x hx') (st.x, instObj 142 st.xd) (List.mem_flatMap.mpr ⟨st, hs, .head _⟩))
theorem apart_al {P : Params} {r : Value} {G G' : List St} (h : ∀ y ∈ adrs G', ∀ q ∈ gled P r G, q.1 < y) : ∀ x ∈ G.map St.al, x ∉ G'.map St.al := fun x hx hx' => by
  obtain ⟨st, hs, rfl⟩ := List.mem_map.mp hx
  exact Nat.lt_irrefl _ (h _ (adr_al hx') (st.al, listOf st.lst.toArray st.n) (List.mem_flatMap.mpr ⟨st, hs, .tail _ (.tail _ (.head _))⟩))
theorem nodup_both {G G' : List St} {f : St → Nat} (h : (G.map f).Nodup) (h' : (G'.map f).Nodup) (d : ∀ x ∈ G.map f, x ∉ G'.map f) : ((G ++ G').map f).Nodup := by
  rw [List.map_append, List.nodup_append]
  exact ⟨h, h', fun x hx y hy e => d x hx (e ▸ hy)⟩

noncomputable abbrev ifm (p x z : Nat) (cc cd : Option Value) : Str → Option Value := fun y => if y = Str.ofString "b" then some (.ref z) else if y = Str.ofString "d" then cd else if y = Str.ofString "c" then cc else if y = Str.ofString "a" then some (.ref x) else if y = Str.ofString "self" then some (.ref p) else none
theorem fr_ifm {g h : Heap} {L' p x z : Nat} {m : Str → Option Value} {cc cd : Option Value} (F : Fr g L' h m) (h1 : m (Str.ofString "b") = some (.ref z)) (h2 : m (Str.ofString "d") = cd) (h3 : m (Str.ofString "c") = cc) (h4 : m (Str.ofString "a") = some (.ref x)) (h5 : m (Str.ofString "self") = some (.ref p))
    (hn : ∀ y, y ≠ Str.ofString "b" → y ≠ Str.ofString "d" → y ≠ Str.ofString "c" → y ≠ Str.ofString "a" → y ≠ Str.ofString "self" → m y = none) : Fr g L' h (ifm p x z cc cd) := frCongr F fun y => ite_at h1 fun n1 => ite_at h2 fun n2 => ite_at h3 fun n3 => ite_at h4 fun n4 => ite_at h5 fun n5 => hn y n1 n2 n3 n4 n5
inductive ItInv (R : PR) (P : Params) (g' : Heap) (L' p pd : Nat) (rest kept : List (Addr × Obj)) (rx : Str) (rt : Tok) (q0 : PS) (l0 : List Sg) (s : Shared) (n : Nat) (s' : Shared) : Prop
  | mk (G : List St) (x z : Nat) (ls l' : List Sg) (q' : PS) (cc cd : Option Value) (k : Nat) (h1 : Heap) (tk1 : Nat) (e : s' = { s with heap := h1, toks := tk1 }) (hn : n = l'.length) (hk : l'.length ≤ k)
    (hF : itemsF R l0.length l0 = contF (itemsF R k) ls l') (hP : Piece G x z ls) (hA : narcs G + 2 + 3 * l'.length ≤ 3 * l0.length) (hO : ∀ y ∈ adrs G, p < y ∧ pd < y ∧ ∀ q ∈ rest, q.1 < y) (F : Fr g' L' h1 (ifm p x z cc cd))
    (N : News g' L' h1 ((p, instObj 220 pd) :: (pd, q'.obj P) :: (gled P (.str rx rt) G ++ rest))) (hM : Moves kept q0 l0 q' l') (hr : q'.rule = some (.str rx rt)) (he : Ends l') (hl : l'.length < l0.length) (ho : opens l' ≤ opens l0) : ItInv R P g' L' p pd rest kept rx rt q0 l0 s n s'
set_option maxRecDepth 100000 in
set_option maxHeartbeats 8000000 in
theorem itemsC {R : PR} {n : Nat} (hI : PartC 188 (itemF R) 28 280 2 n) (cut : Cuts R) : PartC 181 (fun l => itemsF R l.length l) 29 290 2 n := by
  intro w mean mg mb dp un gd cn cs a ccd cl outer A₀ base h₀ L m s Q E kept p pd q rest l rx rt B F X N T hk hroom hun hne hr hat hend hlen hrule hkp hQ hE
  cases l with
  | nil => exact hat.nil.elim
  | cons σ l =>
  obtain ⟨tg', gv, tl, pl, tkp, tyv, vv, bv⟩ := PS.shapeR hrule
  clear hrule
  refine wpAny_call ?_
  k_dflt (refine' code_def ?k1 ?k2 ?k3 ?k4 ?k5 ?kA ?kF ?kK ?k6 ?k7 ?k8 ?k9 ?kB ?_ ?c2 ?c3 ?c4 ?c5; (case kA => exact rfl); (case kF => exact rfl); (case kK => first | exact rfl | assumption); (case k1 => k_asm); (case k2 => k_asm); (case k3 => k_asm); (case k4 => k_asm); (case k5 => k_asm); (case k6 => k_is); (case k7 => k_is); (case k8 => ktr_room); (case k9 => first | exact BindsTo.of_eq rfl | exact binds_K (by k_in) rfl (by k_is) rfl rfl rfl); (case c5 => decide); (case kB => exact locs rfl); (case c2 => exact rfl); (case c3 => exact rfl); (case c4 => exact rfl); k_whole; intro g' L' hh' FG F' N' B' X' T'; (try dsimp only); (try k_fold))
  have hat' := hat.keeps FG.keep
  have F0 : Fr g' L' hh' (fun y => if y = Str.ofString "self" then some (.ref p) else none) := frCongr F' look1
  clear F'
  k_steps
  (refine Stop.go ?_; k_dflt (refine' hI (rest := rest) ?B ?F ?X ?N ?T ?k ?r ?u ?hne ?hr ?tt ?he ?hl ?rule ?kp ?_ ?_; (case kp => exact Kept.up (by assumption) (by (first | with_reducible exact subId | ((repeat' (first | with_reducible exact subId | with_reducible exact subNil | with_reducible refine subCC ?_ | with_reducible refine subCons ?_ ?_ | with_reducible refine subApp ?_ ?_)) <;> kse_small) | (intro q hq; first | (simp only [List.mem_cons, List.mem_append, hq, true_or, or_true]; done) | (simp only [List.mem_cons, List.mem_append] at hq ⊢; grind))))); (case B => k_asm); (case F => k_asm); (case X => k_asm); (case N => exact N'); (case T => k_asm); (case k => exact rfl); (case tt => exact hat'); (case hne => assumption); (case hr => assumption); (case r =>  ktr_room); (case u =>  ktr_units); (case he => exact hend); (case hl => exact hlen); (case rule => exact rfl)))
  · intro G x z ls l' q2 t nt h2 tk2 hR2 P2 A2 O2 F2 N2 M2 R2
    have hat2 := M2.here hat'
    obtain ⟨c1, c2, c3⟩ := item_cuts cut _ _ _ hend hR2
    k_steps
    rename Fr g' L' _ _ => F3
    rename News g' L' _ _ => N3
    refine Stop.go (While_syn (n₀ := l'.length) (ItInv R w.params g' L' p pd rest kept rx rt ⟨tg', gv, tl, pl, tkp, tyv, vv, bv, some (.str rx rt)⟩ (σ :: l) s) ?_ ?_ PassesOwn.leaving)
    · exact ⟨G, x, z, ls, l', q2, none, none, l.length, _, _, rfl, rfl, Nat.le_of_lt_succ c2, items_first hR2, P2, A2, O2, fr_ifm F3 rfl rfl rfl rfl rfl (fun y h1 h2 h3 h4 h5 => by simp [h1, h2, h3, h4, h5]), News.tail1 N3, M2, R2, c1, c2, c3⟩
    · clear F3 N3 c3 c2 c1 hat2 R2 M2 O2 A2 P2 hR2
      rintro n s₁ ⟨G, x, z, ls, l', q2, cc, cd, k, h1, tk1, rfl, rfl, hk1, hF, P2, A2, O2, F3, N3, M2, R2, c1, c2, c3⟩
      have hat2 := M2.here hat'
      cases l' with
      | nil => exact c1.elim
      | cons τ l' =>
      ((try dsimp only at R2); obtain ⟨tg2, gv2, tl2, pl2, tkp2, tkv2, bv2⟩ := At.shape hat2 R2; clear R2)
      refine turn_cut (starts (τ :: l') = true) F3 N3 ?_ (fun hs h2 tk2 F4 N4 => ?_) (fun hs h2 tk2 F4 N4 => ?_)
      · k_steps
        · exact ⟨_, _, rfl, by simp [starts, isName_of (by assumption)], by k_asm, News.tail1 (by k_asm)⟩
        · exact ⟨_, _, rfl, by rcases br_of (by assumption) with rfl | rfl <;> simp [starts], by k_asm, News.tail1 (News.tail1 (by k_asm))⟩
        · exact ⟨_, _, rfl, by have e1 := not_isName (by assumption); have e2 := not_or.mp (not_br (by assumption)); simp [starts, e1, e2.1, e2.2], by k_asm, News.tail1 (News.tail1 (by k_asm))⟩
      · clear F3 N3
        k_steps
        (refine Stop.go ?_; k_dflt (refine' hI (rest := gled w.params (.str rx rt) G ++ rest) ?B ?F ?X ?N ?T ?k ?r ?u ?hne ?hr ?tt ?he ?hl ?rule ?kp ?_ ?_; (case kp => exact Kept.up (by assumption) (by (first | with_reducible exact subId | ((repeat' (first | with_reducible exact subId | with_reducible exact subNil | with_reducible refine subCC ?_ | with_reducible refine subCons ?_ ?_ | with_reducible refine subApp ?_ ?_)) <;> kse_small) | (intro q hq; first | (simp only [List.mem_cons, List.mem_append, hq, true_or, or_true]; done) | (simp only [List.mem_cons, List.mem_append] at hq ⊢; grind))))); (case B => k_asm); (case F => k_asm); (case X => k_asm); (case N => exact N4); (case T => k_asm); (case k => exact rfl); (case tt => exact hat2); (case hne => assumption); (case hr => exact ne_gled (fun y hy => (O2 y hy).2.1) hr); (case r =>  ktr_room); (case u =>  ktr_units); (case he => exact c1); (case hl => kmod_is); (case rule => exact rfl)))
        · clear N4 F4
          intro G2 x2 z2 ls2 l2 q3 t nt h3 tk3 hR3 P3 A3 O3 F4 N4 M3 R3
          obtain ⟨b1, b2, b3⟩ := item_cuts cut _ _ _ c1 hR3
          have hg : ∀ y ∈ adrs G2, ∀ q ∈ gled w.params (.str rx rt) G, q.1 < y := fun y hy q hq => (O3 y hy).2.2 q (List.mem_append_left _ hq)
          have Oc : ∀ y ∈ adrs (G ++ G2), p < y ∧ pd < y ∧ ∀ q ∈ rest, q.1 < y := fun y hy => by
            rw [adrs_append] at hy
            rcases List.mem_append.mp hy with hy | hy
            · exact O2 y hy
            · exact ⟨(O3 y hy).1, (O3 y hy).2.1, fun q hq => (O3 y hy).2.2 q (List.mem_append_right _ hq)⟩
          have hx3 := nodup_both P2.xs P3.xs (apart_x hg)
          have ha3 := nodup_both P2.als P3.als (apart_al hg)
          have hna : narcs (G ++ G2) < 1000 := by rw [narcs_append]; exact lt1000 (nrS2 A2 A3 hlen.2)
          (obtain ⟨st, hst, rfl⟩ := List.mem_map.mp P2.zin; have Nst := News.expo (P := w.params) (r := .str rx rt) N4 hst (by (first | with_reducible exact subId | ((repeat' (first | with_reducible exact subId | with_reducible exact subNil | with_reducible refine subCC ?_ | with_reducible refine subCons ?_ ?_ | with_reducible refine subApp ?_ ?_)) <;> kse_small) | (intro q hq; first | (simp only [List.mem_cons, List.mem_append, hq, true_or, or_true]; done) | (simp only [List.mem_cons, List.mem_append] at hq ⊢; grind)))); clear N4)
          k_steps
          (refine Stop.go ?_; k_dflt (refine' addArcG0 (G := (G ++ G2)) (r := .str rx rt) (keep := (p, instObj 220 pd) :: (pd, PS.obj w.params q3) :: rest) ?B ?F ?X ?N ?T ?k ?hr ?u ?hG ?hK ?hKa ?xs ?als ?hb ?hc ?hna ?_; (case B => k_asm); (case F => k_asm); (case X => k_asm); (case N => k_asm); (case T => k_asm); (case k => exact rfl); (case hr => ktr_room); (case u => ktr_units); (case hG => (rw [gled_append]; (first | with_reducible exact subId | ((repeat' (first | with_reducible exact subId | with_reducible exact subNil | with_reducible refine subCC ?_ | with_reducible refine subCons ?_ ?_ | with_reducible refine subApp ?_ ?_)) <;> kse_small) | (intro q hq; first | (simp only [List.mem_cons, List.mem_append, hq, true_or, or_true]; done) | (simp only [List.mem_cons, List.mem_append] at hq ⊢; grind))))); (case hK => (first | with_reducible exact subId | ((repeat' (first | with_reducible exact subId | with_reducible exact subNil | with_reducible refine subCC ?_ | with_reducible refine subCons ?_ ?_ | with_reducible refine subApp ?_ ?_)) <;> kse_small) | (intro q hq; first | (simp only [List.mem_cons, List.mem_append, hq, true_or, or_true]; done) | (simp only [List.mem_cons, List.mem_append] at hq ⊢; grind)))); (case hKa => exact keepO Oc); (case xs => exact hx3); (case als => exact ha3); k_whole))
          case hb => rw [List.map_append]; exact List.mem_append_left _ P2.zin
          case hc => rw [List.map_append]; exact List.mem_append_right _ P3.ain
          case hna => exact hna
          intro c h5 tk5 e1 e2 e4 e5 e6 F5 N5
          have P5 := P2.seq P3 e1 e2 (apart_x hg) (apart_al hg)
          have hn5 := narcs_addTo (b := st.x) (a := c) hx3
          rw [narcs_append] at hn5
          obtain ⟨k, rfl⟩ : ∃ k', k = k' + 1 := ⟨k - 1, predK hk1⟩
          k_steps
          rename Fr g' L' _ _ => F6
          rename News g' L' _ _ => N6
          exact ⟨l2.length, b2, addTo st.x c (G ++ G2), x, z2, ls ++ ls2, l2, q3, some (.ref x2), some (.ref z2), k, _, _, rfl, rfl, Nat.le_of_lt_succ (Nat.lt_of_lt_of_le b2 hk1),
            hF.trans (cont_step hs hR3), P5, nrF hn5 A2 A3, addO Oc e4 e6, fr_ifm F6 rfl rfl rfl rfl rfl (fun y h1 h2 h3 h4 h5 => by simp [ifm, h1, h2, h3, h4, h5]), News.front N6, M2.trans M3, R3, b1, Nat.lt_trans b2 c2, Nat.le_trans b3 c3⟩
        · intro g e h' tk' hnt FG2 U2 R'
          k_steps
          refine hE _ _ _ _ ?_ FG (by assumption) (by assumption)
          show itemsF R (σ :: l).length (σ :: l) = none
          obtain ⟨k, rfl⟩ : ∃ k', k = k' + 1 := ⟨k - 1, predK hk1⟩
          rw [hF, cont_fail hs hnt]
      · clear F3 N3
        k_steps
        refine' hQ G x z ls (τ :: l') _ _ _ _ _ ?a P2 ?b O2 ?c ?d (Moves.down M2 FG.keep) rfl
        case a => show itemsF R (σ :: l).length (σ :: l) = _; rw [hF, contF, if_neg hs]
        case b => exact A2
        case c => k_asm
        case d => k_asm
  · intro g e h' tk' hnt FG2 U2 R'
    k_steps
    refine hE _ _ _ _ ?_ FG (by assumption) (by assumption)
    simp only [List.length_cons, itemsF, hnt]

end
section

theorem fillP (w : World) (h : Heap) : (hd.heap_1 w.params).In h → PySem.Challenge.rw_iv0024_01.row.prog = PySem.Challenge.rw_iv0024_01.row.prog := by w_top off; k_fill; intro _; rfl
theorem Turn.brk {J : Nat → Shared → Prop} {n : Nat} {Q : Flow → Shared → Prop} {s : Shared} (h : Q .next s) : Turn J n Q .brk s := h

noncomputable def altC (f : PR) (ls : List Sg) : List Sg → Option (List Sg × List Sg)
  | [] => some (ls, [])
  | σ :: l' => if σ = .ba then (f l').map (fun x => (ls ++ x.1, x.2)) else some (ls, σ :: l')
theorem alts_first {R : PR} {n : Nat} {l ls l'} (h : itemsF R l.length l = some (ls, l')) : altsF R (n + 1) l = altC (altsF R n) ls l' := by
  simp only [altsF, h]
  cases l' <;> rfl
theorem alt_step {R : PR} {k : Nat} {ls l' ls2 l2} (h : itemsF R l'.length l' = some (ls2, l2)) : altC (altsF R (k + 1)) ls (.ba :: l') = altC (altsF R k) (ls ++ ls2) l2 := by
  simp only [altC, if_true, alts_first h]
  cases l2 with
  | nil => simp [altC]
  | cons σ l2 =>
    simp only [altC]
    split
    · cases altsF R k l2 <;> simp [List.append_assoc]
    · rfl
theorem alt_fail {R : PR} {k : Nat} {ls l'} (h : itemsF R l'.length l' = none) : altC (altsF R (k + 1)) ls (.ba :: l') = none := by
  simp [altC, altsF, h]
theorem ba_of {σ : Sg} (h : (σ.text != Str.ofString "|") = false) : σ = .ba := by revert h; generalize σ = τ; revert τ; refine sgAll ?_; decide +kernel
theorem not_ba {σ : Sg} (h : (σ.text != Str.ofString "|") = true) : σ ≠ .ba := by rintro rfl; revert h; decide

noncomputable abbrev rhm (p aa zz x z : Nat) : Str → Option Value := fun y => if y = Str.ofString "z" then some (.ref z) else if y = Str.ofString "a" then some (.ref x) else if y = Str.ofString "zz" then some (.ref zz) else if y = Str.ofString "aa" then some (.ref aa) else if y = Str.ofString "self" then some (.ref p) else none
theorem fr_rfm {g h : Heap} {L' p aa zz x z : Nat} {m : Str → Option Value} (F : Fr g L' h m) (h1 : m (Str.ofString "z") = some (.ref z)) (h2 : m (Str.ofString "a") = some (.ref x)) (h3 : m (Str.ofString "zz") = some (.ref zz)) (h4 : m (Str.ofString "aa") = some (.ref aa)) (h5 : m (Str.ofString "self") = some (.ref p))
    (hn : ∀ y, y ≠ Str.ofString "z" → y ≠ Str.ofString "a" → y ≠ Str.ofString "zz" → y ≠ Str.ofString "aa" → y ≠ Str.ofString "self" → m y = none) : Fr g L' h (rhm p aa zz x z) := frCongr F fun y => ite_at h1 fun n1 => ite_at h2 fun n2 => ite_at h3 fun n3 => ite_at h4 fun n4 => ite_at h5 fun n5 => hn y n1 n2 n3 n4 n5
inductive AltInv (R : PR) (P : Params) (g' : Heap) (L' p pd : Nat) (rest kept : List (Addr × Obj)) (rx : Str) (rt : Tok) (q0 : PS) (l0 : List Sg) (aa zz : Nat) (s : Shared) (n : Nat) (s' : Shared) : Prop
  | mk (G G' : List St) (x z : Nat) (ls1 ls2 l' : List Sg) (q' : PS) (k : Nat) (h1 : Heap) (tk1 : Nat) (e : s' = { s with heap := h1, toks := tk1 }) (hn : n = l'.length) (hk : l'.length ≤ k)
    (hF : altsF R l0.length l0 = altC (altsF R k) (ls1 ++ ls2) l') (hP : Pre G aa zz ls1) (hP2 : Piece G' x z ls2) (dx : ∀ y ∈ G.map St.x, y ∉ G'.map St.x) (da : ∀ y ∈ G.map St.al, y ∉ G'.map St.al) (hA : narcs G + narcs G' + 2 + 3 * l'.length ≤ 3 * l0.length)
    (hO : ∀ y ∈ adrs (G ++ G'), p < y ∧ pd < y ∧ ∀ q ∈ rest, q.1 < y) (F : Fr g' L' h1 (rhm p aa zz x z)) (N : News g' L' h1 ((p, instObj 220 pd) :: (pd, q'.obj P) :: (gled P (.str rx rt) (G ++ G') ++ rest)))
    (hM : Moves kept q0 l0 q' l') (hr : q'.rule = some (.str rx rt)) (he : Ends l') (hl : l'.length < l0.length) (ho : opens l' ≤ opens l0) : AltInv R P g' L' p pd rest kept rx rt q0 l0 aa zz s n s'
set_option maxRecDepth 100000 in
set_option maxHeartbeats 8000000 in
theorem altsC {R : PR} {n : Nat} (hI : PartC 181 (fun l => itemsF R l.length l) 29 290 2 n) (cut : Cuts R) : PartC 174 (fun l => altsF R l.length l) 30 300 0 n := by
  intro w mean mg mb dp un gd cn cs a ccd cl outer A₀ base h₀ L m s Q E kept p pd q rest l rx rt B F X N T hk hroom hun hne hr hat hend hlen hrule hkp hQ hE
  cases l with
  | nil => exact hat.nil.elim
  | cons σ l =>
  obtain ⟨tg', gv, tl, pl, tkp, tyv, vv, bv⟩ := PS.shapeR hrule
  clear hrule
  refine wpAny_call ?_
  k_dflt (refine' code_def ?k1 ?k2 ?k3 ?k4 ?k5 ?kA ?kF ?kK ?k6 ?k7 ?k8 ?k9 ?kB ?_ ?c2 ?c3 ?c4 ?c5; (case kA => exact rfl); (case kF => exact rfl); (case kK => first | exact rfl | assumption); (case k1 => k_asm); (case k2 => k_asm); (case k3 => k_asm); (case k4 => k_asm); (case k5 => k_asm); (case k6 => k_is); (case k7 => k_is); (case k8 => ktr_room); (case k9 => first | exact BindsTo.of_eq rfl | exact binds_K (by k_in) rfl (by k_is) rfl rfl rfl); (case c5 => decide); (case kB => exact locs rfl); (case c2 => exact rfl); (case c3 => exact rfl); (case c4 => exact rfl); k_whole; intro g' L' hh' FG F' N' B' X' T'; (try dsimp only); (try k_fold))
  have hat' := hat.keeps FG.keep
  have F0 : Fr g' L' hh' (fun y => if y = Str.ofString "self" then some (.ref p) else none) := frCongr F' look1
  clear F'
  k_steps
  (refine Stop.go ?_; k_dflt (refine' hI (rest := rest) ?B ?F ?X ?N ?T ?k ?r ?u ?hne ?hr ?tt ?he ?hl ?rule ?kp ?_ ?_; (case kp => exact Kept.up (by assumption) (by (first | with_reducible exact subId | ((repeat' (first | with_reducible exact subId | with_reducible exact subNil | with_reducible refine subCC ?_ | with_reducible refine subCons ?_ ?_ | with_reducible refine subApp ?_ ?_)) <;> kse_small) | (intro q hq; first | (simp only [List.mem_cons, List.mem_append, hq, true_or, or_true]; done) | (simp only [List.mem_cons, List.mem_append] at hq ⊢; grind))))); (case B => k_asm); (case F => k_asm); (case X => k_asm); (case N => exact N'); (case T => k_asm); (case k => exact rfl); (case tt => exact hat'); (case hne => assumption); (case hr => assumption); (case r =>  ktr_room); (case u =>  ktr_units); (case he => exact hend); (case hl => exact hlen); (case rule => exact rfl)))
  · intro G x z ls l' q2 t nt h2 tk2 hR2 P2 A2 O2 F2 N2 M2 R2
    have hat2 := M2.here hat'
    obtain ⟨c1, c2, c3⟩ := items_cuts cut _ _ _ _ hend hR2
    cases l' with
    | nil => exact c1.elim
    | cons τ l' =>
    ((try dsimp only at R2); obtain ⟨tg2, gv2, tl2, pl2, tkp2, tkv2, bv2⟩ := At.shape hat2 R2; clear R2)
    k_steps
    · have hb := not_ba (by assumption)
      refine' hQ G x z ls (τ :: l') _ _ _ _ _ ?a P2 ?b O2 ?c ?d (Moves.down M2 FG.keep) rfl
      case a => show altsF R (σ :: l).length (σ :: l) = _; rw [List.length_cons, alts_first hR2, altC, if_neg hb]
      case b => exact Nat.le_trans (Nat.add_le_add_right (Nat.le_add_right _ 2) _) A2
      case c => k_asm
      case d => exact News.drop1 (by k_asm)
    · obtain rfl := ba_of (by assumption)
      (refine Stop.go ?_; k_dflt (refine' mkState ?B ?F ?X ?N ?T ?k ?hr ?u ?_; (case B => k_asm); (case F => k_asm); (case X => k_asm); (case N => k_asm); (case T => k_asm); (case k => exact rfl); (case hr => ktr_room); (case u => ktr_units); k_whole))
      intro aa aad aal h3 tk3 k1 k2 n1 a1 a2 a3 F3 N3
      k_steps
      (refine Stop.go ?_; k_dflt (refine' mkState ?B ?F ?X ?N ?T ?k ?hr ?u ?_; (case B => k_asm); (case F => k_asm); (case X => k_asm); (case N => k_asm); (case T => k_asm); (case k => exact rfl); (case hr => ktr_room); (case u => ktr_units); k_whole))
      intro zz zzd zzal h4 tk4 k3 k4 n2 b1 b2 b3 F4 N4
      k_steps
      rename Fr g' L' _ _ => F5
      rename News g' L' _ _ => N5
      have a1' : p < aad ∧ pd < aad ∧ (∀ q ∈ gled w.params (.str rx rt) G, q.1 < aad) ∧ ∀ q ∈ rest, q.1 < aad := ⟨a1 _ (.tail _ (.head _)), a1 _ (.tail _ (.tail _ (.head _))), fun q hq => a1 q (.tail _ (.tail _ (.tail _ (List.mem_append_left _ hq)))), fun q hq => a1 q (.tail _ (.tail _ (.tail _ (List.mem_append_right _ hq))))⟩
      have b1' : aal < zzd := b1 _ (.tail _ (.tail _ (.head _)))
      have low : ∀ y ∈ adrs [newSt aa aad aal n1 k1 k2, newSt zz zzd zzal n2 k3 k4], aad ≤ y := by
        exact fun y h => low_two a2 a3 b2 b3 b1' h
      have ab : ∀ y ∈ adrs [newSt aa aad aal n1 k1 k2, newSt zz zzd zzal n2 k3 k4], ∀ q ∈ gled w.params (.str rx rt) G, q.1 < y := fun y hy q hq => Nat.lt_of_lt_of_le (a1'.2.2.1 q hq) (low y hy)
      refine Stop.go (While_syn (n₀ := (Sg.ba :: l').length) (AltInv R w.params g' L' p pd rest kept rx rt ⟨tg', gv, tl, pl, tkp, tyv, vv, bv, some (.str rx rt)⟩ (σ :: l) aa zz s) ?_ ?_ PassesOwn.leaving)
      · refine ⟨[newSt aa aad aal n1 k1 k2, newSt zz zzd zzal n2 k3 k4], G, x, z, [], ls, Sg.ba :: l', _, l.length, _, _, rfl, rfl, Nat.le_of_lt_succ c2, ?_, Pre.new (Nat.ne_of_lt (Nat.lt_trans a3 (Nat.lt_trans b1' b2))) (Nat.ne_of_lt (Nat.lt_trans b1' (Nat.lt_trans b2 b3))), P2,
          fun y hy hy' => apart_x ab y hy' hy, fun y hy hy' => apart_al ab y hy' hy, ?_, ?_, fr_rfm F5 rfl rfl rfl rfl rfl (fun y h1 h2 h3 h4 h5 => by simp [h1, h2, h3, h4, h5]), ?_, M2, rfl, c1, c2, c3⟩
        · rw [List.length_cons, alts_first hR2]; rfl
        · have h0 : narcs [newSt aa aad aal n1 k1 k2, newSt zz zzd zzal n2 k3 k4] = 0 := by simp [narcs, newSt]
          rw [h0, Nat.zero_add]; exact A2
        · intro y hy
          rw [adrs_append] at hy
          rcases List.mem_append.mp hy with hy | hy
          · have := low y hy
            exact ⟨Nat.lt_of_lt_of_le a1'.1 this, Nat.lt_of_lt_of_le a1'.2.1 this, fun q hq => Nat.lt_of_lt_of_le (a1'.2.2.2 q hq) this⟩
          · exact O2 y hy
        · refine News.sub N5 ?_
          rw [gled_append, gled_two]
          (first | with_reducible exact subId | ((repeat' (first | with_reducible exact subId | with_reducible exact subNil | with_reducible refine subCC ?_ | with_reducible refine subCons ?_ ?_ | with_reducible refine subApp ?_ ?_)) <;> kse_small) | (intro q hq; first | (simp only [List.mem_cons, List.mem_append, hq, true_or, or_true]; done) | (simp only [List.mem_cons, List.mem_append] at hq ⊢; grind)))
      · clear F5 N5 b1 ab low a1 a1' b1' c3 c2 c1 hat2 M2 O2 A2 P2 hR2 b2 b3 a2 a3
        rintro n s₁ ⟨G, G', x, z, ls1, ls2, l', q2, k, h1, tk1, rfl, rfl, hk1, hF, PA, P2, dx, da, A2, O2, F3, N3, M2, R2, c1, c2, c3⟩
        have hat2 := M2.here hat'
        cases l' with
        | nil => exact c1.elim
        | cons τ l' =>
        have mx : (G ++ G').map St.x = G.map St.x ++ G'.map St.x := List.map_append
        have hx3 := nodup_both PA.xs P2.xs dx
        have ha3 := nodup_both PA.als P2.als da
        have hna : narcs (G ++ G') < 900 := by rw [narcs_append]; exact nrS A2 hlen.2
        have ain' : aa ∈ (G ++ G').map St.x := by rw [mx]; exact List.mem_append_left _ PA.ain
        (obtain ⟨sa, hsa, rfl⟩ := List.mem_map.mp ain'; have Nsa := News.expo (P := w.params) (r := .str rx rt) N3 hsa (by (first | with_reducible exact subId | ((repeat' (first | with_reducible exact subId | with_reducible exact subNil | with_reducible refine subCC ?_ | with_reducible refine subCons ?_ ?_ | with_reducible refine subApp ?_ ?_)) <;> kse_small) | (intro q hq; first | (simp only [List.mem_cons, List.mem_append, hq, true_or, or_true]; done) | (simp only [List.mem_cons, List.mem_append] at hq ⊢; grind)))); clear N3)
        (try (refine wpId ?_; k_fold))
        k_steps
        (refine Stop.go ?_; k_dflt (refine' addArcG0 (G := (G ++ G')) (r := .str rx rt) (keep := (p, instObj 220 pd) :: (pd, PS.obj w.params q2) :: rest) ?B ?F ?X ?N ?T ?k ?hr ?u ?hG ?hK ?hKa ?xs ?als ?hb ?hc ?hna ?_; (case B => k_asm); (case F => k_asm); (case X => k_asm); (case N => k_asm); (case T => k_asm); (case k => exact rfl); (case hr => ktr_room); (case u => ktr_units); (case hG => (first | with_reducible exact subId | ((repeat' (first | with_reducible exact subId | with_reducible exact subNil | with_reducible refine subCC ?_ | with_reducible refine subCons ?_ ?_ | with_reducible refine subApp ?_ ?_)) <;> kse_small) | (intro q hq; first | (simp only [List.mem_cons, List.mem_append, hq, true_or, or_true]; done) | (simp only [List.mem_cons, List.mem_append] at hq ⊢; grind)))); (case hK => (first | with_reducible exact subId | ((repeat' (first | with_reducible exact subId | with_reducible exact subNil | with_reducible refine subCC ?_ | with_reducible refine subCons ?_ ?_ | with_reducible refine subApp ?_ ?_)) <;> kse_small) | (intro q hq; first | (simp only [List.mem_cons, List.mem_append, hq, true_or, or_true]; done) | (simp only [List.mem_cons, List.mem_append] at hq ⊢; grind)))); (case hKa => exact keepO O2); (case xs => exact hx3); (case als => exact ha3); k_whole))
        case hb => exact ain'
        case hc => rw [mx]; exact List.mem_append_right _ P2.ain
        case hna => exact lt1000 hna
        intro c h5 tk5 e1 e2 e4 e5 e6 F5 N5
        have zin' : z ∈ (addTo sa.x c (G ++ G')).map St.x := by rw [addTo_xs, mx]; exact List.mem_append_right _ P2.zin
        have hn5 := narcs_addTo (b := sa.x) (a := c) hx3
        (obtain ⟨sz, hsz, rfl⟩ := List.mem_map.mp zin'; have Nsz := News.expo (P := w.params) (r := .str rx rt) N5 hsz (by (first | with_reducible exact subId | ((repeat' (first | with_reducible exact subId | with_reducible exact subNil | with_reducible refine subCC ?_ | with_reducible refine subCons ?_ ?_ | with_reducible refine subApp ?_ ?_)) <;> kse_small) | (intro q hq; first | (simp only [List.mem_cons, List.mem_append, hq, true_or, or_true]; done) | (simp only [List.mem_cons, List.mem_append] at hq ⊢; grind)))); clear N5)
        k_steps
        (refine Stop.go ?_; k_dflt (refine' addArcG0 (G := (addTo sa.x c (G ++ G'))) (r := .str rx rt) (keep := (p, instObj 220 pd) :: (pd, PS.obj w.params q2) :: rest) ?B ?F ?X ?N ?T ?k ?hr ?u ?hG ?hK ?hKa ?xs ?als ?hb ?hc ?hna ?_; (case B => k_asm); (case F => k_asm); (case X => k_asm); (case N => k_asm); (case T => k_asm); (case k => exact rfl); (case hr => ktr_room); (case u => ktr_units); (case hG => (first | with_reducible exact subId | ((repeat' (first | with_reducible exact subId | with_reducible exact subNil | with_reducible refine subCC ?_ | with_reducible refine subCons ?_ ?_ | with_reducible refine subApp ?_ ?_)) <;> kse_small) | (intro q hq; first | (simp only [List.mem_cons, List.mem_append, hq, true_or, or_true]; done) | (simp only [List.mem_cons, List.mem_append] at hq ⊢; grind)))); (case hK => (first | with_reducible exact subId | ((repeat' (first | with_reducible exact subId | with_reducible exact subNil | with_reducible refine subCC ?_ | with_reducible refine subCons ?_ ?_ | with_reducible refine subApp ?_ ?_)) <;> kse_small) | (intro q hq; first | (simp only [List.mem_cons, List.mem_append, hq, true_or, or_true]; done) | (simp only [List.mem_cons, List.mem_append] at hq ⊢; grind)))); (case hKa => exact keepO (addO O2 e4 e6)); (case xs => (rw [addTo_xs]; exact hx3)); (case als => (rw [addTo_als]; exact ha3)); k_whole))
        case hb => exact zin'
        case hc => rw [addTo_xs, mx]; exact List.mem_append_left _ PA.zin
        case hna => exact lt1000' hn5 hna
        intro d h6 tk6 f1 f2 f4 f5 f6 F6 N6
        have P6 := PA.alt P2 e1 e2 f1 f2 dx da
        have hn6 := narcs_addTo (b := sz.x) (a := d) (G := addTo sa.x c (G ++ G')) (by rw [addTo_xs]; exact hx3)
        rw [narcs_append] at hn5
        have O6 : ∀ y ∈ adrs (addTo sz.x d (addTo sa.x c (G ++ G'))), p < y ∧ pd < y ∧ ∀ q ∈ rest, q.1 < y := addO (addO O2 e4 e6) f4 f6
        have N7 := News.front N6
        clear N6
        ((try dsimp only at R2); obtain ⟨tg2, gv2, tl2, pl2, tkp2, tkv2, bv2⟩ := At.shape hat2 R2; clear R2)
        k_steps
        · have hb := not_ba (by assumption)
          refine Turn.brk ?_
          k_steps
          refine' hQ _ sa.x zz (ls1 ++ ls2) (τ :: l') _ _ _ _ _ ?a P6 ?b O6 ?c ?d (Moves.down M2 FG.keep) rfl
          case a => show altsF R (σ :: l).length (σ :: l) = _; rw [hF, altC, if_neg hb]
          case b => exact nrD hn6 hn5 A2
          case c => k_asm
          case d => k_asm
        · obtain rfl := ba_of (by assumption)
          obtain ⟨hl, hend'⟩ := c1.tail (by decide)
          (refine Stop.go ?_; k_dflt (refine' gettokenG (rest := (gled w.params (.str rx rt) (addTo sz.x d (addTo sa.x c (G ++ G'))) ++ rest)) ?B ?F ?X ?N ?T ?k ?r ?hp ?hpd ?hrest ?hne ?hr ?kp ?tt ?hl ?_; (case kp => exact Kept.up (by assumption) (by (first | with_reducible exact subId | ((repeat' (first | with_reducible exact subId | with_reducible exact subNil | with_reducible refine subCC ?_ | with_reducible refine subCons ?_ ?_ | with_reducible refine subApp ?_ ?_)) <;> kse_small) | (intro q hq; first | (simp only [List.mem_cons, List.mem_append, hq, true_or, or_true]; done) | (simp only [List.mem_cons, List.mem_append] at hq ⊢; grind))))); (case B => k_asm); (case F => k_asm); (case X => k_asm); (case N => k_asm); (case T => k_asm); (case k => exact rfl); (case tt => exact hat2); (case hp => k_mem); (case hpd => k_mem); (case hrest => (first | with_reducible exact subId | ((repeat' (first | with_reducible exact subId | with_reducible exact subNil | with_reducible refine subCC ?_ | with_reducible refine subCons ?_ ?_ | with_reducible refine subApp ?_ ?_)) <;> kse_small) | (intro q hq; first | (simp only [List.mem_cons, List.mem_append, hq, true_or, or_true]; done) | (simp only [List.mem_cons, List.mem_append] at hq ⊢; grind)))); (case hne => assumption); (case hr => exact ne_gled (fun y hy => (O6 y hy).2.1) hr); (case r => ktr_room); (case hl => exact hl); k_whole))
          intro h8 tk8 q8 F8 N8 M8 R8
          have hat8 := M8.here hat2
          have ho := opens_le (σ := Sg.ba) (l := l')
          have ho' := Nat.le_trans ho c3
          ((try dsimp only at R8); obtain ⟨_, _, _, _, _, _, _, _⟩ := PS.shapeR R8; clear R8)
          k_steps
          obtain ⟨k, rfl⟩ : ∃ k', k = k' + 1 := ⟨k - 1, predK hk1⟩
          (refine Stop.go ?_; k_dflt (refine' hI (rest := gled w.params (.str rx rt) (addTo sz.x d (addTo sa.x c (G ++ G'))) ++ rest) ?B ?F ?X ?N ?T ?k ?r ?u ?hne ?hr ?tt ?he ?hl ?rule ?kp ?_ ?_; (case kp => exact Kept.up (by assumption) (by (first | with_reducible exact subId | ((repeat' (first | with_reducible exact subId | with_reducible exact subNil | with_reducible refine subCC ?_ | with_reducible refine subCons ?_ ?_ | with_reducible refine subApp ?_ ?_)) <;> kse_small) | (intro q hq; first | (simp only [List.mem_cons, List.mem_append, hq, true_or, or_true]; done) | (simp only [List.mem_cons, List.mem_append] at hq ⊢; grind))))); (case B => k_asm); (case F => k_asm); (case X => k_asm); (case N => exact N8); (case T => k_asm); (case k => exact rfl); (case tt => exact hat8); (case hne => assumption); (case hr => exact ne_gled (fun y hy => (O6 y hy).2.1) hr); (case r =>  ktr_room); (case u =>  ktr_units); (case he => exact hend'); (case hl => exact ⟨Nat.lt_trans (Nat.lt_of_succ_lt c2) hlen.1, Nat.lt_trans (Nat.lt_of_succ_lt c2) hlen.2⟩); (case rule => exact rfl)))
          · intro G2 x2 z2 ls3 l2 q3 t nt h9 tk9 hR3 P3 A3 O3 F9 N9 M9 R9
            obtain ⟨d1, d2, d3⟩ := items_cuts cut _ _ _ _ hend' hR3
            have hg : ∀ y ∈ adrs G2, ∀ q ∈ gled w.params (.str rx rt) (addTo sz.x d (addTo sa.x c (G ++ G'))), q.1 < y := fun y hy q hq => (O3 y hy).2.2 q (List.mem_append_left _ hq)
            k_steps
            rename Fr g' L' _ _ => F10
            rename News g' L' _ _ => N10
            refine ⟨l2.length, Nat.lt_succ_of_lt d2, addTo sz.x d (addTo sa.x c (G ++ G')), G2, x2, z2, ls1 ++ ls2, ls3, l2, q3, k, _, _, rfl, rfl, Nat.le_of_lt (Nat.lt_of_lt_of_le d2 (Nat.le_of_succ_le_succ hk1)),
              hF.trans (alt_step hR3), P6.pre, P3, apart_x hg, apart_al hg, nrE hn6 hn5 A2 A3, ?_, fr_rfm F10 rfl rfl rfl rfl rfl (fun y h1 h2 h3 h4 h5 => by simp [rhm, h1, h2, h3, h4, h5]), ?_, (M2.trans M8).trans M9, R9, d1, Nat.lt_trans d2 (Nat.lt_of_succ_lt c2), Nat.le_trans d3 ho'⟩
            · intro y hy
              rw [adrs_append] at hy
              rcases List.mem_append.mp hy with hy | hy
              · exact O6 y hy
              · exact ⟨(O3 y hy).1, (O3 y hy).2.1, fun q hq => (O3 y hy).2.2 q (List.mem_append_right _ hq)⟩
            · refine News.sub N10 ?_
              rw [gled_append]
              (first | with_reducible exact subId | ((repeat' (first | with_reducible exact subId | with_reducible exact subNil | with_reducible refine subCC ?_ | with_reducible refine subCons ?_ ?_ | with_reducible refine subApp ?_ ?_)) <;> kse_small) | (intro q hq; first | (simp only [List.mem_cons, List.mem_append, hq, true_or, or_true]; done) | (simp only [List.mem_cons, List.mem_append] at hq ⊢; grind)))
          · intro g e h' tk' hnt FG2 U2 R'
            k_steps
            refine hE _ _ _ _ ?_ FG (by assumption) (by assumption)
            show altsF R (σ :: l).length (σ :: l) = none
            rw [hF, alt_fail hnt]
  · intro g e h' tk' hnt FG2 U2 R'
    k_steps
    refine hE _ _ _ _ ?_ FG (by assumption) (by assumption)
    show altsF R (σ :: l).length (σ :: l) = none
    simp only [List.length_cons, altsF] at hnt ⊢
    rw [hnt]
theorem rhsC0 : PartC 174 (rhsF 0) 30 300 0 0 := by
  intro w mean mg mb dp un gd cn cs a ccd cl outer A₀ base h₀ L m s Q E kept p pd q rest l rx rt B F X N T hk hroom hun hne hr hat hend hlen
  exact absurd hlen.1 (Nat.not_lt_zero _)
theorem rhsCs {n : Nat} (h : PartC 174 (rhsF n) 30 300 0 n) : PartC 174 (rhsF (n + 1)) 30 300 0 (n + 1) :=
  have hA : PartC 195 (atomF (rhsF n)) 27 270 2 (n + 1) := atomC @h (rhs_cuts n)
  have hI : PartC 188 (itemF (rhsF n)) 28 280 2 (n + 1) := itemC @h @hA (rhs_cuts n)
  have hJ : PartC 181 (fun l => itemsF (rhsF n) l.length l) 29 290 2 (n + 1) := itemsC @hI (rhs_cuts n)
  altsC @hJ (rhs_cuts n)
theorem rhsC (n : Nat) : PartC 174 (rhsF n) 30 300 0 n := by
  induction n with
  | zero => exact @rhsC0
  | succ n ih => exact rhsCs @ih

end
section
open PySem.W.X
theorem fillS (w : World) (h : Heap) : (hd.heap_1 w.params).In h → PySem.Challenge.rw_iv0024_01.row.prog = PySem.Challenge.rw_iv0024_01.row.prog := by w_top off; k_fill; intro _; rfl

section
variable {w : World} {base g : Heap} {A : Around} {fr : List Env} {L' p pd : Nat} {test : PySem.Expr} {lb body : List Stmt} {env : Env}
theorem loops (cond : List Sg → Prop) (step : ∀ n l, cond l → (∀ l', l'.length < l.length → cond l' → LoopAt w base g A fr L' p pd test lb body env n l') → LoopAt w base g A fr L' p pd test lb body env (n + 1) l) :
    ∀ n l, l.length < n → cond l → LoopAt w base g A fr L' p pd test lb body env n l
  | 0, _, h, _ => absurd h (Nat.not_lt_zero _)
  | n + 1, l, h, c => step n l c fun l' h' c' => loops cond step n l' (by kmod_is) c'
theorem susp_wake {n : Nat} {l' : List Sg} {kk : Resume → Sem Fin} {lst : List Value} {p₁ p₀ : Pos} {cl : Bool} (h : LoopAt w base g A fr L' p pd test lb body env n l') (e : kk (.send .none) = .pure (.again (.whileLoop test lb [] env))) :
    Wake w base g A fr L' p pd (n + 1) l' (.suspended kk lst (.whileLoop test lb [] env) p₁ (loopFs body env p₀) cl) := by
  refine ⟨_, _, _, .inr ⟨_, _, _, _, rfl, rfl⟩, fun s q rest kept ca cz F N hr hat hru hkp => ?_⟩
  rw [e]
  exact s_again _ _ _ _ _ _ _ _ rfl (h s q rest kept ca cz p₀ F N hr hat hru hkp)
theorem wpAny_gen {α : Type} {dp un : Nat} {cn : Str} {cs : Scope} {L a : Addr} {ccd : Value} {cl : List (Str × Addr)} {outer : List Env} {p₀ : Pos} {t : Sem α} {Q : α → Shared → Prop} {E : Value → Shared → Prop} {s : Shared}
    (h : wpAny (model PySem.Challenge.rw_iv0024_01.row.prog w) ((ktrTop dp un none cn cs L a ccd cl outer).deeper env) t Q E s) (hA : A.handled = none) (hd : A.depth ≤ dp) (hf : A.frames = some (envX cn cs L a ccd cl :: outer)) (hu : A.units ≤ un) :
    wpAny (model PySem.Challenge.rw_iv0024_01.row.prog w) (A.over (.whileLoop test lb [] env) (loopFs body env p₀)) t Q E s := by
  refine wpAny_upF h ?_ ?_ ?_ rfl ?_
  · show (marksOver _ _).1 = none
    simp [marksOver, List.foldr, Frame.marks, markOver, hA]
  · exact Nat.succ_le_succ hd
  · have hbe : (Code.func body env).envs = [env] := rfl
    have hwe : (Code.whileLoop test lb [] env).envs = [] := rfl
    simp only [Around.over, hwe, hf, List.map_cons, List.map_nil, Frame.where_, envsOf_cons, hbe]
    simp [envsOf, pushEnvs, Around.deeper]
  · exact Nat.add_le_add_right hu 3
end
theorem ty_em {σ : Sg} (h : σ.ty = 88) : σ = .em := by revert h; generalize σ = τ; revert τ; refine sgAll ?_; decide +kernel
theorem ty_nl {σ : Sg} (h : σ.ty = 64) : σ = .nl := by revert h; generalize σ = τ; revert τ; refine sgAll ?_; decide +kernel
theorem co_of {σ : Sg} (h : σ.text = Str.ofString ":") : σ = .co := by revert h; generalize σ = τ; revert τ; refine sgAll ?_; decide +kernel
theorem skip_ne {σ : Sg} {l : List Sg} (h : σ ≠ .nl) : skipNl (σ :: l) = σ :: l := by cases σ <;> first | rfl | exact (h rfl).elim

section
variable {P : Params} {tg : Nat → Tok} {gv tyv vv bv : Value} {tl : Addr} {pl : Nat} {tkp : Tok} {rule : Option Value}
theorem ps_type : getL (Str.ofString "type") (PS.ents P ⟨tg, gv, tl, pl, tkp, tyv, vv, bv, rule⟩) = some (some tyv) := by cases rule <;> rfl
theorem ps_gettoken : getL (Str.ofString "_gettoken") (PS.ents P ⟨tg, gv, tl, pl, tkp, tyv, vv, bv, rule⟩) = some none := by cases rule <;> rfl
theorem ps_expect : getL (Str.ofString "_expect") (PS.ents P ⟨tg, gv, tl, pl, tkp, tyv, vv, bv, rule⟩) = some none := by cases rule <;> rfl
end
local macro_rules | `(tactic| walk_at "getAttr ref") => tac "here ; wp getAttr ( Value.ref _ ) ( Str.ofString \"type\" ) _ ; df { by get_own ?k1 ?k2 ?k3 ?k4 ?k5 ?k6 ?k7 ?k8 ?k9 ? ; k1=asm ; k2=asm ; k3=inst ; k4=is ; k5=is ; k6=is ; k7=is ; k8! ps_type ; k9=handed ; whole }"
local macro_rules | `(tactic| walk_at "getMethod ref") => tac "here ; df { by method_inst ?k1 ?k2 ?k3 ?k4 ?k5 ?k6 ?k7 ? ; k1=asm ; k2=asm ; k3=inst ; k4=is ; k5=is ; k6=is ; k7=z9 ; whole }"

inductive RowI (P : Params) (g' : Heap) (L' p pd : Nat) (ca cz : Option Value) (rest kept : List (Addr × Obj)) (rule : Option Value) (l : List Sg) (s : Shared) (n : Nat) (s' : Shared) : Prop
  | mk (l₁ : List Sg) (q1 : PS) (h1 : Heap) (tk1 : Nat) (e : s' = { s with heap := h1, toks := tk1 }) (hn : n = l₁.length) (hsk : skipNl l = skipNl l₁) (F : Fr g' L' h1 (gfm p ca cz)) (N : News g' L' h1 ((p, instObj 220 pd) :: (pd, q1.obj P) :: rest))
    (hat : At kept q1 l₁) (hr : q1.rule = rule) (hend : Ends l₁) (hlen : l₁.length ≤ l.length) (hop : opens l₁ ≤ opens l) : RowI P g' L' p pd ca cz rest kept rule l s n s'
inductive RowM (P : Params) (g' : Heap) (L' p pd : Nat) (ca cz : Option Value) (rest kept : List (Addr × Obj)) (τ : Sg) (l : List Sg) (s : Shared) (f : Flow) (s' : Shared) : Prop
  | mk (tv : Tok) (q : PS) (h1 : Heap) (tk1 : Nat) (hf : f = .next) (e : s' = { s with heap := h1, toks := tk1 }) (hty : τ.ty = 58) (F : Fr g' L' h1 (gfm p ca cz)) (N : News g' L' h1 ((p, instObj 220 pd) :: (pd, q.obj P) :: rest))
    (hr : q.rule = some (.str τ.text tv)) (hat : At kept q l) : RowM P g' L' p pd ca cz rest kept τ l s f s'
set_option maxRecDepth 100000 in
set_option maxHeartbeats 8000000 in
theorem parseC {w : World} {mean : ExcName → Option Value} {mg mb : Str → Option Value} {dp un : Nat} {gd : Option (List Code)} {cn : Str} {cs : Scope} {a : Addr} {ccd : Value} {cl : List (Str × Addr)} {outer : List Env} {A₀ : Around} {base h₀ : Heap} {L : Addr} {m : Str → Option Value} {s : Shared} {Q E : Value → Shared → Prop} {news : List (Addr × Obj)} {p pd : Nat} {q : PS} {rest : List (Addr × Obj)}
    (B : Below A₀ base outer h₀) (F : Fr h₀ L s.heap m) (X : (hd.heap_1 w.params).In h₀) (N : News h₀ L s.heap ((p, instObj 220 pd) :: (pd, q.obj w.params) :: rest)) (T : Top vw (looseW vw [Str.ofString "PythonTokenTypes", Str.ofString "_tuplegetter", Str.ofString "PythonToken"]) mean mg mb h₀) (hk : cs.kind = .function)
    (hroom : dp + 10 < 600) (hun : un + 40 < 8000) (hne : pd < p) (hrule : q.rule = none)
    (hQ : ∀ gv g' L' h' tk' gs nm qn t1 t2, Fr h₀ L g' m → Fr g' L' h' (gfm p none none) → News g' L' h' ((gv, genObj s.gens.size nm qn t1 t2) :: (p, instObj 220 pd) :: (pd, q.obj w.params) :: rest) → (p < gv ∧ pd < gv ∧ ∀ x ∈ rest, x.1 < gv) → Fr h₀ L h' m →
      News h₀ L h' ((gv, genObj s.gens.size nm qn t1 t2) :: (p, instObj 220 pd) :: (pd, q.obj w.params) :: rest) →
      (∀ (A : Around) n l, A.handled = none → A.depth ≤ dp + 20 → A.frames = some (envX cn cs L a ccd cl :: outer) → A.units ≤ un + 100 → l.length < n → l.length < 300 → Ends l → dp + 12 * opens l + 100 < 600 → un + 100 * opens l + 1000 < 8000 →
        Wake w base g' A (envX cn cs L a ccd cl :: outer) L' p pd (n + 1) l gs) →
      Q (.ref gv) { s with heap := h', toks := tk', gens := s.gens.push gs }) :
    wpAny (model PySem.Challenge.rw_iv0024_01.row.prog w) (ktrTop dp un gd cn cs L a ccd cl outer) (call (.ref 167) [.ref p]) Q E s := by
  refine wpAny_call ?_
  k_dflt (refine' gen_def ?k1 ?k2 ?k3 ?k4 ?k5 ?kA ?kF ?kK ?k6 ?k7 ?k8 ?k9 ?kB ?_ ?c2 ?c3 ?c4 ?c5; (case kA => exact rfl); (case kF => exact rfl); (case kK => first | exact rfl | assumption); (case k1 => k_asm); (case k2 => k_asm); (case k3 => k_asm); (case k4 => k_asm); (case k5 => k_asm); (case k6 => k_is); (case k7 => k_is); (case k8 => ktr_room); (case k9 => first | exact BindsTo.of_eq rfl | exact binds_K (by k_in) rfl (by k_is) rfl rfl rfl); (case c5 => decide); (case kB => exact locs rfl); (case c2 => exact rfl); (case c3 => exact rfl); (case c4 => exact rfl); k_whole; intro g' L' hh' tkG gv t1G t2G FG F' N' lG B' X' T'; (try dsimp only))
  have F0 : Fr g' L' hh' (gfm p none none) := frCongr F' fun y => Eq.trans (look1 y) (Eq.symm (Eq.trans (drop_none (k := Str.ofString "z") (f := fun y => if y = Str.ofString "a" then none else if y = Str.ofString "self" then some (Value.ref p) else none) rfl y) (drop_none (k := Str.ofString "a") (f := fun y => if y = Str.ofString "self" then some (Value.ref p) else none) rfl y)))
  refine leaveK_ F' N' fun F1 N1 => ?_
  refine hQ _ g' L' hh' tkG _ _ _ _ _ FG F0 N' ⟨lG _ (.head _), lG _ (.tail _ (.head _)), fun x hx => lG x (.tail _ (.tail _ hx))⟩ F1 N1 fun A n l hA hd hf hu hn hl hend hdo hun2 => ?_
  clear F1 N1 F0 N' F' lG
  refine wake_of_loop n l (loops (fun l => l.length < 300 ∧ Ends l ∧ dp + 12 * opens l + 100 < 600 ∧ un + 100 * opens l + 1000 < 8000) (fun n l hc ih => ?_) n l hn ⟨hl, hend, hdo, hun2⟩)
  clear hn hl hend hdo hun2
  obtain ⟨hl, hend, hdo, hun2⟩ := hc
  intro s q rest kept ca cz p₀ F1 N1 hr hat hru hkp
  cases l with
  | nil => exact hat.nil.elim
  | cons σ l =>
  have hRhs : PartC 174 (rhsF 300) 30 300 0 300 := @rhsC 300
  obtain ⟨⟨htv, ⟨tk0, hvv⟩, -⟩, -⟩ := hat.cur
  obtain ⟨tg', gv', tl, pl, tkp, tyv, vv, bv, rule⟩ := q
  dsimp only at htv hvv
  subst htv hvv
  have hru2 : rule = none ∨ ∃ rx rt, rule = some (.str rx rt) := hru
  clear hru; rename rule = none ∨ _ => hru
  refine sx_whileLoop (wpAny_gen (dp := dp + 20) (un := un + 100) ?_ hA hd hf hu)
  (try (refine wpId ?_; k_fold))
  k_steps
  · have hem : σ ≠ .em := by rintro rfl; exact absurd rfl (by assumption)
    refine sx_cons (sx_wrap (wpAny_gen (dp := dp + 20) (un := un + 100) ?_ hA hd hf hu))
    (try (refine wpId ?_; k_fold))
    refine wpAny_noRaise (While_syn (n₀ := (σ :: l).length) (RowI w.params g' L' p pd ca cz rest kept rule (σ :: l) s) ?_ ?_ PassesOwn.never)
    · exact ⟨σ :: l, _, _, _, rfl, rfl, rfl, F1, N1, hat, rfl, hend, Nat.le_refl _, Nat.le_refl _⟩
    · clear N1 F1 hat
      rintro n1 s₁ ⟨l₁, q1, h1, tk1, rfl, rfl, hsk, F2, N2, hat2, R2, hend2, hlen2, hop2⟩
      cases l₁ with
      | nil => exact hat2.nil.elim
      | cons τ l₁ =>
      ((try dsimp only at R2); obtain ⟨tg2, gv2, tl2, pl2, tkp2, tkv2, bv2⟩ := At.shape hat2 R2; clear R2)
      (try (refine wpId ?_; k_fold))
      k_steps
      · -- an empty row
        obtain rfl := ty_nl (by assumption)
        obtain ⟨hl2, hend3⟩ := hend2.tail (by decide)
        (refine Stop.go ?_; k_dflt (refine' gettokenG (rest := rest) ?B ?F ?X ?N ?T ?k ?r ?hp ?hpd ?hrest ?hne ?hr ?kp ?tt ?hl ?_; (case kp => exact Kept.up (by assumption) (by (first | with_reducible exact subId | ((repeat' (first | with_reducible exact subId | with_reducible exact subNil | with_reducible refine subCC ?_ | with_reducible refine subCons ?_ ?_ | with_reducible refine subApp ?_ ?_)) <;> kse_small) | (intro q hq; first | (simp only [List.mem_cons, List.mem_append, hq, true_or, or_true]; done) | (simp only [List.mem_cons, List.mem_append] at hq ⊢; grind))))); (case B => k_asm); (case F => k_asm); (case X => k_asm); (case N => k_asm); (case T => k_asm); (case k => exact rfl); (case tt => exact hat2); (case hp => k_mem); (case hpd => k_mem); (case hrest => (first | with_reducible exact subId | ((repeat' (first | with_reducible exact subId | with_reducible exact subNil | with_reducible refine subCC ?_ | with_reducible refine subCons ?_ ?_ | with_reducible refine subApp ?_ ?_)) <;> kse_small) | (intro q hq; first | (simp only [List.mem_cons, List.mem_append, hq, true_or, or_true]; done) | (simp only [List.mem_cons, List.mem_append] at hq ⊢; grind)))); (case hne => assumption); (case hr => assumption); (case r => ktr_room); (case hl => exact hl2); k_whole))
        intro h3 tk3 q3 F3 N3 M3 R3
        have ho3 := opens_le (σ := Sg.nl) (l := l₁)
        k_steps
        exact ⟨l₁.length, by simp, l₁, q3, _, _, rfl, rfl, hsk, F3, N3, M3.here hat2, R3, hend3, by simp only [List.length_cons] at hlen2 ⊢; kmod_is, Nat.le_trans ho3 hop2⟩
      · -- the row's name
        have hτ : τ ≠ .nl := by rintro rfl; exact absurd rfl (by assumption)
        rw [skip_ne hτ] at hsk
        refine sx_cons (sx_wrap (wpAny_gen (dp := dp + 20) (un := un + 100) ?_ hA hd hf hu))
        (try (refine wpId ?_; k_fold))
        refine wpAny_mono (Q := RowM w.params g' L' p pd ca cz rest kept τ l₁ s) ?_ ?_ (fun _ _ h => h)
        · k_steps
          (refine Stop.go ?_; k_dflt (refine' expectG1 (rest := rest) ?B ?F ?X ?N ?T ?k ?r ?u ?hp ?hpd ?hrest ?hne ?hr ?kp ?tt ?hl ?ty ?_ ?_; (case kp => exact Kept.up (by assumption) (by (first | with_reducible exact subId | ((repeat' (first | with_reducible exact subId | with_reducible exact subNil | with_reducible refine subCC ?_ | with_reducible refine subCons ?_ ?_ | with_reducible refine subApp ?_ ?_)) <;> kse_small) | (intro q hq; first | (simp only [List.mem_cons, List.mem_append, hq, true_or, or_true]; done) | (simp only [List.mem_cons, List.mem_append] at hq ⊢; grind))))); (case B => k_asm); (case F => k_asm); (case X => k_asm); (case N => k_asm); (case T => k_asm); (case k => exact rfl); (case tt => exact hat2); (case hp => k_mem); (case hpd => k_mem); (case hrest => (first | with_reducible exact subId | ((repeat' (first | with_reducible exact subId | with_reducible exact subNil | with_reducible refine subCC ?_ | with_reducible refine subCons ?_ ?_ | with_reducible refine subApp ?_ ?_)) <;> kse_small) | (intro q hq; first | (simp only [List.mem_cons, List.mem_append, hq, true_or, or_true]; done) | (simp only [List.mem_cons, List.mem_append] at hq ⊢; grind)))); (case hne => assumption); (case hr => assumption); (case r => ktr_room); (case u => ktr_units); (case hl => exact hend2.single (by decide)); (case ty => simp [IsTy])))
          · intro h3 tk3 q3 tv hty F3 N3 M3 R3
            have hat3 := M3.here hat2
            ((try dsimp only at R3); obtain ⟨tg3, gv3, tl3, pl3, tkp3, tyv3, vv3, bv3⟩ := PS.shapeR R3; clear R3)
            rcases hru with rfl | ⟨rx, rt, rfl⟩
            · dsimp only [PS.obj, PS.cnt] at N3
              k_steps
              rename Fr g' L' _ _ => F4
              rename News g' L' _ _ => N4
              exact ⟨tv, ⟨fun i => if i = 6 then _ else tg3 i, gv3, tl3, pl3, tkp3, tyv3, vv3, bv3, some (.str τ.text tv)⟩, _, _, rfl, rfl, hty, F4, N4, rfl, by cases l₁ <;> exact hat3⟩
            · dsimp only [PS.obj, PS.cnt] at N3
              k_steps
              rename Fr g' L' _ _ => F4
              rename News g' L' _ _ => N4
              exact ⟨tv, ⟨tg3, gv3, tl3, pl3, tkp3, tyv3, vv3, bv3, some (.str τ.text tv)⟩, _, _, rfl, rfl, hty, F4, N4, rfl, by cases l₁ <;> exact hat3⟩
          · intro g e h' tk' hnt FG2 U2 R'
            refine sx_raise hf rfl R' fun h9 S9 U9 => ?_
            unfold WakeEnd
            rw [if_neg (by simpa using hem), show rowF (σ :: l) = none from (by rw [rowF, hsk]; cases l₁ <;> simp [rowG, hnt])]
            exact ⟨_, h9, _, rfl, rfl, S9, (Heap.UpToSlots.of_keeps FG2.keep).trans (U2.trans U9)⟩
        · rintro f s₂ ⟨tv, q3, h3, tk3, rfl, rfl, hty, F4, N5, R3, hat4⟩
          clear F2 N2
          have hτe : τ ≠ .em := by rintro rfl; exact absurd hty (by decide)
          obtain ⟨hl3, hend3⟩ := hend2.tail hτe
          ((try dsimp only at R3); obtain ⟨tg3, gv3, tl3, pl3, tkp3, tyv3, vv3, bv3⟩ := PS.shapeR R3; clear R3)
          cases l₁ with
          | nil => exact (hl3 rfl).elim
          | cons τ2 l₁ =>
          refine sx_cons (sx_wrap (wpAny_gen (dp := dp + 20) (un := un + 100) ?_ hA hd hf hu))
          (try (refine wpId ?_; k_fold))
          k_steps
          (refine Stop.go ?_; k_dflt (refine' expectG (rest := rest) ?B ?F ?X ?N ?T ?k ?r ?u ?hp ?hpd ?hrest ?hne ?hr ?kp ?tt ?hl ?ty ?rule ?_ ?_; (case kp => exact Kept.up (by assumption) (by (first | with_reducible exact subId | ((repeat' (first | with_reducible exact subId | with_reducible exact subNil | with_reducible refine subCC ?_ | with_reducible refine subCons ?_ ?_ | with_reducible refine subApp ?_ ?_)) <;> kse_small) | (intro q hq; first | (simp only [List.mem_cons, List.mem_append, hq, true_or, or_true]; done) | (simp only [List.mem_cons, List.mem_append] at hq ⊢; grind))))); (case B => k_asm); (case F => k_asm); (case X => k_asm); (case N => k_asm); (case T => k_asm); (case k => exact rfl); (case tt => exact hat4); (case hp => k_mem); (case hpd => k_mem); (case hrest => (first | with_reducible exact subId | ((repeat' (first | with_reducible exact subId | with_reducible exact subNil | with_reducible refine subCC ?_ | with_reducible refine subCons ?_ ?_ | with_reducible refine subApp ?_ ?_)) <;> kse_small) | (intro q hq; first | (simp only [List.mem_cons, List.mem_append, hq, true_or, or_true]; done) | (simp only [List.mem_cons, List.mem_append] at hq ⊢; grind)))); (case hne => assumption); (case hr => assumption); (case r => ktr_room); (case u => ktr_units); (case hl => exact hend3.single (by decide)); (case ty => simp [IsTy]); (case rule => exact rfl)))
          · intro h6 tk6 q6 tv6 hty2 hx2 F6 N6 M6 R6
            obtain rfl := co_of hx2
            have hat6 := M6.here hat4
            obtain ⟨hl6, hend6⟩ := hend3.tail (by decide)
            ((try dsimp only at R6); obtain ⟨tg6, gv6, tl6, pl6, tkp6, tyv6, vv6, bv6⟩ := PS.shapeR R6; clear R6)
            k_steps
            refine sx_cons (sx_wrap (wpAny_gen (dp := dp + 20) (un := un + 100) ?_ hA hd hf hu))
            (try (refine wpId ?_; k_fold))
            k_steps
            have ho6 : opens l₁ ≤ opens (σ :: l) := Nat.le_trans opens_le (Nat.le_trans opens_le hop2)
            have hln : l₁.length + 2 ≤ (σ :: l).length := by simp only [List.length_cons] at hlen2 ⊢; kmod_is
            have hl300 : l₁.length < 300 := by kmod_is
            (refine Stop.go ?_; k_dflt (refine' hRhs (rest := rest) ?B ?F ?X ?N ?T ?k ?r ?u ?hne ?hr ?tt ?he ?hl ?rule ?kp ?_ ?_; (case kp => exact Kept.up (by assumption) (by (first | with_reducible exact subId | ((repeat' (first | with_reducible exact subId | with_reducible exact subNil | with_reducible refine subCC ?_ | with_reducible refine subCons ?_ ?_ | with_reducible refine subApp ?_ ?_)) <;> kse_small) | (intro q hq; first | (simp only [List.mem_cons, List.mem_append, hq, true_or, or_true]; done) | (simp only [List.mem_cons, List.mem_append] at hq ⊢; grind))))); (case B => k_asm); (case F => k_asm); (case X => k_asm); (case N => exact N6); (case T => k_asm); (case k => exact rfl); (case tt => exact hat6); (case hne => assumption); (case hr => assumption); (case r =>  ktr_room); (case u =>  ktr_units); (case he => exact hend6); (case hl => exact ⟨hl300, hl300⟩); (case rule => exact rfl)))
            · intro G x z ls l' q7 t nt h7 tk7 hR7 P7 A7 O7 F7 N7 M7 R7
              have hB7 : narcs G < 1000 := lt1000 (nrS A7 hl300)
              have hat7 := M7.here hat6
              obtain ⟨c1, c2, c3⟩ := rhs_cuts 300 _ _ _ hend6 hR7
              cases l' with
              | nil => exact c1.elim
              | cons ρ l' =>
              ((try dsimp only at R7); obtain ⟨tg7, gv7, tl7, pl7, tkp7, tyv7, vv7, bv7⟩ := PS.shapeR R7; clear R7)
              k_steps
              refine sx_cons (sx_wrap (wpAny_gen (dp := dp + 20) (un := un + 100) ?_ hA hd hf hu))
              (try (refine wpId ?_; k_fold))
              k_steps
              (refine Stop.go ?_; k_dflt (refine' expectG1 (rest := (gled w.params (.str τ.text tv) G ++ rest)) ?B ?F ?X ?N ?T ?k ?r ?u ?hp ?hpd ?hrest ?hne ?hr ?kp ?tt ?hl ?ty ?_ ?_; (case kp => exact Kept.up (by assumption) (by (first | with_reducible exact subId | ((repeat' (first | with_reducible exact subId | with_reducible exact subNil | with_reducible refine subCC ?_ | with_reducible refine subCons ?_ ?_ | with_reducible refine subApp ?_ ?_)) <;> kse_small) | (intro q hq; first | (simp only [List.mem_cons, List.mem_append, hq, true_or, or_true]; done) | (simp only [List.mem_cons, List.mem_append] at hq ⊢; grind))))); (case B => k_asm); (case F => k_asm); (case X => k_asm); (case N => k_asm); (case T => k_asm); (case k => exact rfl); (case tt => exact hat7); (case hp => k_mem); (case hpd => k_mem); (case hrest => (first | with_reducible exact subId | ((repeat' (first | with_reducible exact subId | with_reducible exact subNil | with_reducible refine subCC ?_ | with_reducible refine subCons ?_ ?_ | with_reducible refine subApp ?_ ?_)) <;> kse_small) | (intro q hq; first | (simp only [List.mem_cons, List.mem_append, hq, true_or, or_true]; done) | (simp only [List.mem_cons, List.mem_append] at hq ⊢; grind)))); (case hne => assumption); (case hr => exact ne_gled (fun y hy => (O7 y hy).2.1) hr); (case r => ktr_room); (case u => ktr_units); (case hl => exact c1.single (by decide)); (case ty => simp [IsTy])))
              · intro h8 tk8 q8 tv8 hty8 F8 N8 M8 R8
                obtain rfl := ty_nl hty8
                have hat8 := M8.here hat7
                obtain ⟨hl8, hend8⟩ := c1.tail (by decide)
                ((try dsimp only at R8); obtain ⟨tg8, gv8, tl8, pl8, tkp8, tyv8, vv8, bv8⟩ := PS.shapeR R8; clear R8)
                k_steps
                refine sx_cons (sx_yield rfl rfl rfl (wpAny_gen (dp := dp + 20) (un := un + 100) ?_ hA hd hf hu))
                (try (refine wpId ?_; k_fold))
                k_steps
                rename Fr g' L' _ _ => F9
                rename News g' L' _ _ => N9
                rename _ ∧ _ => l9
                unfold WakeEnd
                rw [if_neg (by simpa using hem), show rowF (σ :: l) = some (τ, ls, l') from by rw [rowF, hsk]; simp [rowG, hty, hR7]]
                have ho8 : opens l' ≤ opens l₁ := Nat.le_trans opens_le c3
                simp only [List.length_cons] at c2 hl hln
                refine ⟨_, _, _, _, ⟨tg8, gv8, tl8, pl8, tkp8, tyv8, vv8, bv8, some (.str τ.text tv)⟩, G, x, z, tv, some (.ref x), some (.ref z), rfl, susp_wake (ih l' (by simp only [List.length_cons]; kmod_is) ⟨by kmod_is, hend8, by kmod_is, by kmod_is⟩) (by assumption), rfl, frCongr F9 ?_, N9, ⟨P7, hB7⟩, O7, l9.2.1, ?_, hat8, .inr ⟨_, _, rfl⟩⟩
                · intro y
                  unfold gfm
                  repeat' split
                  all_goals simp_all +decide
                · exact ktn_ltOf l9.2.2
              · intro g e h' tk' hnt FG2 U2 R'
                have hρ : ρ ≠ .nl := by rintro rfl; exact hnt rfl
                refine sx_raise hf rfl R' fun h9 S9 U9 => ?_
                unfold WakeEnd
                rw [if_neg (by simpa using hem), show rowF (σ :: l) = none from (by rw [rowF, hsk]; simp [rowG, hty, hR7, hρ])]
                exact ⟨_, h9, _, rfl, rfl, S9, (Heap.UpToSlots.of_keeps FG2.keep).trans (U2.trans U9)⟩
            · intro g e h' tk' hnt FG2 U2 R'
              refine sx_raise hf rfl R' fun h9 S9 U9 => ?_
              unfold WakeEnd
              rw [if_neg (by simpa using hem), show rowF (σ :: l) = none from (by rw [rowF, hsk]; simp [rowG, hty, hnt])]
              exact ⟨_, h9, _, rfl, rfl, S9, (Heap.UpToSlots.of_keeps FG2.keep).trans (U2.trans U9)⟩
          · intro g e h' tk' hnt FG2 U2 R'
            have hτ2 : τ2 ≠ .co := by rintro rfl; exact hnt ⟨rfl, rfl⟩
            refine sx_raise hf rfl R' fun h9 S9 U9 => ?_
            unfold WakeEnd
            rw [if_neg (by simpa using hem), show rowF (σ :: l) = none from (by rw [rowF, hsk]; simp [rowG, hτ2])]
            exact ⟨_, h9, _, rfl, rfl, S9, (Heap.UpToSlots.of_keeps FG2.keep).trans (U2.trans U9)⟩
  · have hem : σ = .em := ty_em (Decidable.of_not_not (by assumption))
    subst hem
    refine sx_done ?_
    unfold WakeEnd
    rw [if_pos (by rfl)]
    exact ⟨rfl, _, _, _, _, _, rfl, F1, N1⟩

end
end
section
open PySem.W.X

theorem stop_syn : isSubtype (.type "SyntaxError") (.type "StopIteration") = pure false := by rw [isSubtype_type]; kernel_rfl

theorem next_gen {w : World} {A : Around} {E : Value → Shared → Prop} {Q : Option Value → Shared → Prop} {s : Shared} {I gi : Nat} {nm qn : Str} {t1 t2 : Tok} {gs : GenState} {c₀ : Code} {t₀ : Sem Fin} {fs₀ : List Frame}
    (hh : A.handled = none) (hl : s.heap.NoLimit) (hroom : A.depth < recursionLimit) (hg : s.heap.get? I = some (genObj gi nm qn t1 t2)) (hgs : s.gens[gi]? = some gs)
    (hgo : (gs = .fresh c₀ ∧ t₀ = denote table c₀ ∧ fs₀ = []) ∨ (∃ k₀ l₀ p₀ cl, gs = .suspended k₀ l₀ c₀ p₀ fs₀ cl ∧ t₀ = k₀ (.send .none)))
    (x : SegX (model PySem.Challenge.rw_iv0024_01.row.prog w) A.in1 c₀ t₀ fs₀ (s.setGen gi .running) (fun e s₁ => (∃ v, e.result = .yielded v ∧ Q (some v) (s₁.setGen gi e.genState)) ∨
      (e = .ret (.ok (.ret .none)) ∧ ∀ h', (∀ b o, s₁.heap.get? b = some o → h'.get? b = some o) → Q none { s₁.setGen gi .finished with heap := h' }) ∨
      (∃ a, e = .ret (.error (.ref a)) ∧ s₁.TypeIs (.ref a) "SyntaxError" ∧ s₁.heap.get? I = some (genObj gi nm qn t1 t2) ∧ E (.ref a) (s₁.setGen gi .finished)))) :
    wpAny (model PySem.Challenge.rw_iv0024_01.row.prog w) A (pyNext (.ref I)) Q E s := by
  have hg' : s.heap.IsGen I gi := ⟨_, _, _, hg, rfl, rfl, rfl⟩
  unfold pyNext
  refine wpAny_bind (wpAny_attempt (wpAny_callSpecial?_slot (name := Str.ofString "__next__") hg'.typeIs slot_gen_next
    (wpAny_call_entry slot_gen_next hg'.typeIs entry_gen_next ?_ (args_gen_next _))))
  show wpAny _ _ (Builtin.Generator.genWake (.ref I) (.send .none)) _ _ s
  unfold Builtin.Generator.genWake
  refine wpAny_bind (wpAny_holding (wpAny_genNumber hg' (wpAny_bind (wpAny_genState hgs ?_))))
  rcases hgo with ⟨rfl, rfl, rfl⟩ | ⟨k₀, l₀, p₀, cl, rfl, rfl⟩
  all_goals (
    refine wpAny_bind (wpAny_roomToWake hl hroom ?_)
    show wpAny _ _ (.resume gi (.send .none) [] _) _ _ s
    intro Γ p hΓ
    refine wake_any _ PySem.Challenge.rw_iv0024_01.row.prog w hgs (by first | exact .inl ⟨rfl, rfl, rfl, rfl⟩ | exact .inr ⟨_, _, _, _, rfl, rfl⟩) (fun Γ => Γ.In A.in1) (fun _ h => h) (x.mono fun e s₁ he => ?_) Γ p hΓ
    rcases he with ⟨v, hv, hq⟩ | ⟨rfl, hq⟩ | ⟨a, rfl, hT, hI, hE⟩
    · rw [hv]
      exact wpAny_pure ⟨v, rfl, wpAny_pure hq⟩
    · show wpAny _ _ (newExc (.type "StopIteration") [] >>= _) _ _ _
      refine wpAny_bind ?_
      simp only [newExc, newTuple]
      refine wpAny_bind (wpAny_newObj_type ?_ (by size_fits))
      refine wpAny_bind (m := firstArgMember _ _) (wpAny_of_eq (a := Value.none) (by first | rfl | (simp only [firstArgMember]; rfl)) ?_)
      refine wpAny_newObj_type ?_ (by size_fits)
      simp only [raiseNew]
      refine wpAny_bind (wpAny_bind (wpAny_handled ?_))
      rw [show A.in1.handled = none from hh]
      refine wpAny_throw ?_
      refine wpAny_bind (wpAny_isInstance (T := "StopIteration") (b := true) ⟨_, Heap.get?_push_size _ rfl, rfl⟩ isSubtype_stop ?_)
      exact wpAny_pure (hq _ fun b o hb => Heap.get?_push_of_some _ (Heap.get?_push_of_some _ hb))
    · show wpAny _ _ (Builtin.Generator.genLeft (.ref I) (.ref a)) _ _ _
      unfold Builtin.Generator.genLeft Builtin.Generator.madeByALambda Builtin.Generator.genEscaped
      refine wpAny_bind (wpAny_bind (wpAny_load (s := s₁.setGen gi .finished) hI (wpAny_pure ?_)))
      refine wpAny_bind (wpAny_isInstance (s := s₁.setGen gi .finished) (T := "SyntaxError") (b := false) hT stop_syn ?_)
      simp only [Bool.and_false, Bool.false_eq_true, if_false]
      refine wpAny_bind (wpAny_isInstance (s := s₁.setGen gi .finished) (T := "SyntaxError") (b := false) hT stop_syn ?_)
      simp only [Bool.not_false, if_true]
      refine wpAny_bind (wpAny_throw ?_)
      refine wpAny_bind (wpAny_isInstance (s := s₁.setGen gi .finished) (T := "SyntaxError") (b := false) hT stop_syn ?_)
      simp only [Bool.false_eq_true, if_false]
      exact wpAny_throw hE)

end
section
local macro_rules | `(tactic| ktr_room) => tac "z3 ; dso ; roomx"
local macro_rules | `(tactic| k_room) => tac "room"
local macro_rules | `(tactic| ktr_units) => tac "z6 ; dso ; roomx"
local macro_rules | `(tactic| size_fits) => tac "by fitsMap ?h ?e ; h=rass ; e=rfl | by fitsL ?h ?e ; h=rass ; e=rfl"
local macro_rules | `(tactic| k_all) => tac "ass"
local macro_rules | `(tactic| walk_at "compareOp NotEq ref ref") => tac "here ; df { by neTy ?F ?X ?a ?b ?u ? ; F=asm ; X=asm ; a=ty3 ; b=ty3 ; u=units ; whole }"
local macro_rules | `(tactic| walk_at "compareOp Eq ref ref") => tac "here ; df { by eqTy ?F ?X ?a ?b ?u ? ; F=asm ; X=asm ; a=ty3 ; b=ty3 ; u=units ; whole }"
local macro_rules | `(tactic| walk_at "compareOp In ref ref") => tac "here ; df { by inTy ?F ?X ?N ?hm ?a ?b ?c ?u ? ; F=asm ; X=asm ; N=asm ; hm=mem ; a=ty ; b=isty ; c=isty ; u=units ; whole }"
local macro_rules | `(tactic| walk_at "call ref") => tac "here ; df { sh call ( Value.ref 174 ) _ _ ; stop | sh call ( Value.ref 181 ) _ _ ; stop | sh call ( Value.ref 188 ) _ _ ; stop | sh call ( Value.ref 195 ) _ _ ; stop | sh call ( Value.ref 139 ) _ _ ; stop | sh call ( Value.ref 203 ) _ _ ; stop | sh call ( Value.ref 210 ) _ _ ; stop | sh call ( Value.ref 142 ) _ _ ; stop | by raise_errorG ?B ?F ?X ?N ?T ?k ?r ?u ?hp ?hpd ?kp ?tt ? ; B=asm ; F=asm ; X=asm ; N=asm ; kp! Kept.up [ass] [sub] ; hp=mem ; hpd=mem ; T=asm ; k=rfl ; tt=ass ; r=room ; u=units ; whole ; intro:g,e,h',tk',FG,U',R' }"
local macro_rules | `(tactic| walk_at "exec While") => tac "here ; stop"
local macro_rules | `(tactic| walk_at "exec While BoolOp") => tac "here ; stop"
local macro_rules | `(tactic| walk_at "exec While Compare") => tac "here ; stop"
local macro_rules | `(tactic| walk_at "exec While Constant") => tac "here ; stop"
local macro_rules | `(tactic| walk_at "leaving ref") => tac "here ; by leave_onS ?k1 ?k2 ?k3 ?k4 ? ; k3=ass ; k1=ass ; k4=ass ; k2=ass ; whole ; intro:h',R',U' ; ds:R',U'"
section
open PySem.W.X

/-- one row of the grammar as the generator gave it -/
structure Row where
  t : Nat
  nt : Nat
  G : List St
  x : Nat
  z : Nat
  σ : Sg
  rt : Tok
  ls : List Sg
noncomputable def Row.led (P : Params) (r : Row) : List (Addr × Obj) := (r.t, tupObj [.ref r.x, .ref r.z] r.nt) :: gled P (.str r.σ.text r.rt) r.G
noncomputable def rled (P : Params) (rs : List Row) : List (Addr × Obj) := rs.flatMap (Row.led P)
theorem rled_snoc {P : Params} {rs : List Row} {r : Row} : rled P (rs ++ [r]) = rled P rs ++ r.led P := by simp [rled]
noncomputable def genRows : Nat → List Sg → List (Sg × List Sg) × Bool
  | 0, _ => ([], false)
  | n + 1, l => if l.head? = some .em then ([], true) else match rowF l with
    | none => ([], false)
    | some (σ, ls, l') => ((σ, ls) :: (genRows n l').1, (genRows n l').2)
noncomputable def told (rs : List Row) : List Value := rs.map fun r => .ref r.t
noncomputable def RowsAre (rs : List Row) (l : List (Sg × List Sg)) : Prop := rs.map (fun r => r.σ) = l.map Prod.fst ∧ ∀ r ∈ rs, PieceB r.G r.x r.z r.ls
noncomputable def sign (r : Row) : Sg × List Sg := (r.σ, r.ls)

theorem upd_news {g h : Heap} {L' S : Addr} {o : Obj} {l : List (Addr × Obj)} {m : Str → Option Value} {f : Obj → Obj} (F : Fr g L' h m) (N : News g L' h ((S, o) :: l)) (hl : ∀ q ∈ l, q.1 ≠ S) (hf : (f o).isFreed = false) :
    Fr g L' (h.update S f) m ∧ News g L' (h.update S f) ((S, f o) :: l) := by
  obtain ⟨a1, a2, a3⟩ := N _ (.head _)
  refine ⟨⟨?_, fun b o' e => ?_, F.above⟩, fun q hq => ?_⟩
  · obtain ⟨oL, es, ep, hL, r⟩ := F.ns
    exact ⟨oL, es, ep, (Heap.get?_update_other _ _ a2).trans hL, r⟩
  · have : S ≠ b := fun x => by rw [← x, a3] at e; cases e
    exact (Heap.get?_update_other _ _ this).trans (F.keep b o' e)
  · rcases List.mem_cons.mp hq with rfl | hq
    · exact ⟨Heap.get?_update_self _ a1 hf, a2, a3⟩
    · obtain ⟨b1, b2, b3⟩ := N q (.tail _ hq)
      exact ⟨(Heap.get?_update_other _ _ (Ne.symm (hl q hq))).trans b1, b2, b3⟩
theorem keep_news {g h h' : Heap} {L' : Addr} {l : List (Addr × Obj)} {m : Str → Option Value} (F : Fr g L' h m) (N : News g L' h l) (k : ∀ b o, h.get? b = some o → h'.get? b = some o) : Fr g L' h' m ∧ News g L' h' l := by
  refine ⟨⟨?_, fun b o' e => k _ _ (F.keep b o' e), F.above⟩, fun q hq => ⟨k _ _ (N q hq).1, (N q hq).2⟩⟩
  obtain ⟨oL, es, ep, hL, r⟩ := F.ns
  exact ⟨oL, es, ep, k _ _ hL, r⟩
theorem leave_up {h₀ g h : Heap} {L L' : Addr} {m m' : Str → Option Value} {l : List (Addr × Obj)} (FG : Fr h₀ L g m) (F : Fr g L' h m') (N : News g L' h l) : Fr h₀ L h m ∧ News h₀ L h l := by
  refine ⟨⟨?_, fun b o e => F.keep _ _ (FG.keep b o e), FG.above⟩, fun q hq => ⟨(N q hq).1, fun e => ?_, ?_⟩⟩
  · obtain ⟨oL, es, ep, hL, r⟩ := FG.ns
    exact ⟨oL, es, ep, F.keep _ _ hL, r⟩
  · obtain ⟨oL, es, ep, hL, r⟩ := FG.ns
    have := (N q hq).2.2
    rw [e, hL] at this; cases this
  · cases e : h₀.get? q.1 with
    | none => rfl
    | some o =>
      have := (N q hq).2.2
      rw [FG.keep _ _ e] at this; cases this

theorem setGen2 {s : Shared} {g : Nat} {a b : GenState} : (s.gens.setIfInBounds g a).setIfInBounds g b = s.gens.setIfInBounds g b := by simp
theorem getGen {s : Array GenState} {g : Nat} {a b c : GenState} (h : s[g]? = some c) : (s.setIfInBounds g a |>.setIfInBounds g b)[g]? = some b := by
  have hlt := (Array.getElem?_eq_some_iff.mp h).1
  simp [hlt]

theorem skip_cuts : ∀ {l : List Sg}, Ends l → Ends (skipNl l) ∧ (skipNl l).length ≤ l.length
  | [], h => h.elim
  | σ :: l, h => by
    by_cases e : σ = .nl
    · subst e
      obtain ⟨_, h'⟩ := h.tail (by decide)
      obtain ⟨a, b⟩ := skip_cuts h'
      exact ⟨a, Nat.le_trans b (Nat.le_succ _)⟩
    · rw [skip_ne e]; exact ⟨h, Nat.le_refl _⟩
theorem rowG_cuts {l : List Sg} {σ : Sg} {ls l' : List Sg} (h : Ends l) (e : rowG l = some (σ, ls, l')) : Ends l' ∧ l'.length < l.length := by
  match l, h, e with
  | σ₀ :: τ :: l1, h, e =>
    simp only [rowG] at e
    split at e
    · rename_i hc
      obtain ⟨hc1, rfl⟩ := hc
      have h1 := (h.tail (by rintro rfl; exact absurd hc1 (by decide))).2
      have h2 := (h1.tail (by decide)).2
      cases hr : rhsF 300 l1 with
      | none => rw [hr] at e; cases e
      | some y =>
        obtain ⟨ls₁, l₁⟩ := y
        rw [hr] at e
        cases l₁ with
        | nil => cases e
        | cons ρ l₁ =>
          dsimp only at e
          split at e
          · rename_i hρ
            cases e
            obtain ⟨a, b, _⟩ := rhs_cuts 300 _ _ _ h2 hr
            have := (a.tail (by rw [hρ]; decide)).2
            simp only [List.length_cons] at b ⊢
            exact ⟨this, by kmod_is⟩
          · cases e
    · cases e
theorem rowF_cuts {l : List Sg} {σ : Sg} {ls l' : List Sg} (h : Ends l) (e : rowF l = some (σ, ls, l')) : Ends l' ∧ l'.length < l.length := by
  obtain ⟨a, b⟩ := skip_cuts h
  obtain ⟨c, d⟩ := rowG_cuts a e
  exact ⟨c, Nat.lt_of_lt_of_le d b⟩

set_option maxHeartbeats 1000000 in
theorem loopL {w : World} {A : Around} {R : Result → Shared → Prop} {base g : Heap} {fr : List Env} {L' p pd S gv gi : Nat} {res : Value} {nm qn : Str} {t1 t2 : Tok} {rest kept : List (Addr × Obj)} {p0 : Program} {loose : List Str} {mean : ExcName → Option Value} {mg mb : Str → Option Value}
    (T : Top p0 loose mean mg mb g) (hh : A.handled = none) (hroom : A.depth < recursionLimit) (hkp : Kept kept ((gv, genObj gi nm qn t1 t2) :: rest)) (hgk : (gv, genObj gi nm qn t1 t2) ∈ kept) (gens₀ : Array GenState) (s₀ : Shared) :
    ∀ (n : Nat) (l : List Sg) (gs : GenState) (h : Heap) (tk : Nat) (gens : Array GenState) (rs : List Row) (c : Nat) (q : PS) (ca cz : Option Value), l.length < n → rs.length + l.length < 1000 → Wake w base g A.in1.in1 fr L' p pd n l gs →
      Ends l → Fr g L' h (gfm p ca cz) → News g L' h ((p, instObj 220 pd) :: (pd, q.obj w.params) :: (S, listOf (told rs).toArray c) :: (gv, genObj gi nm qn t1 t2) :: (rled w.params rs ++ rest)) →
      (S ≠ pd ∧ gv ≠ pd ∧ ∀ x ∈ rled w.params rs ++ rest, x.1 ≠ pd) → (p ≠ S ∧ pd ≠ S ∧ gv ≠ S ∧ ∀ x ∈ rled w.params rs ++ rest, x.1 ≠ S) → At kept q l → RuleOk q → gens[gi]? = some gs → gens.setIfInBounds gi .finished = gens₀ →
      (∀ r ∈ rs, PieceB r.G r.x r.z r.ls) →
      (∀ rs' c' h' tk' q', (genRows n l).2 = true → rs'.map sign = rs.map sign ++ (genRows n l).1 → (∀ r ∈ rs', PieceB r.G r.x r.z r.ls) → (∃ m', Fr g L' h' m') →
        News g L' h' ((p, instObj 220 pd) :: (pd, PS.obj w.params q') :: (S, listOf (told rs').toArray c') :: (gv, genObj gi nm qn t1 t2) :: (rled w.params rs' ++ rest)) → R (.ok (.ret res)) { s₀ with heap := h', toks := tk', gens := gens₀ }) →
      (∀ e h' tk', (genRows n l).2 = false → g.UpToSlots h' → SynFly kept base fr e h' → R (.error (.ref e)) { s₀ with heap := h', toks := tk', gens := gens₀ }) →
      codeAny (model PySem.Challenge.rw_iv0024_01.row.prog w) A (.builtin "list.extend.loop" ⟨[.ref S, .ref gv, res], []⟩) R { s₀ with heap := h, toks := tk, gens := gens } := by
  intro n
  induction n with
  | zero => intro l gs h tk gens rs c q ca cz hlt; exact absurd hlt (Nat.not_lt_zero _)
  | succ n ih =>
    intro l gs h tk gens rs c q ca cz hlt hrl hw hend FR N hpd hS hat hru hgs hgf hrs hR hE
    obtain ⟨c₀, t₀, fs₀, hgo, hw⟩ := hw
    refine codeAny_builtin F.entry_extend_loop ?_
    rw [Around.under_plainId F.plain_extend_loop _]
    show wpAny _ A.in1 (pyNext (.ref gv) >>= _) _ _ _
    have hgo' : gens[gi]? = some gs := hgs
    refine wpAny_bind (next_gen (s := { s₀ with heap := h, toks := tk, gens := gens }) hh (T.nolimit.keeps FR.keep) hroom (N.get (.tail _ (.tail _ (.tail _ (.head _))))) hgs hgo ?_)
    refine (hw (({ s₀ with heap := h, toks := tk, gens := gens } : Shared).setGen gi .running) q _ kept ca cz FR N (fun x hx => ?_) hat hru (hkp.up (by (first | with_reducible exact subId | ((repeat' (first | with_reducible exact subId | with_reducible exact subNil | with_reducible refine subCC ?_ | with_reducible refine subCons ?_ ?_ | with_reducible refine subApp ?_ ?_)) <;> kse_small) | (intro q hq; first | (simp only [List.mem_cons, List.mem_append, hq, true_or, or_true]; done) | (simp only [List.mem_cons, List.mem_append] at hq ⊢; grind)))))).mono fun e s₁ he => ?_
    · rcases List.mem_cons.mp hx with rfl | hx
      · exact hpd.1
      rcases List.mem_cons.mp hx with rfl | hx
      · exact hpd.2.1
      · exact hpd.2.2 x hx
    unfold WakeEnd at he
    split at he
    · -- the end
      rename_i hem
      obtain ⟨rfl, h1, tk1, q1, ca1, cz1, rfl, F1, N1⟩ := he
      have hg1 : genRows (n + 1) l = ([], true) := by rw [genRows, if_pos hem]
      refine .inr (.inl ⟨rfl, fun h' hk' => ?_⟩)
      obtain ⟨F2, N2⟩ := keep_news F1 N1 hk'
      refine wpAny_pure ?_
      have := hR rs c h' tk1 q1 (by rw [hg1]) (by rw [hg1, List.append_nil]) hrs ⟨_, F2⟩ N2
      rw [← hgf] at this
      show R (.ok (.ret res)) { heap := h', gens := (gens.setIfInBounds gi .running).setIfInBounds gi .finished, drawn := s₀.drawn, toks := tk1, os := s₀.os }
      rw [show (gens.setIfInBounds gi .running).setIfInBounds gi .finished = gens.setIfInBounds gi .finished by simp]
      exact this
    · rename_i hem
      split at he
      · -- a SyntaxError
        rename_i hrow
        obtain ⟨x, h1, tk1, rfl, rfl, S1, U1⟩ := he
        have hg1 : genRows (n + 1) l = ([], false) := by rw [genRows, if_neg hem, hrow]
        refine .inr (.inr ⟨x, rfl, ?_, ?_, ?_⟩)
        · obtain ⟨t, vs, ⟨B, hB, _, hfl, hnew⟩, htup⟩ := S1
          exact hfl.there
        · obtain ⟨t, vs, ⟨B, hB, hkl, hfl, hnew⟩, htup⟩ := S1
          exact hfl.1 _ _ (hkl _ hgk).1
        · have := hE x h1 tk1 (by rw [hg1]) U1 S1
          rw [← hgf] at this
          show R (.error (.ref x)) { heap := h1, gens := (gens.setIfInBounds gi .running).setIfInBounds gi .finished, drawn := s₀.drawn, toks := tk1, os := s₀.os }
          rw [show (gens.setIfInBounds gi .running).setIfInBounds gi .finished = gens.setIfInBounds gi .finished by simp]
          exact this
      · -- one more row
        rename_i σ ls l' hrow
        obtain ⟨t, nt, h1, tk1, q1, G, x, z, rt, ca1, cz1, hres, hwk, rfl, F1, N1, P1, O1, hpt, hot, hat1, hru1⟩ := he
        obtain ⟨hend1, hlen1⟩ := rowF_cuts hend hrow
        have hg1 : genRows (n + 1) l = ((σ, ls) :: (genRows n l').1, (genRows n l').2) := by rw [genRows, if_neg hem, hrow]
        refine .inl ⟨_, hres, ?_⟩
        show wpAny _ A.in1 (updateSeq S (·.push (.ref t)) >>= _) _ _ _
        refine wpAny_bind ?_
        have hall : ∀ y ∈ (t, tupObj [.ref x, .ref z] nt) :: gled w.params (.str σ.text rt) G, S < y.1 ∧ gv < y.1 ∧ pd < y.1 := by
          intro y hy
          rcases List.mem_cons.mp hy with rfl | hy
          · exact ⟨hot (S, _) (List.mem_append_right _ (.head _)), hot (gv, _) (List.mem_append_right _ (.tail _ (.head _))), hpt⟩
          · obtain ⟨_, b, c⟩ := O1 _ (mem_gled hy)
            exact ⟨c (S, _) (.head _), c (gv, _) (.tail _ (.head _)), b⟩
        have hnew : ∀ y ∈ rled w.params (rs ++ [⟨t, nt, G, x, z, σ, rt, ls⟩]) ++ rest, y ∈ rled w.params rs ++ rest ∨ y ∈ (t, tupObj [.ref x, .ref z] nt) :: gled w.params (.str σ.text rt) G := by
          intro y hy
          rw [rled_snoc] at hy
          rcases List.mem_append.mp hy with hy | hy
          · rcases List.mem_append.mp hy with hy | hy
            · exact .inl (List.mem_append_left _ hy)
            · exact .inr hy
          · exact .inl (List.mem_append_right _ hy)
        have N2 : News g L' h1 ((S, listOf (told rs).toArray c) :: (p, instObj 220 pd) :: (pd, q1.obj w.params) :: (gv, genObj gi nm qn t1 t2) :: (rled w.params (rs ++ [⟨t, nt, G, x, z, σ, rt, ls⟩]) ++ rest)) := News.sub N1 (by
          rw [rled_snoc]
          dsimp only [Row.led]
          (first | with_reducible exact subId | ((repeat' (first | with_reducible exact subId | with_reducible exact subNil | with_reducible refine subCC ?_ | with_reducible refine subCons ?_ ?_ | with_reducible refine subApp ?_ ?_)) <;> kse_small) | (intro q hq; first | (simp only [List.mem_cons, List.mem_append, hq, true_or, or_true]; done) | (simp only [List.mem_cons, List.mem_append] at hq ⊢; grind))))
        have hl2 : ∀ y ∈ (p, instObj 220 pd) :: (pd, q1.obj w.params) :: (gv, genObj gi nm qn t1 t2) :: (rled w.params (rs ++ [⟨t, nt, G, x, z, σ, rt, ls⟩]) ++ rest), y.1 ≠ S := fun y hy => by
          rcases List.mem_cons.mp hy with rfl | hy
          · exact hS.1
          rcases List.mem_cons.mp hy with rfl | hy
          · exact hS.2.1
          rcases List.mem_cons.mp hy with rfl | hy
          · exact hS.2.2.1
          rcases hnew y hy with h | h
          · exact hS.2.2.2 y h
          · exact Nat.ne_of_gt (hall y h).1
        obtain ⟨F3, N3⟩ := upd_news (f := Obj.mapSeq (·.push (.ref t))) F1 N2 hl2 rfl
        have hsz : (told rs).toArray.size = rs.length := by simp [told]
        refine wpAny_updateSeq (N2.get (.head _)) rfl (wpAny_pure ⟨plainId_quiet F.plain_extend_loop _, ?_⟩) (by rw [hsz]; unfold sizeLine; kmod_is) (by rw [Array.size_push, hsz]; unfold sizeLine; kmod_is)
        refine ih l' e.genState (h1.update S (Obj.mapSeq (·.push (.ref t)))) tk1 ((gens.setIfInBounds gi .running).setIfInBounds gi e.genState) (rs ++ [⟨t, nt, G, x, z, σ, rt, ls⟩]) (if ((told rs).toArray.push (.ref t)).size == (told rs).toArray.size then c else c + 1) q1 ca1 cz1 (by kmod_is) (by simp only [List.length_append, List.length_cons, List.length_nil]; kmod_is) hwk hend1 F3 ?_ ?_ ?_ hat1 hru1 (getGen hgs) ?_ ?_ ?_ ?_
        · refine News.sub N3 ?_
          have e3 : Obj.mapSeq (·.push (.ref t)) (listOf (told rs).toArray c) = listOf (told (rs ++ [⟨t, nt, G, x, z, σ, rt, ls⟩])).toArray (if ((told rs).toArray.push (.ref t)).size == (told rs).toArray.size then c else c + 1) := by
            rw [show told (rs ++ [⟨t, nt, G, x, z, σ, rt, ls⟩]) = told rs ++ [.ref t] by simp [told], ← List.push_toArray]; rfl
          rw [e3]
          (first | with_reducible exact subId | ((repeat' (first | with_reducible exact subId | with_reducible exact subNil | with_reducible refine subCC ?_ | with_reducible refine subCons ?_ ?_ | with_reducible refine subApp ?_ ?_)) <;> kse_small) | (intro q hq; first | (simp only [List.mem_cons, List.mem_append, hq, true_or, or_true]; done) | (simp only [List.mem_cons, List.mem_append] at hq ⊢; grind)))
        · refine ⟨hpd.1, hpd.2.1, fun y hy => ?_⟩
          rcases hnew y hy with h | h
          · exact hpd.2.2 y h
          · exact Nat.ne_of_gt (hall y h).2.2
        · exact ⟨hS.1, hS.2.1, hS.2.2.1, fun y hy => hl2 y (.tail _ (.tail _ (.tail _ hy)))⟩
        · rw [← hgf]; simp
        · intro r hr
          rcases List.mem_append.mp hr with hr | hr
          · exact hrs r hr
          · obtain rfl := List.mem_singleton.mp hr
            exact P1
        · intro rs' c' h' tk' q' g1 g2 g3 g4 g5
          exact hR rs' c' h' tk' q' (by rw [hg1]; exact g1) (by rw [g2, hg1, List.map_append, List.append_assoc]; rfl) g3 g4 g5
        · intro e' h' tk' g1 g2 g3
          exact hE e' h' tk' (by rw [hg1]; exact g1) g2 g3

end
section
open PySem.W.X

set_option maxHeartbeats 1000000 in
theorem listC {w : World} {mean : ExcName → Option Value} {mg mb : Str → Option Value} {dp un : Nat} {gd : Option (List Code)} {cn : Str} {cs : Scope} {a : Addr} {ccd : Value} {cl : List (Str × Addr)} {outer : List Env} {A₀ : Around} {base h₀ : Heap} {L : Addr} {m : Str → Option Value} {s : Shared} {Q E : Value → Shared → Prop} {kept : List (Addr × Obj)} {g : Heap} {L' p pd gv gi : Nat} {q : PS} {rest : List (Addr × Obj)} {gs : GenState} {l : List Sg} {nm qn : Str} {t1 t2 : Tok}
    (FG : Fr h₀ L g m) (F : Fr g L' s.heap (gfm p none none)) (N : News g L' s.heap ((gv, genObj gi nm qn t1 t2) :: (p, instObj 220 pd) :: (pd, q.obj w.params) :: rest)) (ho : p < gv ∧ pd < gv ∧ ∀ x ∈ rest, x.1 < gv)
    (hr : ∀ x ∈ rest, x.1 ≠ pd) (T : Top vw (looseW vw [Str.ofString "PythonTokenTypes", Str.ofString "_tuplegetter", Str.ofString "PythonToken"]) mean mg mb h₀) (hgs : s.gens[gi]? = some gs) (hkp : Kept kept ((gv, genObj gi nm qn t1 t2) :: rest)) (hgk : (gv, genObj gi nm qn t1 t2) ∈ kept) (hat : At kept q l) (hru : q.rule = none) (hend : Ends l) (hlen : l.length < 300) (hroom : dp + 10 < 600)
    (hwk : ∀ A : Around, A.handled = none → A.depth ≤ dp + 20 → A.frames = some (envX cn cs L a ccd cl :: outer) → A.units ≤ un + 100 → Wake w base g A (envX cn cs L a ccd cl :: outer) L' p pd 301 l gs)
    (hQ : ∀ (S : Nat) rs c h' tk' q', (genRows 301 l).2 = true → rs.map sign = (genRows 301 l).1 → (∀ r ∈ rs, PieceB r.G r.x r.z r.ls) → Fr h₀ L h' m →
      News h₀ L h' ((S, listOf (told rs).toArray c) :: (p, instObj 220 pd) :: (pd, PS.obj w.params q') :: (gv, genObj gi nm qn t1 t2) :: (rled w.params rs ++ rest)) → Q (.ref S) { s with heap := h', toks := tk', gens := s.gens.setIfInBounds gi .finished })
    (hE : ∀ e h' tk', (genRows 301 l).2 = false → g.UpToSlots h' → SynFly kept base (envX cn cs L a ccd cl :: outer) e h' → E (.ref e) { s with heap := h', toks := tk', gens := s.gens.setIfInBounds gi .finished }) :
    wpAny (model PySem.Challenge.rw_iv0024_01.row.prog w) (ktrTop dp un gd cn cs L a ccd cl outer) (call (.type "list") [.ref gv]) Q E s := by
  have hgvl : gv < s.heap.objs.size := Heap.lt_size (N.get (.head _))
  have hlt : ∀ x ∈ (gv, genObj gi nm qn t1 t2) :: (p, instObj 220 pd) :: (pd, q.obj w.params) :: rest, x.1 < s.heap.objs.size := fun x hx => Heap.lt_size (N x hx).1
  refine callType_codes (Q₁ := fun obj s₁ => obj = .ref s.heap.objs.size ∧ s₁ = { s with heap := s.heap.push { cls := .type "list", data := .seq #[] } }) PySem.F.called_list (PySem.F.typeCall_list_1 _) PySem.F.entry_list_init
    (code_list_new _ ⟨rfl, rfl⟩) fun obj s₁ h₁ => ?_
  obtain ⟨rfl, rfl⟩ := h₁
  have hS : (s.heap.push { cls := .type "list", data := .seq #[] }).get? s.heap.objs.size = some { cls := .type "list", data := .seq #[] } := Heap.get?_push_size _ rfl
  refine ⟨⟨_, hS, rfl⟩, PySem.F.args_list_init_2 _ _, ?_⟩
  have F1 : Fr g L' (s.heap.push { cls := .type "list", data := .seq #[] }) (gfm p none none) := F.push _
  have N1 : News g L' (s.heap.push { cls := .type "list", data := .seq #[] }) ((s.heap.objs.size, { cls := .type "list", data := .seq #[] }) :: (gv, genObj gi nm qn t1 t2) :: (p, instObj 220 pd) :: (pd, q.obj w.params) :: rest) := News.push F N _
  have hne : ∀ x ∈ (gv, genObj gi nm qn t1 t2) :: (p, instObj 220 pd) :: (pd, q.obj w.params) :: rest, x.1 ≠ s.heap.objs.size := fun x hx => Nat.ne_of_lt (hlt x hx)
  generalize hSd : s.heap.objs.size = S at *
  show wpAny _ _ (do let old ← Builtin.List.listItems (.ref S); Builtin.List.listUpdate (.ref S) (fun _ => #[]); letGo old.toList.reverse; Builtin.List.listExtendWith (.ref S) (.ref gv) .none) _ _ _
  refine wpAny_bind ?_
  unfold Builtin.List.listItems
  refine wpAny_bind (wpAny_seqItems hS rfl (wpAny_pure ?_))
  show wpAny _ _ (updateSeq S (fun _ => #[]) >>= fun _ => letGo (#[] : Array Value).toList.reverse >>= fun _ => Builtin.List.listExtendWith (.ref S) (.ref gv) .none) _ _ _
  refine wpAny_bind (wpAny_updateSeq hS rfl ?_)
  obtain ⟨F2, N2⟩ := upd_news (f := Obj.mapSeq (fun _ => (#[] : Array Value))) F1 N1 hne rfl
  refine wpAny_bind (wpAny_letGo ?_)
  have hIG : ∀ {h'}, News g L' h' ((S, Obj.mapSeq (fun _ => (#[] : Array Value)) { cls := .type "list", data := .seq #[] }) :: (gv, genObj gi nm qn t1 t2) :: (p, instObj 220 pd) :: (pd, q.obj w.params) :: rest) → h'.IsGen gv gi := fun N => ⟨_, _, _, N.get (.tail _ (.head _)), rfl, rfl, rfl⟩
  unfold Builtin.List.listExtendWith
  refine wpAny_bind (wpAny_typeOf (hIG N2).typeIs ?_)
  have h1 : Builtin.List.listSameRef (.ref S) (.ref gv) = false := by simp [Builtin.List.listSameRef]; exact fun e => hne _ (.head _) e.symm
  have h2 : (Value.type "generator" == Value.type "list") = false := by decide
  have h3 : (Value.type "generator" == Value.type "tuple") = false := by decide
  simp only [h1, h2, h3, Bool.or_false, Bool.false_eq_true, if_false]
  refine wpAny_bind (wpAny_pyIter_gen (hIG N2) ?_)
  refine wpAny_bind (wpAny_holding ?_)
  unfold Builtin.List.listLengthHint
  refine wpAny_bind (wpAny_specialOf (hIG N2).typeIs PySem.F.gen_no_len ?_)
  show wpAny _ _ (specialOf (Value.ref gv) (Str.ofString "__length_hint__") >>= _) _ _ _
  refine wpAny_bind (wpAny_specialOf (hIG N2).typeIs PySem.F.gen_no_hint ?_)
  refine wpAny_pure ?_
  show wpAny _ _ (rule "list.extend.makes-room" >>= fun _ => Builtin.List.listTouch (.ref S) >>= fun _ =>
    again (.builtin "list.extend.loop" ⟨[.ref S, .ref gv, .none], []⟩)) _ _ _
  refine wpAny_bind (wpAny_rule ?_)
  refine wpAny_bind ?_
  show wpAny _ _ (updateSeq S (·.push .none) >>= fun _ => updateSeq S (·.pop)) _ _ _
  refine wpAny_bind (wpAny_updateSeq (N2.get (.head _)) rfl ?_)
  obtain ⟨F3, N3⟩ := upd_news (f := Obj.mapSeq (·.push Value.none)) F2 N2 hne rfl
  refine wpAny_updateSeq (hz := by seq_fits) (N3.get (.head _)) rfl ?_
  obtain ⟨F4, N4⟩ := upd_news (f := Obj.mapSeq (·.pop)) F3 N3 hne rfl
  refine wpAny_pure ⟨plainId_quiet PySem.F.plain_extend_loop _, ?_⟩
  refine loopL (n := 301) (s₀ := s) (rest := rest) (nm := nm) (qn := qn) (t1 := t1) (t2 := t2) (T.keeps FG.keep) rfl (by show dp < recursionLimit; unfold recursionLimit; kmod_is) hkp hgk (s.gens.setIfInBounds gi .finished) l gs _ _ _ [] 2 q none none (by kmod_is) (by simp only [List.length_nil]; kmod_is) (hwk _ rfl (by show dp ≤ dp + 20; kmod_is) rfl (by show un + 1 + 1 + 1 ≤ un + 100; kmod_is)) hend F4 (News.sub N4 ?_) ?_ ?_ hat (.inl hru) hgs rfl (fun _ h => nomatch h) ?_ ?_
  · intro y hy
    have e0 : rled w.params [] = [] := rfl
    rw [e0, List.nil_append] at hy
    rcases List.mem_cons.mp hy with rfl | hy
    · exact .tail _ (.tail _ (.head _))
    rcases List.mem_cons.mp hy with rfl | hy
    · exact .tail _ (.tail _ (.tail _ (.head _)))
    rcases List.mem_cons.mp hy with rfl | hy
    · exact .head _
    rcases List.mem_cons.mp hy with rfl | hy
    · exact .tail _ (.head _)
    · exact .tail _ (.tail _ (.tail _ (.tail _ hy)))
  · exact ⟨fun e => hne _ (.tail _ (.tail _ (.head _))) e.symm, fun e => absurd ho.2.1 (by rw [e]; exact Nat.lt_irrefl _), fun x hx => hr x (by simpa [rled] using hx)⟩
  · exact ⟨hne _ (.tail _ (.head _)), hne _ (.tail _ (.tail _ (.head _))), hne _ (.head _), fun x hx => hne x (.tail _ (.tail _ (.tail _ (show x ∈ rest from by simpa [rled] using hx))))⟩
  · intro rs c' h' tk' q' g1 g2 g3 ⟨m', g4⟩ g5
    obtain ⟨F5, N5⟩ := leave_up FG g4 g5
    exact ⟨rfl, hQ S rs c' h' tk' q' g1 (by simpa using g2) g3 F5 (News.sub N5 (by (first | with_reducible exact subId | ((repeat' (first | with_reducible exact subId | with_reducible exact subNil | with_reducible refine subCC ?_ | with_reducible refine subCons ?_ ?_ | with_reducible refine subApp ?_ ?_)) <;> kse_small) | (intro q hq; first | (simp only [List.mem_cons, List.mem_append, hq, true_or, or_true]; done) | (simp only [List.mem_cons, List.mem_append] at hq ⊢; grind)))))⟩
  · intro e h' tk' g1 g2 g3
    exact hE e h' tk' g1 g2 g3

end
section
theorem fillX (w : World) (h : Heap) : (hd.heap_1 w.params).In h → PySem.Challenge.rw_iv0024_01.row.prog = PySem.Challenge.rw_iv0024_01.row.prog := by w_top off; k_fill; intro _; rfl

noncomputable def atoms : List Sg := [.nr, .sx, .nN, .si, .ns, .sp, .nt]
noncomputable def atomAt (k : Int) : Sg := atoms.getD k.toNat .nr
noncomputable def sgV (x : Sg × Tok) : Value := .str x.1.text x.2
noncomputable def intV (x : Int × Tok) : Value := .int x.1 x.2
noncomputable def atomsV (t0 t1 t2 t3 t4 t5 t6 : Tok) : List Value := [.str Sg.nr.text t0, .str Sg.sx.text t1, .str Sg.nN.text t2, .str Sg.si.text t3, .str Sg.ns.text t4, .str Sg.sp.text t5, .str Sg.nt.text t6]
theorem atoms_get {t0 t1 t2 t3 t4 t5 t6 : Tok} {k : Int} (h0 : 0 ≤ k) (h7 : k < 7) : ∃ t, (atomsV t0 t1 t2 t3 t4 t5 t6)[k.toNat]? = some (.str (atomAt k).text t) := by
  obtain ⟨n, rfl⟩ : ∃ n : Nat, k = n := ⟨k.toNat, by kmod_is⟩
  have : n < 7 := by kmod_is
  match n, this with
  | 0, _ => exact ⟨_, rfl⟩
  | 1, _ => exact ⟨_, rfl⟩
  | 2, _ => exact ⟨_, rfl⟩
  | 3, _ => exact ⟨_, rfl⟩
  | 4, _ => exact ⟨_, rfl⟩
  | 5, _ => exact ⟨_, rfl⟩
  | 6, _ => exact ⟨_, rfl⟩

set_option maxRecDepth 100000 in
set_option maxHeartbeats 8000000 in
theorem lawAtoms {w : World} {mean : ExcName → Option Value} {mg mb : Str → Option Value} {dp un : Nat} {gd : Option (List Code)} {cn : Str} {cs : Scope} {a : Addr} {ccd : Value} {cl : List (Str × Addr)} {outer : List Env} {A₀ : Around} {base h₀ : Heap} {L : Addr} {m : Str → Option Value} {s : Shared} {Q E : Value → Shared → Prop} {news : List (Addr × Obj)}
    (B : Below A₀ base outer h₀) (F : Fr h₀ L s.heap m) (X : (hd.heap_1 w.params).In h₀) (N : News h₀ L s.heap news) (T : Top vw (looseW vw [Str.ofString "PythonTokenTypes", Str.ofString "_tuplegetter", Str.ofString "PythonToken"]) mean mg mb h₀) (hk : cs.kind = .function) (hroom : dp + 10 < 600)
    (hQ : ∀ (x : Nat) h' tk' t0 t1 t2 t3 t4 t5 t6 c, (∀ q ∈ news, q.1 < x) → Fr h₀ L h' m → News h₀ L h' ((x, listOf (atomsV t0 t1 t2 t3 t4 t5 t6).toArray c) :: news) → Q (.ref x) { s with heap := h', toks := tk' }) :
    wpAny (model PySem.Challenge.rw_iv0024_01.row.prog w) (ktrTop dp un gd cn cs L a ccd cl outer) (call (.ref 351) []) Q E s := by
  refine wpAny_call ?_
  k_dflt (refine' code_def ?k1 ?k2 ?k3 ?k4 ?k5 ?kA ?kF ?kK ?k6 ?k7 ?k8 ?k9 ?kB ?_ ?c2 ?c3 ?c4 ?c5; (case kA => exact rfl); (case kF => exact rfl); (case kK => first | exact rfl | assumption); (case k1 => k_asm); (case k2 => k_asm); (case k3 => k_asm); (case k4 => k_asm); (case k5 => k_asm); (case k6 => k_is); (case k7 => k_is); (case k8 => ktr_room); (case k9 => first | exact BindsTo.of_eq rfl | exact binds_K (by k_in) rfl (by k_is) rfl rfl rfl); (case c5 => decide); (case kB => exact locs rfl); (case c2 => exact rfl); (case c3 => exact rfl); (case c4 => exact rfl); k_whole; intro g' L' hh' FG F' N' B' X' T'; (try dsimp only); (try k_fold))
  k_steps
  rename News h₀ L _ _ => kN
  exact hQ _ _ _ _ _ _ _ _ _ _ _ (by assumption) (by k_asm) kN

noncomputable def midF (R : Nat → List Int → List Sg × List Int) (deep : Nat) (number : Int) (l : List Int) : List Sg × List Int :=
  if number.fmod 6 < 2 ∨ deep = 0 then (atomAt ((number.fdiv 24).fmod 7) :: (if number.fmod 6 = 1 then [if (number.fdiv 24).fmod 2 = 0 then Sg.pl else .st] else []), l)
  else ((if number.fmod 6 = 2 then Sg.lb else .lp) :: ((R (deep - 1) l).1 ++ (if number.fmod 6 = 2 then Sg.rb else .rp) :: (if number.fmod 6 > 3 then [if number.fmod 6 = 4 then Sg.pl else .st] else [])), (R (deep - 1) l).2)
/-- what _law_side makes of the numbers: the signs, and the numbers left -/
noncomputable def sideF : Nat → Nat → List Int → List Sg × List Int
  | 0, _, l => ([], l)
  | n + 1, deep, l =>
    let number := l.headD 0
    let mid := midF (sideF n) deep number l.tail
    if (number.fdiv 6).fmod 4 < 2 then mid
    else (mid.1 ++ ((if (number.fdiv 6).fmod 4 = 3 then [Sg.ba] else []) ++ (sideF n deep mid.2).1), (sideF n deep mid.2).2)

theorem sideF_succ (n deep : Nat) (l : List Int) : sideF (n + 1) deep l = if ((l.headD 0).fdiv 6).fmod 4 < 2 then midF (sideF n) deep (l.headD 0) l.tail
    else ((midF (sideF n) deep (l.headD 0) l.tail).1 ++ ((if ((l.headD 0).fdiv 6).fmod 4 = 3 then [Sg.ba] else []) ++ (sideF n deep (midF (sideF n) deep (l.headD 0) l.tail).2).1), (sideF n deep (midF (sideF n) deep (l.headD 0) l.tail).2).2) := rfl
theorem sideF_cons (n deep : Nat) (x : Int) (l : List Int) : sideF (n + 1) deep (x :: l) = if (x.fdiv 6).fmod 4 < 2 then midF (sideF n) deep x l
    else ((midF (sideF n) deep x l).1 ++ ((if (x.fdiv 6).fmod 4 = 3 then [Sg.ba] else []) ++ (sideF n deep (midF (sideF n) deep x l).2).1), (sideF n deep (midF (sideF n) deep x l).2).2) := rfl
theorem sideF_nil (n deep : Nat) : sideF (n + 1) deep [] = ([.nr], []) := by
  rw [sideF_succ, if_pos (by decide), midF, if_pos (.inl (by decide)), if_neg (by decide)]; rfl
theorem mid_len {R : Nat → List Int → List Sg × List Int} (hR : ∀ d l, (R d l).1.length + 10 * (R d l).2.length ≤ 10 * l.length + 2) (deep : Nat) (number : Int) (l : List Int) : (midF R deep number l).1.length + 10 * (midF R deep number l).2.length ≤ 10 * l.length + 5 := by
  unfold midF
  split
  · split <;> simp <;> kmod_is
  · have := hR (deep - 1) l
    simp only [List.length_cons, List.length_append]
    split <;> simp <;> kmod_is
theorem side_len : ∀ (n deep : Nat) (l : List Int), (sideF n deep l).1.length + 10 * (sideF n deep l).2.length ≤ 10 * l.length + 2
  | 0, _, l => by simp [sideF]
  | n + 1, deep, l => by
    cases l with
    | nil => rw [sideF_nil]; simp
    | cons x l =>
      have hm := mid_len (side_len n) deep x l
      rw [sideF_cons]
      by_cases h : (x.fdiv 6).fmod 4 < 2
      · rw [if_pos h]; simp only [List.length_cons]; kmod_is
      · rw [if_neg h]
        have := side_len n deep (midF (sideF n) deep x l).2
        simp only [List.length_append, List.length_cons]
        by_cases h3 : (x.fdiv 6).fmod 4 = 3
        · rw [if_pos h3]; simp only [List.length_cons, List.length_nil]; kmod_is
        · rw [if_neg h3]; simp only [List.length_nil]; kmod_is
theorem side_rest (n deep : Nat) (l : List Int) : (sideF n deep l).2.length ≤ l.length := by
  have := side_len n deep l
  kmod_is

noncomputable def SideC (n : Nat) : Prop := ∀ {w : World} {mean : ExcName → Option Value} {mg mb : Str → Option Value} {dp un : Nat} {gd : Option (List Code)} {cn : Str} {cs : Scope} {a : Addr} {ccd : Value} {cl : List (Str × Addr)} {outer : List Env} {A₀ : Around} {base h₀ : Heap} {L : Addr} {m : Str → Option Value} {s : Shared} {Q E : Value → Shared → Prop}
    {pool rows c1 c2 deep : Nat} {pl : List (Int × Tok)} {rl : List (Sg × Tok)} {td : Tok} {rest : List (Addr × Obj)},
  Below A₀ base outer h₀ → Fr h₀ L s.heap m → (hd.heap_1 w.params).In h₀ → News h₀ L s.heap ((pool, listOf (pl.reverse.map intV).toArray c1) :: (rows, listOf (rl.map sgV).toArray c2) :: rest) → Top vw (looseW vw [Str.ofString "PythonTokenTypes", Str.ofString "_tuplegetter", Str.ofString "PythonToken"]) mean mg mb h₀ → cs.kind = .function →
  dp + 10 * deep + 20 < 600 → un + 100 * deep + 200 < 8000 → pool ≠ rows → (∀ q ∈ rest, q.1 ≠ pool) → (∀ q ∈ rest, q.1 ≠ rows) → pl.length < n → pl.length < 100 → rl.length + 10 * pl.length < 10000 →
  (∀ h' tk' (pl' : List (Int × Tok)) (rl' : List (Sg × Tok)) c1' c2', (sideF n deep (pl.map Prod.fst)).2 = pl'.map Prod.fst → rl'.map Prod.fst = rl.map Prod.fst ++ (sideF n deep (pl.map Prod.fst)).1 → Fr h₀ L h' m →
    News h₀ L h' ((pool, listOf (pl'.reverse.map intV).toArray c1') :: (rows, listOf (rl'.map sgV).toArray c2') :: rest) → Q .none { s with heap := h', toks := tk' }) →
  wpAny (model PySem.Challenge.rw_iv0024_01.row.prog w) (ktrTop dp un gd cn cs L a ccd cl outer) (call (.ref 365) [.ref pool, .int deep td, .ref rows]) Q E s

theorem atomItem {w : World} {A : Around} {E : Value → Shared → Prop} {s : Shared} {h₀ : Heap} {L l : Addr} {t0 t1 t2 t3 t4 t5 t6 : Tok} {c : Nat} {value slice : PySem.Expr} {k : Int} {u : Tok} {Q : Value → Shared → Prop} {news : List (Addr × Obj)}
    (N : News h₀ L s.heap news) (hm : (l, listOf (atomsV t0 t1 t2 t3 t4 t5 t6).toArray c) ∈ news) (h0 : 0 ≤ k) (h7 : k < 7) (h : ∀ t, Q (.str (atomAt k).text t) s)
    (hs : subscripted slice false (.ref l) (.int k u) = operate [.ref l, .int k u] (getItem (.ref l) (.int k u)) := by with_unfolding_all rfl) :
    wpAny (model PySem.Challenge.rw_iv0024_01.row.prog w) A (subscriptTail value slice (.ref l) (.int k u)) Q E s := by
  obtain ⟨t, ht⟩ := atoms_get (t0 := t0) (t1 := t1) (t2 := t2) (t3 := t3) (t4 := t4) (t5 := t5) (t6 := t6) h0 h7
  exact listItem_N N hm h0 (by kmod_is) ht (h t) hs
theorem truthy_snoc {w : World} {A : Around} {E : Value → Shared → Prop} {s : Shared} {h₀ : Heap} {L l : Addr} {us : List Value} {y : Value} {c : Nat} {Q : Bool → Shared → Prop} {news : List (Addr × Obj)}
    (N : News h₀ L s.heap news) (hm : (l, listOf (us ++ [y]).toArray c) ∈ news) (hz : us.length < 1000000) (h : Q true { s with toks := s.toks + 1 + 1 }) : wpAny (model PySem.Challenge.rw_iv0024_01.row.prog w) A (truthy (.ref l)) Q E s :=
  wpAny_truthy_list (N.isList hm) (by simp only [List.size_toArray, List.length_append, List.length_cons, List.length_nil]; kmod_is) (by
    have e : (!(us ++ [y]).toArray.isEmpty) = true := by simp
    rw [e]; exact h)
theorem truthy_nil {w : World} {A : Around} {E : Value → Shared → Prop} {s : Shared} {h₀ : Heap} {L l : Addr} {c : Nat} {Q : Bool → Shared → Prop} {news : List (Addr × Obj)}
    (N : News h₀ L s.heap news) (hm : (l, listOf ([] : List Value).toArray c) ∈ news) (h : Q false { s with toks := s.toks + 1 + 1 }) : wpAny (model PySem.Challenge.rw_iv0024_01.row.prog w) A (truthy (.ref l)) Q E s :=
  wpAny_truthy_list (N.isList hm) (by simp) (by exact h)
local macro_rules | `(tactic| walk_at "truthy ref") => tac "here ; wp truthy ( Value.ref _ ) ; df { by truthy_snoc ?N ?m ?z ? ; N=asm ; m=mem ; z=lenlt ; whole | by truthy_nil ?N ?m ? ; N=asm ; m=mem ; whole }"
theorem pop_snoc {w : World} {A : Around} {E : Value → Shared → Prop} {s : Shared} {h₀ : Heap} {L D : Addr} {m : Str → Option Value} {us : List Value} {y : Value} {n : Nat} {Q : Value → Shared → Prop} {news news' : List (Addr × Obj)}
    (F : Fr h₀ L s.heap m) (N : News h₀ L s.heap news) (U : Upd D (listOf (us ++ [y]).toArray n) (listOf us.toArray (n + 1)) news news') (hz : us.length < 100000) (h : ∀ h', Fr h₀ L h' m → News h₀ L h' news' → Q y { s with heap := h' }) :
    wpAny (model PySem.Challenge.rw_iv0024_01.row.prog w) A (call (.builtin "list.pop") [.ref D]) Q E s :=
  kl_pop F N (p := us) (y := y) (kpa_last _ _) U (by simp only [List.size_toArray, List.length_append, List.length_cons, List.length_nil]; unfold sizeLine; kmod_is) h
local macro_rules | `(tactic| walk_at "call builtin:list.pop") => tac "here ; wp call ( Value.builtin _ ) ( List.cons ( Value.ref _ ) List.nil ) ; df { by pop_snoc ?F ?N ?U ?z ? ; F=asm ; N=asm ; U=upd ; z=lenlt ; whole } ; intro:h',F',N' ; sweep"
local macro_rules | `(tactic| walk_at "call ref") => tac "here ; df { sh call ( Value.ref 365 ) _ _ ; stop | by lawAtoms ?B ?F ?X ?N ?T ?k ?r ? ; B=asm ; F=asm ; X=asm ; N=asm ; T=asm ; k=rfl ; r=room ; whole ; intro:x,h',tk',t0,t1,t2,t3,t4,t5,t6,c,lx,F',N' ; lt:lx ; sweep }"
local macro_rules | `(tactic| walk_at "last subscriptTail") => tac "here ; wp subscriptTail _ _ ( Value.ref _ ) ( Value.int _ _ ) ; un { by atomItem ?N ?l ?a ?b ? ?z ; N=asm ; l=mem ; a! fmod_lo _ [dec] ; b! fmod_hi _ [dec] ; z=wrfl ; whole } ; intro:t"

local macro_rules | `(tactic| walk_at "exec If") => tac "here ; wp exec ( Stmt.If ( Expr.BoolOp _ _ _ ) _ _ _ ) _ ; stop"
noncomputable abbrev sfm (pool rows deep : Nat) (td : Tok) (v1 v2 v3 v4 : Option Value) : Str → Option Value := fun y => if y = Str.ofString "more" then v1 else if y = Str.ofString "step" then v2 else if y = Str.ofString "kind" then v3 else if y = Str.ofString "number" then v4 else if y = Str.ofString "rows" then some (.ref rows) else if y = Str.ofString "deep" then some (.int deep td) else if y = Str.ofString "pool" then some (.ref pool) else none

theorem fr_sfm {g h : Heap} {L' pool rows deep : Nat} {td : Tok} {m : Str → Option Value} {a1 a2 a3 a4 : Value} (F : Fr g L' h m) (h1 : m (Str.ofString "more") = some a1) (h2 : m (Str.ofString "step") = some a2) (h3 : m (Str.ofString "kind") = some a3) (h4 : m (Str.ofString "number") = some a4)
    (h5 : m (Str.ofString "rows") = some (.ref rows)) (h6 : m (Str.ofString "deep") = some (.int deep td)) (h7 : m (Str.ofString "pool") = some (.ref pool))
    (hn : ∀ y, y ≠ Str.ofString "more" → y ≠ Str.ofString "step" → y ≠ Str.ofString "kind" → y ≠ Str.ofString "number" → y ≠ Str.ofString "rows" → y ≠ Str.ofString "deep" → y ≠ Str.ofString "pool" → m y = none) :
    Fr g L' h (sfm pool rows deep td (some a1) (some a2) (some a3) (some a4)) := frCongr F fun y => ite_at h1 fun n1 => ite_at h2 fun n2 => ite_at h3 fun n3 => ite_at h4 fun n4 => ite_at h5 fun n5 => ite_at h6 fun n6 => ite_at h7 fun n7 => hn y n1 n2 n3 n4 n5 n6 n7
theorem len_cat {a b : List (Sg × Tok)} {x : List Sg} (h : a.map Prod.fst = b.map Prod.fst ++ x) : a.length = b.length + x.length := by
  have := congrArg List.length h
  rwa [List.length_append, List.length_map, List.length_map] at this
theorem len_snoc {a b : List (Sg × Tok)} {σ : Sg} (h : a.map Prod.fst = b.map Prod.fst ++ [σ]) : a.length = b.length + 1 := len_cat h
theorem len_mid {a b : List (Sg × Tok)} {σ : Sg} {x : List Sg} (h : a.map Prod.fst = b.map Prod.fst ++ σ :: x) : a.length = b.length + (x.length + 1) := len_cat h
theorem Turn.ret {J : Nat → Shared → Prop} {n : Nat} {Q : Flow → Shared → Prop} {v : Value} {s : Shared} (h : Q (.ret v) s) : Turn J n Q (.ret v) s := h
/-- the two lists and the frame, somewhere along a row -/
inductive SAt (g' : Heap) (L' pool rows : Nat) (m : Str → Option Value) (rest : List (Addr × Obj)) (pl : List (Int × Tok)) (sg : List Sg) (s s' : Shared) : Prop
  | mk (rl : List (Sg × Tok)) (c3 c4 : Nat) (h3 : Heap) (tk3 : Nat) (e : s' = { s with heap := h3, toks := tk3 }) (hr : rl.map Prod.fst = sg) (F : Fr g' L' h3 m)
    (N : News g' L' h3 ((pool, listOf (pl.reverse.map intV).toArray c3) :: (rows, listOf (rl.map sgV).toArray c4) :: rest)) : SAt g' L' pool rows m rest pl sg s s'
noncomputable def SAtE (g' : Heap) (L' pool rows : Nat) (m : Str → Option Value) (rest : List (Addr × Obj)) (l : List Int) (sg : List Sg) (s s' : Shared) : Prop := ∃ pl, l = pl.map Prod.fst ∧ SAt g' L' pool rows m rest pl sg s s'
theorem SAt.one {g' : Heap} {L' pool rows : Nat} {m : Str → Option Value} {rest : List (Addr × Obj)} {pl : List (Int × Tok)} {rl : List (Sg × Tok)} {sg : List Sg} {s : Shared} {c3 c4 : Nat} {h3 : Heap} {tk3 : Nat} (σ : Sg) {t : Tok} (F : Fr g' L' h3 m)
    (N : News g' L' h3 ((pool, listOf (pl.reverse.map intV).toArray c3) :: (rows, listOf ((rl.map sgV).toArray.push (.str σ.text t)) c4) :: rest)) (hr : rl.map Prod.fst ++ [σ] = sg) : SAt g' L' pool rows m rest pl sg s { s with heap := h3, toks := tk3 } :=
  ⟨rl ++ [(σ, t)], c3, c4, h3, tk3, rfl, by rw [List.map_append]; exact hr, F, by simpa [sgV] using N⟩
inductive SMid (g' : Heap) (L' pool rows deep : Nat) (m : Str → Option Value) (rest : List (Addr × Obj)) (s : Shared) (num : Int) (k : Nat) (l : List Int) (sg : List Sg) (f : Flow) (s' : Shared) : Prop
  | mk (pl : List (Int × Tok)) (hf : f = .next) (hm : (midF (sideF k) deep num l).2 = pl.map Prod.fst) (h : SAt g' L' pool rows m rest pl (sg ++ (midF (sideF k) deep num l).1) s s') : SMid g' L' pool rows deep m rest s num k l sg f s'
inductive SNum (g' : Heap) (L' pool rows deep : Nat) (td : Tok) (v1 v2 v3 : Option Value) (rest : List (Addr × Obj)) (s : Shared) (pl1 : List (Int × Tok)) (rl : List (Sg × Tok)) (c4 : Nat) (f : Flow) (s' : Shared) : Prop
  | mk (num : Int) (tn : Tok) (pl2 : List (Int × Tok)) (c3 : Nat) (h3 : Heap) (tk3 : Nat) (hf : f = .next) (e : s' = { s with heap := h3, toks := tk3 }) (hnum : (pl1.map Prod.fst).headD 0 = num) (htl : (pl1.map Prod.fst).tail = pl2.map Prod.fst)
    (hc : pl1.length = pl2.length + 1 ∨ num = 0 ∧ pl1.length = 0 ∧ pl2.length = 0) (F : Fr g' L' h3 (sfm pool rows deep td v1 v2 v3 (some (.int num tn))))
    (N : News g' L' h3 ((pool, listOf (pl2.reverse.map intV).toArray c3) :: (rows, listOf (rl.map sgV).toArray c4) :: rest)) : SNum g' L' pool rows deep td v1 v2 v3 rest s pl1 rl c4 f s'
inductive SInv (g' : Heap) (L' pool rows deep n : Nat) (td : Tok) (rest : List (Addr × Obj)) (s : Shared) (pl : List (Int × Tok)) (rl : List (Sg × Tok)) (k : Nat) (s' : Shared) : Prop
  | mk (pl1 : List (Int × Tok)) (rl1 : List (Sg × Tok)) (acc : List Sg) (c1 c2 : Nat) (v1 v2 v3 v4 : Option Value) (h1 : Heap) (tk1 : Nat) (e : s' = { s with heap := h1, toks := tk1 }) (hk1 : pl1.length < k) (hk2 : k ≤ n + 1)
    (hF : sideF (n + 1) deep (pl.map Prod.fst) = (acc ++ (sideF k deep (pl1.map Prod.fst)).1, (sideF k deep (pl1.map Prod.fst)).2)) (hr : rl1.map Prod.fst = rl.map Prod.fst ++ acc) (hpot : rl1.length + 10 * pl1.length ≤ rl.length + 10 * pl.length) (hple : pl1.length ≤ pl.length)
    (F : Fr g' L' h1 (sfm pool rows deep td v1 v2 v3 v4)) (N : News g' L' h1 ((pool, listOf (pl1.reverse.map intV).toArray c1) :: (rows, listOf (rl1.map sgV).toArray c2) :: rest)) : SInv g' L' pool rows deep n td rest s pl rl k s'
theorem cutM {α : Type} {M : Model} {A : Around} {t : Sem α} {Q : α → Shared → Prop} {E : Value → Shared → Prop} {s : Shared} {g h : Heap} {L : Addr} {m : Str → Option Value} (_F : Fr g L h m) (J : (Str → Option Value) → α → Shared → Prop) (x : wpAny M A t (J m) E s) (k : ∀ a s', J m a s' → Q a s') : wpAny M A t Q E s :=
  wpAny_mono x k fun _ _ h => h
theorem seg_consM {M : Model} {A : Around} {E : Value → Shared → Prop} {Q : Flow → Shared → Prop} {s : Shared} {env : Env} {st : Stmt} {rest : List Stmt} {g h : Heap} {L : Addr} {m : Str → Option Value} (_F : Fr g L h m) (J : (Str → Option Value) → Shared → Prop)
    (x : wpAny M A (exec st env) (SegQ (J m) Q) E s) (k : ∀ s', J m s' → wpAny M A (execs rest env) Q E s') : wpAny M A (execs (st :: rest) env) Q E s := seg_cons (J m) x k
theorem fr_num {g h : Heap} {L' pool rows deep : Nat} {td : Tok} {v1 v2 v3 v4 : Option Value} {a : Value} (F : Fr g L' h (fun y => if y = Str.ofString "number" then some a else sfm pool rows deep td v1 v2 v3 v4 y)) :
    Fr g L' h (sfm pool rows deep td v1 v2 v3 (some a)) := frCongr F fun y => by
  by_cases q : y = Str.ofString "number"
  · rw [q]; rfl
  · refine (if_neg q).trans ?_
    unfold sfm
    rw [if_neg q, if_neg q]
theorem snocA {rl : List (Sg × Tok)} {σ : Sg} {t : Tok} : (List.map sgV rl).toArray.push (Value.str σ.text t) = (List.map sgV (rl ++ [(σ, t)])).toArray := by simp [sgV]
theorem snoc_pl {rl : List (Sg × Tok)} {t : Tok} : (List.map sgV rl).toArray.push (Value.str (Str.ofString "+") t) = (List.map sgV (rl ++ [(.pl, t)])).toArray := snocA (σ := .pl)
theorem snoc_st {rl : List (Sg × Tok)} {t : Tok} : (List.map sgV rl).toArray.push (Value.str (Str.ofString "*") t) = (List.map sgV (rl ++ [(.st, t)])).toArray := snocA (σ := .st)
theorem snoc_lb {rl : List (Sg × Tok)} {t : Tok} : (List.map sgV rl).toArray.push (Value.str (Str.ofString "[") t) = (List.map sgV (rl ++ [(.lb, t)])).toArray := snocA (σ := .lb)
theorem snoc_rb {rl : List (Sg × Tok)} {t : Tok} : (List.map sgV rl).toArray.push (Value.str (Str.ofString "]") t) = (List.map sgV (rl ++ [(.rb, t)])).toArray := snocA (σ := .rb)
theorem snoc_lp {rl : List (Sg × Tok)} {t : Tok} : (List.map sgV rl).toArray.push (Value.str (Str.ofString "(") t) = (List.map sgV (rl ++ [(.lp, t)])).toArray := snocA (σ := .lp)
theorem snoc_rp {rl : List (Sg × Tok)} {t : Tok} : (List.map sgV rl).toArray.push (Value.str (Str.ofString ")") t) = (List.map sgV (rl ++ [(.rp, t)])).toArray := snocA (σ := .rp)
theorem snoc_ba {rl : List (Sg × Tok)} {t : Tok} : (List.map sgV rl).toArray.push (Value.str (Str.ofString "|") t) = (List.map sgV (rl ++ [(.ba, t)])).toArray := snocA (σ := .ba)
theorem snoc_nl {rl : List (Sg × Tok)} {t : Tok} : (List.map sgV rl).toArray.push (Value.str (Str.ofString "\n") t) = (List.map sgV (rl ++ [(.nl, t)])).toArray := snocA (σ := .nl)
section
variable {r p r1 p1 p2 p3 X Y M d a n o : Nat}
theorem xA (hrl : r + 10 * p < 10000) (hpot : r1 + 10 * p1 ≤ r + 10 * p) : r1 < 20000 := by kmod_is
theorem xB (hrl : r + 10 * p < 10000) (hpot : r1 + 10 * p1 ≤ r + 10 * p) (hp : p2 ≤ p1) (hs : X + 10 * Y ≤ 10 * p2 + M) (hM : M < 10) {j : Nat} (hj : j < 10) : r1 + (X + j) < 20000 := by kmod_is
theorem xC (hrl : r + 10 * p < 10000) (hpot : r1 + 10 * p1 ≤ r + 10 * p) (e : p1 = p2 + 1) : r1 + 1 + 10 * p2 < 10000 := by kmod_is
theorem xD (hpot : r1 + 10 * (p2 + 1) ≤ r + 10 * p) (hs : M + 10 * p3 ≤ 10 * p2 + 5) : r1 + M + 1 + 10 * p3 ≤ r + 10 * p := by kmod_is
theorem xK {k : Nat} (e : p1 = p2 + 1) (h : p1 < k + 1) : p2 < k := by subst e; exact Nat.lt_of_succ_lt_succ h
theorem xE (hs : M + 10 * p3 ≤ 10 * p2 + 5) : p3 ≤ p2 := by kmod_is
theorem xR (h : d + 10 * o + a < n) (h0 : o ≠ 0) : d + 1 + 10 * (o - 1) + a < n := by
  obtain ⟨o, rfl⟩ := Nat.exists_eq_succ_of_ne_zero h0
  rw [Nat.succ_sub_one]; kmod_is
theorem xU (h : d + 100 * o + a < n) (h0 : o ≠ 0) : d + 3 + 100 * (o - 1) + a < n := by
  obtain ⟨o, rfl⟩ := Nat.exists_eq_succ_of_ne_zero h0
  rw [Nat.succ_sub_one]; kmod_is
theorem cast_pred (h0 : o ≠ 0) : ((o : Nat) : Int) - 1 = ((o - 1 : Nat) : Int) := by
  obtain ⟨o, rfl⟩ := Nat.exists_eq_succ_of_ne_zero h0
  rw [Nat.succ_sub_one]; kmod_is
end
noncomputable def StopNow : Prop := True
local macro_rules | `(tactic| walk_at "exec Assign cons IfExp") => tac "here ; z10 ; z11 ; stop"
set_option maxRecDepth 100000 in
set_option maxHeartbeats 8000000 in
theorem sideS {n : Nat} (ih : ∀ k, k ≤ n → SideC k) : SideC (n + 1) := by
  intro w mean mg mb dp un gd cn cs a ccd cl outer A₀ base h₀ L m s Q E pool rows c1 c2 deep pl rl td rest B F X N T hk hroom hun hpr hp hr hpl hpl2 hrl hQ
  refine wpAny_call ?_
  k_dflt (refine' code_def ?k1 ?k2 ?k3 ?k4 ?k5 ?kA ?kF ?kK ?k6 ?k7 ?k8 ?k9 ?kB ?_ ?c2 ?c3 ?c4 ?c5; (case kA => exact rfl); (case kF => exact rfl); (case kK => first | exact rfl | assumption); (case k1 => k_asm); (case k2 => k_asm); (case k3 => k_asm); (case k4 => k_asm); (case k5 => k_asm); (case k6 => k_is); (case k7 => k_is); (case k8 => ktr_room); (case k9 => first | exact BindsTo.of_eq rfl | exact binds_K (by k_in) rfl (by k_is) rfl rfl rfl); (case c5 => decide); (case kB => exact locs rfl); (case c2 => exact rfl); (case c3 => exact rfl); (case c4 => exact rfl); k_whole; intro g' L' hh' FG F' N' B' X' T'; (try dsimp only); (try k_fold))
  have F0 : Fr g' L' hh' (sfm pool rows deep td none none none none) := frCongr F' fun y => Eq.trans (look3 y) (Eq.symm (Eq.trans (drop_none (k := Str.ofString "more") (f := fun y => if y = Str.ofString "step" then none else if y = Str.ofString "kind" then none else if y = Str.ofString "number" then none else if y = Str.ofString "rows" then some (Value.ref rows) else if y = Str.ofString "deep" then some (Value.int deep td) else if y = Str.ofString "pool" then some (Value.ref pool) else none) rfl y) (Eq.trans (drop_none (k := Str.ofString "step") (f := fun y => if y = Str.ofString "kind" then none else if y = Str.ofString "number" then none else if y = Str.ofString "rows" then some (Value.ref rows) else if y = Str.ofString "deep" then some (Value.int deep td) else if y = Str.ofString "pool" then some (Value.ref pool) else none) rfl y) (Eq.trans (drop_none (k := Str.ofString "kind") (f := fun y => if y = Str.ofString "number" then none else if y = Str.ofString "rows" then some (Value.ref rows) else if y = Str.ofString "deep" then some (Value.int deep td) else if y = Str.ofString "pool" then some (Value.ref pool) else none) rfl y) (drop_none (k := Str.ofString "number") (f := fun y => if y = Str.ofString "rows" then some (Value.ref rows) else if y = Str.ofString "deep" then some (Value.int deep td) else if y = Str.ofString "pool" then some (Value.ref pool) else none) rfl y)))))
  clear F'
  k_steps
  refine Stop.go (While_syn (n₀ := n + 1) (SInv g' L' pool rows deep n td rest s pl rl) ?_ ?_ PassesOwn.leaving)
  · exact ⟨pl, rl, [], c1, c2, none, none, none, none, hh', _, rfl, hpl, Nat.le_refl _, by simp, by simp, Nat.le_refl _, Nat.le_refl _, F0, N'⟩
  · clear F0 N'
    rintro k s₁ ⟨pl1, rl1, acc, c1, c2, v1, v2, v3, v4, h1, tk1, rfl, hk1, hk2, hF, hrl1, hpot, hple, F1, N1⟩
    obtain ⟨k', rfl⟩ : ∃ k', k = k' + 1 := ⟨k - 1, predK (Nat.le_trans (Nat.succ_le_succ (Nat.zero_le _)) hk1)⟩
    have hr1 : rl1.length < 20000 := xA hrl hpot
    have hfl : StopNow := trivial
    refine wpId ?_
    k_fold
    k_steps
    refine Stop.go (wpAny_mono (Q := SNum g' L' pool rows deep td v1 v2 v3 rest s pl1 rl1 c2) ?_ ?_ (fun _ _ h => h))
    · cases pl1 with
      | nil =>
        rw [List.reverse_nil, List.map_nil] at N1
        k_steps
        rename Fr g' L' _ _ => F2
        rename News g' L' _ _ => N2
        exact ⟨0, _, [], _, _, _, rfl, rfl, rfl, rfl, .inr ⟨rfl, rfl, rfl⟩, fr_num F2, N2⟩
      | cons x pl2 =>
        rw [List.reverse_cons, List.map_append, List.map_cons, List.map_nil] at N1
        obtain ⟨num, tnum⟩ := x
        rw [show intV (num, tnum) = Value.int num tnum from rfl] at N1
        simp only [List.length_cons] at hpot hple
        k_steps
        rename Fr g' L' _ _ => F2
        rename News g' L' _ _ => N2
        exact ⟨num, _, pl2, _, _, _, rfl, rfl, rfl, rfl, .inl rfl, fr_num F2, N2⟩
    · rintro f s₂ ⟨num, tnum, pl2, c3, h3, tk3, rfl, rfl, hnum, htl, hlc, F2, N2⟩
      clear F1 N1
      k_steps
      rename Fr g' L' _ _ => F3
      rename News g' L' _ _ => N3
      replace N3 := News.tail1 N3
      have F4 := fr_sfm F3 rfl rfl rfl rfl rfl rfl rfl (fun y h1 h2 h3 h4 h5 h6 h7 => by unfold sfm; repeat (first | exact rfl | refine off_ite (by assumption) ?_))
      (try clear F2); (try clear N2); clear F3
      have hl2 : pl2.length ≤ pl1.length := hlc.elim (fun h => h ▸ Nat.le_succ _) (fun h => h.2.2 ▸ Nat.zero_le _)
      have hs : sideF (k' + 1) deep (pl1.map Prod.fst) = _ := sideF_succ k' deep (pl1.map Prod.fst)
      rw [hnum, htl] at hs
      have hml := mid_len (side_len k') deep num (pl2.map Prod.fst)
      rw [List.length_map] at hml
      refine Stop.go (cutM F4 (fun m => SMid g' L' pool rows deep m rest s num k' (pl2.map Prod.fst) (rl1.map Prod.fst)) ?_ ?_)
      · refine if_cut (num.fmod 6 < 2 ∨ deep = 0) ?_ (fun hc tk => ?_) (fun hc tk => ?_)
        · k_steps
          · exact ⟨_, rfl, iff_of_true rfl (.inl (by assumption))⟩
          · exact ⟨_, rfl, iff_of_true rfl (.inr (by kmod_is))⟩
          · exact ⟨_, rfl, iff_of_false (by decide) (fun h => h.elim (by assumption) (by kmod_is))⟩
        · -- a name or a text
          have hm2 : (midF (sideF k') deep num (pl2.map Prod.fst)).2 = pl2.map Prod.fst := by rw [midF, if_pos hc]
          have hm1 : (midF (sideF k') deep num (pl2.map Prod.fst)).1 = atomAt ((num.fdiv 24).fmod 7) :: (if num.fmod 6 = 1 then [if (num.fdiv 24).fmod 2 = 0 then Sg.pl else .st] else []) := by rw [midF, if_pos hc]
          clear hs hml hF
          refine seg_consM F4 (fun m => SAt g' L' pool rows m rest pl2 (rl1.map Prod.fst ++ [atomAt ((num.fdiv 24).fmod 7)]) s) ?_ ?_
          · k_steps
            rename Fr g' L' _ _ => F5
            rename News g' L' _ _ => N5
            exact SegQ.next (SAt.one _ F5 (News.tail1 N5) rfl)
          · rintro s₃ ⟨rl2, c5, c6, h5, tk5, rfl, hr2, F5, N5⟩
            clear F4 N3
            have hrl2 : rl2.length = rl1.length + 1 := len_snoc hr2
            have hr3 : rl2.length < 20001 := hrl2 ▸ Nat.succ_lt_succ hr1
            k_steps
            · rename Fr g' L' _ _ => F6
              rename News g' L' _ _ => N6
              exact ⟨pl2, rfl, hm2, SAt.one (.pl) F6 N6 (by rw [hr2, hm1, if_pos (by assumption), if_pos (by assumption)]; simp)⟩
            · rename Fr g' L' _ _ => F6
              rename News g' L' _ _ => N6
              exact ⟨pl2, rfl, hm2, SAt.one (.st) F6 N6 (by rw [hr2, hm1, if_pos (by assumption), if_neg (by assumption)]; simp)⟩
            · exact ⟨pl2, rfl, hm2, rl2, c5, c6, h5, _, rfl, by rw [hr2, hm1, if_neg (by assumption)], F5, N5⟩
        · -- a group
          have h0 : deep ≠ 0 := fun e => hc (.inr e)
          have hlc' : pl1.length = pl2.length + 1 := hlc.resolve_right fun h => hc (.inl (by rw [h.1]; decide))
          have hd : (((deep : Nat) : Int) - 1) = ((deep - 1 : Nat) : Int) := cast_pred h0
          have hS : SideC k' := @ih k' (Nat.le_of_succ_le_succ hk2)
          have hm2 : (midF (sideF k') deep num (pl2.map Prod.fst)).2 = (sideF k' (deep - 1) (pl2.map Prod.fst)).2 := by rw [midF, if_neg hc]
          have hm1 : (midF (sideF k') deep num (pl2.map Prod.fst)).1 = (if num.fmod 6 = 2 then Sg.lb else .lp) :: ((sideF k' (deep - 1) (pl2.map Prod.fst)).1 ++ (if num.fmod 6 = 2 then Sg.rb else .rp) :: (if num.fmod 6 > 3 then [if num.fmod 6 = 4 then Sg.pl else .st] else [])) := by rw [midF, if_neg hc]
          clear hs hml hF
          refine seg_consM F4 (fun m => SAt g' L' pool rows m rest pl2 (rl1.map Prod.fst ++ [if num.fmod 6 = 2 then Sg.lb else .lp]) s) ?_ ?_
          · k_steps
            · rename Fr g' L' _ _ => F5
              rename News g' L' _ _ => N5
              exact SegQ.next (SAt.one .lb F5 N5 (by rw [if_pos (by assumption)]))
            · rename Fr g' L' _ _ => F5
              rename News g' L' _ _ => N5
              exact SegQ.next (SAt.one .lp F5 N5 (by rw [if_neg (by assumption)]))
          · rintro s₃ ⟨rl2, c5, c6, h5, tk5, rfl, hr2, F5, N5⟩
            clear F4 N3
            have hrl2 : rl2.length = rl1.length + 1 := len_snoc hr2
            refine seg_consM F5 (fun m => SAtE g' L' pool rows m rest (sideF k' (deep - 1) (pl2.map Prod.fst)).2 (rl1.map Prod.fst ++ (if num.fmod 6 = 2 then Sg.lb else .lp) :: (sideF k' (deep - 1) (pl2.map Prod.fst)).1) s) ?_ ?_
            · k_steps
              refine Stop.go ?_
              rw [hd]
              k_dflt (refine' hS ?B ?F ?X ?N ?T ?k ?r ?u ?h1 ?h2 ?h3 ?h4 ?h5 ?h6 ?_; (case B => k_asm); (case F => k_asm); (case X => k_asm); (case N => exact N5); (case T => k_asm); (case k => exact rfl))
              case r => exact xR hroom h0
              case u => exact xU hun h0
              case h1 => exact hpr
              case h2 => exact hp
              case h3 => exact hr
              case h4 => exact xK hlc' hk1
              case h5 => exact Nat.lt_of_le_of_lt (Nat.le_trans hl2 hple) hpl2
              case h6 => exact hrl2 ▸ xC hrl hpot hlc'
              clear F5 N5
              intro h7 tk7 pl3 rl3 c7 c8 e1 e2 F7 N7
              k_steps
              exact SegQ.next ⟨pl3, e1, rl3, c7, c8, h7, _, rfl, by rw [e2, hr2, List.append_assoc]; rfl, F7, N7⟩
            clear F5 N5 hr2 hrl2
            rintro s₄ ⟨pl3, e1, rl3, c7, c8, h7, tk7, rfl, hr3, F7, N7⟩
            have hsl := side_len k' (deep - 1) (pl2.map Prod.fst)
            rw [List.length_map] at hsl
            have hrl3 : rl3.length = rl1.length + ((sideF k' (deep - 1) (pl2.map Prod.fst)).1.length + 1) := len_mid hr3
            have hr5 : rl3.length < 20000 := hrl3 ▸ xB (M := 2) (j := 1) hrl hpot hl2 hsl (by decide) (by decide)
            refine seg_consM F7 (fun m => SAt g' L' pool rows m rest pl3 (rl1.map Prod.fst ++ (if num.fmod 6 = 2 then Sg.lb else .lp) :: ((sideF k' (deep - 1) (pl2.map Prod.fst)).1 ++ [if num.fmod 6 = 2 then Sg.rb else .rp])) s) ?_ ?_
            · k_steps
              · rename Fr g' L' _ _ => F8
                rename News g' L' _ _ => N8
                exact SegQ.next (SAt.one .rb F8 N8 (by rw [hr3, if_pos (by assumption), if_pos (by assumption)]; exact List.append_assoc _ _ _))
              · rename Fr g' L' _ _ => F8
                rename News g' L' _ _ => N8
                exact SegQ.next (SAt.one .rp F8 N8 (by rw [hr3, if_neg (by assumption), if_neg (by assumption)]; exact List.append_assoc _ _ _))
            · clear F7 N7
              rintro s₄ ⟨rl4, c9, c10, h9, tk9, rfl, hr4, F9, N9⟩
              have hrl4 : rl4.length = rl1.length + ((sideF k' (deep - 1) (pl2.map Prod.fst)).1.length + 1 + 1) := (len_mid hr4).trans (by rw [List.length_append]; rfl)
              have hr7 : rl4.length < 20000 := hrl4 ▸ xB (M := 2) (j := 2) hrl hpot hl2 hsl (by decide) (by decide)
              k_steps
              · rename Fr g' L' _ _ => F6
                rename News g' L' _ _ => N6
                exact ⟨pl3, rfl, hm2.trans e1, SAt.one (.pl) F6 N6 (by rw [hr4, hm1, if_pos (show num.fmod 6 > 3 from by assumption), if_pos (show num.fmod 6 = 4 from by assumption)]; simp)⟩
              · rename Fr g' L' _ _ => F6
                rename News g' L' _ _ => N6
                exact ⟨pl3, rfl, hm2.trans e1, SAt.one (.st) F6 N6 (by rw [hr4, hm1, if_pos (show num.fmod 6 > 3 from by assumption), if_neg (show ¬ num.fmod 6 = 4 from by assumption)]; simp)⟩
              · exact ⟨pl3, rfl, hm2.trans e1, rl4, c9, c10, h9, _, rfl, by rw [hr4, hm1, if_neg (show ¬ num.fmod 6 > 3 from by assumption)], F9, N9⟩
      · rintro f s₃ ⟨pl3, rfl, hm, rl3, c5, c6, h5, tk5, rfl, hr3, F5, N5⟩
        clear F4 N3
        rw [hm, List.length_map] at hml
        have hl3 : rl3.length = rl1.length + (midF (sideF k') deep num (pl2.map Prod.fst)).1.length := len_cat hr3
        have hr9 : rl3.length < 20000 := hl3 ▸ xB (M := 5) (j := 0) hrl hpot hl2 hml (by decide) (by decide)
        have h23 : pl3.length ≤ pl2.length := xE hml
        have hst : ¬ (num.fdiv 6).fmod 4 < 2 → pl1.length = pl2.length + 1 := fun hn => hlc.resolve_right fun h => hn (by rw [h.1]; decide)
        k_steps
        · refine Turn.ret ?_
          k_steps
          rename News h₀ L _ _ => kN
          rw [if_pos (by assumption)] at hs
          refine hQ _ _ pl3 rl3 _ _ ?_ ?_ (by k_asm) kN
          · rw [hF, hs]; exact hm
          · rw [hF, hs, hr3, hrl1, List.append_assoc]
        · rename Fr g' L' _ _ => F6
          rename News g' L' _ _ => N6
          have hlc' := hst (by assumption)
          rw [if_neg (by assumption), if_pos (by assumption), hm] at hs
          simp only [snoc_ba] at N6
          refine ⟨k', Nat.lt_succ_self _, pl3, _, acc ++ ((midF (sideF k') deep num (pl2.map Prod.fst)).1 ++ [.ba]), _, _, _, _, _, _, _, _, rfl, Nat.lt_of_le_of_lt h23 (xK hlc' hk1), Nat.le_of_succ_le hk2, ?_, ?_, ?_, Nat.le_trans h23 (Nat.le_trans hl2 hple), F6, N6⟩
          · rw [hF, hs]; simp [List.append_assoc]
          · simp [hr3, hrl1]
          · rw [List.length_append, hl3]; exact xD (hlc' ▸ hpot) hml
        · have hlc' := hst (by assumption)
          rw [if_neg (by assumption), if_neg (by assumption), hm] at hs
          refine ⟨k', Nat.lt_succ_self _, pl3, rl3, acc ++ (midF (sideF k') deep num (pl2.map Prod.fst)).1, _, _, _, _, _, _, _, _, rfl, Nat.lt_of_le_of_lt h23 (xK hlc' hk1), Nat.le_of_succ_le hk2, ?_, ?_, ?_, Nat.le_trans h23 (Nat.le_trans hl2 hple), F5, N5⟩
          · rw [hF, hs]; simp [List.append_assoc]
          · simp [hr3, hrl1]
          · rw [hl3]; exact Nat.le_trans (Nat.add_le_add_right (Nat.le_succ _) _) (xD (hlc' ▸ hpot) hml)
theorem sideC (n : Nat) : SideC n := by
  have all : ∀ n, ∀ k, k ≤ n → SideC k := by
    intro n
    induction n with
    | zero =>
      intro k hk
      obtain rfl : k = 0 := by kmod_is
      intro w mean mg mb dp un gd cn cs a ccd cl outer A₀ base h₀ L m s Q E pool rows c1 c2 deep pl rl td rest B F X N T hk hroom hun hpr hp hr hpl
      exact absurd hpl (Nat.not_lt_zero _)
    | succ n ih =>
      intro k hk
      rcases Nat.lt_or_ge n k with h | h
      · obtain rfl : k = n + 1 := by kmod_is
        have h2 : SideC (n + 1) := @sideS n @ih
        assumption
      · have h2 : SideC k := @ih k h
        assumption
  have h2 : SideC n := @all n n (Nat.le_refl n)
  assumption

end
section
theorem fillYN (w : World) (h : Heap) : (hd.heap_1 w.params).In h → PySem.Challenge.rw_iv0024_01.row.prog = PySem.Challenge.rw_iv0024_01.row.prog := by w_top off; k_fill; intro _; rfl
local macro_rules | `(tactic| x_close) => tac "z12"
set_option maxRecDepth 100000 in
set_option maxHeartbeats 0 in
theorem tupNew0 {w : World} {s : Shared} {ty b D n : Nat} {x e : Str} {tx te : Tok} {E : Value → Shared → Prop} (X : (hd.heap_1 w.params).In s.heap) (hD : s.heap.get? D = some { cls := .type "tuple", data := .seq #[.ref ty, .str x tx, .ref b, .str e te] n }) :
   wpAny (model PySem.Challenge.rw_iv0024_01.row.prog w) { handled := none, depth := 700, frames := none, guards := none, units := 9000 } (call (.builtin "tuple.__new__") [.ref 341, .ref D])
     (fun v s' => (∃ l n, v = .ref l ∧ OneNew s.heap s'.heap l (tokObj #[.ref ty, .str x tx, .ref b, .str e te] n)) ∧ SameRest s s') E s := by
  x_run
theorem meta_tuple : typeOf (.type "tuple") = pure (.type "type") := by kernel_rfl
theorem tupNew {w : World} {s : Shared} {ty b D n : Nat} {x e : Str} {tx te : Tok} {A : Around} {h₀ : Heap} {L : Addr} {m : Str → Option Value} {news : List (Addr × Obj)} {Q E : Value → Shared → Prop} (F : Fr h₀ L s.heap m) (N : News h₀ L s.heap news) (X : (hd.heap_1 w.params).In h₀)
   (hm : (D, { cls := .type "tuple", data := .seq #[.ref ty, .str x tx, .ref b, .str e te] n }) ∈ news) (hh : A.handled = none) (hd : A.depth ≤ 700) (hu : A.units ≤ 9000)
   (hQ : ∀ l n h' tk, (∀ q ∈ news, q.1 ≠ l) → Fr h₀ L h' m → News h₀ L h' ((l, tokObj #[.ref ty, .str x tx, .ref b, .str e te] n) :: news) → Q (.ref l) { s with heap := h', toks := tk }) :
   wpAny (model PySem.Challenge.rw_iv0024_01.row.prog w) A (call (.builtin "tuple.__new__") [.ref 341, .ref D]) Q E s :=
  wpAny_up (wpAny_mono (tupNew0 (X.keeps F.keep) (N.get hm)) (fun v s' h => by
    obtain ⟨⟨l, n, rfl, x⟩, r⟩ := h
    rw [r.eq]; exact hQ l n _ _ (fun q hq e => by have h1 := (N q hq).1; rw [e, x.2.1] at h1; cases h1) (oneNew_F F x) (oneNew_N F N x)) fun _ _ x => x) hh hd hu
local macro_rules | `(tactic| walk_at "getMethod type:tuple") => tac "here ; by method_type ?F ?X ?m [deck] ?e ?h ? ; F=asm ; X=asm ; m! meta_tuple ; e=z13 ; h=handed"
local macro_rules | `(tactic| walk_at "call builtin:tuple.__new__") => tac "here ; df { by tupNew ?F ?N ?X ?m ?h ?d ?u ? ; F=asm ; N=asm ; X=asm ; m=mem ; h=rfl ; d=room ; u=units ; whole ; intro:l,n,h',tk,ln,F',N' ; sweep }"
set_option maxRecDepth 100000 in
set_option maxHeartbeats 8000000 in
theorem newTok {w : World} {mean : ExcName → Option Value} {mg mb : Str → Option Value} {dp un : Nat} {gd : Option (List Code)} {cn : Str} {cs : Scope} {a : Addr} {ccd : Value} {cl : List (Str × Addr)} {outer : List Env} {A₀ : Around} {base h₀ : Heap} {L : Addr} {m : Str → Option Value} {s : Shared} {Q E : Value → Shared → Prop} {news : List (Addr × Obj)} {ty b : Nat} {x e : Str} {tx te : Tok}
    (B : Below A₀ base outer h₀) (F : Fr h₀ L s.heap m) (X : (hd.heap_1 w.params).In h₀) (N : News h₀ L s.heap news) (T : Top vw (looseW vw [Str.ofString "PythonTokenTypes", Str.ofString "_tuplegetter", Str.ofString "PythonToken"]) mean mg mb h₀) (hk : cs.kind = .function) (hroom : dp + 10 < 600) (hun : un + 40 < 8000)
    (hQ : ∀ (l : Nat) n h' tk', (∀ q ∈ news, q.1 ≠ l) → Fr h₀ L h' m → News h₀ L h' ((l, tokObj #[.ref ty, .str x tx, .ref b, .str e te] n) :: news) → Q (.ref l) { s with heap := h', toks := tk' }) :
    wpAny (model PySem.Challenge.rw_iv0024_01.row.prog w) (ktrTop dp un gd cn cs L a ccd cl outer) (call (.ref 285) [.ref 341, .ref ty, .str x tx, .ref b, .str e te]) Q E s := by
  refine wpAny_call ?_
  k_dflt (refine' code_def ?k1 ?k2 ?k3 ?k4 ?k5 ?kA ?kF ?kK ?k6 ?k7 ?k8 ?k9 ?kB ?_ ?c2 ?c3 ?c4 ?c5; (case kA => exact rfl); (case kF => exact rfl); (case kK => first | exact rfl | assumption); (case k1 => k_asm); (case k2 => k_asm); (case k3 => k_asm); (case k4 => k_asm); (case k5 => k_asm); (case k6 => k_is); (case k7 => k_is); (case k8 => ktr_room); (case k9 => first | exact BindsTo.of_eq rfl | exact binds_K (by k_in) rfl (by k_is) rfl rfl rfl); (case c5 => decide); (case kB => exact locs rfl); (case c2 => exact rfl); (case c3 => exact rfl); (case c4 => exact rfl); k_whole; intro g' L' hh' FG F' N' B' X' T'; (try dsimp only); (try k_fold))
  k_steps
  rename ∀ q ∈ _ :: news, q.1 ≠ _ => ln
  exact hQ _ _ _ _ (fun q hq => ln q (.tail _ hq)) (by k_asm) (News.drop1 (by k_asm))

end
section
theorem fillYZ (w : World) (h : Heap) : (hd.heap_1 w.params).In h → PySem.Challenge.rw_iv0024_01.row.prog = PySem.Challenge.rw_iv0024_01.row.prog := by w_top off; k_fill; intro _; rfl
noncomputable def ownNewIn (K : Frag) (C : Addr) : Bool := match K.lookup C with
  | some ⟨_, _, .cls cd, sl⟩ => (sl.toList[4]?).join == some .none && !cd.mro.isEmpty && specialIn K (.ref C) "__call__" == some (some (.builtin "type.__call__")) && instIn K (.ref C) (.type "type") == some true
  | _ => false
theorem keeps_of {h₀ h : Heap} {r : List (Addr × Obj)} (D : X.Mem h₀ h [] r) : ∀ b o, h₀.get? b = some o → h.get? b = some o := fun b o q => D.keep b o q (by simp [X.away])
local macro_rules | `(tactic| x_close) => tac "! And.intro rfl ( And.intro [z14] ( And.intro rfl ( And.intro rfl rfl ) ) )"
set_option maxRecDepth 100000 in
set_option maxHeartbeats 0 in
theorem tokInit0 {w : World} {s : Shared} {ty b l : Nat} {n : Option Addr × Nat} {x e : Str} {tx te : Tok} {E : Value → Shared → Prop} (X : (hd.heap_1 w.params).In s.heap) (hD : s.heap.get? l = some { cls := .ref 341, dict := n.1, data := .seq #[.ref ty, .str x tx, .ref b, .str e te] n.2 }) :
   wpAny (model PySem.Challenge.rw_iv0024_01.row.prog w) { handled := none, depth := 700, frames := none, guards := none, units := 9000 } (call (.builtin "object.__init__") [.ref l, .ref ty, .str x tx, .ref b, .str e te])
     (fun v s' => v = .none ∧ (∀ b o, s.heap.get? b = some o → s'.heap.get? b = some o) ∧ SameRest s s') E s := by
  x_run
set_option maxRecDepth 100000 in
set_option maxHeartbeats 4000000 in
theorem mkTok {w : World} {mean : ExcName → Option Value} {mg mb : Str → Option Value} {dp un : Nat} {gd : Option (List Code)} {cn : Str} {cs : Scope} {a : Addr} {ccd : Value} {cl : List (Str × Addr)} {outer : List Env} {A₀ : Around} {base h₀ : Heap} {L : Addr} {m : Str → Option Value} {s : Shared} {Q E : Value → Shared → Prop} {news : List (Addr × Obj)} {ty b : Nat} {x e : Str} {tx te : Tok}
    (B : Below A₀ base outer h₀) (F : Fr h₀ L s.heap m) (X₀ : (hd.heap_1 w.params).In h₀) (N : News h₀ L s.heap news) (T : Top vw (looseW vw [Str.ofString "PythonTokenTypes", Str.ofString "_tuplegetter", Str.ofString "PythonToken"]) mean mg mb h₀) (hk : cs.kind = .function) (hroom : dp + 20 < 600) (hun : un + 80 < 8000) (e0 : ownNewIn (hd.heap_1 w.params) 341 = true) (es : subIn (hd.heap_1 w.params) (.ref 341) (.ref 341) = some true) (ei : findIn (hd.heap_1 w.params) (.ref 341) "__init__" = some (some (.builtin "object.__init__")))
    (hQ : ∀ (l : Nat) n h' tk', (∀ q ∈ news, q.1 ≠ l) → Fr h₀ L h' m → News h₀ L h' ((l, tokObj #[.ref ty, .str x tx, .ref b, .str e te] n) :: news) → Q (.ref l) { s with heap := h', toks := tk' }) :
    wpAny (model PySem.Challenge.rw_iv0024_01.row.prog w) (ktrTop dp un gd cn cs L a ccd cl outer) (call (.ref 341) [.ref ty, .str x tx, .ref b, .str e te]) Q E s := by
  have X := X₀.keeps F.keep
  unfold ownNewIn at e0
  split at e0
  · rename_i oc od cd sl ho
    simp only [Bool.and_eq_true, Bool.not_eq_true', beq_iff_eq] at e0
    obtain ⟨⟨⟨e3, e4⟩, e7⟩, e8⟩ := e0
    have hc : clsIn (hd.heap_1 w.params) 341 = some cd := by unfold clsIn; rw [ho]
    have hm : Looks (model PySem.Challenge.rw_iv0024_01.row.prog w) s.heap (mroOf (.ref 341)) cd.mro := (looks_clsIn X hc).andThen .now
    obtain ⟨c, l, hl⟩ : ∃ c l, cd.mro = c :: l := by cases q : cd.mro with | nil => rw [q] at e4; cases e4 | cons c l => exact ⟨c, l, rfl⟩
    have made : Looks (model PySem.Challenge.rw_iv0024_01.row.prog w) s.heap (Bind.madeBy (.ref 341)) none := by
      intro A Q E s k q
      unfold Bind.madeBy
      refine wpAny_bind (hm A _ E s k ?_)
      rw [hl, List.forIn_cons]
      refine wpAny_bind (wpAny_bind (wpAny_bind (wpAny_bind (wpAny_loadPart (k _ _ (X _ _ ho)) (wpAny_pure ?_)))))
      dsimp only
      rw [← Array.getElem?_toList, e3]
      exact wpAny_pure (wpAny_pure (wpAny_pure q))
    have call := looks_specialIn (M := (model PySem.Challenge.rw_iv0024_01.row.prog w)) X e7
    have typ := looks_instIn (M := (model PySem.Challenge.rw_iv0024_01.row.prog w)) X e8
    refine wpAny_call (codeAny_of_tree ?_)
    show wpAny _ _ (callAny (.ref 341) _) _ _ _
    refine nd_load (X _ _ ho) ?_
    show wpAny _ _ (callAny.viaDunder (.ref 341) _) _ _ _
    unfold callAny.viaDunder
    refine wpAny_bind (call.here ?_)
    dsimp only
    rw [tc_bind]
    refine wpAny_bind (wpAny_pure (wpAny_bind (wpAny_pure ?_)))
    refine wpAny_pure (a := Fin.again (.call (.builtin "type.__call__") ⟨[.ref 341, .ref ty, .str x tx, .ref b, .str e te], []⟩)) (And.intro rfl ?_)
    refine codeAny_call_builtin_at (Code.quiet_builtin _ (by decide +kernel)) entry_typeCall (check_slot tc_kind tc_split typ (tc_args _ _ _) ?_)
    unfold Builtin.«type.__call__»
    clear call typ
    obtain ⟨hp, gg, dd, tt, oo⟩ := s
    dsimp only at hm made X F N
    repeat ((fail_if_success (with_reducible show wpAny _ _ (getAttr _ _ _) _ _ _)); first | simp only [e4, Bool.false_eq_true, if_false] | lk)
    walk1
    have hwt : Code.weight (.builtin "type.__call__" ⟨[.ref 341, .ref ty, .str x tx, .ref b, .str e te], []⟩) = 1 := rfl
    have hcu : Code.cUnits (.builtin "type.__call__" ⟨[.ref 341, .ref ty, .str x tx, .ref b, .str e te], []⟩) = 1 := rfl
    refine wpAny_bind (wpAny_holding ?_)
    k_dflt (refine' newTok (news := news) ?B ?F ?X ?N ?T ?k ?r ?u ?_; (case B => exact B); (case F => exact F); (case X => exact X₀); (case N => exact N); (case T => exact T); (case k => exact hk))
    case r => show dp + Code.weight _ + 10 < 600; rw [hwt]; kmod_is
    case u => show un + Code.cUnits _ + 40 < 8000; rw [hcu]; kmod_is
    intro l n h' tk' ln F' N'
    have t1 : Looks (model PySem.Challenge.rw_iv0024_01.row.prog w) h' (typeOf (.ref l)) (.ref 341) := (Looks.ld (N'.get (.head _))).andThen .now
    have Xh : (hd.heap_1 w.params).In h' := X₀.keeps F'.keep
    have s1 : Looks (model PySem.Challenge.rw_iv0024_01.row.prog w) h' (isSubtype (.ref 341) (.ref 341)) true := looks_subIn Xh es
    have i1 : Looks (model PySem.Challenge.rw_iv0024_01.row.prog w) h' (typeLookup (.ref 341) "__init__") (some (.builtin "object.__init__")) := looks_findIn Xh ei
    have b1 : Looks (model PySem.Challenge.rw_iv0024_01.row.prog w) h' (bindSpecial (.builtin "object.__init__") (.ref l)) (.builtin "object.__init__", [.ref l]) := Looks.of_pure (oi_bind (.ref l))
    unfold isInstance callSpecial? specialOf
    repeat ((fail_if_success (with_reducible show wpAny _ _ (call (.builtin _) _ _) _ _ _)); lk)
    refine wpAny_up (wpAny_mono (tokInit0 Xh (N'.get (.head _))) (fun v s' hv => ?_) fun _ _ x => x) rfl ?_ ?_
    · obtain ⟨rfl, hkeep, hr⟩ := hv
      rw [hr.eq]
      obtain ⟨F2, N2⟩ := keep_news F' N' hkeep
      exact wpAny_pure (wpAny_pure (hQ l n _ _ ln F2 N2))
    · show dp + Code.weight _ ≤ 700; rw [hwt]; kmod_is
    · show un + Code.cUnits _ ≤ 9000; rw [hcu]; kmod_is
  · cases e0

end
section
theorem fillY (w : World) (h : Heap) : (hd.heap_1 w.params).In h → PySem.Challenge.rw_iv0024_01.row.prog = PySem.Challenge.rw_iv0024_01.row.prog := by w_top off; k_fill; intro _; rfl
local macro_rules | `(tactic| walk_at "zz") => tac "skip"
theorem tokO (w : World) (h : Heap) (X : (hd.heap_1 w.params).In h) : ownNewIn (hd.heap_1 w.params) 341 = true := by first | k_is | kernel_rfl
theorem tokS (w : World) (h : Heap) (X : (hd.heap_1 w.params).In h) : subIn (hd.heap_1 w.params) (.ref 341) (.ref 341) = some true := by first | k_is | kernel_rfl
theorem tokI (w : World) (h : Heap) (X : (hd.heap_1 w.params).In h) : findIn (hd.heap_1 w.params) (.ref 341) "__init__" = some (some (.builtin "object.__init__")) := by k_is
local macro_rules | `(tactic| walk_at "call ref") => tac "here ; df { by mkTok ?B ?F ?X ?N ?T ?k ?r ?u ?e0 ?es ?ei ? ; B=asm ; F=asm ; X=asm ; N=asm ; T=asm ; k=rfl ; r=room ; u=units ; ei! tokI _ _ [ass] ; es! tokS _ _ [ass] ; e0! tokO _ _ [ass] ; whole ; intro:l,n,h',tk',ln,F',N' ; sweep }"
theorem char0_of {σ : Sg} (h : (σ.text == Str.ofString "") = false) : (Txt.charAt σ.text 0).isSome = true := by revert h; generalize σ = τ; revert τ; refine sgAll ?_; decide +kernel
theorem str0 {prog : Program} {w : World} {A : Around} {E : Value → Shared → Prop} {s : Shared} {value slice : PySem.Expr} {x : Str} {t u : Tok} {Q : Value → Shared → Prop} (hin : (Txt.charAt x 0).isSome = true)
    (h : Q (.str (Txt.item x 0) s.toks) { s with toks := s.toks + 1 }) (hs : subscripted slice false (.str x t) (.int 0 u) = operate [.str x t, .int 0 u] (getItem (.str x t) (.int 0 u)) := by with_unfolding_all rfl) :
    wpAny (model prog w) A (subscriptTail value slice (.str x t) (.int 0 u)) Q E s :=
  tail_any (typeIs_str _ _ _) F.slot_str_getitem.lookup (SB.getItem (by decide) hin h) hs
local macro_rules | `(tactic| walk_at "subscriptTail Name Constant str int") => tac "here ; wp subscriptTail _ _ ( Value.str _ _ ) ( Value.int 0 _ ) ; un { by str0 ?a ? ?z ; a! char0_of [ass] ; z=wrfl ; whole }"
theorem t1 {σ : Sg} (h : (σ.text == Str.ofString "") = true) : 88 = σ.ty := by revert h; generalize σ = τ; revert τ; refine sgAll ?_; decide +kernel
theorem t2 {σ : Sg} (h : (σ.text == Str.ofString "\n") = true) : 64 = σ.ty := by revert h; generalize σ = τ; revert τ; refine sgAll ?_; decide +kernel
theorem t3 {σ : Sg} (h : (Txt.item σ.text 0 == Str.ofString "'") = true) : 52 = σ.ty := by revert h; generalize σ = τ; revert τ; refine sgAll ?_; decide +kernel
theorem t4 {σ : Sg} (h : (Txt.item σ.text 0 == Str.ofString "\"") = true) : 52 = σ.ty := by revert h; generalize σ = τ; revert τ; refine sgAll ?_; decide +kernel
theorem t5 {σ : Sg} (h : Txt.isalpha (Txt.item σ.text 0) = true) (h0 : (σ.text == Str.ofString "") = false) : 58 = σ.ty := by revert h h0; generalize σ = τ; revert τ; refine sgAll ?_; decide +kernel
theorem t6 {σ : Sg} (h : Txt.isalpha (Txt.item σ.text 0) = false) (h1 : (σ.text == Str.ofString "") = false) (h2 : (σ.text == Str.ofString "\n") = false) (h3 : (Txt.item σ.text 0 == Str.ofString "'") = false) (h4 : (Txt.item σ.text 0 == Str.ofString "\"") = false) : 85 = σ.ty := by revert h h1 h2 h3 h4; generalize σ = τ; revert τ; refine sgAll ?_; decide +kernel
theorem tokFin {h₀ h : Heap} {L x : Addr} {ty ty' : Nat} {v1 v2 v3 : Value} {n : Option Addr × Nat} {r : List (Addr × Obj)} (e : ty = ty') (N : News h₀ L h ((x, tokObj #[.ref ty, v1, v2, v3] n) :: r)) : News h₀ L h ((x, tokObj #[.ref ty', v1, v2, v3] n) :: r) := e ▸ N
set_option maxRecDepth 100000 in
set_option maxHeartbeats 8000000 in
theorem lawTok {w : World} {mean : ExcName → Option Value} {mg mb : Str → Option Value} {dp un : Nat} {gd : Option (List Code)} {cn : Str} {cs : Scope} {a : Addr} {ccd : Value} {cl : List (Str × Addr)} {outer : List Env} {A₀ : Around} {base h₀ : Heap} {L : Addr} {m : Str → Option Value} {s : Shared} {Q E : Value → Shared → Prop} {news : List (Addr × Obj)} {σ : Sg} {t u : Tok} {k : Nat}
    (B : Below A₀ base outer h₀) (F : Fr h₀ L s.heap m) (X : (hd.heap_1 w.params).In h₀) (N : News h₀ L s.heap news) (T : Top vw (looseW vw [Str.ofString "PythonTokenTypes", Str.ofString "_tuplegetter", Str.ofString "PythonToken"]) mean mg mb h₀) (hk : cs.kind = .function) (hroom : dp + 30 < 600) (hun : un + 100 < 8000)
    (hQ : ∀ (x b : Nat) h' tk' pf n nb t1 t2 t3, (∀ q ∈ news, q.1 ≠ x) → (∀ q ∈ news, q.1 < b) → Fr h₀ L h' m → News h₀ L h' ((x, tokObj #[.ref σ.ty, .str σ.text t3, .ref b, pf] n) :: (b, { cls := .type "tuple", data := .seq [.int 1 t1, .int k t2].toArray nb }) :: news) → Q (.ref x) { s with heap := h', toks := tk' }) :
    wpAny (model PySem.Challenge.rw_iv0024_01.row.prog w) (ktrTop dp un gd cn cs L a ccd cl outer) (call (.ref 372) [.str σ.text t, .int k u]) Q E s := by
  refine wpAny_call ?_
  k_dflt (refine' code_def ?k1 ?k2 ?k3 ?k4 ?k5 ?kA ?kF ?kK ?k6 ?k7 ?k8 ?k9 ?kB ?_ ?c2 ?c3 ?c4 ?c5; (case kA => exact rfl); (case kF => exact rfl); (case kK => first | exact rfl | assumption); (case k1 => k_asm); (case k2 => k_asm); (case k3 => k_asm); (case k4 => k_asm); (case k5 => k_asm); (case k6 => k_is); (case k7 => k_is); (case k8 => ktr_room); (case k9 => first | exact BindsTo.of_eq rfl | exact binds_K (by k_in) rfl (by k_is) rfl rfl rfl); (case c5 => decide); (case kB => exact locs rfl); (case c2 => exact rfl); (case c3 => exact rfl); (case c4 => exact rfl); k_whole; intro g' L' hh' FG F' N' B' X' T'; (try dsimp only); (try k_fold))
  k_steps
  all_goals (rename ∀ q ∈ _ :: news, q.1 ≠ _ => ln; rename ∀ p ∈ news, p.1 < _ => l1)
  all_goals first
    | exact hQ _ _ _ _ _ _ _ _ _ _ (fun q hq => ln q (.tail _ hq)) l1 (by k_asm) (tokFin (by first | exact t1 (by assumption) | exact t2 (by assumption) | exact t3 (by assumption) | exact t4 (by assumption) | exact t5 (by assumption) (by assumption) | exact t6 (by assumption) (by assumption) (by assumption) (by assumption) (by assumption)) (by k_asm))

end
section
theorem fillSi (w : World) (h : Heap) : (hd.heap_1 w.params).In h → PySem.Challenge.rw_iv0024_01.row.prog = PySem.Challenge.rw_iv0024_01.row.prog := by w_top off; k_fill; intro _; rfl
noncomputable def signs : List Sg := [.nr, .sx, .co, .ba, .lp, .rp, .lb, .rb, .pl, .st, .nl]
noncomputable def signsV (t : Nat → Tok) : List Value := [.str Sg.nr.text (t 0), .str Sg.sx.text (t 1), .str Sg.co.text (t 2), .str Sg.ba.text (t 3), .str Sg.lp.text (t 4), .str Sg.rp.text (t 5), .str Sg.lb.text (t 6), .str Sg.rb.text (t 7), .str Sg.pl.text (t 8), .str Sg.st.text (t 9), .str Sg.nl.text (t 10)]
theorem signs_get {t : Nat → Tok} {k : Int} (h0 : 0 ≤ k) (h7 : k < 11) : ∃ σ u, (signsV t)[k.toNat]? = some (.str (Sg.text σ) u) ∧ σ ≠ .em := by
  obtain ⟨n, rfl⟩ : ∃ n : Nat, k = n := ⟨k.toNat, by kmod_is⟩
  have : n < 11 := by kmod_is
  match n, this with
  | 0, _ => exact ⟨.nr, _, rfl, by decide⟩
  | 1, _ => exact ⟨.sx, _, rfl, by decide⟩
  | 2, _ => exact ⟨.co, _, rfl, by decide⟩
  | 3, _ => exact ⟨.ba, _, rfl, by decide⟩
  | 4, _ => exact ⟨.lp, _, rfl, by decide⟩
  | 5, _ => exact ⟨.rp, _, rfl, by decide⟩
  | 6, _ => exact ⟨.lb, _, rfl, by decide⟩
  | 7, _ => exact ⟨.rb, _, rfl, by decide⟩
  | 8, _ => exact ⟨.pl, _, rfl, by decide⟩
  | 9, _ => exact ⟨.st, _, rfl, by decide⟩
  | 10, _ => exact ⟨.nl, _, rfl, by decide⟩
set_option maxRecDepth 100000 in
set_option maxHeartbeats 8000000 in
theorem lawSigns {w : World} {mean : ExcName → Option Value} {mg mb : Str → Option Value} {dp un : Nat} {gd : Option (List Code)} {cn : Str} {cs : Scope} {a : Addr} {ccd : Value} {cl : List (Str × Addr)} {outer : List Env} {A₀ : Around} {base h₀ : Heap} {L : Addr} {m : Str → Option Value} {s : Shared} {Q E : Value → Shared → Prop} {news : List (Addr × Obj)}
    (B : Below A₀ base outer h₀) (F : Fr h₀ L s.heap m) (X : (hd.heap_1 w.params).In h₀) (N : News h₀ L s.heap news) (T : Top vw (looseW vw [Str.ofString "PythonTokenTypes", Str.ofString "_tuplegetter", Str.ofString "PythonToken"]) mean mg mb h₀) (hk : cs.kind = .function) (hroom : dp + 10 < 600)
    (hQ : ∀ (x : Nat) h' tk' t c, (∀ q ∈ news, q.1 < x) → Fr h₀ L h' m → News h₀ L h' ((x, listOf (signsV t).toArray c) :: news) → Q (.ref x) { s with heap := h', toks := tk' }) :
    wpAny (model PySem.Challenge.rw_iv0024_01.row.prog w) (ktrTop dp un gd cn cs L a ccd cl outer) (call (.ref 358) []) Q E s := by
  refine wpAny_call ?_
  k_dflt (refine' code_def ?k1 ?k2 ?k3 ?k4 ?k5 ?kA ?kF ?kK ?k6 ?k7 ?k8 ?k9 ?kB ?_ ?c2 ?c3 ?c4 ?c5; (case kA => exact rfl); (case kF => exact rfl); (case kK => first | exact rfl | assumption); (case k1 => k_asm); (case k2 => k_asm); (case k3 => k_asm); (case k4 => k_asm); (case k5 => k_asm); (case k6 => k_is); (case k7 => k_is); (case k8 => ktr_room); (case k9 => first | exact BindsTo.of_eq rfl | exact binds_K (by k_in) rfl (by k_is) rfl rfl rfl); (case c5 => decide); (case kB => exact locs rfl); (case c2 => exact rfl); (case c3 => exact rfl); (case c4 => exact rfl); k_whole; intro g' L' hh' FG F' N' B' X' T'; (try dsimp only); (try k_fold))
  k_steps
  rename News h₀ L _ _ => kN
  refine hQ _ _ _ (fun i => match i with | 0 => _ | 1 => _ | 2 => _ | 3 => _ | 4 => _ | 5 => _ | 6 => _ | 7 => _ | 8 => _ | 9 => _ | _ => _) _ (by assumption) (by k_asm) kN
theorem signItem {w : World} {A : Around} {E : Value → Shared → Prop} {s : Shared} {h₀ : Heap} {L l : Addr} {t : Nat → Tok} {c : Nat} {value slice : PySem.Expr} {k : Int} {u : Tok} {Q : Value → Shared → Prop} {news : List (Addr × Obj)}
    (N : News h₀ L s.heap news) (hm : (l, listOf (signsV t).toArray c) ∈ news) (h0 : 0 ≤ k) (h7 : k < 11) (h : ∀ σ t, σ ≠ .em → Q (.str (Sg.text σ) t) s)
    (hs : subscripted slice false (.ref l) (.int k u) = operate [.ref l, .int k u] (getItem (.ref l) (.int k u)) := by with_unfolding_all rfl) :
    wpAny (model PySem.Challenge.rw_iv0024_01.row.prog w) A (subscriptTail value slice (.ref l) (.int k u)) Q E s := by
  obtain ⟨σ, t, ht, he⟩ := signs_get (t := t) h0 h7
  exact listItem_N N hm h0 (by kmod_is) ht (h σ t he) hs

end
section
/-- the letters of the law's second reading -/
inductive Ch where
  | a | o | co | ba | lp | rp | lb | rb | pl | st
  deriving DecidableEq
noncomputable def chL : List Ch := [.a, .o, .co, .ba, .lp, .rp, .lb, .rb, .pl, .st]
theorem allCh {P : Ch → Prop} (h : ∀ d ∈ chL, P d) (c : Ch) : P c := h c (by cases c <;> decide)
inductive Lc where
  | s | a | i
  deriving DecidableEq
noncomputable abbrev Sta := Lc × List Bool
/-- one step of the reader with a stack -/
noncomputable def stp (x : Sta) (c : Ch) : Option Sta := match c with
  | .a => some (.a, x.2)
  | .o => some (.i, x.2)
  | .lp => some (.s, true :: x.2)
  | .lb => some (.s, false :: x.2)
  | .pl => if x.1 = .a then some (.i, x.2) else none
  | .st => if x.1 = .a then some (.i, x.2) else none
  | .ba => if x.1 = .s then none else some (.s, x.2)
  | .rp => if x.1 = .s then none else if x.2.head? = some true then some (.a, x.2.tail) else none
  | .rb => if x.1 = .s then none else if x.2.head? = some false then some (.i, x.2.tail) else none
  | .co => none
noncomputable def runs : Sta → List Ch → Option Sta
  | q, [] => some q
  | q, c :: l => (stp q c).bind fun q' => runs q' l
noncomputable def accepts (l : List Ch) : Bool := match runs (.s, []) l with
  | some (q, S) => q ≠ .s && S = []
  | none => false

noncomputable def chOf : Sg → Ch
  | .nr => .a
  | .ns => .a
  | .nt => .a
  | .nN => .a
  | .sx => .a
  | .si => .a
  | .sp => .a
  | .co => .co
  | .ba => .ba
  | .lp => .lp
  | .rp => .rp
  | .lb => .lb
  | .rb => .rb
  | .pl => .pl
  | .st => .st
  | .nl => .co
  | .em => .co
/-- the reader over the parser's signs, up to a row's end -/
noncomputable def pRun : Sta → List Sg → Option (List Sg × List Sg)
  | _, [] => none
  | q, σ :: l => if σ = .nl then (if q.1 ≠ .s ∧ q.2 = [] then some ([], l) else none)
    else match stp q (chOf σ) with
      | none => none
      | some q' => (pRun q' l).map fun x => (if isName σ then σ :: x.1 else x.1, x.2)
noncomputable def app (ls : List Sg) (x : List Sg × List Sg) : List Sg × List Sg := (ls ++ x.1, x.2)
theorem app_nil : app [] = id := by funext x; simp [app]
theorem app_app (a b : List Sg) : app a ∘ app b = app (a ++ b) := by funext x; simp [app]
theorem map_app (a b : List Sg) (y : Option (List Sg × List Sg)) : (y.map (app b)).map (app a) = y.map (app (a ++ b)) := by rw [Option.map_map, app_app]
/-- what may not stand behind a right side -/
noncomputable def goesOn (l : List Sg) : Bool := starts l || l.head? = some .ba
noncomputable def cont (S : List Bool) : Option (List Sg × List Sg) → Option (List Sg × List Sg)
  | none => none
  | some (ls, l') => (pRun (.i, S) l').map (app ls)
theorem cont_map (S : List Bool) (a : List Sg) (y : Option (List Sg × List Sg)) : cont S (y.map (app a)) = (cont S y).map (app a) := by
  cases y with
  | none => rfl
  | some x => obtain ⟨ls, l'⟩ := x; simp only [Option.map_some, cont, map_app]; rfl

theorem pRun_ai {S : List Bool} {l : List Sg} (h : ∀ l', l ≠ .pl :: l' ∧ l ≠ .st :: l') : pRun (.a, S) l = pRun (.i, S) l := by
  cases l with
  | nil => rfl
  | cons σ l =>
    cases σ <;> first | rfl | exact absurd rfl (h _).1 | exact absurd rfl (h _).2 | (cases S <;> rfl)

noncomputable def RhsOk (R : PR) (n : Nat) : Prop := ∀ l S, l.length < n → Ends l → pRun (.s, S) l = cont S (R l) ∧ ∀ ls l', R l = some (ls, l') → goesOn l' = false

theorem goesOn_cons {σ : Sg} {l : List Sg} (h : goesOn (σ :: l) = false) : isName σ = false ∧ σ ≠ .lp ∧ σ ≠ .lb ∧ σ ≠ .ba := by
  simp only [goesOn, starts, Bool.or_eq_false_iff, decide_eq_false_iff_not, List.head?_cons, Option.some.injEq] at h
  exact ⟨h.1.1.1, h.1.1.2, h.1.2, h.2⟩

theorem map_id2 {f : List Sg × List Sg → List Sg × List Sg} (y : Option (List Sg × List Sg)) : (y.map fun x => (x.1, x.2)).map f = y.map f := by cases y <;> rfl
theorem map_id1 (y : Option (List Sg × List Sg)) : (y.map fun x => (x.1, x.2)) = y := by cases y <;> rfl
theorem pRun_rp {S : List Bool} {σ : Sg} {l : List Sg} (h : goesOn (σ :: l) = false) (hσ : σ ≠ .rp) : pRun (.i, true :: S) (σ :: l) = none := by
  cases σ <;> first | rfl | (cases h; done) | exact absurd rfl hσ
theorem pRun_rb {S : List Bool} {σ : Sg} {l : List Sg} (h : goesOn (σ :: l) = false) (hσ : σ ≠ .rb) : pRun (.i, false :: S) (σ :: l) = none := by
  cases σ <;> first | rfl | (cases h; done) | exact absurd rfl hσ
theorem pRun_nl {σ : Sg} {l : List Sg} (h : goesOn (σ :: l) = false) (hσ : σ ≠ .nl) : pRun (.i, []) (σ :: l) = none := by
  cases σ <;> first | rfl | (cases h; done) | exact absurd rfl hσ
theorem pRun_name {q : Lc} {S : List Bool} {σ : Sg} {l : List Sg} (h : isName σ = true) : pRun (q, S) (σ :: l) = (pRun (.a, S) l).map (app [σ]) := by
  cases σ <;> first | (cases h; done) | rfl
theorem pRun_non {S : List Bool} {σ : Sg} {l : List Sg} (h : starts (σ :: l) = false) : pRun (.s, S) (σ :: l) = none := by
  cases σ <;> first | rfl | (cases h; done) | (cases S <;> rfl)
theorem pRun_suf {S : List Bool} {σ : Sg} {l : List Sg} (h : σ = .pl ∨ σ = .st) : pRun (.a, S) (σ :: l) = pRun (.i, S) l := by
  rcases h with rfl | rfl <;> exact map_id1 _
theorem close_p {R : PR} {n : Nat} (hR : RhsOk R n) (cut : Cuts R) {l : List Sg} {S : List Bool} (hl : l.length < n) (he : Ends l) :
    (pRun (.s, true :: S) l = match closeF .rp (R l) with | none => none | some (ls, l') => (pRun (.a, S) l').map (app ls)) ∧
    (pRun (.s, false :: S) l = match closeF .rb (R l) with | none => none | some (ls, l') => (pRun (.i, S) l').map (app ls)) := by
  cases hr : R l with
  | none =>
    refine ⟨?_, ?_⟩
    · rw [(hR l _ hl he).1, hr]; rfl
    · rw [(hR l _ hl he).1, hr]; rfl
  | some x =>
    obtain ⟨ls, l'⟩ := x
    have hg := (hR l S hl he).2 ls l' hr
    have hc := (cut _ _ _ he hr).1
    rw [(hR l _ hl he).1, (hR l _ hl he).1, hr]
    cases l' with
    | nil => exact hc.elim
    | cons σ l' =>
      refine ⟨?_, ?_⟩
      · show (pRun (.i, true :: S) (σ :: l')).map (app ls) = match (if σ = .rp then some (ls, l') else none) with | none => none | some (ls, l') => (pRun (.a, S) l').map (app ls)
        by_cases hσ : σ = .rp
        · rw [if_pos hσ, hσ]; exact map_id2 (pRun (Lc.a, S) l')
        · rw [if_neg hσ, pRun_rp hg hσ]; rfl
      · show (pRun (.i, false :: S) (σ :: l')).map (app ls) = match (if σ = .rb then some (ls, l') else none) with | none => none | some (ls, l') => (pRun (.i, S) l').map (app ls)
        by_cases hσ : σ = .rb
        · rw [if_pos hσ, hσ]; exact map_id2 (pRun (Lc.i, S) l')
        · rw [if_neg hσ, pRun_rb hg hσ]; rfl

theorem atom_p {R : PR} {n : Nat} (hR : RhsOk R n) (cut : Cuts R) {l : List Sg} {S : List Bool} {q : Lc} (hl : l.length < n + 1) (he : Ends l) (hb : l.head? ≠ some .lb) (hq : q = .s ∨ starts l = true) :
    pRun (q, S) l = match atomF R l with | none => none | some (ls, l') => (pRun (.a, S) l').map (app ls) := by
  cases l with
  | nil => exact he.elim
  | cons σ l =>
    have hb' : σ ≠ .lb := by simpa using hb
    by_cases h1 : σ = .lp
    · subst h1
      have e1 := (he.tail (by decide)).2
      rw [atomF, if_pos rfl, ← (close_p hR cut (S := S) (by simpa using hl) e1).1]
      exact map_id1 (pRun (Lc.s, true :: S) l)
    · rw [atomF, if_neg h1]
      by_cases h2 : isName σ = true
      · rw [if_pos h2]; exact pRun_name h2
      · rw [if_neg h2]
        have hn : starts (σ :: l) = false := by
          show (isName σ || decide (σ = .lp) || decide (σ = .lb)) = false
          rw [Bool.eq_false_iff.mpr h2, decide_eq_false h1, decide_eq_false hb']; rfl
        rcases hq with rfl | hq
        · exact pRun_non hn
        · rw [hn] at hq; cases hq

theorem item_p {R : PR} {n : Nat} (hR : RhsOk R n) (cut : Cuts R) {l : List Sg} {S : List Bool} {q : Lc} (hl : l.length < n + 1) (he : Ends l) (hq : q = .s ∨ starts l = true) :
    pRun (q, S) l = cont S (itemF R l) := by
  cases l with
  | nil => exact he.elim
  | cons σ l =>
    by_cases h1 : σ = .lb
    · subst h1
      have e1 := (he.tail (by decide)).2
      have := (close_p hR cut (S := S) (by simpa using hl) e1).2
      rw [itemF, if_pos rfl]
      have e2 : pRun (q, S) (.lb :: l) = (pRun (.s, false :: S) l).map (app []) := by
        show Option.map _ (pRun (Lc.s, false :: S) l) = _
        cases pRun (Lc.s, false :: S) l <;> rfl
      rw [e2, this, app_nil, Option.map_id]
      cases closeF .rb (R l) with
      | none => rfl
      | some x => rfl
    · rw [itemF, if_neg h1, atom_p hR cut hl he (by simpa using h1) hq]
      cases ha : atomF R (σ :: l) with
      | none => rfl
      | some x =>
        obtain ⟨ls, l'⟩ := x
        have hc := (atom_cuts cut _ _ _ he ha).1
        cases l' with
        | nil => exact hc.elim
        | cons ρ l' =>
          dsimp only [suffF]
          by_cases h2 : ρ = .pl ∨ ρ = .st
          · rw [if_pos h2, pRun_suf h2]; rfl
          · rw [if_neg h2, pRun_ai (fun l'' => ⟨by rintro ⟨⟩; exact h2 (.inl rfl), by rintro ⟨⟩; exact h2 (.inr rfl)⟩)]
            rfl

theorem items_p {R : PR} {n : Nat} (hR : RhsOk R n) (cut : Cuts R) : ∀ (k : Nat) {l : List Sg} {S : List Bool} {q : Lc}, l.length ≤ k → l.length < n + 1 → Ends l → (q = .s ∨ starts l = true) →
    pRun (q, S) l = cont S (itemsF R k l) ∧ ∀ ls l', itemsF R k l = some (ls, l') → starts l' = false
  | 0, l, S, q, hk, _, he, _ => by
    cases l with
    | nil => exact he.elim
    | cons σ l => simp at hk
  | k + 1, l, S, q, hk, hl, he, hq => by
    rw [item_p hR cut hl he hq, itemsF]
    cases hi : itemF R l with
    | none => exact ⟨rfl, by simp⟩
    | some x =>
      obtain ⟨ls, l'⟩ := x
      obtain ⟨c1, c2, c3⟩ := item_cuts cut _ _ _ he hi
      dsimp only
      by_cases hs : starts l' = true
      · rw [if_pos hs]
        obtain ⟨i1, i2⟩ := items_p hR cut k (l := l') (S := S) (q := .i) (by kmod_is) (by kmod_is) c1 (.inr hs)
        refine ⟨?_, ?_⟩
        · rw [show (fun x : List Sg × List Sg => (ls ++ x.1, x.2)) = app ls from rfl, cont_map]
          show (pRun (.i, S) l').map (app ls) = _
          rw [i1]
        · intro ls₁ l₁ e
          cases hn : itemsF R k l' with
          | none => rw [hn] at e; cases e
          | some y =>
            obtain ⟨ls₂, l₂⟩ := y
            rw [hn] at e
            simp only [Option.map_some, Option.some.injEq, Prod.mk.injEq] at e
            obtain ⟨rfl, rfl⟩ := e
            exact i2 _ _ hn
      · rw [if_neg hs]
        refine ⟨rfl, fun ls₁ l₁ e => ?_⟩
        cases e
        simpa using hs

theorem alts_p {R : PR} {n : Nat} (hR : RhsOk R n) (cut : Cuts R) : ∀ (k : Nat) {l : List Sg} {S : List Bool}, l.length ≤ k → l.length < n + 1 → Ends l →
    pRun (.s, S) l = cont S (altsF R k l) ∧ ∀ ls l', altsF R k l = some (ls, l') → goesOn l' = false
  | 0, l, S, hk, _, he => by
    cases l with
    | nil => exact he.elim
    | cons σ l => simp at hk
  | k + 1, l, S, hk, hl, he => by
    obtain ⟨i1, i2⟩ := items_p hR cut l.length (l := l) (S := S) (q := .s) (Nat.le_refl _) hl he (.inl rfl)
    rw [i1, altsF]
    cases hi : itemsF R l.length l with
    | none => exact ⟨rfl, by simp⟩
    | some x =>
      obtain ⟨ls, l'⟩ := x
      obtain ⟨c1, c2, c3⟩ := items_cuts cut _ _ _ _ he hi
      have hs := i2 _ _ hi
      cases l' with
      | nil => exact c1.elim
      | cons σ l' =>
        dsimp only
        by_cases hb : σ = .ba
        · subst hb
          rw [if_pos rfl]
          have e1 := (c1.tail (by decide)).2
          simp only [List.length_cons] at c2
          obtain ⟨j1, j2⟩ := alts_p hR cut k (l := l') (S := S) (by kmod_is) (by kmod_is) e1
          refine ⟨?_, ?_⟩
          · rw [show (fun x : List Sg × List Sg => (ls ++ x.1, x.2)) = app ls from rfl, cont_map, ← j1]
            exact map_id2 (pRun (Lc.s, S) l')
          · intro ls₁ l₁ e
            cases hn : altsF R k l' with
            | none => rw [hn] at e; cases e
            | some y =>
              obtain ⟨ls₂, l₂⟩ := y
              rw [hn] at e
              simp only [Option.map_some, Option.some.injEq, Prod.mk.injEq] at e
              obtain ⟨rfl, rfl⟩ := e
              exact j2 _ _ hn
        · rw [if_neg hb]
          refine ⟨rfl, fun ls₁ l₁ e => ?_⟩
          cases e
          simp [goesOn, hs, hb]
theorem rhs_p : ∀ n, RhsOk (rhsF n) n
  | 0 => fun l S h _ => absurd h (Nat.not_lt_zero _)
  | n + 1 => fun l S h he => alts_p (rhs_p n) (rhs_cuts n) l.length (Nat.le_refl _) h he

/-- a row, by the reader -/
theorem row_p {σ τ : Sg} {l : List Sg} (hl : l.length < 300) (he : Ends l) : rowG (σ :: τ :: l) = if σ.ty = 58 ∧ τ = .co then (pRun (.s, []) l).map (fun x => (σ, x.1, x.2)) else none := by
  simp only [rowG]
  by_cases hc : σ.ty = 58 ∧ τ = .co
  · rw [if_pos hc, if_pos hc, (rhs_p 300 l [] hl he).1]
    cases hr : rhsF 300 l with
    | none => rfl
    | some x =>
      obtain ⟨ls, l'⟩ := x
      have hg := (rhs_p 300 l [] hl he).2 ls l' hr
      have hc := (rhs_cuts 300 _ _ _ he hr).1
      cases l' with
      | nil => exact hc.elim
      | cons ρ l' =>
        dsimp only [cont]
        by_cases hρ : ρ = .nl
        · subst hρ; simp [pRun, app]
        · rw [if_neg hρ, pRun_nl hg hρ]; rfl
  · rw [if_neg hc, if_neg hc]
/-- the reader over a row without an end in it -/
noncomputable def plainRow (u : List Sg) : Prop := ∀ σ ∈ u, σ ≠ .nl ∧ σ ≠ .em
theorem pRun_row : ∀ (u : List Sg) (q : Sta) (r : List Sg), plainRow u → pRun q (u ++ .nl :: r) = match runs q (u.map chOf) with
    | none => none
    | some q' => if q'.1 ≠ .s ∧ q'.2 = [] then some (u.filter isName, r) else none
  | [], q, r, _ => by simp [pRun, runs]
  | σ :: u, q, r, h => by
    have h1 := (h σ (.head _)).1
    simp only [List.cons_append, pRun, if_neg h1, List.map_cons, runs]
    cases hq : stp q (chOf σ) with
    | none => rfl
    | some q' =>
      dsimp only [Option.bind_some]
      rw [pRun_row u q' r fun τ hτ => h τ (.tail _ hτ)]
      cases runs q' (u.map chOf) with
      | none => rfl
      | some q2 =>
        dsimp only
        by_cases hc : q2.1 ≠ .s ∧ q2.2 = []
        · rw [if_pos hc, if_pos hc, List.filter_cons]
          cases isName σ <;> rfl
        · rw [if_neg hc, if_neg hc]; rfl
theorem pRun_em : ∀ (u : List Sg) (q : Sta), plainRow u → pRun q (u ++ [.em]) = none
  | [], q, _ => rfl
  | σ :: u, q, h => by
    have h1 := (h σ (.head _)).1
    simp only [List.cons_append, pRun, if_neg h1]
    cases hq : stp q (chOf σ) with
    | none => rfl
    | some q' =>
      dsimp only
      rw [pRun_em u q' fun τ hτ => h τ (.tail _ hτ)]; rfl
theorem accepts_iff {l : List Ch} : accepts l = true ↔ ∃ q', runs (.s, []) l = some q' ∧ q'.1 ≠ .s ∧ q'.2 = [] := by
  unfold accepts
  cases runs (.s, []) l with
  | none => simp
  | some q => obtain ⟨q, S⟩ := q; simp

end
section
noncomputable def isCl : Ch → Bool
  | .rp | .rb => true
  | _ => false
noncomputable def isOp : Ch → Bool
  | .lp | .lb => true
  | _ => false
noncomputable def splitBa : List Ch → List (List Ch)
  | [] => [[]]
  | c :: l => if c = .ba then [] :: splitBa l else match splitBa l with
    | [] => [[c]]
    | h :: t => (c :: h) :: t
noncomputable def partOk : Option Ch → List Ch → Bool
  | _, [] => true
  | prev, c :: r => (c = .a || c = .o || ((c = .pl || c = .st) && prev = some .a)) && partOk (some c) r
noncomputable def flatF (l : List Ch) : Bool := (splitBa l).all fun p => partOk none p && p != []
noncomputable def idxs (p : Ch → Bool) (l : List Ch) : List Nat := (List.range l.length).filter fun k => (l[k]?).any p
noncomputable def okPair (x y : Option Ch) : Bool := (x = some .lp && y = some .rp) || (x = some .lb && y = some .rb)
noncomputable def readsF : Nat → List Ch → Bool
  | 0, _ => false
  | n + 1, l => match idxs isCl l with
    | [] => flatF l
    | k :: _ => match (idxs isOp (l.take k)).getLast? with
      | none => false
      | some j => if okPair l[j]? l[k]? && flatF ((l.drop (j + 1)).take (k - (j + 1))) then readsF n (l.take j ++ (if l[k]? = some .rp then Ch.a else .o) :: l.drop (k + 1)) else false

/-- the first of them -/
noncomputable def idxsTo (p : Ch → Bool) (l : List Ch) (i : Nat) : List Nat := (List.range i).filter fun k => (l[k]?).any p
theorem idxsTo_succ {p : Ch → Bool} {l : List Ch} {i : Nat} {c : Ch} (h : l[i]? = some c) : idxsTo p l (i + 1) = if p c then idxsTo p l i ++ [i] else idxsTo p l i := by
  unfold idxsTo
  rw [List.range_succ, List.filter_append, List.filter_cons, h]
  simp only [Option.any_some, List.filter_nil]
  split <;> simp_all
theorem idxs_to (p : Ch → Bool) (l : List Ch) : idxsTo p l l.length = idxs p l := rfl
theorem idxs_take (p : Ch → Bool) (l : List Ch) (k : Nat) (h : k ≤ l.length) : idxsTo p l k = idxs p (l.take k) := by
  unfold idxsTo idxs
  rw [List.length_take, Nat.min_eq_left h]
  refine List.filter_congr fun i hi => ?_
  rw [List.getElem?_take, if_pos (List.mem_range.mp hi)]
theorem idxs_sorted (p : Ch → Bool) (l : List Ch) : (idxs p l).Pairwise (· < ·) := List.Pairwise.filter _ List.pairwise_lt_range
theorem mem_idxs {p : Ch → Bool} {l : List Ch} {k : Nat} : k ∈ idxs p l ↔ ∃ c, l[k]? = some c ∧ p c = true := by
  simp only [idxs, List.mem_filter, List.mem_range, Option.any_eq_true]
  constructor
  · rintro ⟨_, c, h⟩; exact ⟨c, h⟩
  · rintro ⟨c, h, hp⟩
    exact ⟨(List.getElem?_eq_some_iff.mp h).1, c, h, hp⟩
theorem idxs_none {p : Ch → Bool} {l : List Ch} (h : idxs p l = []) : ∀ c ∈ l, p c = false := fun c hc => by
  obtain ⟨i, hi⟩ := List.mem_iff_getElem?.mp hc
  cases e : p c with
  | false => rfl
  | true =>
    have : i ∈ idxs p l := mem_idxs.mpr ⟨c, hi, e⟩
    rw [h] at this; cases this
theorem idxs_head {p : Ch → Bool} {l : List Ch} {k : Nat} {r : List Nat} (h : idxs p l = k :: r) : ∃ c, l[k]? = some c ∧ p c = true ∧ ∀ c ∈ l.take k, p c = false := by
  obtain ⟨c, hc, hp⟩ := mem_idxs.mp (h ▸ List.Mem.head _ : k ∈ idxs p l)
  refine ⟨c, hc, hp, fun d hd => ?_⟩
  obtain ⟨i, hi⟩ := List.mem_iff_getElem?.mp hd
  rw [List.getElem?_take] at hi
  split at hi
  · rename_i hlt
    cases e : p d with
    | false => rfl
    | true =>
      have hm : i ∈ idxs p l := mem_idxs.mpr ⟨d, hi, e⟩
      have hs := idxs_sorted p l
      rw [h] at hm hs
      rcases List.mem_cons.mp hm with rfl | hm
      · exact absurd hlt (Nat.lt_irrefl _)
      · have := (List.pairwise_cons.mp hs).1 i hm
        kmod_is
  · cases hi
theorem idxs_last {p : Ch → Bool} {l : List Ch} {j : Nat} (h : (idxs p l).getLast? = some j) : ∃ c, l[j]? = some c ∧ p c = true ∧ ∀ c ∈ l.drop (j + 1), p c = false := by
  obtain ⟨as, ha⟩ := List.getLast?_eq_some_iff.mp h
  have hj : j ∈ idxs p l := by rw [ha]; simp
  obtain ⟨c, hc, hp⟩ := mem_idxs.mp hj
  refine ⟨c, hc, hp, fun d hd => ?_⟩
  obtain ⟨i, hi⟩ := List.mem_iff_getElem?.mp hd
  rw [List.getElem?_drop] at hi
  cases e : p d with
  | false => rfl
  | true =>
    have hm : j + 1 + i ∈ idxs p l := mem_idxs.mpr ⟨d, hi, e⟩
    have hs := idxs_sorted p l
    rw [ha] at hm hs
    rcases List.mem_append.mp hm with hm | hm
    · have := (List.pairwise_append.mp hs).2.2 _ hm j (by simp)
      kmod_is
    · have := List.mem_singleton.mp hm
      kmod_is

/-- flat, read letter by letter -/
noncomputable def flatGo : Lc → List Ch → Bool
  | q, [] => q ≠ .s
  | q, c :: l => match c with
    | .a => flatGo .a l
    | .o => flatGo .i l
    | .pl | .st => q = .a && flatGo .i l
    | .ba => q ≠ .s && flatGo .s l
    | _ => false
noncomputable def lcOf : Option Ch → Lc
  | none => .s
  | some .a => .a
  | some _ => .i
theorem splitBa_ne : ∀ l, splitBa l ≠ []
  | [] => by simp [splitBa]
  | c :: l => by
    unfold splitBa
    split
    · simp
    · split <;> simp
noncomputable def okc (q : Lc) : Ch → Bool
  | .a => true
  | .o => true
  | .pl => q = .a
  | .st => q = .a
  | _ => false
theorem go_cons {q : Lc} {c : Ch} {l : List Ch} (h : c ≠ .ba) : flatGo q (c :: l) = (okc q c && flatGo (lcOf (some c)) l) := by
  cases c <;> first | rfl | exact absurd rfl h
theorem part_cons {prev : Option Ch} {c : Ch} {r : List Ch} : partOk prev (c :: r) = (okc (lcOf prev) c && partOk (some c) r) := by
  show (_ && partOk (some c) r) = _
  refine congrArg (· && partOk (some c) r) ?_
  cases c <;> first | rfl | (cases prev with | none => rfl | some d => cases d <;> rfl)
theorem flat_go : ∀ (l : List Ch) (prev : Option Ch) (h : List Ch) (t : List (List Ch)), splitBa l = h :: t →
    flatGo (lcOf prev) l = (partOk prev h && (h != [] || prev.isSome) && t.all fun p => partOk none p && p != [])
  | [], prev, h, t, e => by
    cases e
    cases prev with
    | none => rfl
    | some c => cases c <;> rfl
  | c :: l, prev, h, t, e => by
    unfold splitBa at e
    by_cases hc : c = .ba
    · subst hc
      rw [if_pos rfl] at e
      cases e
      cases hs : splitBa l with
      | nil => exact (splitBa_ne l hs).elim
      | cons h' t' =>
        have ih := flat_go l none h' t' hs
        rw [show (h' != [] || (none : Option Ch).isSome) = (h' != []) from Bool.or_false _] at ih
        cases prev with
        | none => rfl
        | some d => cases d <;> exact ih
    · rw [if_neg hc] at e
      cases hs : splitBa l with
      | nil => exact (splitBa_ne l hs).elim
      | cons h' t' =>
        rw [hs] at e
        cases e
        have ih := flat_go l (some c) h' t hs
        rw [show (h' != [] || (some c).isSome) = true from Bool.or_true _, Bool.and_true] at ih
        rw [go_cons hc, ih, part_cons, show (c :: h' != [] || prev.isSome) = true from rfl, Bool.and_true, Bool.and_assoc]
theorem flat_eq (l : List Ch) : flatF l = flatGo .s l := by
  cases hs : splitBa l with
  | nil => exact (splitBa_ne l hs).elim
  | cons h t =>
    rw [show Lc.s = lcOf none from rfl, flat_go l none h t hs, flatF, hs]
    simp

theorem runs_append : ∀ (a b : List Ch) (q : Sta), runs q (a ++ b) = (runs q a).bind fun q' => runs q' b
  | [], b, q => rfl
  | c :: a, b, q => by
    simp only [List.cons_append, runs]
    cases stp q c with
    | none => rfl
    | some q' => exact runs_append a b q'
noncomputable def noBr (l : List Ch) : Prop := ∀ c ∈ l, isCl c = false ∧ isOp c = false
theorem stp_flat {q : Lc} {S : List Bool} {c : Ch} (h : isCl c = false ∧ isOp c = false) : stp (q, S) c = (stp (q, []) c).map fun x => (x.1, S) := by
  cases c <;> first | (cases h.1; done) | (cases h.2; done) | (cases q <;> rfl)
theorem stp_go {q : Lc} {S : List Bool} {c : Ch} (h : isCl c = false ∧ isOp c = false) : (∃ q', stp (q, S) c = some (q', S) ∧ ∀ l, flatGo q (c :: l) = flatGo q' l) ∨ (stp (q, S) c = none ∧ ∀ l, flatGo q (c :: l) = false) := by
  cases c <;> first | (cases h.1; done) | (cases h.2; done) | exact .inl ⟨_, rfl, fun _ => rfl⟩ | exact .inr ⟨rfl, fun _ => rfl⟩ | (cases q <;> first | exact .inl ⟨_, rfl, fun _ => rfl⟩ | exact .inr ⟨rfl, fun _ => rfl⟩)
theorem op_cases {x : Ch} (h : isOp x = true) : x = .lp ∨ x = .lb := by cases x <;> first | exact .inl rfl | exact .inr rfl | cases h
theorem cl_cases {x : Ch} (h : isCl x = true) : x = .rp ∨ x = .rb := by cases x <;> first | exact .inl rfl | exact .inr rfl | cases h
theorem ok_cases {x y : Ch} (h : okPair (some x) (some y) = true) : (x = .lp ∧ y = .rp) ∨ (x = .lb ∧ y = .rb) := by
  simp only [okPair, Bool.or_eq_true, Bool.and_eq_true, decide_eq_true_eq, Option.some.injEq] at h
  exact h
theorem runs_flat : ∀ (l : List Ch) (q : Lc) (S : List Bool), noBr l → (∃ q', runs (q, S) l = some (q', S) ∧ flatGo q l = (q' ≠ .s : Bool)) ∨ (runs (q, S) l = none ∧ flatGo q l = false)
  | [], q, S, _ => .inl ⟨q, rfl, rfl⟩
  | c :: l, q, S, h => by
    have hc := h c (.head _)
    have hl : noBr l := fun d hd => h d (.tail _ hd)
    show (∃ q', (stp (q, S) c).bind (fun q' => runs q' l) = some (q', S) ∧ _) ∨ ((stp (q, S) c).bind (fun q' => runs q' l) = none ∧ _)
    rcases stp_go (q := q) (S := S) hc with ⟨q', e1, e2⟩ | ⟨e1, e2⟩
    · rw [e1, e2]; exact runs_flat l q' S hl
    · rw [e1]; exact .inr ⟨rfl, e2 l⟩
theorem go_br : ∀ (l : List Ch) (q : Lc), flatGo q l = true → noBr l
  | [], q, _ => fun c hc => by cases hc
  | c :: l, q, h => by
    intro d hd
    cases c <;> simp only [flatGo, Bool.false_eq_true, Bool.and_eq_true] at h
    all_goals (rcases List.mem_cons.mp hd with rfl | hd)
    all_goals (first | exact ⟨rfl, rfl⟩ | exact go_br l _ h d hd | exact go_br l _ h.2 d hd)
theorem stp_map {q : Lc} {S : List Bool} {c : Ch} (h : isCl c = false) : stp (q, S) c = ((stp (q, []) c).map Prod.fst).map fun q' => (q', if isOp c = true then decide (c = .lp) :: S else S) := by
  cases c <;> first | rfl | (cases h; done) | (cases q <;> rfl)
theorem stp_len {q : Lc} {S : List Bool} {c : Ch} {x : Sta} (h : isCl c = false) (e : stp (q, S) c = some x) : x.2.length = S.length + if isOp c = true then 1 else 0 := by
  rw [stp_map h] at e
  obtain ⟨y, _, rfl⟩ := Option.map_eq_some_iff.mp e
  cases isOp c <;> rfl
theorem runs_noCl : ∀ (l : List Ch) (q q' : Sta), (∀ c ∈ l, isCl c = false) → runs q l = some q' → q'.2.length = q.2.length + l.countP isOp
  | [], q, q', _, e => by cases e; simp
  | c :: l, q, q', h, e => by
    have hc := h c (.head _)
    simp only [runs] at e
    obtain ⟨q, S⟩ := q
    cases hs : stp (q, S) c with
    | none => rw [hs] at e; cases e
    | some x =>
      rw [hs] at e
      have ih := runs_noCl l x q' (fun d hd => h d (.tail _ hd)) e
      rw [ih, List.countP_cons, stp_len hc hs, Nat.add_assoc, Nat.add_comm (l.countP isOp)]

theorem split_at {l : List Ch} {k : Nat} {c : Ch} (h : l[k]? = some c) : l = l.take k ++ c :: l.drop (k + 1) := by
  obtain ⟨hlt, e⟩ := List.getElem?_eq_some_iff.mp h
  rw [← e, ← List.drop_eq_getElem_cons hlt, List.take_append_drop]

theorem acc_noCl {l : List Ch} (h : ∀ c ∈ l, isCl c = false) : accepts l = flatF l := by
  rw [flat_eq]
  by_cases ho : noBr l
  · rcases runs_flat l .s [] ho with ⟨q', e1, e2⟩ | ⟨e1, e2⟩
    · rw [accepts, e1, e2]; cases q' <;> rfl
    · rw [accepts, e1, e2]
  · have e2 : flatGo .s l = false := by
      cases e : flatGo .s l with
      | false => rfl
      | true => exact (ho (go_br l _ e)).elim
    rw [e2]
    cases e : runs (.s, []) l with
    | none => rw [accepts, e]
    | some q' =>
      have hn := runs_noCl l _ _ h e
      have hp : 0 < l.countP isOp := by
        rw [List.countP_pos_iff]
        apply Classical.byContradiction
        intro hno
        exact ho fun c hc => ⟨h c hc, by
          cases hb : isOp c with
          | false => rfl
          | true => exact (hno ⟨c, hc, hb⟩).elim⟩
      rw [accepts, e]
      obtain ⟨q, S⟩ := q'
      cases S with
      | nil => simp at hn; kmod_is
      | cons b S => cases q <;> rfl

theorem acc_iff_congr {l l' : List Ch} (h : runs (.s, []) l = runs (.s, []) l') : accepts l = accepts l' := by rw [accepts, accepts, h]
theorem acc_none {l : List Ch} (h : runs (.s, []) l = none) : accepts l = false := by rw [accepts, h]
theorem stp_op {q : Lc} {S : List Bool} {c : Ch} (h : isOp c = true) : stp (q, S) c = some (.s, (c = .lp : Bool) :: S) := by rcases op_cases h with rfl | rfl <;> rfl

theorem acc_bad {u f v : List Ch} {x y : Ch} (hx : isOp x = true) (hy : isCl y = true) (hf : noBr f) (h : okPair (some x) (some y) = false ∨ flatF f = false) : accepts (u ++ x :: (f ++ y :: v)) = false := by
  refine acc_none ?_
  rw [runs_append]
  cases hu : runs (.s, []) u with
  | none => rfl
  | some q =>
    obtain ⟨q, S⟩ := q
    show (stp (q, S) x).bind _ = none
    rw [stp_op hx]
    show runs (.s, (decide (x = .lp)) :: S) (f ++ y :: v) = none
    rw [runs_append]
    rcases runs_flat f .s ((decide (x = .lp)) :: S) hf with ⟨q', e1, e2⟩ | ⟨e1, e2⟩
    · rw [e1]
      show (stp (q', _ :: S) y).bind _ = none
      rw [flat_eq, e2] at h
      rcases op_cases hx with rfl | rfl <;> rcases cl_cases hy with rfl | rfl <;> cases q' <;> first | rfl | exact absurd h (by decide)
    · rw [e1]; rfl
theorem acc_good {u f v : List Ch} {x y : Ch} (hf : noBr f) (h : okPair (some x) (some y) = true) (hfl : flatF f = true) : accepts (u ++ x :: (f ++ y :: v)) = accepts (u ++ (if y = .rp then Ch.a else .o) :: v) := by
  refine acc_iff_congr ?_
  rw [runs_append, runs_append]
  cases hu : runs (.s, []) u with
  | none => rfl
  | some q =>
    obtain ⟨q, S⟩ := q
    show (stp (q, S) x).bind (fun q' => runs q' (f ++ y :: v)) = (stp (q, S) _).bind fun q' => runs q' v
    have hx : isOp x = true := by rcases ok_cases h with ⟨rfl, rfl⟩ | ⟨rfl, rfl⟩ <;> rfl
    rw [stp_op hx]
    show runs (.s, (decide (x = .lp)) :: S) (f ++ y :: v) = _
    rw [runs_append]
    rcases runs_flat f .s ((decide (x = .lp)) :: S) hf with ⟨q', e1, e2⟩ | ⟨e1, e2⟩
    · rw [e1]
      rw [flat_eq, e2] at hfl
      show (stp (q', _ :: S) y).bind (fun q' => runs q' v) = _
      rcases ok_cases h with ⟨rfl, rfl⟩ | ⟨rfl, rfl⟩ <;> cases q' <;> first | exact absurd hfl (by decide) | rfl
    · rw [flat_eq, e2] at hfl; cases hfl
theorem acc_noOp {u v : List Ch} {y : Ch} (hu : noBr u) (hy : isCl y = true) : accepts (u ++ y :: v) = false := by
  refine acc_none ?_
  rw [runs_append]
  rcases runs_flat u .s [] hu with ⟨q', e1, e2⟩ | ⟨e1, e2⟩
  · rw [e1]
    show (stp (q', []) y).bind _ = none
    rcases cl_cases hy with rfl | rfl <;> cases q' <;> rfl
  · rw [e1]; rfl

theorem cut_len {l : List Ch} {j k : Nat} {c : Ch} (hj : j < k) (hk : k < l.length) : (l.take j ++ c :: l.drop (k + 1)).length < l.length := by
  have h1 : (l.take j).length ≤ j := by rw [List.length_take]; exact Nat.min_le_left _ _
  have h2 : (l.drop (k + 1)).length + (k + 1) = l.length := by rw [List.length_drop]; exact Nat.sub_add_cancel hk
  rw [List.length_append, List.length_cons, ← h2]
  exact Nat.lt_of_le_of_lt (Nat.add_le_add_right h1 _) (by rw [Nat.add_comm, Nat.add_right_comm, Nat.add_assoc]; exact Nat.add_lt_add_left (Nat.succ_lt_succ hj) _)
theorem cut_lenA {l : List Ch} {j k : Nat} {c : Ch} (hj : j < k) (hk : k < l.length) : (l.take j ++ [c] ++ l.drop (k + 1)).length < l.length := by
  rw [List.append_assoc]; exact cut_len hj hk
theorem lt_take {l : List Ch} {j k : Nat} {c : Ch} (h : (l.take k)[j]? = some c) : j < k := by
  have := (List.getElem?_eq_some_iff.mp h).1
  rw [List.length_take] at this
  exact Nat.lt_of_lt_of_le this (Nat.min_le_left _ _)
theorem reads_acc : ∀ (n : Nat) (l : List Ch), l.length < n → readsF n l = accepts l
  | 0, _, h => absurd h (Nat.not_lt_zero _)
  | n + 1, l, h => by
    unfold readsF
    cases hc : idxs isCl l with
    | nil => exact (acc_noCl (idxs_none hc)).symm
    | cons k r =>
      obtain ⟨y, hy, hcl, hu⟩ := idxs_head hc
      have hk := (List.getElem?_eq_some_iff.mp hy).1
      dsimp only
      cases ho : (idxs isOp (l.take k)).getLast? with
      | none =>
        have hn : idxs isOp (l.take k) = [] := List.getLast?_eq_none_iff.mp ho
        have hno := idxs_none hn
        have e := split_at hy
        dsimp only
        rw [e]
        exact (acc_noOp (fun c hc => ⟨hu c hc, hno c hc⟩) hcl).symm
      | some j =>
        obtain ⟨x, hx, hop, hd⟩ := idxs_last ho
        have hj : j < k := lt_take hx
        have hxl : l[j]? = some x := by rw [List.getElem?_take, if_pos hj] at hx; exact hx
        have e1 := split_at hy
        have e2 := split_at hx
        have e3 : (l.take k).take j = l.take j := by rw [List.take_take, Nat.min_eq_left (Nat.le_of_lt hj)]
        have e4 : (l.take k).drop (j + 1) = (l.drop (j + 1)).take (k - (j + 1)) := by rw [List.drop_take]
        have hf : noBr ((l.drop (j + 1)).take (k - (j + 1))) := fun c hc => by
          rw [← e4] at hc
          exact ⟨hu c (List.mem_of_mem_drop hc), hd c hc⟩
        rw [e3, e4] at e2
        have e5 : l = l.take j ++ x :: ((l.drop (j + 1)).take (k - (j + 1)) ++ y :: l.drop (k + 1)) := by
          rw [e2] at e1
          simpa [List.append_assoc] using e1
        dsimp only
        rw [hxl, hy]
        by_cases hb : (okPair (some x) (some y) && flatF ((l.drop (j + 1)).take (k - (j + 1)))) = true
        · rw [if_pos hb]
          obtain ⟨b1, b2⟩ := Bool.and_eq_true_iff.mp hb
          rw [reads_acc n _ (Nat.lt_of_lt_of_le (cut_len hj hk) (Nat.le_of_lt_succ h))]
          rw [show accepts l = accepts (l.take j ++ x :: ((l.drop (j + 1)).take (k - (j + 1)) ++ y :: l.drop (k + 1))) from congrArg accepts e5, acc_good hf b1 b2]
          simp
        · rw [if_neg hb]
          have hb' : okPair (some x) (some y) = false ∨ flatF ((l.drop (j + 1)).take (k - (j + 1))) = false := by
            cases q : okPair (some x) (some y) with
            | false => exact .inl rfl
            | true =>
              cases q2 : flatF ((l.drop (j + 1)).take (k - (j + 1))) with
              | false => exact .inr rfl
              | true => exact (hb (by rw [q, q2]; rfl)).elim
          rw [show accepts l = accepts (l.take j ++ x :: ((l.drop (j + 1)).take (k - (j + 1)) ++ y :: l.drop (k + 1))) from congrArg accepts e5, acc_bad hop hcl hf hb']

end
section
inductive HasI (I : Addr) (l : List (Addr × Obj)) : Prop
  | mk (io : Obj) (h : (I, io) ∈ l) : HasI I l
theorem HasI.sub {I : Addr} {a b : List (Addr × Obj)} (h : HasI I a) (k : ∀ q ∈ a, q ∈ b) : HasI I b := let ⟨io, h⟩ := h; ⟨io, k _ h⟩
inductive FTn (g : Heap) (L I : Addr) (own : List (Addr × Obj)) (J : (Str → Option Value) → List (Addr × Obj) → Prop) (s₁ s₂ : Shared) : Prop
  | mk (h' : Heap) (tk : Tok) (m' : Str → Option Value) (nx nw : List (Addr × Obj)) (x0 : s₂ = { s₁ with heap := h', toks := tk }) (x1 : Fr g L h' m') (x2 : News g L h' nw) (x3 : (∀ q ∈ own, q ∈ nw)) (x4 : (∀ q ∈ nx, q ∈ nw)) (x5 : (∀ q ∈ nx, q.1 ≠ I)) (x6 : J m' nx) : FTn g L I own J s₁ s₂
/-- the end of a loop's turn: the iterator's own entries stand, the rest as `J` says -/
noncomputable def FT (g : Heap) (L I : Addr) (own : List (Addr × Obj)) (J : (Str → Option Value) → List (Addr × Obj) → Prop) (s₁ : Shared) (Q : Flow → Shared → Prop) (f : Flow) (s₂ : Shared) : Prop :=
  match f with
  | .ret v => Q (.ret v) s₂
  | .brk => Q .next s₂
  | _ => FTn g L I own J s₁ s₂
theorem FT.ret {g : Heap} {L I : Addr} {own : List (Addr × Obj)} {J : (Str → Option Value) → List (Addr × Obj) → Prop} {s₁ : Shared} {Q : Flow → Shared → Prop} {v : Value} {s : Shared} (h : Q (.ret v) s) : FT g L I own J s₁ Q (.ret v) s := h
theorem FT.brk {g : Heap} {L I : Addr} {own : List (Addr × Obj)} {J : (Str → Option Value) → List (Addr × Obj) → Prop} {s₁ : Shared} {Q : Flow → Shared → Prop} {s : Shared} (h : Q .next s) : FT g L I own J s₁ Q .brk s := h
section
variable {prog : Program} {w : World} {A : Around} {E : Value → Shared → Prop} {s : Shared} {env : Env} {g : Heap} {x : Str} {body : List Stmt} {Q : Flow → Shared → Prop} {m₀ : Str → Option Value} {nx₀ : List (Addr × Obj)}
theorem forW {I : Addr} {fp : List Addr} {n : Nat} {P : Nat → Value → Prop} {St : Nat → Heap → Prop} (J : Nat → (Str → Option Value) → List (Addr × Obj) → Prop)
    (W : Walks prog w A I fp [I] n P St) (hLf : env.locals ∉ fp) (hI : g.get? I = none) (hst : St 0 s.heap) (F : Fr g env.locals s.heap m₀) (N : News g env.locals s.heap nx₀) (off : ∀ q ∈ nx₀, q.1 ≠ I) (h0 : J 0 m₀ nx₀)
    (turn : ∀ i v m₁ nx h tk own, i < n → P i v → J i m₁ nx → (∀ q ∈ nx, q.1 ≠ I) → (∀ q ∈ own, q.1 ∈ fp) → (∀ o, h.get? I = some o → (I, o) ∈ own) → St (i + 1) h → Fr g env.locals h (fun y => if y = x then some v else m₁ y) → News g env.locals h (own ++ nx) →
      wpAny (model prog w) A (execs body env) (FT g env.locals I own (J (i + 1)) { s with heap := h, toks := tk } Q) E { s with heap := h, toks := tk })
    (done : ∀ m₁ nx h tk, J n m₁ nx → Fr g env.locals h m₁ → News g env.locals h nx → Q .next { s with heap := h, toks := tk }) :
    LoopAtV prog w A g env x body Q E (.ref I) s := by
  refine ⟨I, fp, [I], n, P, St, m₀, nx₀, J, rfl, W, hLf, ?_, ?_, hst, F, N, h0, ?_, ?_⟩
  · intro b hb; rw [List.mem_singleton.mp hb]; exact hI
  · intro q hq hm; exact off q hq (List.mem_singleton.mp hm)
  · rintro i v m₁ news₁ s₁ own ⟨h, tk, rfl⟩ hin hP hJ hoff hown _ hlive hst₁ F₁ N₁
    refine wpAny_mono (turn i v m₁ news₁ h tk own hin hP hJ (fun q hq e => hoff q hq (List.mem_singleton.mpr e)) hown (hlive I (W.sub I (List.mem_singleton.mpr rfl)) hI) hst₁ F₁ N₁) (fun f s₂ p => ?_) fun _ _ e => e
    have fin : FTn g env.locals I own (J (i + 1)) { s with heap := h, toks := tk } s₂ →
        LoopStepU g env.locals [I] own (J (i + 1)) { s with heap := h, toks := tk } .next s₂ := by
      rintro ⟨h', tk', m', nx, nw, rfl, F', N', ho, hn, hI', hJ'⟩
      exact ⟨rfl, h', tk', m', nx, rfl, F', fun q hq => N' q ((List.mem_append.mp hq).elim (ho q) (hn q)), fun q hq hm => hI' q hq (List.mem_singleton.mp hm), hJ'⟩
    cases f with
    | ret v => exact .ret p
    | brk => exact .brk p
    | next => exact .next (fin p)
    | cont => exact .cont (fin p)
  · rintro h' tk m' news' F' N' _ hJ
    exact done m' news' h' tk hJ F' N'

theorem forStr {xt : Str} {tx : Tok} (J : Nat → (Str → Option Value) → List (Addr × Obj) → Prop) (hh : A.handled = none) (F : Fr g env.locals s.heap m₀) (N : News g env.locals s.heap nx₀) (h0 : J 0 m₀ nx₀)
    (turn : ∀ i c t m₁ nx h tk I own, xt.cps[i]? = some c → J i m₁ nx → (∀ q ∈ nx, q.1 ≠ I) → (∀ q ∈ own, q.1 = I) → Fr g env.locals h (fun y => if y = x then some (.str ⟨#[c]⟩ t) else m₁ y) → News g env.locals h (own ++ nx) →
      wpAny (model prog w) A (execs body env) (FT g env.locals I own (J (i + 1)) { s with heap := h, toks := tk } Q) E { s with heap := h, toks := tk })
    (done : ∀ m₁ nx h tk, J xt.cps.size m₁ nx → Fr g env.locals h m₁ → News g env.locals h nx → Q .next { s with heap := h, toks := tk }) :
    wpAny (model prog w) A (pyIter (.str xt tx)) (fun it s₂ => LoopAtV prog w A g env x body Q E it s₂) E s := by
  refine wpAny_pyIter_str fun o St hW hst => ?_
  have hlt : ∀ q ∈ nx₀, q.1 ≠ s.heap.objs.size := fun q hq => Nat.ne_of_lt (Heap.lt_size (N q hq).1)
  refine forW J (hW A hh) ?_ (next_is_new F) hst (F.push _) (fun p hp => ⟨Heap.get?_push_of_some _ (N p hp).1, (N p hp).2⟩) hlt h0 ?_ ?_
  · intro hm
    exact absurd F.ns.lt ((List.mem_singleton.mp hm) ▸ Nat.lt_irrefl _)
  · rintro i v m₁ nx h tk own hi ⟨c, u, hc, rfl⟩ hJ hoff hown _ _ F₁ N₁
    exact turn i c u m₁ nx h tk _ own hc hJ hoff (fun q hq => List.mem_singleton.mp (hown q hq)) F₁ N₁
  · exact done

theorem forList {l c : Nat} {vs : List Value} (J : Nat → (Str → Option Value) → List (Addr × Obj) → Prop) (hh : A.handled = none) (F : Fr g env.locals s.heap m₀) (N : News g env.locals s.heap ((l, listOf vs.toArray c) :: nx₀)) (h0 : J 0 m₀ nx₀)
    (turn : ∀ i v m₁ nx h tk I own, vs[i]? = some v → J i m₁ nx → (∀ q ∈ nx, q.1 ≠ I) → (∀ q ∈ own, q.1 = I) → I ≠ l → HasI I own → Fr g env.locals h (fun y => if y = x then some v else m₁ y) → News g env.locals h (own ++ (l, listOf vs.toArray c) :: nx) →
      wpAny (model prog w) A (execs body env) (FT g env.locals I (own ++ [(l, listOf vs.toArray c)]) (J (i + 1)) { s with heap := h, toks := tk } Q) E { s with heap := h, toks := tk })
    (done : ∀ m₁ nx h tk, J vs.length m₁ nx → Fr g env.locals h m₁ → News g env.locals h ((l, listOf vs.toArray c) :: nx) → Q .next { s with heap := h, toks := tk }) :
    wpAny (model prog w) A (pyIter (.ref l)) (fun it s₂ => LoopAtV prog w A g env x body Q E it s₂) E s := by
  have hls : s.heap.IsList l vs.toArray := N.isList (.head _)
  have hlt : ∀ q ∈ (l, listOf vs.toArray c) :: nx₀, q.1 ≠ s.heap.objs.size := fun q hq => Nat.ne_of_lt (Heap.lt_size (N q hq).1)
  have hne : l ≠ s.heap.objs.size := hlt _ (.head _)
  refine wpAny_pyIter_list hls ?_
  have W := Walks.list (prog := prog) (w := w) hh s.heap.objs.size l hne vs.toArray
  have e : vs.toArray.size = vs.length := by simp
  rw [e] at W
  refine forW (fun i m nx => ∃ nx', nx = (l, listOf vs.toArray c) :: nx' ∧ J i m nx') W ?_ (next_is_new F) ⟨⟨_, Heap.get?_push_size _ rfl, rfl, rfl⟩, hls.at fun o e => Heap.get?_push_of_some _ e⟩ (F.push _)
    (fun p hp => ⟨Heap.get?_push_of_some _ (N p hp).1, (N p hp).2⟩) hlt ⟨nx₀, rfl, h0⟩ ?_ ?_
  · intro hm
    rcases List.mem_cons.mp hm with e | hm
    · exact absurd F.ns.lt (e ▸ Nat.lt_irrefl _)
    · exact (N _ (.head _)).2.1 (List.mem_singleton.mp hm).symm
  · rintro i v m₁ nx h tk own hi hP ⟨nx', rfl, hJ⟩ hoff hown hlive hst₁ F₁ N₁
    have hx : vs[i]? = some v := by simpa using hP
    have N₂ : News g env.locals h (own.filter (fun q => q.1 = s.heap.objs.size) ++ (l, listOf vs.toArray c) :: nx') := fun q hq => N₁ q (by
      rcases List.mem_append.mp hq with h | h
      · exact List.mem_append_left _ (List.mem_filter.mp h).1
      · exact List.mem_append_right _ h)
    refine wpAny_mono (turn i v m₁ nx' h tk s.heap.objs.size (own.filter (fun q => q.1 = s.heap.objs.size)) hx hJ (fun q hq => hoff q (.tail _ hq)) (fun q hq => by simpa using (List.mem_filter.mp hq).2) (Ne.symm hne) (by
      obtain ⟨⟨io, hio, _⟩, _⟩ := hst₁
      exact ⟨io, List.mem_filter.mpr ⟨hlive io hio, by simp⟩⟩) F₁ N₂) (fun f s₂ p => ?_) fun _ _ e => e
    have fin : FTn g env.locals s.heap.objs.size (own.filter (fun q => q.1 = s.heap.objs.size) ++ [(l, listOf vs.toArray c)]) (J (i + 1)) { s with heap := h, toks := tk } s₂ →
        FTn g env.locals s.heap.objs.size own (fun m nx => ∃ nx', nx = (l, listOf vs.toArray c) :: nx' ∧ J (i + 1) m nx') { s with heap := h, toks := tk } s₂ := by
      rintro ⟨h', tk', m', nx, nw, e, F', N', ho, hn, hI', hJ'⟩
      have hlm : (l, listOf vs.toArray c) ∈ nw := ho _ (List.mem_append_right _ (.head _))
      refine ⟨h', tk', m', (l, listOf vs.toArray c) :: nx, nw, e, F', N', fun q hq => ?_, fun q hq => ?_, fun q hq => ?_, nx, rfl, hJ'⟩
      · rcases List.mem_cons.mp (hown q hq) with hI | hl
        · exact ho q (List.mem_append_left _ (List.mem_filter.mpr ⟨hq, by simpa using hI⟩))
        · have h1 := (N₁ q (List.mem_append_left _ hq)).1
          have h2 := (N₁ (l, listOf vs.toArray c) (List.mem_append_right _ (.head _))).1
          have hl' : q.1 = l := List.mem_singleton.mp hl
          rw [hl', h2] at h1
          have : q = (l, listOf vs.toArray c) := Prod.ext hl' (Option.some.inj h1).symm
          rw [this]; exact hlm
      · rcases List.mem_cons.mp hq with rfl | hq
        · exact hlm
        · exact hn q hq
      · rcases List.mem_cons.mp hq with rfl | hq
        · exact hne
        · exact hI' q hq
    cases f with
    | ret v => exact p
    | brk => exact p
    | next => exact fin p
    | cont => exact fin p
  · rintro m₁ nx h tk ⟨nx', rfl, hJ⟩ F₁ N₁
    exact done m₁ nx' h tk hJ F₁ N₁
end

end
section
local macro_rules | `(tactic| walk_at "exec For Name Call cons nil") => tac "here ; stop"
local macro_rules | `(tactic| walk_at "exec For Name Name cons nil") => tac "here ; stop"
local macro_rules | `(tactic| walk_at "exec For") => tac "here ; stop"
local macro_rules | `(tactic| walk_at "pyIter ref") => tac "here ; stop"
local macro_rules | `(tactic| walk_at "pyIter str") => tac "here ; stop"
section
theorem fillZF (w : World) (h : Heap) : (hd.heap_1 w.params).In h → PySem.Challenge.rw_iv0024_01.row.prog = PySem.Challenge.rw_iv0024_01.row.prog := by w_top off; k_fill; intro _; rfl
noncomputable def Ch.code : Ch → Nat
  | .a => 97 | .o => 111 | .co => 58 | .ba => 124 | .lp => 40 | .rp => 41 | .lb => 91 | .rb => 93 | .pl => 43 | .st => 42
/-- the law's text of these letters -/
noncomputable def chs (l : List Ch) : Str := ⟨(l.map Ch.code).toArray⟩
theorem chs_len (l : List Ch) : (chs l).length = l.length := by simp [chs, Str.length]
theorem chs_size (l : List Ch) : (chs l).cps.size = l.length := by simp [chs]
theorem chs_append (a b : List Ch) : chs a ++ chs b = chs (a ++ b) := Str.ext' (by simp [chs, Str.cps_append])
theorem code_inj {a b : Ch} (h : a.code = b.code) : a = b := allCh (P := fun b => a.code = b.code → a = b) (allCh (P := fun a => ∀ b ∈ chL, a.code = b.code → a = b) (by decide +kernel) a) b h

noncomputable def spl (c : Nat) : List Nat → List (List Nat)
  | [] => [[]]
  | x :: l => if x = c then [] :: spl c l else match spl c l with
    | [] => [[x]]
    | h :: t => (x :: h) :: t
noncomputable def joinN (c : Nat) : List (List Nat) → List Nat
  | [] => []
  | [p] => p
  | p :: q :: r => p ++ c :: joinN c (q :: r)
theorem spl_free {c : Nat} : ∀ {p : List Nat}, c ∉ p → spl c p = [p]
  | [], _ => rfl
  | x :: p, h => by
    have h1 : x ≠ c := fun e => h (by rw [e]; exact .head _)
    have h2 : c ∉ p := fun e => h (.tail _ e)
    simp [spl, h1, spl_free h2]
theorem spl_cons {c : Nat} : ∀ {p l : List Nat}, c ∉ p → spl c (p ++ c :: l) = p :: spl c l
  | [], l, _ => by simp [spl]
  | x :: p, l, h => by
    have h1 : x ≠ c := fun e => h (by rw [e]; exact .head _)
    have h2 : c ∉ p := fun e => h (.tail _ e)
    simp [spl, h1, spl_cons h2]
theorem spl_join {c : Nat} : ∀ {ps : List (List Nat)}, ps ≠ [] → (∀ p ∈ ps, c ∉ p) → spl c (joinN c ps) = ps
  | [], h, _ => (h rfl).elim
  | [p], _, h => spl_free (h p (.head _))
  | p :: q :: r, _, h => by
    rw [joinN, spl_cons (h p (.head _)), spl_join (by simp) fun x hx => h x (.tail _ hx)]
theorem join_codes (c : Nat) : ∀ ps : List Str, (Str.join ⟨#[c]⟩ ps).cps.toList = joinN c (ps.map fun p => p.cps.toList)
  | [] => rfl
  | [_] => rfl
  | p :: q :: r => by
    have := join_codes c (q :: r)
    show (p ++ ⟨#[c]⟩ ++ Str.join ⟨#[c]⟩ (q :: r)).cps.toList = _
    rw [Str.cps_append, Str.cps_append, Array.toList_append, Array.toList_append, this]
    simp [joinN]
theorem spl_codes : ∀ l : List Ch, spl 124 (l.map Ch.code) = (splitBa l).map (·.map Ch.code)
  | [] => rfl
  | c :: l => by
    have ih := spl_codes l
    simp only [List.map_cons, spl, splitBa]
    by_cases hc : c = .ba
    · subst hc; simp [Ch.code, ih]
    · have h1 : c.code ≠ 124 := fun e => hc (code_inj (b := .ba) e)
      rw [if_neg h1, if_neg hc, ih]
      cases splitBa l <;> rfl
theorem split_ne (x y : Str) : Txt.split x y ≠ [] := by
  unfold Txt.split
  split
  · simp
  split
  · simp
  · rw [StrLaws.partsBetween_eq]
    obtain ⟨p, r, e⟩ := StrLaws.partsFrom_ne x y.length 0 (Builtin.Str.occurrences x y 0 x.length (x.length + 1))
    rw [e]; simp
theorem split_chs (l : List Ch) : Txt.split (chs l) (Str.ofString "|") = (splitBa l).map chs := by
  have e0 : Str.ofString "|" = ⟨#[124]⟩ := by decide
  rw [e0]
  have h1 := StrLaws.join_split (chs l) ⟨#[124]⟩
  have h2 := StrLaws.split_free (chs l) 124
  have h3 := split_ne (chs l) ⟨#[124]⟩
  generalize Txt.split (chs l) ⟨#[124]⟩ = ps at h1 h2 h3
  have h4 : (Str.join ⟨#[124]⟩ ps).cps.toList = (chs l).cps.toList := congrArg (fun x : Str => x.cps.toList) h1
  rw [join_codes, show (chs l).cps.toList = l.map Ch.code from rfl] at h4
  have h5 := spl_join (c := 124) (ps := ps.map fun p => p.cps.toList) (by simpa using h3) (by
    intro p hp
    obtain ⟨q, hq, rfl⟩ := List.mem_map.mp hp
    exact h2 q hq)
  rw [h4, spl_codes] at h5
  have h6 : ps.map (fun p : Str => p.cps.toList) = ((splitBa l).map chs).map fun p => p.cps.toList := by
    rw [← h5, List.map_map]; rfl
  exact (List.map_inj_right fun x y (e : x.cps.toList = y.cps.toList) => Str.ext' (Array.toList_inj.mp e)).mp h6

theorem has_aops {c : Ch} : Txt.contains (Str.ofString "ao+*") ⟨#[c.code]⟩ = (c = .a || c = .o || c = .pl || c = .st : Bool) := by generalize c = τ; revert τ; refine allCh ?_; decide +kernel
theorem has_ops {c : Ch} : Txt.contains (Str.ofString "+*") ⟨#[c.code]⟩ = (c = .pl || c = .st : Bool) := by generalize c = τ; revert τ; refine allCh ?_; decide +kernel
noncomputable abbrev ffm (v1 v2 v3 : Option Value) (part : Value) : Str → Option Value := fun y => if y = Str.ofString "sign" then v1 else if y = Str.ofString "before" then v2 else if y = Str.ofString "one" then v3 else if y = Str.ofString "part" then some part else none
theorem ffm_of {m : Str → Option Value} {v1 v2 v3 : Option Value} {part : Value} (h1 : m (Str.ofString "sign") = v1) (h2 : m (Str.ofString "before") = v2) (h3 : m (Str.ofString "one") = v3) (h4 : m (Str.ofString "part") = some part)
    (hn : ∀ y, y ≠ Str.ofString "sign" → y ≠ Str.ofString "before" → y ≠ Str.ofString "one" → y ≠ Str.ofString "part" → m y = none) (y : Str) : m y = ffm v1 v2 v3 part y :=
  ite_at h1 fun n1 => ite_at h2 fun n2 => ite_at h3 fun n3 => ite_at h4 fun n4 => hn y n1 n2 n3 n4
noncomputable def prevS : Option Ch → Str
  | none => Str.ofString ""
  | some c => ⟨#[c.code]⟩
theorem prev_a {p : Option Ch} : (prevS p != Str.ofString "a") = !(p = some .a : Bool) := by
  cases p with
  | none => decide +kernel
  | some c => generalize c = τ; revert τ; refine allCh ?_; decide +kernel

theorem flat_bad {l p : List Ch} (h : p ∈ splitBa l) (e : (partOk none p && p != []) = false) : flatF l = false := by
  cases q : flatF l with
  | false => rfl
  | true => have := List.all_eq_true.mp q p h; rw [e] at this; cases this
noncomputable abbrev noOcc (x y : Str) : Bool := (Builtin.Str.occurrences x y 0 x.length 1).isEmpty
theorem c1 {d : Ch} {pv : Option Ch} {r : List Ch} (h : noOcc (Str.ofString "ao+*") ⟨#[d.code]⟩ = true) : partOk pv (d :: r) = false := by
  have h2 : Txt.contains (Str.ofString "ao+*") ⟨#[d.code]⟩ = false := congrArg Bool.not h
  rw [has_aops] at h2
  cases d <;> simp_all [partOk]
theorem c2 {d : Ch} {pv : Option Ch} {r : List Ch} (h : noOcc (Str.ofString "ao+*") ⟨#[d.code]⟩ = false) (h' : noOcc (Str.ofString "+*") ⟨#[d.code]⟩ = true) : partOk pv (d :: r) = partOk (some d) r := by
  have h2 : Txt.contains (Str.ofString "ao+*") ⟨#[d.code]⟩ = true := congrArg Bool.not h
  have h3 : Txt.contains (Str.ofString "+*") ⟨#[d.code]⟩ = false := congrArg Bool.not h'
  rw [has_aops] at h2
  rw [has_ops] at h3
  cases d <;> simp_all [partOk]
theorem c3 {d : Ch} {pv : Option Ch} {r : List Ch} (h' : noOcc (Str.ofString "+*") ⟨#[d.code]⟩ = false) (hp : (prevS pv != Str.ofString "a") = true) : partOk pv (d :: r) = false := by
  have h3 : Txt.contains (Str.ofString "+*") ⟨#[d.code]⟩ = true := congrArg Bool.not h'
  rw [has_ops] at h3
  rw [prev_a] at hp
  cases d <;> simp_all [partOk]
theorem c4 {d : Ch} {pv : Option Ch} {r : List Ch} (h : noOcc (Str.ofString "ao+*") ⟨#[d.code]⟩ = false) (h' : noOcc (Str.ofString "+*") ⟨#[d.code]⟩ = false) (hp : (prevS pv != Str.ofString "a") = false) : partOk pv (d :: r) = partOk (some d) r := by
  have h3 : Txt.contains (Str.ofString "+*") ⟨#[d.code]⟩ = true := congrArg Bool.not h'
  rw [has_ops] at h3
  rw [prev_a] at hp
  cases d <;> simp_all [partOk]
theorem chs_nil {p : List Ch} (h : (chs p == Str.ofString "") = true) : p = [] := by
  have := congrArg Str.length (eq_of_beq h)
  rw [chs_len] at this
  exact List.length_eq_zero_iff.mp this
theorem chs_cons {p : List Ch} (h : (chs p == Str.ofString "") = false) : p ≠ [] := by
  rintro rfl
  revert h; decide
theorem part_at {lp : List (Str × Tok)} {ps : List (List Ch)} {i : Nat} {v : Value} (e : lp.map (fun x => x.1) = ps.map chs) (h : (strValues lp)[i]? = some v) : ∃ p t, ps[i]? = some p ∧ v = .str (chs p) t := by
  simp only [strValues, List.getElem?_map, Option.map_eq_some_iff] at h
  obtain ⟨⟨x, t⟩, h1, rfl⟩ := h
  have h2 : (ps.map chs)[i]? = some x := by rw [← e, List.getElem?_map, h1]; rfl
  rw [List.getElem?_map, Option.map_eq_some_iff] at h2
  obtain ⟨p, h3, rfl⟩ := h2
  exact ⟨p, t, h3, rfl⟩
theorem char_at {p : List Ch} {j c : Nat} (h : (chs p).cps[j]? = some c) : ∃ d : Ch, p[j]? = some d ∧ c = d.code := by
  have h1 : (p.map Ch.code)[j]? = some c := by simpa [chs] using h
  rw [List.getElem?_map, Option.map_eq_some_iff] at h1
  obtain ⟨d, h2, rfl⟩ := h1
  exact ⟨d, h2, rfl⟩
theorem drop_at {α : Type} {p : List α} {j : Nat} {d : α} (h : p[j]? = some d) : p.drop j = d :: p.drop (j + 1) := by
  obtain ⟨hlt, e⟩ := List.getElem?_eq_some_iff.mp h
  rw [List.drop_eq_getElem_cons hlt, e]
inductive FlInv (l : List Ch) (t : Tok) (news : List (Addr × Obj)) (i : Nat) (m : Str → Option Value) (nx : List (Addr × Obj)) : Prop
  | mk  (x0 : nx = news) (x1 : (∃ v1 v2 v3, m = ffm v1 v2 v3 (.str (chs l) t))) (x2 : ∀ p ∈ (splitBa l).take i, (partOk none p && p != []) = true) : FlInv l t news i m nx
inductive FlIn (D t' : Nat) (l p : List Ch) (lp : List (Str × Tok)) (t : Tok) (own nx : List (Addr × Obj)) (i : Nat) (m : Str → Option Value) (nw : List (Addr × Obj)) : Prop
  | mk  (x0 : nw = own ++ (D, listOf (strValues lp).toArray 0) :: nx) (x1 : (∃ v1 pv tp, m = ffm v1 (some (.str (prevS pv) tp)) (some (.str (chs p) t')) (.str (chs l) t) ∧ partOk none p = partOk pv (p.drop i))) : FlIn D t' l p lp t own nx i m nw
set_option maxRecDepth 100000 in
set_option maxHeartbeats 8000000 in
theorem lawFlat {w : World} {mean : ExcName → Option Value} {mg mb : Str → Option Value} {dp un : Nat} {gd : Option (List Code)} {cn : Str} {cs : Scope} {a : Addr} {ccd : Value} {cl : List (Str × Addr)} {outer : List Env} {A₀ : Around} {base h₀ : Heap} {L : Addr} {m : Str → Option Value} {s : Shared} {Q E : Value → Shared → Prop} {news : List (Addr × Obj)} {l : List Ch} {t : Tok}
    (B : Below A₀ base outer h₀) (F : Fr h₀ L s.heap m) (X : (hd.heap_1 w.params).In h₀) (N : News h₀ L s.heap news) (T : Top vw (looseW vw [Str.ofString "PythonTokenTypes", Str.ofString "_tuplegetter", Str.ofString "PythonToken"]) mean mg mb h₀) (hk : cs.kind = .function) (hroom : dp + 30 < 600) (hun : un + 100 < 8000) (hlen : l.length < 10000)
    (hQ : ∀ h' tk', Fr h₀ L h' m → News h₀ L h' news → Q (.bool (flatF l)) { s with heap := h', toks := tk' }) :
    wpAny (model PySem.Challenge.rw_iv0024_01.row.prog w) (ktrTop dp un gd cn cs L a ccd cl outer) (call (.ref 379) [.str (chs l) t]) Q E s := by
  refine wpAny_call ?_
  k_dflt (refine' code_def ?k1 ?k2 ?k3 ?k4 ?k5 ?kA ?kF ?kK ?k6 ?k7 ?k8 ?k9 ?kB ?_ ?c2 ?c3 ?c4 ?c5; (case kA => exact rfl); (case kF => exact rfl); (case kK => first | exact rfl | assumption); (case k1 => k_asm); (case k2 => k_asm); (case k3 => k_asm); (case k4 => k_asm); (case k5 => k_asm); (case k6 => k_is); (case k7 => k_is); (case k8 => ktr_room); (case k9 => first | exact BindsTo.of_eq rfl | exact binds_K (by k_in) rfl (by k_is) rfl rfl rfl); (case c5 => decide); (case kB => exact locs rfl); (case c2 => exact rfl); (case c3 => exact rfl); (case c4 => exact rfl); k_whole; intro g' L' hh' FG F' N' B' X' T'; (try dsimp only); (try k_fold))
  have F0 : Fr g' L' hh' (ffm none none none (.str (chs l) t)) := frCongr F' fun y => Eq.trans (look1 y) (Eq.symm (Eq.trans (drop_none (k := Str.ofString "sign") (f := fun y => if y = Str.ofString "before" then none else if y = Str.ofString "one" then none else if y = Str.ofString "part" then some (Value.str (chs l) t) else none) rfl y) (Eq.trans (drop_none (k := Str.ofString "before") (f := fun y => if y = Str.ofString "one" then none else if y = Str.ofString "part" then some (Value.str (chs l) t) else none) rfl y) (drop_none (k := Str.ofString "one") (f := fun y => if y = Str.ofString "part" then some (Value.str (chs l) t) else none) rfl y))))
  clear F'
  k_steps
  refine Stop.go (For_invV g' rfl rfl ?_)
  k_steps
  refine KSpl.split1 (by k_asm) (by k_asm) (by decide) ?_ (by rw [chs_len]; unfold sizeLine; kmod_is)
  intro D lp h1 tk1 e1 _ F1 N1 l1
  rw [split_chs] at e1
  k_steps
  refine Stop.go (forList (x := Str.ofString "one") (FlInv l t news) rfl F1 N1 ⟨rfl, ⟨_, _, _, rfl⟩, by simp⟩ ?_ ?_)
  · rintro i v m₁ nx h2 tk2 I own hv ⟨rfl, ⟨v1, v2, v3, rfl⟩, hok⟩ hoff hown hIl _ F2 N2
    have F2 : Fr g' L' h2 (fun y => if y = Str.ofString "one" then some v else ffm v1 v2 v3 (.str (chs l) t) y) := F2
    have N2 : News g' L' h2 (own ++ (D, listOf (strValues lp).toArray 0) :: nx) := N2
    obtain ⟨p, t', hp, rfl⟩ := part_at e1 hv
    have hpl : p ∈ splitBa l := List.mem_of_getElem? hp
    k_steps
    rename Fr g' L' _ _ => F3
    rename News g' L' _ _ => N3
    refine Stop.go (For_invV g' rfl rfl ?_)
    k_steps
    refine Stop.go (forStr (x := Str.ofString "sign") (FlIn D t' l p lp t own nx) rfl (frCongr F3 (m' := ffm v1 (some (.str (prevS none) tk2)) (some (.str (chs p) t')) (.str (chs l) t)) ?_) N3 ⟨rfl, _, none, _, rfl, rfl⟩ ?_ ?_)
    · exact ffm_of rfl rfl rfl rfl (fun y h1 h2 h3 h4 => by (try unfold ffm); (try dsimp only); repeat (first | exact rfl | refine off_ite (by assumption) ?_))
    · rintro j c tc m₁ nw h4 tk4 I4 own4 hc ⟨rfl, v1', pv, tp, rfl, hpv⟩ hoff4 hown4 F4 N4
      have F4 : Fr g' L' h4 (fun y => if y = Str.ofString "sign" then some (.str ⟨#[c]⟩ tc) else ffm v1' (some (.str (prevS pv) tp)) (some (.str (chs p) t')) (.str (chs l) t) y) := F4
      have N4 : News g' L' h4 (own4 ++ (own ++ (D, listOf (strValues lp).toArray 0) :: nx)) := N4
      obtain ⟨d, hd, rfl⟩ := char_at hc
      have hst : p.drop j = d :: p.drop (j + 1) := drop_at hd
      rw [hst] at hpv
      k_steps
      · refine FT.ret ?_
        k_steps
        refine FT.ret ?_
        k_steps
        rw [flat_bad hpl (by rw [hpv, c1 (by assumption)]; rfl)] at hQ
        exact hQ _ _ (by k_asm) (News.sub (by k_asm) (by (first | with_reducible exact subId | ((repeat' (first | with_reducible exact subId | with_reducible exact subNil | with_reducible refine subCC ?_ | with_reducible refine subCons ?_ ?_ | with_reducible refine subApp ?_ ?_)) <;> kse_small) | (intro q hq; first | (simp only [List.mem_cons, List.mem_append, hq, true_or, or_true]; done) | (simp only [List.mem_cons, List.mem_append] at hq ⊢; grind)))))
      · rename Fr g' L' _ _ => F5
        rename News g' L' _ _ => N5
        refine ⟨_, _, _, _, _, rfl, F5, N5, (by (first | with_reducible exact subId | ((repeat' (first | with_reducible exact subId | with_reducible exact subNil | with_reducible refine subCC ?_ | with_reducible refine subCons ?_ ?_ | with_reducible refine subApp ?_ ?_)) <;> kse_small) | (intro q hq; first | (simp only [List.mem_cons, List.mem_append, hq, true_or, or_true]; done) | (simp only [List.mem_cons, List.mem_append] at hq ⊢; grind)))), (by (first | with_reducible exact subId | ((repeat' (first | with_reducible exact subId | with_reducible exact subNil | with_reducible refine subCC ?_ | with_reducible refine subCons ?_ ?_ | with_reducible refine subApp ?_ ?_)) <;> kse_small) | (intro q hq; first | (simp only [List.mem_cons, List.mem_append, hq, true_or, or_true]; done) | (simp only [List.mem_cons, List.mem_append] at hq ⊢; grind)))), hoff4, rfl, some (.str ⟨#[d.code]⟩ tc), some d, tc, ?_, hpv.trans (c2 (by assumption) (by assumption))⟩
        exact funext (ffm_of rfl rfl rfl rfl (fun y h1 h2 h3 h4 => by (try unfold ffm); (try dsimp only); repeat (first | exact rfl | refine off_ite (by assumption) ?_)))
      · refine FT.ret ?_
        k_steps
        refine FT.ret ?_
        k_steps
        rw [flat_bad hpl (by rw [hpv, c3 (by assumption) (by assumption)]; rfl)] at hQ
        exact hQ _ _ (by k_asm) (News.sub (by k_asm) (by (first | with_reducible exact subId | ((repeat' (first | with_reducible exact subId | with_reducible exact subNil | with_reducible refine subCC ?_ | with_reducible refine subCons ?_ ?_ | with_reducible refine subApp ?_ ?_)) <;> kse_small) | (intro q hq; first | (simp only [List.mem_cons, List.mem_append, hq, true_or, or_true]; done) | (simp only [List.mem_cons, List.mem_append] at hq ⊢; grind)))))
      · rename Fr g' L' _ _ => F5
        rename News g' L' _ _ => N5
        refine ⟨_, _, _, _, _, rfl, F5, N5, (by (first | with_reducible exact subId | ((repeat' (first | with_reducible exact subId | with_reducible exact subNil | with_reducible refine subCC ?_ | with_reducible refine subCons ?_ ?_ | with_reducible refine subApp ?_ ?_)) <;> kse_small) | (intro q hq; first | (simp only [List.mem_cons, List.mem_append, hq, true_or, or_true]; done) | (simp only [List.mem_cons, List.mem_append] at hq ⊢; grind)))), (by (first | with_reducible exact subId | ((repeat' (first | with_reducible exact subId | with_reducible exact subNil | with_reducible refine subCC ?_ | with_reducible refine subCons ?_ ?_ | with_reducible refine subApp ?_ ?_)) <;> kse_small) | (intro q hq; first | (simp only [List.mem_cons, List.mem_append, hq, true_or, or_true]; done) | (simp only [List.mem_cons, List.mem_append] at hq ⊢; grind)))), hoff4, rfl, some (.str ⟨#[d.code]⟩ tc), some d, tc, ?_, hpv.trans (c4 (by assumption) (by assumption) (by assumption))⟩
        exact funext (ffm_of rfl rfl rfl rfl (fun y h1 h2 h3 h4 => by (try unfold ffm); (try dsimp only); repeat (first | exact rfl | refine off_ite (by assumption) ?_)))
    · rintro m₁ nw h4 tk4 ⟨rfl, v1', pv, tp, rfl, hpv⟩ F4 N4
      have F4 : Fr g' L' h4 (ffm v1' (some (.str (prevS pv) tp)) (some (.str (chs p) t')) (.str (chs l) t)) := F4
      have N4 : News g' L' h4 (own ++ (D, listOf (strValues lp).toArray 0) :: nx) := N4
      rw [chs_size, List.drop_length] at hpv
      have hok1 : partOk none p = true := hpv
      k_steps
      · have e0 : p = [] := chs_nil (by assumption)
        refine FT.ret ?_
        k_steps
        rw [flat_bad hpl (by rw [e0]; rfl)] at hQ
        exact hQ _ _ (by k_asm) (News.sub (by k_asm) (by (first | with_reducible exact subId | ((repeat' (first | with_reducible exact subId | with_reducible exact subNil | with_reducible refine subCC ?_ | with_reducible refine subCons ?_ ?_ | with_reducible refine subApp ?_ ?_)) <;> kse_small) | (intro q hq; first | (simp only [List.mem_cons, List.mem_append, hq, true_or, or_true]; done) | (simp only [List.mem_cons, List.mem_append] at hq ⊢; grind)))))
      · have e0 : p ≠ [] := chs_cons (by assumption)
        refine ⟨_, _, _, _, _, rfl, F4, N4, (by (first | with_reducible exact subId | ((repeat' (first | with_reducible exact subId | with_reducible exact subNil | with_reducible refine subCC ?_ | with_reducible refine subCons ?_ ?_ | with_reducible refine subApp ?_ ?_)) <;> kse_small) | (intro q hq; first | (simp only [List.mem_cons, List.mem_append, hq, true_or, or_true]; done) | (simp only [List.mem_cons, List.mem_append] at hq ⊢; grind)))), (by (first | with_reducible exact subId | ((repeat' (first | with_reducible exact subId | with_reducible exact subNil | with_reducible refine subCC ?_ | with_reducible refine subCons ?_ ?_ | with_reducible refine subApp ?_ ?_)) <;> kse_small) | (intro q hq; first | (simp only [List.mem_cons, List.mem_append, hq, true_or, or_true]; done) | (simp only [List.mem_cons, List.mem_append] at hq ⊢; grind)))), hoff, rfl, ⟨_, _, _, rfl⟩, fun q hq => ?_⟩
        rw [List.take_add_one, hp] at hq
        rcases List.mem_append.mp hq with hq | hq
        · exact hok q hq
        · obtain rfl := List.mem_singleton.mp hq
          rw [hok1]; simpa using e0
  · rintro m₁ nx h2 tk2 ⟨rfl, ⟨v1, v2, v3, rfl⟩, hok⟩ F2 N2
    k_steps
    have e : flatF l = true := by
      have hl : (strValues lp).length = (splitBa l).length := by
        have := congrArg List.length e1
        simpa [strValues] using this
      rw [hl, List.take_length] at hok
      exact List.all_eq_true.mpr hok
    rw [e] at hQ
    exact hQ _ _ (by k_asm) (News.tail1 (by k_asm))

end
section
section
variable {w : World} {A : Around} {E : Value → Shared → Prop} {s : Shared} {h₀ : Heap} {L l : Addr} {m : Str → Option Value} {news : List (Addr × Obj)} {vs : List Value} {c : Nat} {Q : Value → Shared → Prop}
theorem castS (j : Nat) : (j : Int) + 1 = ((j + 1 : Nat) : Int) := rfl
theorem lenL (N : News h₀ L s.heap news) (hm : (l, listOf vs.toArray c) ∈ news) (hf : vs.length < 1000000) (h : Q (.int (vs.length : Nat) (s.toks + 1)) { s with toks := s.toks + 1 + 1 }) :
    wpAny (model PySem.Challenge.rw_iv0024_01.row.prog w) A (call (.builtin "len") [.ref l]) Q E s :=
  len_list (N.isList hm) (by simp only [List.size_toArray]; kmod_is) (by simpa using h)
theorem lenMap {α : Type} {f : α → Value} {rl : List α} (N : News h₀ L s.heap news) (hm : (l, listOf (rl.map f).toArray c) ∈ news) (hf : rl.length < 1000000) (h : Q (.int (rl.length : Nat) (s.toks + 1)) { s with toks := s.toks + 1 + 1 }) :
    wpAny (model PySem.Challenge.rw_iv0024_01.row.prog w) A (call (.builtin "len") [.ref l]) Q E s := lenL N hm (by simpa using hf) (by simpa using h)

theorem min_int (a n : Nat) : max 0 (min (a : Int) (n : Int)) = ((min a n : Nat) : Int) := by
  rcases Nat.le_total a n with h | h
  · rw [Nat.min_eq_left h, Int.min_eq_left (Int.ofNat_le.mpr h)]; exact Int.max_eq_right (Int.natCast_nonneg _)
  · rw [Nat.min_eq_right h, Int.min_eq_right (Int.ofNat_le.mpr h)]; exact Int.max_eq_right (Int.natCast_nonneg _)
theorem pick_from {a : Nat} : slicePick vs.toArray (some (a : Int)) none none = (vs.drop a).toArray := by
  have e : sliceBounds (some (a : Int)) none none vs.toArray.size = (((min a vs.toArray.size : Nat) : Int), ((vs.toArray.size : Nat) : Int), 1) := by
    simp only [sliceBounds, Option.getD_none, show (1 : Int) > 0 by decide, if_true, if_neg (show ¬ ((a : Int) < 0) by kmod_is)]
    congr 1
    first | exact min_int _ _ | kmod_is
  rw [kmk_pick_nat _ e]
  simp only [List.size_toArray]
  congr 1
  show (vs.drop (min a vs.length)).take (vs.length - min a vs.length) = vs.drop a
  rw [List.take_of_length_le (by simp), kmk_drop_min]
theorem pick_upto {b : Nat} : slicePick vs.toArray none (some (b : Int)) none = (vs.take b).toArray := by
  have e : sliceBounds none (some (b : Int)) none vs.toArray.size = (((0 : Nat) : Int), ((min b vs.toArray.size : Nat) : Int), 1) := by
    simp only [sliceBounds, Option.getD_none, show (1 : Int) > 0 by decide, if_true, if_neg (show ¬ ((b : Int) < 0) by kmod_is)]
    congr 1
    congr 1
    first | exact min_int _ _ | kmod_is
  rw [kmk_pick_nat _ e]
  show ((vs.drop 0).take (min b vs.toArray.size - 0)).toArray = _
  rw [List.drop_zero, Nat.sub_zero, List.size_toArray, kmk_take_min]

theorem sliceFrom {value slice : PySem.Expr} {a : Nat} {i : Int} {t : Tok} (e : i = ((a : Nat) : Int)) (F : Fr h₀ L s.heap m) (N : News h₀ L s.heap news) (hm : (l, listOf vs.toArray c) ∈ news) (hf : vs.length < 1000000)
    (h : ∀ D h', Fr h₀ L h' m → News h₀ L h' ((D, listOf (vs.drop a).toArray 0) :: news) → (∀ p ∈ news, p.1 < D) → Q (.ref D) { s with heap := h' })
    (hs : subscripted slice false (.ref l) (.ref s.heap.objs.size) = operate [.ref s.heap.objs.size, .ref l] (getItem (.ref l) (.ref s.heap.objs.size)) := by with_unfolding_all rfl) (ht : ∀ r, letTemporaryGo value (.ref l) r = pure () := by intro _; with_unfolding_all rfl) :
    wpAny (model PySem.Challenge.rw_iv0024_01.row.prog w) A (subscriptTail value slice (.ref l) (.ref s.heap.objs.size)) Q E { s with heap := s.heap.push { cls := .type "slice", data := .fields #[.int i t, .none, .none] } } := by
  subst e
  exact kmk_slice F N (N.isList hm) (IsPart.int _ _) .none (fun D h' F' N' l1 => h D h' F' (by rw [pick_from] at N'; exact N') l1) hs ht (by simp only [List.size_toArray]; unfold sizeLine; kmod_is)
theorem sliceUpto {value slice : PySem.Expr} {b : Nat} {i : Int} {t : Tok} (e : i = ((b : Nat) : Int)) (F : Fr h₀ L s.heap m) (N : News h₀ L s.heap news) (hm : (l, listOf vs.toArray c) ∈ news) (hf : vs.length < 1000000)
    (h : ∀ D h', Fr h₀ L h' m → News h₀ L h' ((D, listOf (vs.take b).toArray 0) :: news) → (∀ p ∈ news, p.1 < D) → Q (.ref D) { s with heap := h' })
    (hs : subscripted slice false (.ref l) (.ref s.heap.objs.size) = operate [.ref s.heap.objs.size, .ref l] (getItem (.ref l) (.ref s.heap.objs.size)) := by with_unfolding_all rfl) (ht : ∀ r, letTemporaryGo value (.ref l) r = pure () := by intro _; with_unfolding_all rfl) :
    wpAny (model PySem.Challenge.rw_iv0024_01.row.prog w) A (subscriptTail value slice (.ref l) (.ref s.heap.objs.size)) Q E { s with heap := s.heap.push { cls := .type "slice", data := .fields #[.none, .int i t, .none] } } := by
  subst e
  exact kmk_slice F N (N.isList hm) .none (IsPart.int _ _) (fun D h' F' N' l1 => h D h' F' (by rw [pick_upto] at N'; exact N') l1) hs ht (by simp only [List.size_toArray]; unfold sizeLine; kmod_is)

theorem strs_map : ∀ rl : List (Sg × Tok), StrsAre (rl.map sgV) (rl.map fun x => x.1.text)
  | [] => .nil
  | x :: rl => .cons _ _ (strs_map rl)
theorem any_name (σ : Sg) : ([Sg.nr, .sx, .nN, .si, .ns, .sp, .nt].map Sg.text).any (· == σ.text) = isName σ := by generalize σ = τ; revert τ; refine sgAll ?_; decide +kernel
theorem inAtoms {σ : Sg} {u t0 t1 t2 t3 t4 t5 t6 : Tok} (N : News h₀ L s.heap news) (hm : (l, listOf (atomsV t0 t1 t2 t3 t4 t5 t6).toArray c) ∈ news) (h : Q (.bool (isName σ)) s) :
    wpAny (model PySem.Challenge.rw_iv0024_01.row.prog w) A (compareOp .In (.str σ.text u) (.ref l)) Q E s := by
  have e := strs_map [(.nr, t0), (.sx, t1), (.nN, t2), (.si, t3), (.ns, t4), (.sp, t5), (.nt, t6)]
  refine in_list_strs (N.isList hm) e ?_
  have e2 : ([Sg.nr, .sx, .nN, .si, .ns, .sp, .nt].map Sg.text).any (· == σ.text) = isName σ := any_name σ
  simp only [List.map_cons, List.map_nil] at e2 ⊢
  rw [e2]
  exact h
theorem eqN0 {a b c' : Nat} (N : News h₀ L s.heap news) (hm : (a, listOf ([] : List Value).toArray c) ∈ news) (hb : (b, listOf ([] : List Value).toArray c') ∈ news) (hu : A.units < cLine) (h : Q (.bool true) s) :
    wpAny (model PySem.Challenge.rw_iv0024_01.row.prog w) A (compareOp .Eq (.ref a) (.ref b)) Q E s := SeqAt.eq_listAt (e := fun _ => true) (N.isList hm) (N.isList hb) rfl hu (fun j h1 => absurd h1 (by simp)) (by simpa using h)
theorem eqNC {a b c' : Nat} {v : Value} {r : List Value} (N : News h₀ L s.heap news) (hm : (a, listOf (v :: r).toArray c) ∈ news) (hb : (b, listOf ([] : List Value).toArray c') ∈ news) (hu : A.units < cLine) (h : Q (.bool false) s) :
    wpAny (model PySem.Challenge.rw_iv0024_01.row.prog w) A (compareOp .Eq (.ref a) (.ref b)) Q E s := SeqAt.eq_list_lengthsAt (N.isList hm) (N.isList hb) (by simp) hu h
theorem eqNS {a b c' : Nat} {v : Value} {r : List Value} (N : News h₀ L s.heap news) (hm : (a, listOf (r ++ [v]).toArray c) ∈ news) (hb : (b, listOf ([] : List Value).toArray c') ∈ news) (hu : A.units < cLine) (h : Q (.bool false) s) :
    wpAny (model PySem.Challenge.rw_iv0024_01.row.prog w) A (compareOp .Eq (.ref a) (.ref b)) Q E s := SeqAt.eq_list_lengthsAt (N.isList hm) (N.isList hb) (by simp) hu h
theorem eqNil {a b c' : Nat} (N : News h₀ L s.heap news) (hm : (a, listOf vs.toArray c) ∈ news) (hb : (b, listOf ([] : List Value).toArray c') ∈ news) (hu : A.units < cLine) (h : Q (.bool vs.isEmpty) s) :
    wpAny (model PySem.Challenge.rw_iv0024_01.row.prog w) A (compareOp .Eq (.ref a) (.ref b)) Q E s := by
  cases vs with
  | nil => exact SeqAt.eq_listAt (e := fun _ => true) (N.isList hm) (N.isList hb) rfl hu (fun j h1 => absurd h1 (by simp)) (by simpa using h)
  | cons v r => exact SeqAt.eq_list_lengthsAt (N.isList hm) (N.isList hb) (by simp) hu (by simpa using h)
end
theorem cps_chs (l : List Ch) : (chs l).cps.toList = l.map Ch.code := rfl
theorem slice_from (l : List Ch) (k : Nat) (h : k ≤ l.length) : Txt.slice (chs l) (some (k : Int)) none = chs (l.drop k) := by
  rw [slice_from_eq (b := ((chs l).length : Int)) (by kmod_is) (by rw [chs_len]; kmod_is) rfl, cps_chs, chs_len]
  unfold chs
  congr 2
  rw [List.take_of_length_le (by simp), List.map_drop]; rfl
theorem slice_upto (l : List Ch) (k : Nat) (h : k ≤ l.length) : Txt.slice (chs l) none (some (k : Int)) = chs (l.take k) := by
  rw [beq_iff_eq.mp (slice_closes_toL (x := chs l) (j := (k : Int)) (by kmod_is) (by rw [chs_len]; kmod_is)), cps_chs]
  unfold chs
  congr 2
  rw [List.map_take]
  simp
theorem slice_run (l : List Ch) (j k : Nat) (h0 : j ≤ k) (h : k ≤ l.length) : Txt.slice (chs l) (some (j : Int)) (some (k : Int)) = chs ((l.drop j).take (k - j)) := by
  rw [beq_iff_eq.mp (slice_closesL (x := chs l) (i := (j : Int)) (j := (k : Int)) (by kmod_is) (by kmod_is) (by rw [chs_len]; kmod_is)), cps_chs]
  unfold chs
  congr 2
  rw [List.map_take, List.map_drop]
  congr 1
  exact Int.toNat_sub k j
section
variable {w : World} {A : Around} {E : Value → Shared → Prop} {s : Shared} {h₀ : Heap} {L : Addr} {m : Str → Option Value} {news : List (Addr × Obj)} {l : List Ch} {t : Tok} {Q : Value → Shared → Prop} {value slice : PySem.Expr}
theorem sFrom {k : Nat} {i : Int} {u : Tok} (e : i = ((k : Nat) : Int)) (F : Fr h₀ L s.heap m) (N : News h₀ L s.heap news) (hk : k ≤ l.length) (hl : l.length < 100000) (h : ∀ h' t' tk, Fr h₀ L h' m → News h₀ L h' news → Q (.str (chs (l.drop k)) t') { s with heap := h', toks := tk })
    (hs : subscripted slice false (.str (chs l) t) (.ref s.heap.objs.size) = operate [.ref s.heap.objs.size, .str (chs l) t] (getItem (.str (chs l) t) (.ref s.heap.objs.size)) := by with_unfolding_all rfl)
    (ht : ∀ r, letTemporaryGo value (.str (chs l) t) r = pure () := by intro _; with_unfolding_all rfl) :
    wpAny (model PySem.Challenge.rw_iv0024_01.row.prog w) A (subscriptTail value slice (.str (chs l) t) (.ref s.heap.objs.size)) Q E { s with heap := s.heap.push { cls := .type "slice", data := .fields #[.int i u, .none, .none] } } := by
  subst e
  exact slice_strN_sn F N (fun h' t' tk F' N' => by rw [slice_from l k hk]; exact h h' t' tk F' N') hs ht (by rw [chs_len]; unfold sizeLine; kmod_is)
theorem sUpto {k : Nat} {i : Int} {u : Tok} (e : i = ((k : Nat) : Int)) (F : Fr h₀ L s.heap m) (N : News h₀ L s.heap news) (hk : k ≤ l.length) (hl : l.length < 100000) (h : ∀ h' t' tk, Fr h₀ L h' m → News h₀ L h' news → Q (.str (chs (l.take k)) t') { s with heap := h', toks := tk })
    (hs : subscripted slice false (.str (chs l) t) (.ref s.heap.objs.size) = operate [.ref s.heap.objs.size, .str (chs l) t] (getItem (.str (chs l) t) (.ref s.heap.objs.size)) := by with_unfolding_all rfl)
    (ht : ∀ r, letTemporaryGo value (.str (chs l) t) r = pure () := by intro _; with_unfolding_all rfl) :
    wpAny (model PySem.Challenge.rw_iv0024_01.row.prog w) A (subscriptTail value slice (.str (chs l) t) (.ref s.heap.objs.size)) Q E { s with heap := s.heap.push { cls := .type "slice", data := .fields #[.none, .int i u, .none] } } := by
  subst e
  exact slice_strN_ns F N (fun h' t' tk F' N' => by rw [slice_upto l k hk]; exact h h' t' tk F' N') hs ht (by rw [chs_len]; unfold sizeLine; kmod_is)
theorem sRun {j k : Nat} {i i' : Int} {u u' : Tok} (e : i = ((j : Nat) : Int)) (e' : i' = ((k : Nat) : Int)) (F : Fr h₀ L s.heap m) (N : News h₀ L s.heap news) (hj : j ≤ k) (hk : k ≤ l.length) (hl : l.length < 100000) (h : ∀ h' t' tk, Fr h₀ L h' m → News h₀ L h' news → Q (.str (chs ((l.drop j).take (k - j))) t') { s with heap := h', toks := tk })
    (hs : subscripted slice false (.str (chs l) t) (.ref s.heap.objs.size) = operate [.ref s.heap.objs.size, .str (chs l) t] (getItem (.str (chs l) t) (.ref s.heap.objs.size)) := by with_unfolding_all rfl)
    (ht : ∀ r, letTemporaryGo value (.str (chs l) t) r = pure () := by intro _; with_unfolding_all rfl) :
    wpAny (model PySem.Challenge.rw_iv0024_01.row.prog w) A (subscriptTail value slice (.str (chs l) t) (.ref s.heap.objs.size)) Q E { s with heap := s.heap.push { cls := .type "slice", data := .fields #[.int i u, .int i' u', .none] } } := by
  subst e e'
  exact slice_strN_ss F N (fun h' t' tk F' N' => by rw [slice_run l j k hj hk]; exact h h' t' tk F' N') hs ht (by rw [chs_len]; unfold sizeLine; kmod_is)
theorem item_ch {k : Nat} {c : Ch} (h : l[k]? = some c) : (Txt.charAt (chs l) (k : Int)).isSome = true ∧ Txt.item (chs l) (k : Int) = chs [c] := by
  have hlt := (List.getElem?_eq_some_iff.mp h).1
  have e : Txt.charAt (chs l) (k : Int) = some c.code := by
    unfold Txt.charAt seqIndex?
    rw [chs_len]
    have h1 : ¬ ((k : Int) < 0) := by kmod_is
    have h2 : (0 : Int) ≤ k ∧ (k : Int) < l.length := by kmod_is
    simp only [h1, if_false, h2, and_self, if_true, Option.bind_some, Int.toNat_natCast]
    simp [chs, h]
  rw [Txt.item, e]
  exact ⟨rfl, rfl⟩
theorem sItem {k : Nat} {u : Tok} {c : Ch} (hk : l[k]? = some c) (hl : l.length < 100000) (h : Q (.str (chs [c]) s.toks) { s with toks := s.toks + 1 })
    (hs : subscripted slice false (.str (chs l) t) (.int (k : Int) u) = operate [.str (chs l) t, .int (k : Int) u] (getItem (.str (chs l) t) (.int (k : Int) u)) := by with_unfolding_all rfl) :
    wpAny (model PySem.Challenge.rw_iv0024_01.row.prog w) A (subscriptTail value slice (.str (chs l) t) (.int (k : Int) u)) Q E s := by
  have hlt := (List.getElem?_eq_some_iff.mp hk).1
  refine tail_any (typeIs_str _ _ _) F.slot_str_getitem.lookup (SB.getItem ?_ (item_ch hk).1 (by rw [(item_ch hk).2]; exact h)) hs
  unfold fitsSsize
  simp
  kmod_is
theorem sAdd {a b : List Ch} {u : Tok} (hl : a.length + b.length < 100000) (h : ∀ t' k, Q (.str (chs (a ++ b)) t') { s with toks := k }) : wpAny (model PySem.Challenge.rw_iv0024_01.row.prog w) A (binaryOp .Add (.str (chs a) t) (.str (chs b) u)) Q E s :=
  SB.add (fun t' k => by rw [chs_append]; exact h t' k) (by rw [chs_len, chs_len]; unfold sizeLine; kmod_is)
theorem listLast {us : List Value} {v : Value} {l c : Nat} {u : Tok} (N : News h₀ L s.heap news) (hm : (l, listOf (us ++ [v]).toArray c) ∈ news) (hl : us.length < 100000) (h : Q v s)
    (hs : subscripted slice false (.ref l) (.int (-1) u) = operate [.ref l, .int (-1) u] (getItem (.ref l) (.int (-1) u)) := by with_unfolding_all rfl) :
    wpAny (model PySem.Challenge.rw_iv0024_01.row.prog w) A (subscriptTail value slice (.ref l) (.int (-1) u)) Q E s :=
  tail_any (N.isList hm).typeIs slot_list_getitem.lookup (wpAny_getItem_list_neg (N.isList hm) (by decide) (by simp; kmod_is) (by decide) (by
    have e : ((-1 : Int) + ((us ++ [v]).toArray.size : Nat)).toNat = us.length := by simp only [List.size_toArray, List.length_append, List.length_cons, List.length_nil]; kmod_is
    rw [e]; simp) h) hs
end

end
section
open PyProof.Rows.LCg PyProof.Rows.LCt
section
variable {prog : Program} {w : World} {A : Around} {E : Value → Shared → Prop} {s : Shared} {h₀ : Heap} {L : Addr} {m : Str → Option Value} {env : Env} {elt ct : PySem.Expr} {x : Str} {scope : Scope} {cl : List (Str × Addr)}
  {S : List (Addr × Obj) → Prop} {P : Nat → Value → Prop} {Fin : List Value → List (Addr × Obj) → Prop}
/-- a comprehension by an invariant -/
theorem comp_ind (n : Nat) (J : Nat → List Value → List (Addr × Obj) → Prop) (fin : ∀ ys news, J n ys news → Fin ys news)
    (turn : ∀ i ys news v I oI C oC D m₂ h tk (E' : Value → Shared → Prop), i < n → J i ys news → P i v → NsObj oC m₂ → m₂ x = some v → Fr h₀ L h m → News h₀ L h ((I, oI) :: (C, oC) :: (D, lst ys) :: news) → Off3 I C D news → ((@Ne Nat I C) ∧ (@Ne Nat I D) ∧ (@Ne Nat C D)) →
      wpAny (model prog w) A (eval elt (compEnvC scope cl C env)) (CompEnd h₀ L m { s with heap := h, toks := tk } I oI C oC D (lst ys) S (fun y news' => J (i + 1) (ys ++ [y]) news')) E' { s with heap := h, toks := tk }) :
    ∀ k i ys news, i + k = n → J i ys news → CompRest prog w A h₀ L m env elt x scope cl s S P Fin k i ys news
  | 0, i, ys, news, e, h => fin ys news (by have : i = n := by kmod_is
                                            exact this ▸ h)
  | k + 1, i, ys, news, e, h => by
    intro v I oI C oC D m₂ h' tk E' hP hC hx F N off ne
    refine wpAny_mono (turn i ys news v I oI C oC D m₂ h' tk E' (by kmod_is) h hP hC hx F N off ne) (fun y s₂ hy => ?_) fun _ _ e => e
    obtain ⟨h1, tk1, news', e1, F1, N1, o1, S1, r⟩ := hy
    exact ⟨h1, tk1, news', e1, F1, N1, o1, S1, comp_ind n J fin turn k (i + 1) _ _ (by kmod_is) r⟩
/-- a comprehension with a test by an invariant -/
theorem comp_indT (n : Nat) (J : Nat → List Value → List (Addr × Obj) → Prop) (fin : ∀ ys news, J n ys news → Fin ys news)
    (turn : ∀ i ys news v I oI C oC D m₂ h tk (E' : Value → Shared → Prop), i < n → J i ys news → P i v → NsObj oC m₂ → m₂ x = some v → Fr h₀ L h m → News h₀ L h ((I, oI) :: (C, oC) :: (D, lst ys) :: news) → Off3 I C D news → ((@Ne Nat I C) ∧ (@Ne Nat I D) ∧ (@Ne Nat C D)) →
      wpAny (model prog w) A (isTrue ct (compEnvC scope cl C env) (eval ct (compEnvC scope cl C env))) (fun ok s' => if ok = true then
        wpAny (model prog w) A (eval elt (compEnvC scope cl C env)) (CompEnd h₀ L m { s with heap := h, toks := tk } I oI C oC D (lst ys) S (fun y news' => J (i + 1) (ys ++ [y]) news')) E' s'
        else CompEnd h₀ L m { s with heap := h, toks := tk } I oI C oC D (lst ys) S (fun _ news' => J (i + 1) ys news') Value.none s') E' { s with heap := h, toks := tk }) :
    ∀ k i ys news, i + k = n → J i ys news → CompRestT prog w A h₀ L m env ct elt x scope cl s S P Fin k i ys news
  | 0, i, ys, news, e, h => fin ys news (by have : i = n := by kmod_is
                                            exact this ▸ h)
  | k + 1, i, ys, news, e, h => by
    intro v I oI C oC D m₂ h' tk E' hP hC hx F N off ne
    refine wpAny_mono (turn i ys news v I oI C oC D m₂ h' tk E' (by kmod_is) h hP hC hx F N off ne) (fun ok s₂ hy => ?_) fun _ _ e => e
    cases ok with
    | true =>
      simp only [if_true] at hy ⊢
      refine wpAny_mono hy (fun y s₃ hy => ?_) fun _ _ e => e
      obtain ⟨h1, tk1, news', e1, F1, N1, o1, S1, r⟩ := hy
      exact ⟨h1, tk1, news', e1, F1, N1, o1, S1, comp_indT n J fin turn k (i + 1) _ _ (by kmod_is) r⟩
    | false =>
      simp only [Bool.false_eq_true, if_false] at hy ⊢
      obtain ⟨h1, tk1, news', e1, F1, N1, o1, S1, r⟩ := hy
      exact ⟨h1, tk1, news', e1, F1, N1, o1, S1, comp_indT n J fin turn k (i + 1) _ _ (by kmod_is) r⟩
end
/-- the three entries of a comprehension are apart from what was made ahead of it -/
theorem off3_of {I C D : Addr} {oI oC oD : Obj} {h₀ h : Heap} {L : Addr} {a b : List (Addr × Obj)} (N : News h₀ L h ((I, oI) :: (C, oC) :: (D, oD) :: a)) (o : Off3 I C D a) (hb : ∀ q ∈ b, q ∈ a) : Off3 I C D b := Off3.of fun q hq => o.mem q (hb q hq)

end
section
local macro_rules | `(tactic| k_mem) => tac "ass | ? List.Mem.tail _ ? ; mem | ! List.mem_append_left _ [ass] | ! List.mem_append_right _ [ass]"
local macro_rules | `(tactic| walk_at "call builtin:len") => tac "here ; wp call ( Value.builtin \"len\" ) ( List.cons ( Value.ref _ ) List.nil ) ; df { by lenMap ?N ?m ?f ? ; N=asm ; m=mem ; f=lia ; whole | by lenL ?N ?m ?f ? ; N=asm ; m=mem ; f=lenlia ; whole }"
local macro_rules | `(tactic| walk_at "call type:range") => tac "here ; df { by range1_rows ?F ?N ? ; F=asm ; N=asm ; whole } ; z15"
local macro_rules | `(tactic| walk_at "compareOp In str ref") => tac "here ; df { by inAtoms ?N ?m ? ; N=asm ; m=mem ; whole }"
local macro_rules | `(tactic| walk_at "compareOp Eq ref ref") => tac "here ; df { by eqN0 ?N ?m ?b ?u ? ; N=asm ; m=mem ; b=mem ; u=units ; whole | by eqNC ?N ?m ?b ?u ? ; N=asm ; m=mem ; b=mem ; u=units ; whole | by eqNS ?N ?m ?b ?u ? ; N=asm ; m=mem ; b=mem ; u=units ; whole | by eqNil ?N ?m ?b ?u ? ; N=asm ; m=mem ; b=mem ; u=units ; whole }"
local macro_rules | `(tactic| walk_at "eval ListComp") => tac "here ; stop"
local macro_rules | `(tactic| walk_at "exec Assign cons ListComp") => tac "here ; stop"
local macro_rules | `(tactic| walk_at "subscriptTail Name Slice ref ref") => tac "here ; df { by sliceFrom ?e ?F ?N ?m ?f ? ; e=cast ; F=asm ; N=asm ; m=mem ; f=lenlia ; whole | by sliceUpto ?e ?F ?N ?m ?f ? ; e=cast ; F=asm ; N=asm ; m=mem ; f=lenlia ; whole } ; intro:D',h',F',N',l1 ; lt:l1 ; sweep"
local macro_rules | `(tactic| walk_at "subscriptTail Name Slice str ref") => tac "here ; df { by sRun ?ze ?ze' ?zF ?zN ?zj ?zk ?zl ? ; ze=cast ; ze'=cast ; zF=asm ; zN=asm ; zj=lia ; zk=lia ; zl=lia ; whole | by sFrom ?ze ?zF ?zN ?zk ?zl ? ; ze=cast ; zF=asm ; zN=asm ; zk=lia ; zl=lia ; whole | by sUpto ?ze ?zF ?zN ?zk ?zl ? ; ze=cast ; zF=asm ; zN=asm ; zk=lia ; zl=lia ; whole } ; intro:h',t',tk',F',N' ; sweep"
local macro_rules | `(tactic| walk_at "binaryOp Add str str") => tac "here ; df { by sAdd ?l ? ; l=lenlia ; whole } ; intro:t',tk'"
local macro_rules | `(tactic| walk_at "subscriptTail Name UnaryOp ref int") => tac "here ; un { by listLast ?N ?m ?l ? ?z ; N=asm ; m=mem ; l=lenlia ; z=wrfl ; whole }"
local macro_rules | `(tactic| walk_at "call ref") => tac "here ; df { by lawAtoms ?B ?F ?X ?N ?T ?k ?r ? ; B=asm ; F=asm ; X=asm ; N=asm ; T=asm ; k=rfl ; r=room ; whole ; intro:x,h',tk',t0,t1,t2,t3,t4,t5,t6,c,lx,F',N' ; lt:lx ; sweep }"
section
theorem fillZR (w : World) (h : Heap) : (hd.heap_1 w.params).In h → PySem.Challenge.rw_iv0024_01.row.prog = PySem.Challenge.rw_iv0024_01.row.prog := by w_top off; k_fill; intro _; rfl
noncomputable def rowOk (u : List Sg) : Bool := decide (3 ≤ u.length) && ((u[0]?).any fun σ => σ.ty = 58) && decide (u[1]? = some .co) && readsF (u.length + 1) ((u.drop 2).map chOf)
local macro_rules | `(tactic| walk_at "subscriptTail Name Constant ref int") => tac "here ; wp subscriptTail _ _ ( Value.ref _ ) ( Value.int _ _ ) ; un { by listItem_N ?N ?l ?a ?b ?x ? ?z ; N=asm ; l=mem ; a=dec ; b=dec ; x=rfl0 ; z=wrfl ; whole }"
local macro_rules | `(tactic| walk_at "last subscriptTail") => tac "here ; wp subscriptTail _ _ ( Value.str _ _ ) ( Value.int 0 _ ) ; un { by str0 ?a ? ?z ; a=ass ; z=wrfl ; whole }"
theorem ne_em {σ : Sg} (h : σ ≠ .em) : (Txt.charAt σ.text 0).isSome = true := by revert h; generalize σ = τ; revert τ; refine sgAll ?_; decide +kernel
theorem alpha_ty {σ : Sg} (h : σ ≠ .em) : Txt.isalpha (Txt.item σ.text 0) = (σ.ty = 58 : Bool) := by revert h; generalize σ = τ; revert τ; refine sgAll ?_; decide +kernel
theorem co_iff {σ : Sg} : (σ.text != Str.ofString ":") = !(σ = .co : Bool) := by generalize σ = τ; revert τ; refine sgAll ?_; decide +kernel
noncomputable abbrev rfm (v1 v2 v3 v4 : Option Value) (row : Value) : Str → Option Value := fun y => if y = Str.ofString "opening" then v1 else if y = Str.ofString "j" then v2 else if y = Str.ofString "closing" then v3 else if y = Str.ofString "k" then v4 else if y = Str.ofString "row" then some row else none
/-- a sign as a letter of the second reading -/
theorem text_ch {σ : Sg} (h : isName σ = false) (h1 : σ ≠ .nl ∧ σ ≠ .em) : σ.text = chs [chOf σ] := by revert h h1; generalize σ = τ; revert τ; refine sgAll ?_; decide +kernel
theorem a_ch {σ : Sg} (h : isName σ = true) : Str.ofString "a" = chs [chOf σ] := by revert h; generalize σ = τ; revert τ; refine sgAll ?_; decide +kernel
theorem join_chs1 : ∀ l : List Ch, Str.join (Str.ofString "") (l.map fun c => chs [c]) = chs l
  | [] => by decide
  | [c] => rfl
  | c :: d :: r => by
    have := join_chs1 (d :: r)
    show chs [c] ++ Str.ofString "" ++ Str.join (Str.ofString "") ((d :: r).map fun c => chs [c]) = _
    rw [this, show Str.ofString "" = Str.empty by decide, Str.append_empty, chs_append]; rfl
theorem join_chs : ∀ l : List Ch, Txt.join (Str.ofString "") (l.map fun c => chs [c]) = chs l := by
  intro l
  unfold Txt.join
  rw [StrLaws.glued_eq_join, join_chs1]
theorem sum_chs : ∀ l : List Ch, ((l.map fun c => chs [c]).map (·.length)).sum = l.length
  | [] => rfl
  | c :: l => by simp only [List.map_cons, List.sum_cons, sum_chs l, chs_len, List.length_cons, List.length_nil]; kmod_is
open PyProof.Rows.LCg PyProof.Rows.LCt
theorem strs_take {α β : Type} {f : α → β} {g : β → Str} {rl : List α} {i : Nat} {x : α} {ys : List Value} {t : Tok} (h : rl[i]? = some x) (hys : StrsAre ys (((rl.map f).take i).map g)) : StrsAre (ys ++ [.str (g (f x)) t]) (((rl.map f).take (i + 1)).map g) := by
  rw [List.take_add_one, List.getElem?_map, h]
  simp only [Option.map_some, Option.toList_some, List.map_append, List.map_cons, List.map_nil]
  exact KStt.strs_snoc hys
theorem lenS {w : World} {A : Around} {E : Value → Shared → Prop} {s : Shared} {l : List Ch} {t : Tok} {Q : Value → Shared → Prop} (hl : l.length < 100000) (h : Q (.int (l.length : Nat) (s.toks + 1)) { s with toks := s.toks + 1 + 1 }) :
    wpAny (model PySem.Challenge.rw_iv0024_01.row.prog w) A (call (.builtin "len") [.str (chs l) t]) Q E s := P.len_str (by rw [chs_len]; kmod_is) (by rw [chs_len]; exact h)
local macro_rules | `(tactic| walk_at "call builtin:len") => tac "here ; wp call ( Value.builtin \"len\" ) ( List.cons ( Value.str _ _ ) List.nil ) ; df { by lenS ?l ? ; l=lt ; whole }"
theorem range_size (n : Nat) : Builtin.Range.rangeSize 0 (n : Int) 1 = ((n : Nat) : Int) := by
  unfold Builtin.Range.rangeSize
  simp only [show ((1 : Int) > 0) by decide, if_true, Int.ediv_one]
  split <;> kmod_is
theorem range_small {n : Nat} (h : n < 1000000) : Builtin.Range.small 0 (n : Int) 1 = true := small_one (by kmod_is) (by kmod_is) (by kmod_is) (by kmod_is)
local macro_rules | `(tactic| walk_at "CompSrcT") => tac "here ; stop"
theorem ints_cons {ys : List Value} {k : Nat} {ks : List Nat} (h : IntsAre ys ((k :: ks).map Int.ofNat)) : ∃ t ys', ys = .int (k : Int) t :: ys' ∧ IntsAre ys' (ks.map Int.ofNat) := by
  cases h with
  | cons n t h => exact ⟨_, _, rfl, h⟩
theorem ints_snoc {ys : List Value} {k : Nat} {t : Tok} {ks : List Nat} (h : IntsAre ys (ks.map Int.ofNat)) : IntsAre (ys ++ [.int (k : Int) t]) ((ks ++ [k]).map Int.ofNat) := by
  rw [List.map_append]
  exact h.append (.cons _ _ .nil)
theorem ints_last {ys : List Value} {k : Nat} {ks : List Nat} (h : IntsAre ys ((ks ++ [k]).map Int.ofNat)) : ∃ t ys', ys = ys' ++ [.int (k : Int) t] ∧ IntsAre ys' (ks.map Int.ofNat) := by
  induction ks generalizing ys with
  | nil =>
    obtain ⟨t, ys', rfl, h'⟩ := ints_cons h
    cases h'
    exact ⟨t, [], rfl, .nil⟩
  | cons a ks ih =>
    obtain ⟨t, ys', rfl, h'⟩ := ints_cons h
    obtain ⟨t', ys2, rfl, h2⟩ := ih h'
    exact ⟨t', .int (a : Int) t :: ys2, rfl, .cons _ _ h2⟩
theorem last_cases (l : List Nat) : l = [] ∨ ∃ js j, l = js ++ [j] ∧ l.getLast? = some j := by
  rcases List.eq_nil_or_concat l with h | ⟨js, j, h⟩
  · exact .inl h
  · exact .inr ⟨js, j, by simpa using h, by rw [h]; simp⟩
theorem pre_len {l : List Ch} {k : Nat} {js : List Nat} {j : Nat} (h : idxs isOp (l.take k) = js ++ [j]) : js.length ≤ k := by
  have h1 : (idxs isOp (l.take k)).length ≤ (l.take k).length := by
    unfold idxs
    have := List.length_filter_le (fun i => ((l.take k)[i]?).any isOp) (List.range (l.take k).length)
    rwa [List.length_range] at this
  rw [h, List.length_append, List.length_take] at h1
  simp only [List.length_cons, List.length_nil] at h1
  kmod_is
theorem notInPair {w : World} {A : Around} {E : Value → Shared → Prop} {s : Shared} {h₀ : Heap} {L l : Addr} {news : List (Addr × Obj)} {c : Nat} {x y : Ch} {t u v : Tok} {Q : Value → Shared → Prop} (N : News h₀ L s.heap news) (hm : (l, listOf [.str (Str.ofString "()") u, .str (Str.ofString "[]") v].toArray c) ∈ news)
    (h : Q (.bool (!okPair (some x) (some y))) s) : wpAny (model PySem.Challenge.rw_iv0024_01.row.prog w) A (compareOp .NotIn (.str (chs ([x] ++ [y])) t) (.ref l)) Q E s := by
  refine notin_list_strs (N.isList hm) (.cons _ _ (.cons _ _ .nil)) ?_
  rw [show ([Str.ofString "()", Str.ofString "[]"].any (· == chs ([x] ++ [y]))) = okPair (some x) (some y) from allCh (P := fun y => ([Str.ofString "()", Str.ofString "[]"].any (· == chs ([x] ++ [y]))) = okPair (some x) (some y)) (allCh (P := fun x => ∀ y ∈ chL, ([Str.ofString "()", Str.ofString "[]"].any (· == chs ([x] ++ [y]))) = okPair (some x) (some y)) (by decide +kernel) x) y]
  exact h
local macro_rules | `(tactic| walk_at "compareOp NotIn str ref") => tac "here ; df { by notInPair ?N ?m ? ; N=asm ; m=mem ; whole }"
theorem row_ok {σ0 σ1 : Sg} {u0 u1 : Tok} {rl : List (Sg × Tok)} (h : 1 ≤ rl.length) (ha : σ0.ty = 58) (hc : σ1 = .co) : rowOk (((σ0, u0) :: (σ1, u1) :: rl).map Prod.fst) = accepts (rl.map fun x => chOf x.1) := by
  unfold rowOk
  rw [reads_acc _ _ (by simp only [List.length_map, List.length_drop, List.map_cons, List.length_cons, List.drop_succ_cons, List.drop_zero]; kmod_is)]
  subst hc
  have h3 : 3 ≤ rl.length + 1 + 1 := by kmod_is
  simp [ha, h3, Function.comp_def]
theorem chs_a : Str.ofString "a" = chs [.a] := by decide
theorem chs_o : Str.ofString "o" = chs [.o] := by decide
theorem sAddLit {w : World} {A : Around} {E : Value → Shared → Prop} {s : Shared} {a : List Ch} {x : Str} {c : Ch} {t u : Tok} {Q : Value → Shared → Prop} (hx : x = chs [c]) (hl : a.length < 10000) (h : ∀ t' k, Q (.str (chs (a ++ [c])) t') { s with toks := k }) : wpAny (model PySem.Challenge.rw_iv0024_01.row.prog w) A (binaryOp .Add (.str (chs a) t) (.str x u)) Q E s := by
  subst hx
  exact sAdd (by simp only [List.length_cons, List.length_nil]; kmod_is) h
local macro_rules | `(tactic| walk_at "binaryOp Add str str") => tac "here ; df { by sAddLit ?zx ?zl ? ; zx=z16 ; zl=lenlt ; whole } ; intro:t',tk'"
theorem rp_ch {y : Ch} (h : (chs [y] == Str.ofString ")") = true) : y = .rp := by revert h; generalize y = τ; revert τ; refine allCh ?_; decide +kernel
theorem rp_ch' {y : Ch} (h : (chs [y] == Str.ofString ")") = false) : y ≠ .rp := by rintro rfl; revert h; decide
theorem no_cl {d : Ch} (h : noOcc (Str.ofString ")]") (chs [d]) = true) : isCl d = false := by revert h; generalize d = τ; revert τ; refine allCh ?_; decide +kernel
theorem is_cl {d : Ch} (h : noOcc (Str.ofString ")]") (chs [d]) = false) : isCl d = true := by revert h; generalize d = τ; revert τ; refine allCh ?_; decide +kernel
theorem no_op {d : Ch} (h : noOcc (Str.ofString "([") (chs [d]) = true) : isOp d = false := by revert h; generalize d = τ; revert τ; refine allCh ?_; decide +kernel
theorem is_op {d : Ch} (h : noOcc (Str.ofString "([") (chs [d]) = false) : isOp d = true := by revert h; generalize d = τ; revert τ; refine allCh ?_; decide +kernel
theorem fr_rdm {g h : Heap} {L' : Nat} {m : Str → Option Value} {v1 v2 v3 v4 : Option Value} {row : Value} (F : Fr g L' h m) (h1 : m (Str.ofString "opening") = v1) (h2 : m (Str.ofString "j") = v2) (h3 : m (Str.ofString "closing") = v3) (h4 : m (Str.ofString "k") = v4) (h5 : m (Str.ofString "row") = some row)
    (hn : ∀ y, y ≠ Str.ofString "opening" → y ≠ Str.ofString "j" → y ≠ Str.ofString "closing" → y ≠ Str.ofString "k" → y ≠ Str.ofString "row" → m y = none) : Fr g L' h (rfm v1 v2 v3 v4 row) := frCongr F fun y => ite_at h1 fun n1 => ite_at h2 fun n2 => ite_at h3 fun n3 => ite_at h4 fun n4 => ite_at h5 fun n5 => hn y n1 n2 n3 n4 n5
/-- one turn of the second reading -/
theorem acc_step (l : List Ch) : accepts l = match idxs isCl l with
    | [] => flatF l
    | k :: _ => match (idxs isOp (l.take k)).getLast? with
      | none => false
      | some j => if okPair l[j]? l[k]? && flatF ((l.drop (j + 1)).take (k - (j + 1))) then accepts (l.take j ++ (if l[k]? = some .rp then Ch.a else .o) :: l.drop (k + 1)) else false := by
  rw [← reads_acc (l.length + 1) l (Nat.lt_succ_self _), readsF]
  cases hc : idxs isCl l with
  | nil => rfl
  | cons k r =>
    dsimp only
    cases ho : (idxs isOp (l.take k)).getLast? with
    | none => rfl
    | some j =>
      dsimp only
      split
      · obtain ⟨y, hy, _, _⟩ := idxs_head hc
        obtain ⟨x, hx, _, _⟩ := idxs_last ho
        have h1 := (List.getElem?_eq_some_iff.mp hy).1
        have h2 := (List.getElem?_eq_some_iff.mp hx).1
        rw [List.length_take] at h2
        exact reads_acc _ _ (cut_len (Nat.lt_of_lt_of_le h2 (Nat.min_le_left _ _)) h1)
      · rfl
local macro_rules | `(tactic| walk_at "subscriptTail Name Name str int") => tac "here ; wp subscriptTail _ _ ( Value.str _ _ ) ( Value.int _ _ ) ; un { by sItem ?a ?l ? ?z ; a=rass ; l=lt ; z=wrfl ; whole }"
local macro_rules | `(tactic| walk_at "call ref") => tac "here ; sh call ( Value.ref 379 ) _ _ ; stop"
theorem joinR {w : World} {A : Around} {E : Value → Shared → Prop} {s : Shared} {h₀ : Heap} {L D : Addr} {news : List (Addr × Obj)} {ys : List Value} {c : Nat} {lc : List Ch} {t : Tok} {Q : Value → Shared → Prop} (N : News h₀ L s.heap news) (hm : (D, listOf ys.toArray c) ∈ news)
    (hys : StrsAre ys (lc.map fun c => chs [c])) (hl : lc.length < 100000) (h : ∀ t k, Q (.str (chs lc) t) { s with toks := k }) : wpAny (model PySem.Challenge.rw_iv0024_01.row.prog w) A (call (.builtin "str.join") [.str (Str.ofString "") t, .ref D]) Q E s :=
  join_list (N.isList hm) hys (by rw [sum_chs, List.length_map, show (Str.ofString "").length = 0 by decide]; kmod_is) (by rw [join_chs]; exact h)
local macro_rules | `(tactic| walk_at "call builtin:str.join") => tac "here ; df { by joinR ?N ?m ?y ?l ? ; N=asm ; m=mem ; y=ass ; l=lenlt ; whole ; intro:t',tk' }"
inductive RdInv (g' : Heap) (L' r : Nat) (rl : List (Sg × Tok)) (news : List (Addr × Obj)) (s : Shared) (n : Nat) (s' : Shared) : Prop
  | mk (l : List Ch) (t : Tok) (oc : Obj) (v1 v2 v3 v4 : Option Value) (h1 : Heap) (tk1 : Nat) (x0 : s' = { s with heap := h1, toks := tk1 }) (x1 : n = l.length) (x2 : l.length ≤ rl.length) (x3 : accepts (rl.map fun x => chOf x.1) = accepts l) (x4 : oc.data = .cell (some (.str (chs l) t))) (x5 : Fr g' L' h1 (rfm v1 v2 v3 v4 (.ref r))) (x6 : News g' L' h1 ((L' + 1, oc) :: news)) : RdInv g' L' r rl news s n s'
set_option maxRecDepth 100000 in
set_option maxHeartbeats 8000000 in
theorem lawReads3 {w : World} {mean : ExcName → Option Value} {mg mb : Str → Option Value} {dp un : Nat} {gd : Option (List Code)} {cn : Str} {cs : Scope} {a : Addr} {ccd : Value} {cl : List (Str × Addr)} {outer : List Env} {A₀ : Around} {base h₀ : Heap} {L : Addr} {m : Str → Option Value} {s : Shared} {Q E : Value → Shared → Prop} {news : List (Addr × Obj)} {r c : Nat} {x0 x1 : Sg × Tok} {rl : List (Sg × Tok)}
    (B : Below A₀ base outer h₀) (F : Fr h₀ L s.heap m) (X : (hd.heap_1 w.params).In h₀) (N : News h₀ L s.heap news) (T : Top vw (looseW vw [Str.ofString "PythonTokenTypes", Str.ofString "_tuplegetter", Str.ofString "PythonToken"]) mean mg mb h₀) (hk : cs.kind = .function) (hroom : dp + 60 < 600) (hun : un + 200 < 8000) (hlen : rl.length < 1000) (hlen1 : 1 ≤ rl.length)
    (hr : (r, listOf (sgV x0 :: sgV x1 :: rl.map sgV).toArray c) ∈ news) (hpl : ∀ x ∈ x0 :: x1 :: rl, x.1 ≠ .nl ∧ x.1 ≠ .em)
    (hQ : ∀ h' tk', Fr h₀ L h' m → News h₀ L h' news → Q (.bool (rowOk ((x0 :: x1 :: rl).map Prod.fst))) { s with heap := h', toks := tk' }) :
    wpAny (model PySem.Challenge.rw_iv0024_01.row.prog w) (ktrTop dp un gd cn cs L a ccd cl outer) (call (.ref 384) [.ref r]) Q E s := by
  obtain ⟨σ0, u0⟩ := x0
  obtain ⟨σ1, u1⟩ := x1
  have he0 : σ0 ≠ .em := (hpl _ (.head _)).2
  have hc0 : (Txt.charAt σ0.text 0).isSome = true := ne_em he0
  have hr : (r, listOf (.str σ0.text u0 :: .str σ1.text u1 :: rl.map sgV).toArray c) ∈ news := hr
  refine wpAny_call ?_
  k_dflt (refine' code_defC ?k1 ?k2 ?k3 ?k4 ?k5 ?kA ?kF ?kK ?k6 ?k7 ?k8 ?k9 ?kB ?kD ?_ ?c2 ?c3 ?c4; (case kA => exact rfl); (case kF => exact rfl); (case kK => first | exact rfl | assumption); (case k1 => k_asm); (case k2 => k_asm); (case k3 => k_asm); (case k4 => k_asm); (case k5 => k_asm); (case k6 => k_is); (case k7 => k_is); (case k8 => ktr_room); (case k9 => first | exact BindsTo.of_eq rfl | exact binds_K (by k_in) rfl (by k_is) rfl rfl rfl); (case kB => exact rfl); (case kD => decide +kernel); (case c2 => exact rfl); (case c3 => exact rfl); (case c4 => exact rfl); k_whole; intro g' L' hh' tk' cells' FG F' N' Y' B' X' T' l1; k_cells Y'; (try simp only [List.cons_append, List.nil_append] at N'); (try dsimp only); (try (refine wpId ?_; k_fold)))
  have F0 : Fr g' L' hh' (rfm none none none none (.ref r)) := frCongr F' fun y => Eq.symm (Eq.trans (drop_none (k := Str.ofString "opening") (f := fun y => if y = Str.ofString "j" then none else if y = Str.ofString "closing" then none else if y = Str.ofString "k" then none else if y = Str.ofString "row" then some (Value.ref r) else none) rfl y) (Eq.trans (drop_none (k := Str.ofString "j") (f := fun y => if y = Str.ofString "closing" then none else if y = Str.ofString "k" then none else if y = Str.ofString "row" then some (Value.ref r) else none) rfl y) (Eq.trans (drop_none (k := Str.ofString "closing") (f := fun y => if y = Str.ofString "k" then none else if y = Str.ofString "row" then some (Value.ref r) else none) rfl y) (drop_none (k := Str.ofString "k") (f := fun y => if y = Str.ofString "row" then some (Value.ref r) else none) rfl y))))
  clear F'
  rename_i oc d1'
  have hoc : oc.data = .cell none := d1'
  clear d1'
  have hnl : ∀ p ∈ news, p.1 ≠ L' + 1 := fun p hp => Nat.ne_of_lt (Nat.lt_succ_of_lt (l1 p hp))
  k_steps
  · rename _ < _ => hl; simp only [List.length_cons, List.length_map] at hl; kmod_is
  · rename (σ1.text != Str.ofString ":") = true => hl
    rw [co_iff] at hl
    have e : rowOk (((σ0, u0) :: (σ1, u1) :: rl).map Prod.fst) = false := by
      simp at hl
      simp [rowOk, hl]
    rw [e] at hQ
    exact hQ _ _ (by k_asm) (News.tail1 (by k_asm))
  · refine Stop.go (ListComp_U (F₀ := by k_asm) (by with_unfolding_all rfl) (by decide) (by rfl) (by decide) (by rfl) ?_)
    k_steps
    rename News g' L' _ _ => N1
    rename Fr g' L' _ _ => F1
    have N1 : News g' L' _ ((_, listOf (rl.map sgV).toArray 0) :: (L' + 1, oc) :: news) := N1
    refine CompSrc.ledger rfl F1 N1 (.head _) (by simp only [List.size_toArray, List.length_map]; unfold sizeLine; kmod_is) fun g => ?_
    refine comp_ind _ (fun i ys nw => nw = (_, listOf (rl.map sgV).toArray 0) :: (L' + 1, oc) :: news ∧ StrsAre ys (((rl.map fun x => chOf x.1).take i).map fun c => chs [c])) ?_ ?_ _ 0 [] _ (Nat.zero_add _) ⟨rfl, .nil⟩
    · rintro ys nw ⟨rfl, hys⟩
      intro (D2 : Nat) h2 tk2 F2 N2 o2
      simp only [Off1] at o2
      have hys : StrsAre ys ((rl.map fun x => chOf x.1).map fun c => chs [c]) := by
        rw [List.take_of_length_le (by simp)] at hys; exact hys
      k_steps
      rename News g' L' _ _ => N3
      rename Fr g' L' _ _ => F3
      rename _ = Data.cell (some _) => hoc3
      have hrow : rowOk (((σ0, u0) :: (σ1, u1) :: rl).map Prod.fst) = accepts (rl.map fun x => chOf x.1) := by
        rename Txt.isalpha _ = true => ha
        rename (σ1.text != Str.ofString ":") = false => hc
        rw [alpha_ty he0] at ha
        rw [co_iff] at hc
        have ha : σ0.ty = 58 := by simpa using ha
        have hc : σ1 = .co := by simpa using hc
        exact row_ok hlen1 ha hc
      rw [hrow] at hQ
      refine Stop.go (While_syn (n₀ := rl.length) (RdInv g' L' r rl news s) ?_ ?_ PassesOwn.leaving)
      · exact ⟨_, _, _, _, _, _, _, _, _, rfl, by simp, by simp, rfl, hoc3, F3, News.sub N3 (by (first | with_reducible exact subId | ((repeat' (first | with_reducible exact subId | with_reducible exact subNil | with_reducible refine subCC ?_ | with_reducible refine subCons ?_ ?_ | with_reducible refine subApp ?_ ?_)) <;> kse_small) | (intro q hq; first | (simp only [List.mem_cons, List.mem_append, hq, true_or, or_true]; done) | (simp only [List.mem_cons, List.mem_append] at hq ⊢; grind))))⟩
      · clear F3 N3 hoc3
        rintro n s₁ ⟨l, t, oc, v1, v2, v3, v4, h1, tk1, rfl, rfl, hll, hacc, hoc, F1, N1⟩
        have hnl : ∀ p ∈ news, p.1 ≠ L' + 1 := fun p hp => Nat.ne_of_lt (Nat.lt_succ_of_lt ((by assumption : ∀ p ∈ news, p.1 < L') p hp))
        have hl5 : l.length < 10000 := by kmod_is
        refine wpId ?_
        k_fold
        k_steps
        refine Stop.go (Assign_ListComp_T (F₀ := by k_asm) (by rfl) (by with_unfolding_all rfl) (by with_unfolding_all rfl) (by decide) (by rfl) (by decide) (by rfl) (by rfl) (by rfl) ?_)
        k_steps
        rename IsRange _ _ _ _ _ _ _ _ => hR
        rename Fr g' L' _ _ => F2
        rename News g' L' _ _ => N2
        refine Stop.go (CompSrcT.range rfl F2 N2 hR (range_small (by kmod_is)) (range_size _) (by unfold sizeLine; kmod_is) fun g => ?_)
        refine comp_indT _ (fun i ys nw => nw = (L' + 1, oc) :: news ∧ IntsAre ys ((idxsTo isCl l i).map Int.ofNat)) ?_ ?_ _ 0 [] _ (Nat.zero_add _) ⟨rfl, .nil⟩
        · rintro ys nw ⟨rfl, hys⟩
          intro (D3 : Nat) h3 tk3 F3 N3 o3
          rw [idxs_to] at hys
          simp only [Off1] at o3
          have hstep := acc_step l
          cases hid : idxs isCl l with
          | nil =>
            rw [hid] at hys hstep
            cases hys
            k_steps
            refine Stop.go (lawFlat (hroom := by ktr_room) (hun := by ktr_units) (B := by k_asm) (F := by k_asm) (X := by k_asm) (N := by k_asm) (T := by k_asm) (hk := rfl) (hlen := by kmod_is) ?_)
            intro h4 tk4 F4 N4
            k_steps
            refine Turn.ret ?_
            k_steps
            rw [hacc, hstep] at hQ
            exact hQ _ _ (by k_asm) (News.sub (by k_asm) (by (first | with_reducible exact subId | ((repeat' (first | with_reducible exact subId | with_reducible exact subNil | with_reducible refine subCC ?_ | with_reducible refine subCons ?_ ?_ | with_reducible refine subApp ?_ ?_)) <;> kse_small) | (intro q hq; first | (simp only [List.mem_cons, List.mem_append, hq, true_or, or_true]; done) | (simp only [List.mem_cons, List.mem_append] at hq ⊢; grind)))))
          | cons k ks =>
            rw [hid] at hys hstep
            obtain ⟨y, hy, hcl, hu⟩ := idxs_head hid
            have hkl := (List.getElem?_eq_some_iff.mp hy).1
            obtain ⟨tv, ys', rfl, hys'⟩ := ints_cons hys
            dsimp only at hstep
            k_steps
            refine Stop.go (Assign_ListComp_T (F₀ := by k_asm) (by rfl) (by with_unfolding_all rfl) (by with_unfolding_all rfl) (by decide) (by rfl) (by decide) (by rfl) (by rfl) (by rfl) ?_)
            clear hR
            k_steps
            rename IsRange _ _ _ _ _ _ _ _ => hR
            rename Fr g' L' _ _ => F4
            rename News g' L' _ _ => N4
            refine Stop.go (CompSrcT.range rfl F4 (News.sub (l' := (L' + 1, oc) :: news) N4 (by (first | with_reducible exact subId | ((repeat' (first | with_reducible exact subId | with_reducible exact subNil | with_reducible refine subCC ?_ | with_reducible refine subCons ?_ ?_ | with_reducible refine subApp ?_ ?_)) <;> kse_small) | (intro q hq; first | (simp only [List.mem_cons, List.mem_append, hq, true_or, or_true]; done) | (simp only [List.mem_cons, List.mem_append] at hq ⊢; grind))))) hR (range_small (by kmod_is)) (range_size _) (by unfold sizeLine; kmod_is) fun g => ?_)
            refine comp_indT _ (fun i ys nw => nw = (L' + 1, oc) :: news ∧ IntsAre ys ((idxsTo isOp l i).map Int.ofNat)) ?_ ?_ _ 0 [] _ (Nat.zero_add _) ⟨rfl, .nil⟩
            · clear hR F4 N4
              rintro ys nw ⟨rfl, hys⟩
              intro (D4 : Nat) h4 tk4 F4 N4 o4
              rw [idxs_take _ _ _ (Nat.le_of_lt hkl)] at hys
              simp only [Off1] at o4
              rcases last_cases (idxs isOp (l.take k)) with ho | ⟨js, j, ho, ho2⟩
              · rw [ho] at hys hstep
                cases hys
                dsimp only [List.getLast?_nil] at hstep
                k_steps
                refine Turn.ret ?_
                k_steps
                rw [hacc, hstep] at hQ
                exact hQ _ _ (by k_asm) (News.sub (by k_asm) (by (first | with_reducible exact subId | ((repeat' (first | with_reducible exact subId | with_reducible exact subNil | with_reducible refine subCC ?_ | with_reducible refine subCons ?_ ?_ | with_reducible refine subApp ?_ ?_)) <;> kse_small) | (intro q hq; first | (simp only [List.mem_cons, List.mem_append, hq, true_or, or_true]; done) | (simp only [List.mem_cons, List.mem_append] at hq ⊢; grind)))))
              · rw [ho2] at hstep
                rw [ho] at hys
                obtain ⟨tj, ys4, rfl, hys4⟩ := ints_last hys
                obtain ⟨x, hx, hop, hd⟩ := idxs_last ho2
                have hjk : j < k := lt_take hx
                have hxl : l[j]? = some x := by rw [List.getElem?_take, if_pos hjk] at hx; exact hx
                dsimp only at hstep
                rw [hxl, hy] at hstep
                have hyl : ys4.length ≤ k := by rw [hys4.length]; simp only [List.length_map]; exact pre_len ho
                k_steps
                · refine Stop.go (lawFlat (hroom := by ktr_room) (hun := by ktr_units) (B := by k_asm) (F := by k_asm) (X := by k_asm) (N := by k_asm) (T := by k_asm) (hk := rfl) (hlen := by simp only [List.length_take, List.length_drop]; kmod_is) ?_)
                  intro h5 tk5 F5 N5
                  k_steps
                  · rename flatF _ = true => hfl
                    rename okPair _ _ = true => hok
                    rename (chs [y] == Str.ofString ")") = true => hyr
                    rename _ = Data.cell (some (Value.str (chs (List.take j l ++ _ ++ _)) _)) => hoc6
                    rename Fr g' L' _ _ => F6
                    rename News g' L' _ _ => N6
                    rw [hfl, hok, Bool.true_and, if_pos rfl, if_pos (congrArg some (rp_ch hyr))] at hstep
                    refine ⟨_, ?_, _, _, _, _, _, _, _, _, _, rfl, rfl, ?_, ?_, hoc6, fr_rdm F6 rfl rfl rfl rfl rfl (fun y h1 h2 h3 h4 h5 => by (try unfold rfm); (try dsimp only); repeat (first | exact rfl | refine off_ite (by assumption) ?_)), News.sub N6 (by (first | with_reducible exact subId | ((repeat' (first | with_reducible exact subId | with_reducible exact subNil | with_reducible refine subCC ?_ | with_reducible refine subCons ?_ ?_ | with_reducible refine subApp ?_ ?_)) <;> kse_small) | (intro q hq; first | (simp only [List.mem_cons, List.mem_append, hq, true_or, or_true]; done) | (simp only [List.mem_cons, List.mem_append] at hq ⊢; grind))))⟩
                    · exact cut_lenA hjk hkl
                    · exact Nat.le_of_lt (Nat.lt_of_lt_of_le (cut_lenA hjk hkl) (by assumption))
                    · rw [hacc, hstep, List.append_assoc]; rfl
                  · rename flatF _ = true => hfl
                    rename okPair _ _ = true => hok
                    rename (chs [y] == Str.ofString ")") = false => hyr
                    rename _ = Data.cell (some (Value.str (chs (List.take j l ++ _ ++ _)) _)) => hoc6
                    rename Fr g' L' _ _ => F6
                    rename News g' L' _ _ => N6
                    rw [hfl, hok, Bool.true_and, if_pos rfl, if_neg (fun e => rp_ch' hyr (Option.some.inj e))] at hstep
                    refine ⟨_, ?_, _, _, _, _, _, _, _, _, _, rfl, rfl, ?_, ?_, hoc6, fr_rdm F6 rfl rfl rfl rfl rfl (fun y h1 h2 h3 h4 h5 => by (try unfold rfm); (try dsimp only); repeat (first | exact rfl | refine off_ite (by assumption) ?_)), News.sub N6 (by (first | with_reducible exact subId | ((repeat' (first | with_reducible exact subId | with_reducible exact subNil | with_reducible refine subCC ?_ | with_reducible refine subCons ?_ ?_ | with_reducible refine subApp ?_ ?_)) <;> kse_small) | (intro q hq; first | (simp only [List.mem_cons, List.mem_append, hq, true_or, or_true]; done) | (simp only [List.mem_cons, List.mem_append] at hq ⊢; grind))))⟩
                    · exact cut_lenA hjk hkl
                    · exact Nat.le_of_lt (Nat.lt_of_lt_of_le (cut_lenA hjk hkl) (by assumption))
                    · rw [hacc, hstep, List.append_assoc]; rfl
                  · rename flatF _ = false => hfl
                    rw [hfl, Bool.and_false, if_neg Bool.false_ne_true] at hstep
                    refine Turn.ret ?_
                    k_steps
                    rw [hacc, hstep] at hQ
                    exact hQ _ _ (by k_asm) (News.sub (by k_asm) (by (first | with_reducible exact subId | ((repeat' (first | with_reducible exact subId | with_reducible exact subNil | with_reducible refine subCC ?_ | with_reducible refine subCons ?_ ?_ | with_reducible refine subApp ?_ ?_)) <;> kse_small) | (intro q hq; first | (simp only [List.mem_cons, List.mem_append, hq, true_or, or_true]; done) | (simp only [List.mem_cons, List.mem_append] at hq ⊢; grind)))))
                · rename okPair _ _ = false => hok
                  rw [hok, Bool.false_and, if_neg Bool.false_ne_true] at hstep
                  refine Turn.ret ?_
                  k_steps
                  rw [hacc, hstep] at hQ
                  exact hQ _ _ (by k_asm) (News.sub (by k_asm) (by (first | with_reducible exact subId | ((repeat' (first | with_reducible exact subId | with_reducible exact subNil | with_reducible refine subCC ?_ | with_reducible refine subCons ?_ ?_ | with_reducible refine subApp ?_ ?_)) <;> kse_small) | (intro q hq; first | (simp only [List.mem_cons, List.mem_append, hq, true_or, or_true]; done) | (simp only [List.mem_cons, List.mem_append] at hq ⊢; grind)))))
            · rintro i ys nw v I oI C oC D4 m₂ h4 tk4 E' hi ⟨rfl, hys⟩ ⟨tv2, rfl⟩ hC hx F4 N4 o4 ne4
              have hx : m₂ (Str.ofString "j") = some (.int (i : Int) tv2) := by rw [Int.zero_add] at hx; exact hx
              obtain ⟨d, hd⟩ : ∃ d, l[i]? = some d := ⟨_, List.getElem?_eq_getElem (Nat.lt_trans hi hkl)⟩
              k_steps
              · rename Fr g' L' _ _ => F5
                rename News g' L' _ _ => N5
                refine CompEnd.intro F5 N5 _ (by (first | with_reducible exact subId | ((repeat' (first | with_reducible exact subId | with_reducible exact subNil | with_reducible refine subCC ?_ | with_reducible refine subCons ?_ ?_ | with_reducible refine subApp ?_ ?_)) <;> kse_small) | (intro q hq; first | (simp only [List.mem_cons, List.mem_append, hq, true_or, or_true]; done) | (simp only [List.mem_cons, List.mem_append] at hq ⊢; grind)))) o4 trivial ⟨rfl, ?_⟩
                rw [idxsTo_succ hd, no_op (by assumption)]
                exact hys
              · rename Fr g' L' _ _ => F5
                rename News g' L' _ _ => N5
                refine CompEnd.intro F5 N5 _ (by (first | with_reducible exact subId | ((repeat' (first | with_reducible exact subId | with_reducible exact subNil | with_reducible refine subCC ?_ | with_reducible refine subCons ?_ ?_ | with_reducible refine subApp ?_ ?_)) <;> kse_small) | (intro q hq; first | (simp only [List.mem_cons, List.mem_append, hq, true_or, or_true]; done) | (simp only [List.mem_cons, List.mem_append] at hq ⊢; grind)))) o4 trivial ⟨rfl, ?_⟩
                rw [idxsTo_succ hd, is_op (by assumption)]
                exact ints_snoc hys
        · rintro i ys nw v I oI C oC D3 m₂ h3 tk3 E' hi ⟨rfl, hys⟩ ⟨tv, rfl⟩ hC hx F3 N3 o3 ne3
          have hx : m₂ (Str.ofString "k") = some (.int (i : Int) tv) := by rw [Int.zero_add] at hx; exact hx
          obtain ⟨d, hd⟩ : ∃ d, l[i]? = some d := ⟨_, List.getElem?_eq_getElem hi⟩
          k_steps
          · rename Fr g' L' _ _ => F4
            rename News g' L' _ _ => N4
            refine CompEnd.intro F4 N4 _ (by (first | with_reducible exact subId | ((repeat' (first | with_reducible exact subId | with_reducible exact subNil | with_reducible refine subCC ?_ | with_reducible refine subCons ?_ ?_ | with_reducible refine subApp ?_ ?_)) <;> kse_small) | (intro q hq; first | (simp only [List.mem_cons, List.mem_append, hq, true_or, or_true]; done) | (simp only [List.mem_cons, List.mem_append] at hq ⊢; grind)))) o3 trivial ⟨rfl, ?_⟩
            rw [idxsTo_succ hd, no_cl (by assumption)]
            exact hys
          · rename Fr g' L' _ _ => F4
            rename News g' L' _ _ => N4
            refine CompEnd.intro F4 N4 _ (by (first | with_reducible exact subId | ((repeat' (first | with_reducible exact subId | with_reducible exact subNil | with_reducible refine subCC ?_ | with_reducible refine subCons ?_ ?_ | with_reducible refine subApp ?_ ?_)) <;> kse_small) | (intro q hq; first | (simp only [List.mem_cons, List.mem_append, hq, true_or, or_true]; done) | (simp only [List.mem_cons, List.mem_append] at hq ⊢; grind)))) o3 trivial ⟨rfl, ?_⟩
            rw [idxsTo_succ hd, is_cl (by assumption)]
            exact ints_snoc hys
    · rintro i ys nw v I oI C oC D2 m₂ h2 tk2 E' hi ⟨rfl, hys⟩ hP hC hx F2 N2 o2 ne2
      have hP : (rl.map sgV)[i]? = some v := by simpa using hP
      rw [List.getElem?_map, Option.map_eq_some_iff] at hP
      obtain ⟨⟨σ, u⟩, hi2, rfl⟩ := hP
      have hx : m₂ (Str.ofString "sign") = some (.str σ.text u) := hx
      have hσ := hpl (σ, u) (.tail _ (.tail _ (List.mem_of_getElem? hi2)))
      k_steps
      · rename Fr g' L' _ _ => F3
        rename News g' L' _ _ => N3
        refine CompEnd.intro F3 N3 _ (by (first | with_reducible exact subId | ((repeat' (first | with_reducible exact subId | with_reducible exact subNil | with_reducible refine subCC ?_ | with_reducible refine subCons ?_ ?_ | with_reducible refine subApp ?_ ?_)) <;> kse_small) | (intro q hq; first | (simp only [List.mem_cons, List.mem_append, hq, true_or, or_true]; done) | (simp only [List.mem_cons, List.mem_append] at hq ⊢; grind)))) o2 (.inr ⟨_, .head _, rfl, _, rfl⟩) ⟨rfl, ?_⟩
        rw [a_ch (by assumption)]
        exact strs_take (f := fun x : Sg × Tok => chOf x.1) (g := fun c => chs [c]) hi2 hys
      · rename Fr g' L' _ _ => F3
        rename News g' L' _ _ => N3
        refine CompEnd.intro F3 N3 _ (by (first | with_reducible exact subId | ((repeat' (first | with_reducible exact subId | with_reducible exact subNil | with_reducible refine subCC ?_ | with_reducible refine subCons ?_ ?_ | with_reducible refine subApp ?_ ?_)) <;> kse_small) | (intro q hq; first | (simp only [List.mem_cons, List.mem_append, hq, true_or, or_true]; done) | (simp only [List.mem_cons, List.mem_append] at hq ⊢; grind)))) o2 (.inr ⟨_, .head _, rfl, _, rfl⟩) ⟨rfl, ?_⟩
        rw [text_ch (by assumption) hσ]
        exact strs_take (f := fun x : Sg × Tok => chOf x.1) (g := fun c => chs [c]) hi2 hys
  · rename Txt.isalpha _ = false => hl
    rw [alpha_ty he0] at hl
    have e : rowOk (((σ0, u0) :: (σ1, u1) :: rl).map Prod.fst) = false := by
      simp at hl
      simp [rowOk, hl]
    rw [e] at hQ
    exact hQ _ _ (by k_asm) (News.tail1 (by k_asm))

end
section
theorem fillZR2 (w : World) (h : Heap) : (hd.heap_1 w.params).In h → PySem.Challenge.rw_iv0024_01.row.prog = PySem.Challenge.rw_iv0024_01.row.prog := by w_top off; k_fill; intro _; rfl
set_option maxRecDepth 100000 in
set_option maxHeartbeats 8000000 in
theorem lawReadsS {w : World} {mean : ExcName → Option Value} {mg mb : Str → Option Value} {dp un : Nat} {gd : Option (List Code)} {cn : Str} {cs : Scope} {a : Addr} {ccd : Value} {cl : List (Str × Addr)} {outer : List Env} {A₀ : Around} {base h₀ : Heap} {L : Addr} {m : Str → Option Value} {s : Shared} {Q E : Value → Shared → Prop} {news : List (Addr × Obj)} {r c : Nat} {rl : List (Sg × Tok)}
    (B : Below A₀ base outer h₀) (F : Fr h₀ L s.heap m) (X : (hd.heap_1 w.params).In h₀) (N : News h₀ L s.heap news) (T : Top vw (looseW vw [Str.ofString "PythonTokenTypes", Str.ofString "_tuplegetter", Str.ofString "PythonToken"]) mean mg mb h₀) (hk : cs.kind = .function) (hroom : dp + 60 < 600) (hun : un + 200 < 8000) (hlen : rl.length < 3)
    (hr : (r, listOf (rl.map sgV).toArray c) ∈ news)
    (hQ : ∀ h' tk', Fr h₀ L h' m → News h₀ L h' news → Q (.bool (rowOk (rl.map Prod.fst))) { s with heap := h', toks := tk' }) :
    wpAny (model PySem.Challenge.rw_iv0024_01.row.prog w) (ktrTop dp un gd cn cs L a ccd cl outer) (call (.ref 384) [.ref r]) Q E s := by
  have e : rowOk (rl.map Prod.fst) = false := by
    have h3 : ¬ 3 ≤ rl.length := by kmod_is
    simp [rowOk, h3]
  rw [e] at hQ
  refine wpAny_call ?_
  k_dflt (refine' code_defC ?k1 ?k2 ?k3 ?k4 ?k5 ?kA ?kF ?kK ?k6 ?k7 ?k8 ?k9 ?kB ?kD ?_ ?c2 ?c3 ?c4; (case kA => exact rfl); (case kF => exact rfl); (case kK => first | exact rfl | assumption); (case k1 => k_asm); (case k2 => k_asm); (case k3 => k_asm); (case k4 => k_asm); (case k5 => k_asm); (case k6 => k_is); (case k7 => k_is); (case k8 => ktr_room); (case k9 => first | exact BindsTo.of_eq rfl | exact binds_K (by k_in) rfl (by k_is) rfl rfl rfl); (case kB => exact rfl); (case kD => decide +kernel); (case c2 => exact rfl); (case c3 => exact rfl); (case c4 => exact rfl); k_whole; intro g' L' hh' tk' cells' FG F' N' Y' B' X' T' l1; k_cells Y'; (try simp only [List.cons_append, List.nil_append] at N'); (try dsimp only); (try (refine wpId ?_; k_fold)))
  have F0 : Fr g' L' hh' (rfm none none none none (.ref r)) := frCongr F' fun y => Eq.symm (Eq.trans (drop_none (k := Str.ofString "opening") (f := fun y => if y = Str.ofString "j" then none else if y = Str.ofString "closing" then none else if y = Str.ofString "k" then none else if y = Str.ofString "row" then some (Value.ref r) else none) rfl y) (Eq.trans (drop_none (k := Str.ofString "j") (f := fun y => if y = Str.ofString "closing" then none else if y = Str.ofString "k" then none else if y = Str.ofString "row" then some (Value.ref r) else none) rfl y) (Eq.trans (drop_none (k := Str.ofString "closing") (f := fun y => if y = Str.ofString "k" then none else if y = Str.ofString "row" then some (Value.ref r) else none) rfl y) (drop_none (k := Str.ofString "k") (f := fun y => if y = Str.ofString "row" then some (Value.ref r) else none) rfl y))))
  clear F'
  k_steps
  · exact hQ _ _ (by k_asm) (News.tail1 (by k_asm))
  all_goals (exfalso; rename ¬ _ < _ => hl; kmod_is)
theorem lawReads {w : World} {mean : ExcName → Option Value} {mg mb : Str → Option Value} {dp un : Nat} {gd : Option (List Code)} {cn : Str} {cs : Scope} {a : Addr} {ccd : Value} {cl : List (Str × Addr)} {outer : List Env} {A₀ : Around} {base h₀ : Heap} {L : Addr} {m : Str → Option Value} {s : Shared} {Q E : Value → Shared → Prop} {news : List (Addr × Obj)} {r c : Nat} {rl : List (Sg × Tok)}
    (B : Below A₀ base outer h₀) (F : Fr h₀ L s.heap m) (X : (hd.heap_1 w.params).In h₀) (N : News h₀ L s.heap news) (T : Top vw (looseW vw [Str.ofString "PythonTokenTypes", Str.ofString "_tuplegetter", Str.ofString "PythonToken"]) mean mg mb h₀) (hk : cs.kind = .function) (hroom : dp + 60 < 600) (hun : un + 200 < 8000) (hlen : rl.length < 1000)
    (hr : (r, listOf (rl.map sgV).toArray c) ∈ news) (hpl : ∀ x ∈ rl, x.1 ≠ .nl ∧ x.1 ≠ .em)
    (hQ : ∀ h' tk', Fr h₀ L h' m → News h₀ L h' news → Q (.bool (rowOk (rl.map Prod.fst))) { s with heap := h', toks := tk' }) :
    wpAny (model PySem.Challenge.rw_iv0024_01.row.prog w) (ktrTop dp un gd cn cs L a ccd cl outer) (call (.ref 384) [.ref r]) Q E s := by
  match rl, hlen, hr, hpl, hQ with
  | [], _, hr, _, hQ => exact lawReadsS (news := news) (rl := []) B F X N T hk hroom hun (by decide) hr hQ
  | [a], _, hr, _, hQ => exact lawReadsS (news := news) (rl := [a]) B F X N T hk hroom hun (by simp) hr hQ
  | [a, b], _, hr, _, hQ => exact lawReadsS (news := news) (rl := [a, b]) B F X N T hk hroom hun (by simp) hr hQ
  | a :: b :: d :: rl, hlen, hr, hpl, hQ => exact lawReads3 (news := news) (x0 := a) (x1 := b) (rl := d :: rl) B F X N T hk hroom hun (by simp only [List.length_cons] at hlen ⊢; kmod_is) (by simp) hr hpl hQ

end
section
/-- the law's own text, read off the heap of the top -/
noncomputable def lawObj (P : Params) : Option Obj := List.lookup 389 (hd.heap_1 P)
noncomputable def lawFd (P : Params) : Option FuncData := match lawObj P with
  | some ⟨_, _, .func f, _⟩ => some f
  | _ => none
noncomputable def lawScope (P : Params) : Scope := match lawFd P with
  | some f => f.scope
  | none => default
noncomputable def lawBody (P : Params) : List Stmt := match lawFd P with
  | some f => (match f.body with | .stmts b => b | _ => [])
  | none => []
noncomputable def lawRest (P : Params) (n : Nat) : List Stmt := (lawBody P).drop n
section
variable {w : World} {A : Around} {E : Value → Shared → Prop} {s : Shared} {h₀ : Heap} {L l : Addr} {m : Str → Option Value} {news : List (Addr × Obj)} {vs : List Value} {c : Nat} {Q : Value → Shared → Prop}
theorem lenSnoc {α : Type} {f : α → Value} {rl : List α} {v : Value} (N : News h₀ L s.heap news) (hm : (l, listOf (rl.map f ++ [v]).toArray c) ∈ news) (hf : rl.length < 900000) (h : Q (.int ((rl.length + 1 : Nat) : Int) (s.toks + 1)) { s with toks := s.toks + 1 + 1 }) :
    wpAny (model PySem.Challenge.rw_iv0024_01.row.prog w) A (call (.builtin "len") [.ref l]) Q E s := by
  have e : (rl.map f ++ [v]).length = rl.length + 1 := by simp
  exact lenL N hm (by kmod_is) (by rw [e]; exact h)
theorem lenSnoc2 {α : Type} {f : α → Value} {rl : List α} {v v' : Value} (N : News h₀ L s.heap news) (hm : (l, listOf (rl.map f ++ [v] ++ [v']).toArray c) ∈ news) (hf : rl.length < 900000) (h : Q (.int ((rl.length + 2 : Nat) : Int) (s.toks + 1)) { s with toks := s.toks + 1 + 1 }) :
    wpAny (model PySem.Challenge.rw_iv0024_01.row.prog w) A (call (.builtin "len") [.ref l]) Q E s := by
  have e : (rl.map f ++ [v] ++ [v']).length = rl.length + 2 := by simp
  exact lenL N hm (by kmod_is) (by rw [e]; exact h)
end

end
section
/-- the law's frame -/
noncomputable abbrev lfm (script : Value) (pool rows : Value) (m : Str → Option Value) : Str → Option Value := fun y => if y = Str.ofString "rows" then some rows else if y = Str.ofString "pool" then some pool else if y = Str.ofString "script" then some script else m y
/-- trailing empty rows go -/
noncomputable def strip : List Sg → List Sg := fun l => (stripR l.reverse).reverse
where stripR : List Sg → List Sg
  | [] => []
  | .nl :: r => if r = [] ∨ r.head? = some .nl then stripR r else .nl :: r
  | σ :: r => σ :: r
theorem strip_nil : strip [] = [] := rfl
theorem strip_keep {r : List Sg} {x : Sg} (h : x ≠ .nl) : strip (r ++ [x]) = r ++ [x] := by
  unfold strip
  rw [List.reverse_append]
  show (strip.stripR (x :: r.reverse)).reverse = _
  rw [strip.stripR.eq_3 _ _ (by simpa using h)]
  simp
theorem strip_one : strip [.nl] = [] := by decide
theorem strip_two {r : List Sg} : strip (r ++ [.nl] ++ [.nl]) = strip (r ++ [.nl]) := by
  unfold strip
  rw [List.reverse_append, List.reverse_append]
  show (strip.stripR (.nl :: .nl :: r.reverse)).reverse = (strip.stripR (.nl :: r.reverse)).reverse
  rw [strip.stripR.eq_2 (.nl :: r.reverse), if_pos (.inr rfl)]
theorem strip_end {r : List Sg} {x : Sg} (h : x ≠ .nl) : strip (r ++ [x] ++ [.nl]) = r ++ [x] ++ [.nl] := by
  unfold strip
  rw [List.reverse_append, List.reverse_append]
  show (strip.stripR (.nl :: x :: r.reverse)).reverse = _
  rw [strip.stripR.eq_2 (x :: r.reverse), if_neg (by simpa using h)]
  simp
theorem nl_iff {σ : Sg} : (σ.text == Str.ofString "\n") = (σ = .nl : Bool) := by generalize σ = τ; revert τ; refine sgAll ?_; decide +kernel
theorem map_snoc {rl : List (Sg × Tok)} {σ : Sg} {t : Tok} : (rl ++ [(σ, t)]).map sgV = rl.map sgV ++ [.str σ.text t] := by simp [sgV]
theorem listLast2 {w : World} {A : Around} {E : Value → Shared → Prop} {s : Shared} {h₀ : Heap} {L : Addr} {news : List (Addr × Obj)} {Q : Value → Shared → Prop} {value slice : PySem.Expr} {us : List Value} {v v' : Value} {l c : Nat} {u : Tok} (N : News h₀ L s.heap news) (hm : (l, listOf (us ++ [v] ++ [v']).toArray c) ∈ news) (hl : us.length < 100000) (h : Q v s)
    (hs : subscripted slice false (.ref l) (.int (-2) u) = operate [.ref l, .int (-2) u] (getItem (.ref l) (.int (-2) u)) := by with_unfolding_all rfl) :
    wpAny (model PySem.Challenge.rw_iv0024_01.row.prog w) A (subscriptTail value slice (.ref l) (.int (-2) u)) Q E s :=
  tail_any (N.isList hm).typeIs slot_list_getitem.lookup (wpAny_getItem_list_neg (N.isList hm) (by decide) (by simp; kmod_is) (by decide) (by
    have e : ((-2 : Int) + ((us ++ [v] ++ [v']).toArray.size : Nat)).toNat = us.length := by simp only [List.size_toArray, List.length_append, List.length_cons, List.length_nil]; kmod_is
    rw [e]; simp) h) hs

end
section
local macro_rules | `(tactic| walk_at "call builtin:len") => tac "here ; wp call ( Value.builtin \"len\" ) ( List.cons ( Value.ref _ ) List.nil ) ; df { by lenMap ?N ?m ?f ? ; N=asm ; m=memR ; f=lia ; whole | by lenSnoc2 ?N ?m ?f ? ; N=asm ; m=memR ; f=lia ; whole | by lenSnoc ?N ?m ?f ? ; N=asm ; m=memR ; f=lia ; whole }"
local macro_rules | `(tactic| walk_at "truthy ref") => tac "here ; wp truthy ( Value.ref _ ) ; df { by truthy_snoc ?N ?m ?z ? ; N=asm ; m=memR ; z=lenlia ; whole | by truthy_nil ?N ?m ? ; N=asm ; m=memR ; whole }"
local macro_rules | `(tactic| walk_at "call builtin:list.pop") => tac "here ; wp call ( Value.builtin _ ) ( List.cons ( Value.ref _ ) List.nil ) ; df { by pop_snoc ?F ?N ?U ?z ? ; F=asm ; N=asm ; U=upd ; z=lenlia ; whole } ; intro:h',F',N' ; sweep"
local macro_rules | `(tactic| walk_at "subscriptTail Name UnaryOp ref int") => tac "here ; df { wp subscriptTail _ _ _ ( Value.int -1 _ ) ; by listLast ?N ?m ?l ? ?z ; N=asm ; m=memR ; l=lenlia ; z=wrfl ; whole | wp subscriptTail _ _ _ ( Value.int -2 _ ) ; by listLast2 ?N ?m ?l ? ?z ; N=asm ; m=memR ; l=lenlia ; z=wrfl ; whole | stop }"
section
theorem fillLS (w : World) (h : Heap) : (hd.heap_1 w.params).In h → PySem.Challenge.rw_iv0024_01.row.prog = PySem.Challenge.rw_iv0024_01.row.prog := by w_top off; k_fill; intro _; rfl
inductive StInv (g : Heap) (L rows : Nat) (script pool : Value) (m : Str → Option Value) (rl : List (Sg × Tok)) (rest : List (Addr × Obj)) (s : Shared) (n : Nat) (s' : Shared) : Prop
  | mk (rl1 : List (Sg × Tok)) (c1 : Nat) (h1 : Heap) (tk1 : Nat) (x0 : s' = { s with heap := h1, toks := tk1 }) (x1 : n = rl1.length) (x2 : rl1.length ≤ rl.length) (x3 : strip (rl1.map Prod.fst) = strip (rl.map Prod.fst)) (x4 : Fr g L h1 (lfm script pool (.ref rows) m)) (x5 : News g L h1 ((rows, listOf (rl1.map sgV).toArray c1) :: rest)) : StInv g L rows script pool m rl rest s n s'
set_option maxRecDepth 100000 in
set_option maxHeartbeats 1500000 in
theorem segStrip {w : World} {mean : ExcName → Option Value} {mg mb : Str → Option Value} {g base : Heap} {L fa rows c : Nat} {ccd script pool : Value} {m : Str → Option Value} {s : Shared} {Q : Flow → Shared → Prop} {E : Value → Shared → Prop} {rl : List (Sg × Tok)} {rest : List (Addr × Obj)}
    (B : Below callerA base [] g) (F : Fr g L s.heap (lfm script pool (.ref rows) m)) (X : (hd.heap_1 w.params).In g) (T : Top vw (looseW vw [Str.ofString "PythonTokenTypes", Str.ofString "_tuplegetter", Str.ofString "PythonToken"]) mean mg mb g) (N : News g L s.heap ((rows, listOf (rl.map sgV).toArray c) :: rest)) (hr : ∀ q ∈ rest, q.1 ≠ rows) (hlen : rl.length < 1000) (hE : PassesOwn (model PySem.Challenge.rw_iv0024_01.row.prog w) (callerA.deeper (envX (Str.ofString "law") (lawScope w.params) L fa ccd [])) (envX (Str.ofString "law") (lawScope w.params) L fa ccd []) E)
    (next : ∀ (h' : Heap) (tk' : Nat) (rl' : List (Sg × Tok)) (c' : Nat), rl'.map Prod.fst = strip (rl.map Prod.fst) → Fr g L h' (lfm script pool (.ref rows) m) → News g L h' ((rows, listOf (rl'.map sgV).toArray c') :: rest) →
      wpAny (model PySem.Challenge.rw_iv0024_01.row.prog w) (callerA.deeper (envX (Str.ofString "law") (lawScope w.params) L fa ccd [])) (execs (lawRest w.params 5) (envX (Str.ofString "law") (lawScope w.params) L fa ccd [])) Q E { s with heap := h', toks := tk' }) :
    wpAny (model PySem.Challenge.rw_iv0024_01.row.prog w) (callerA.deeper (envX (Str.ofString "law") (lawScope w.params) L fa ccd [])) (execs (lawRest w.params 4) (envX (Str.ofString "law") (lawScope w.params) L fa ccd [])) Q E s := by
  have hb : lawRest w.params 4 = lawRest w.params 4 := rfl
  conv at hb => lhs; whnf
  rw [← hb]; clear hb
  refine seg_cons (fun s' => ∃ (h' : Heap) (tk' : Nat) (rl' : List (Sg × Tok)) (c' : Nat), s' = { s with heap := h', toks := tk' } ∧ rl'.map Prod.fst = strip (rl.map Prod.fst) ∧ Fr g L h' (lfm script pool (.ref rows) m) ∧ News g L h' ((rows, listOf (rl'.map sgV).toArray c') :: rest)) ?_ (by rintro _ ⟨h', tk', rl', c', rfl, e, F', N'⟩; exact next h' tk' rl' c' e F' N')
  generalize hcs : lawScope w.params = cs
  conv at hcs => lhs; whnf
  subst hcs
  refine While_syn (n₀ := rl.length) (StInv g L rows script pool m rl rest s) ?_ ?_ hE
  · exact ⟨rl, c, _, _, rfl, rfl, Nat.le_refl _, rfl, F, N⟩
  · clear F N
    rintro n s₁ ⟨rl1, c1, h1, tk1, rfl, rfl, hle, hst, F1, N1⟩
    rcases List.eq_nil_or_concat rl1 with rfl | ⟨r1, ⟨σ, t⟩, rfl⟩
    · rw [List.map_nil] at N1
      k_steps
      refine SegQ.next ⟨_, _, [], _, rfl, by rw [← hst]; rfl, by k_asm, by k_asm⟩
    · rw [List.concat_eq_append] at *
      simp only [List.length_append, List.length_cons, List.length_nil] at hle
      rw [map_snoc] at N1
      by_cases hσ : σ = .nl
      · subst hσ
        rcases List.eq_nil_or_concat r1 with hr1 | ⟨r2, ⟨τ, u⟩, rfl⟩
        · have hr0 : r1.length = 0 := by rw [hr1]; rfl
          k_steps
          · rename Fr g L _ _ => F2
            rename News g L _ _ => N2
            refine ⟨r1.length, by simp, r1, _, _, _, rfl, rfl, by kmod_is, ?_, F2, N2⟩
            rw [← hst, hr1]; rfl
          all_goals (exfalso; rename _ ≠ (1 : Int) => hne; kmod_is)
        · rw [List.concat_eq_append] at *
          simp only [List.length_append, List.length_cons, List.length_nil] at hle
          rw [map_snoc] at N1
          k_steps
          · exfalso; rename _ = (1 : Int) => hne; kmod_is
          · rename (τ.text == Str.ofString "\n") = true => hτ
            have hτ : τ = .nl := by rw [nl_iff] at hτ; simpa using hτ
            subst hτ
            rename Fr g L _ _ => F2
            rename News g L _ _ => N2
            refine ⟨(r2 ++ [(Sg.nl, u)]).length, by simp, r2 ++ [(Sg.nl, u)], _, _, _, rfl, rfl, by simp only [List.length_append, List.length_cons, List.length_nil]; kmod_is, ?_, F2, by rw [map_snoc]; exact N2⟩
            rw [← hst]
            simp only [List.map_append, List.map_cons, List.map_nil]
            exact strip_two.symm
          · rename (τ.text == Str.ofString "\n") = false => hτ
            have hτ : τ ≠ .nl := by rintro rfl; revert hτ; decide
            refine SegQ.next ⟨_, _, r2 ++ [(τ, u)] ++ [(.nl, t)], _, rfl, ?_, by k_asm, by rw [map_snoc, map_snoc]; k_asm⟩
            rw [← hst]
            simp only [List.map_append, List.map_cons, List.map_nil]
            exact (strip_end hτ).symm
      · k_steps
        · exfalso
          rename (σ.text == Str.ofString "\n") = true => hτ
          rw [nl_iff] at hτ; exact hσ (by simpa using hτ)
        · exfalso
          rename (σ.text == Str.ofString "\n") = true => hτ
          rw [nl_iff] at hτ; exact hσ (by simpa using hτ)
        · refine SegQ.next ⟨_, _, r1 ++ [(σ, t)], _, rfl, ?_, by k_asm, by rw [map_snoc]; k_asm⟩
          rw [← hst]
          simp only [List.map_append, List.map_cons, List.map_nil]
          exact (strip_keep hσ).symm

end
section
theorem fillLSp (w : World) (h : Heap) : (hd.heap_1 w.params).In h → PySem.Challenge.rw_iv0024_01.row.prog = PySem.Challenge.rw_iv0024_01.row.prog := by w_top off; k_fill; intro _; rfl
local macro_rules | `(tactic| walk_at "exec Try") => tac "here ; stop"
local macro_rules | `(tactic| walk_at "call ref") => tac "here ; sh call ( Value.ref 384 ) _ _ ; stop"
/-- one row that is due -/
structure DRow where
  a : Nat
  c : Nat
  sg : List (Sg × Tok)
noncomputable abbrev DRow.ent (d : DRow) : Addr × Obj := (d.a, listOf (d.sg.map sgV).toArray d.c)
noncomputable def DRow.ref (d : DRow) : Value := .ref d.a
noncomputable def DRow.row (d : DRow) : List Sg := d.sg.map Prod.fst
noncomputable def stepR (st : List (List Sg) × List Sg) (σ : Sg) : List (List Sg) × List Sg := if σ ≠ .nl then (st.1, st.2 ++ [σ]) else if st.2 ≠ [] then (st.1 ++ [st.2], []) else st
noncomputable def splitRows (l : List Sg) : List (List Sg) × List Sg := l.foldl stepR ([], [])
noncomputable abbrev l3 (script pool rows due row good : Value) (m : Str → Option Value) : Str → Option Value := fun y => if y = Str.ofString "good" then some good else if y = Str.ofString "row" then some row else if y = Str.ofString "due" then some due else lfm script pool rows m y
theorem split_snoc {rl : List (Sg × Tok)} {i : Nat} {x : Sg × Tok} (h : rl[i]? = some x) : splitRows ((rl.take (i + 1)).map Prod.fst) = stepR (splitRows ((rl.take i).map Prod.fst)) x.1 := by
  unfold splitRows
  rw [List.take_add_one, h]
  simp [List.foldl_append]
noncomputable abbrev mS (v : Option Value) (m : Str → Option Value) : Str → Option Value := fun y => if y = Str.ofString "sign" then v else m y
theorem l3_sign {s p r d w g : Value} {v : Option Value} {m : Str → Option Value} : ∀ y, (if y = Str.ofString "sign" then v else l3 s p r d w g m y) = l3 s p r d w g (mS v m) y := by
  intro y; unfold l3 lfm mS; (repeat' split) <;> simp_all +decide
theorem l3_good_sign {s p r d w g x : Value} {v : Option Value} {m : Str → Option Value} : ∀ y, (if y = Str.ofString "good" then some x else if y = Str.ofString "sign" then v else l3 s p r d w g m y) = l3 s p r d w x (mS v m) y := by
  intro y; unfold l3 lfm mS; (repeat' split) <;> simp_all +decide
theorem l3_row_good_sign {s p r d w w' g x : Value} {v : Option Value} {m : Str → Option Value} : ∀ y, (if y = Str.ofString "row" then some w' else if y = Str.ofString "good" then some x else if y = Str.ofString "sign" then v else l3 s p r d w g m y) = l3 s p r d w' x (mS v m) y := by
  intro y; unfold l3 lfm mS; (repeat' split) <;> simp_all +decide
theorem l3_start {s p r d w : Value} {m : Str → Option Value} : ∀ y, (if y = Str.ofString "row" then some w else if y = Str.ofString "due" then some d else lfm s p r m y) = l3 s p r d w .none m y ∨ y = Str.ofString "good" := by
  intro y; unfold l3 lfm; (repeat' split) <;> simp_all +decide
theorem l3_start2 {s p r d w g : Value} {m : Str → Option Value} : ∀ y, (if y = Str.ofString "good" then some g else if y = Str.ofString "row" then some w else if y = Str.ofString "due" then some d else lfm s p r m y) = l3 s p r d w g m y := fun y => rfl
theorem l3_start1 {s p r d w : Value} {m : Str → Option Value} : ∀ y, (if y = Str.ofString "due" then some d else if y = Str.ofString "row" then some w else lfm s p r m y) = (if y = Str.ofString "row" then some w else if y = Str.ofString "due" then some d else lfm s p r m y) := by
  intro y; (repeat' split) <;> simp_all +decide
theorem fr_good {g h : Heap} {L : Addr} {script pool rows due row gd v v' : Value} {m : Str → Option Value} (F : Fr g L h (fun y => if y = Str.ofString "good" then some v else l3 script pool rows due row gd m y)) (e : v = v') : Fr g L h (l3 script pool rows due row v' m) := frCongr F fun y => by
  unfold l3
  split
  · rw [e]
  · rfl
theorem ne_nl_iff {σ : Sg} : (σ.text != Str.ofString "\n") = !(σ = .nl : Bool) := by generalize σ = τ; revert τ; refine sgAll ?_; decide +kernel
theorem due_push {dl : List DRow} {a c : Nat} {sg : List (Sg × Tok)} : (dl.map DRow.ref).toArray.push (.ref a) = ((dl ++ [(⟨a, c, sg⟩ : DRow)]).map DRow.ref).toArray := by
  rw [List.map_append, List.push_toArray]; rfl
theorem all_snoc {dl : List DRow} {d : DRow} : ((dl ++ [d]).all fun d => rowOk d.row) = ((dl.all fun d => rowOk d.row) && rowOk d.row) := by simp
inductive SpStart (g : Heap) (L : Addr) (rows c : Nat) (script pool : Value) (m : Str → Option Value) (rl : List (Sg × Tok)) (rest : List (Addr × Obj)) (s s' : Shared) : Prop
  | mk (due row : Nat) (h1 : Heap) (tk1 : Nat) (x0 : s' = { s with heap := h1, toks := tk1 }) (x1 : due < row) (x2 : rows < due) (x3 : (∀ q ∈ rest, q.1 < due)) (x4 : Fr g L h1 (fun y => if y = Str.ofString "row" then some (.ref row) else if y = Str.ofString "due" then some (.ref due) else lfm script pool (.ref rows) m y)) (x5 : News g L h1 ((row, listOf (([] : List (Sg × Tok)).map sgV).toArray 0) :: (due, listOf (([] : List DRow).map DRow.ref).toArray 0) :: (rows, listOf (rl.map sgV).toArray c) :: rest)) : SpStart g L rows c script pool m rl rest s s'
inductive SpEnd (g : Heap) (L : Addr) (rows c : Nat) (script pool : Value) (rl : List (Sg × Tok)) (rest : List (Addr × Obj)) (s s' : Shared) : Prop
  | mk (due row : Nat) (dl : List DRow) (cur : List (Sg × Tok)) (cr cd : Nat) (m' : Str → Option Value) (h1 : Heap) (tk1 : Nat) (x0 : s' = { s with heap := h1, toks := tk1 }) (x1 : due ≠ row) (x2 : splitRows (rl.map Prod.fst) = (dl.map DRow.row, cur.map Prod.fst)) (x3 : (∀ x ∈ cur, x.1 ≠ .nl ∧ x.1 ≠ .em)) (x4 : cur.length ≤ rl.length) (x5 : Fr g L h1 (l3 script pool (.ref rows) (.ref due) (.ref row) (.bool (dl.all fun d => rowOk d.row)) m')) (x6 : News g L h1 ((row, listOf (cur.map sgV).toArray cr) :: (due, listOf (dl.map DRow.ref).toArray cd) :: (rows, listOf (rl.map sgV).toArray c) :: (dl.map DRow.ent ++ rest))) : SpEnd g L rows c script pool rl rest s s'
inductive SpInv (rows : Nat) (script pool : Value) (rl : List (Sg × Tok)) (rest : List (Addr × Obj)) (i : Nat) (m : Str → Option Value) (nx : List (Addr × Obj)) : Prop
  | mk (due row : Nat) (dl : List DRow) (cur : List (Sg × Tok)) (cr cd : Nat) (m' : Str → Option Value) (x0 : due ≠ row) (x1 : due ≠ rows) (x2 : row ≠ rows) (x3 : (∀ q ∈ dl.map DRow.ent ++ rest, q.1 ≠ row ∧ q.1 ≠ due)) (x4 : splitRows ((rl.take i).map Prod.fst) = (dl.map DRow.row, cur.map Prod.fst)) (x5 : (∀ x ∈ cur, x.1 ≠ .nl ∧ x.1 ≠ .em)) (x6 : cur.length ≤ i) (x7 : dl.length ≤ i) (x8 : m = l3 script pool (.ref rows) (.ref due) (.ref row) (.bool (dl.all fun d => rowOk d.row)) m') (x9 : nx = (row, listOf (cur.map sgV).toArray cr) :: (due, listOf (dl.map DRow.ref).toArray cd) :: (dl.map DRow.ent ++ rest)) : SpInv rows script pool rl rest i m nx
set_option maxRecDepth 100000 in
set_option maxHeartbeats 1500000 in
theorem segSplit {w : World} {mean : ExcName → Option Value} {mg mb : Str → Option Value} {g base : Heap} {L fa rows c : Nat} {ccd script pool : Value} {m : Str → Option Value} {s : Shared} {Q : Flow → Shared → Prop} {E : Value → Shared → Prop} {rl : List (Sg × Tok)} {rest : List (Addr × Obj)}
    (B : Below callerA base [] g) (F : Fr g L s.heap (lfm script pool (.ref rows) m)) (X : (hd.heap_1 w.params).In g) (T : Top vw (looseW vw [Str.ofString "PythonTokenTypes", Str.ofString "_tuplegetter", Str.ofString "PythonToken"]) mean mg mb g) (N : News g L s.heap ((rows, listOf (rl.map sgV).toArray c) :: rest)) (hlen : rl.length < 1000) (hem : ∀ x ∈ rl, x.1 ≠ .em)
    (hE : PassesOwn (model PySem.Challenge.rw_iv0024_01.row.prog w) (callerA.deeper (envX (Str.ofString "law") (lawScope w.params) L fa ccd [])) (envX (Str.ofString "law") (lawScope w.params) L fa ccd []) E)
    (next : ∀ (h' : Heap) (tk' : Nat) (dl : List DRow) (cur : List Sg) (due row cd : Nat) (m' : Str → Option Value), splitRows (rl.map Prod.fst) = (dl.map DRow.row, cur) → Fr g L h' (l3 script pool (.ref rows) (.ref due) (.ref row) (.bool ((dl.all fun d => rowOk d.row) && cur.isEmpty)) m') →
      News g L h' ((due, listOf (dl.map DRow.ref).toArray cd) :: (rows, listOf (rl.map sgV).toArray c) :: (dl.map DRow.ent ++ rest)) →
      wpAny (model PySem.Challenge.rw_iv0024_01.row.prog w) (callerA.deeper (envX (Str.ofString "law") (lawScope w.params) L fa ccd [])) (execs (lawRest w.params 9) (envX (Str.ofString "law") (lawScope w.params) L fa ccd [])) Q E { s with heap := h', toks := tk' }) :
    wpAny (model PySem.Challenge.rw_iv0024_01.row.prog w) (callerA.deeper (envX (Str.ofString "law") (lawScope w.params) L fa ccd [])) (execs (lawRest w.params 5) (envX (Str.ofString "law") (lawScope w.params) L fa ccd [])) Q E s := by
  have hb : lawRest w.params 5 = lawRest w.params 5 := rfl
  conv at hb => lhs; whnf
  rw [← hb]; clear hb
  generalize hcs : lawScope w.params = cs at *
  conv at hcs => lhs; whnf
  subst hcs
  refine seg_cons (SpStart g L rows c script pool m rl rest s) ?_ ?_
  · k_steps
    rename Fr g L _ _ => F1
    rename News g L _ _ => N1
    rename _ ∧ _ ∧ _ ∧ _ => l3'
    rename _ < _ ∧ _ < _ ∧ AllLt _ _ => l2'
    rename _ < _ ∧ AllLt _ _ => l1'
    exact SegQ.next ⟨_, _, _, _, rfl, l2'.1, l1'.1, ktn_ltOf l1'.2, frCongr F1 l3_start1, News.sub N1 (by (first | with_reducible exact subId | ((repeat' (first | with_reducible exact subId | with_reducible exact subNil | with_reducible refine subCC ?_ | with_reducible refine subCons ?_ ?_ | with_reducible refine subApp ?_ ?_)) <;> kse_small) | (intro q hq; first | (simp only [List.mem_cons, List.mem_append, hq, true_or, or_true]; done) | (simp only [List.mem_cons, List.mem_append] at hq ⊢; grind))))⟩
  rintro s₁ ⟨due, row, h1, tk1, rfl, d1, d2, d3, F1, N1⟩
  refine wpAny_execs_cons ?_
  k_steps
  rename Fr g L _ _ => F2
  rename News g L _ _ => N2
  refine Stop.go (wpAny_mono (Q := SegQ (SpEnd g L rows c script pool rl rest s) Q) ?_ (fun f s' hs => ?k) (fun _ _ e => e))
  case k =>
    cases f with
    | next =>
      obtain ⟨due, row, dl, cur, cr, cd, m', h3, tk3, rfl, e1, e2, e3, e4, F3, N3⟩ := hs
      refine seg_cons (fun s' => ∃ (h' : Heap) (tk' : Nat), s' = { s with heap := h', toks := tk' } ∧ Fr g L h' (l3 script pool (.ref rows) (.ref due) (.ref row) (.bool ((dl.all fun d => rowOk d.row) && (cur.map Prod.fst).isEmpty)) m') ∧ News g L h' ((due, listOf (dl.map DRow.ref).toArray cd) :: (rows, listOf (rl.map sgV).toArray c) :: (dl.map DRow.ent ++ rest))) ?_ ?_
      · rcases List.eq_nil_or_concat cur with rfl | ⟨cur, ⟨σ, t⟩, rfl⟩
        · rw [List.map_nil] at N3
          k_steps
          · rename _ = true => hb
            exact SegQ.next ⟨_, _, rfl, fr_good (by k_asm) (by rw [hb]; rfl), News.sub (by k_asm) (by (first | with_reducible exact subId | ((repeat' (first | with_reducible exact subId | with_reducible exact subNil | with_reducible refine subCC ?_ | with_reducible refine subCons ?_ ?_ | with_reducible refine subApp ?_ ?_)) <;> kse_small) | (intro q hq; first | (simp only [List.mem_cons, List.mem_append, hq, true_or, or_true]; done) | (simp only [List.mem_cons, List.mem_append] at hq ⊢; grind))))⟩
          · rename _ = false => hb
            exact SegQ.next ⟨_, _, rfl, fr_good (by k_asm) (by rw [hb]; rfl), News.sub (by k_asm) (by (first | with_reducible exact subId | ((repeat' (first | with_reducible exact subId | with_reducible exact subNil | with_reducible refine subCC ?_ | with_reducible refine subCons ?_ ?_ | with_reducible refine subApp ?_ ?_)) <;> kse_small) | (intro q hq; first | (simp only [List.mem_cons, List.mem_append, hq, true_or, or_true]; done) | (simp only [List.mem_cons, List.mem_append] at hq ⊢; grind))))⟩
        · rw [List.concat_eq_append, map_snoc] at N3
          k_steps
          · rename _ = true => hb
            exact SegQ.next ⟨_, _, rfl, fr_good (by k_asm) (by rw [hb]; simp), News.sub (by k_asm) (by (first | with_reducible exact subId | ((repeat' (first | with_reducible exact subId | with_reducible exact subNil | with_reducible refine subCC ?_ | with_reducible refine subCons ?_ ?_ | with_reducible refine subApp ?_ ?_)) <;> kse_small) | (intro q hq; first | (simp only [List.mem_cons, List.mem_append, hq, true_or, or_true]; done) | (simp only [List.mem_cons, List.mem_append] at hq ⊢; grind))))⟩
          · rename _ = false => hb
            exact SegQ.next ⟨_, _, rfl, fr_good (by k_asm) (by rw [hb]; rfl), News.sub (by k_asm) (by (first | with_reducible exact subId | ((repeat' (first | with_reducible exact subId | with_reducible exact subNil | with_reducible refine subCC ?_ | with_reducible refine subCons ?_ ?_ | with_reducible refine subApp ?_ ?_)) <;> kse_small) | (intro q hq; first | (simp only [List.mem_cons, List.mem_append, hq, true_or, or_true]; done) | (simp only [List.mem_cons, List.mem_append] at hq ⊢; grind))))⟩
      · rintro _ ⟨h', tk', rfl, F4, N4⟩
        exact next h' tk' dl _ due row cd m' e2 F4 N4
    | brk => exact hs
    | cont => exact hs
    | ret v => exact hs
  refine For_invV g rfl rfl ?_ (hE := hE)
  k_steps
  have N2' : News g L _ ((rows, listOf (rl.map sgV).toArray c) :: ((row, listOf (([] : List (Sg × Tok)).map sgV).toArray 0) :: (due, listOf (([] : List DRow).map DRow.ref).toArray 0) :: rest)) := News.sub N2 (by (first | with_reducible exact subId | ((repeat' (first | with_reducible exact subId | with_reducible exact subNil | with_reducible refine subCC ?_ | with_reducible refine subCons ?_ ?_ | with_reducible refine subApp ?_ ?_)) <;> kse_small) | (intro q hq; first | (simp only [List.mem_cons, List.mem_append, hq, true_or, or_true]; done) | (simp only [List.mem_cons, List.mem_append] at hq ⊢; grind))))
  refine Stop.go (forList (x := Str.ofString "sign") (SpInv rows script pool rl rest) rfl (frCongr (m' := l3 script pool (.ref rows) (.ref due) (.ref row) (.bool true) m) F2 ?_) N2' ?_ ?_ ?_)
  · exact l3_start2
  · exact ⟨due, row, [], [], 0, 0, m, Nat.ne_of_lt d1, Nat.ne_of_gt d2, Nat.ne_of_gt (Nat.lt_trans d2 d1), fun q hq => by have := d3 q (by simpa using hq); exact ⟨Nat.ne_of_lt (Nat.lt_trans this d1), Nat.ne_of_lt this⟩, rfl, (fun x h => absurd h (by simp)), Nat.le_refl _, Nat.le_refl _, rfl, rfl⟩
  · clear N2' N2 F2 d1 d2 d3 due row
    rintro i v m₁ nx h2 tk2 I own hv ⟨due, row, dl, cur, cr, cd, m', e1, e2, e3, e4, e5, e6, e7, e8, rfl, rfl⟩ hoff hown hIl hio F2 N2
    rw [List.getElem?_map, Option.map_eq_some_iff] at hv
    obtain ⟨⟨σ, t⟩, hi, rfl⟩ := hv
    have hil : i < rl.length := (List.getElem?_eq_some_iff.mp hi).1
    have hσe : σ ≠ .em := hem _ (List.mem_of_getElem? hi)
    have F2 : Fr g L h2 (fun y => if y = Str.ofString "sign" then some (.str σ.text t) else l3 script pool (.ref rows) (.ref due) (.ref row) (.bool (dl.all fun d => rowOk d.row)) m' y) := F2
    have hIr : I ≠ row := fun e => hoff _ (.head _) e.symm
    have hId : I ≠ due := fun e => hoff _ (.tail _ (.head _)) e.symm
    obtain ⟨TT, hTT⟩ : ∃ TT, TT = own ++ (rows, listOf (rl.map sgV).toArray c) :: (dl.map DRow.ent ++ rest) := ⟨_, rfl⟩
    have hT : ∀ q ∈ TT, q.1 ≠ row ∧ q.1 ≠ due := fun q hq => by
      rw [hTT] at hq
      rcases List.mem_append.mp hq with hq | hq
      · rw [hown q hq]; exact ⟨hIr, hId⟩
      rcases List.mem_cons.mp hq with rfl | hq
      · exact ⟨Ne.symm e3, Ne.symm e2⟩
      · exact e4 q hq
    have hT1 : ∀ q ∈ TT, q.1 ≠ row := fun q hq => (hT q hq).1
    have hT2 : ∀ q ∈ TT, q.1 ≠ due := fun q hq => (hT q hq).2
    have N3 : News g L h2 ((row, listOf (cur.map sgV).toArray cr) :: (due, listOf (dl.map DRow.ref).toArray cd) :: TT) := News.sub N2 (by rw [hTT]; (first | with_reducible exact subId | ((repeat' (first | with_reducible exact subId | with_reducible exact subNil | with_reducible refine subCC ?_ | with_reducible refine subCons ?_ ?_ | with_reducible refine subApp ?_ ?_)) <;> kse_small) | (intro q hq; first | (simp only [List.mem_cons, List.mem_append, hq, true_or, or_true]; done) | (simp only [List.mem_cons, List.mem_append] at hq ⊢; grind))))
    clear N2
    have hO : ∀ {a b : Addr × Obj}, ∀ q ∈ own ++ [(rows, listOf (rl.map sgV).toArray c)], q ∈ a :: b :: TT := fun q hq => by
      refine .tail _ (.tail _ ?_)
      rw [hTT]
      rcases List.mem_append.mp hq with hq | hq
      · exact List.mem_append_left _ hq
      · rw [List.mem_singleton.mp hq]; exact List.mem_append_right _ (.head _)
    have hS : ∀ {a b : Addr × Obj}, ∀ q ∈ a :: b :: (dl.map DRow.ent ++ rest), q ∈ a :: b :: TT := fun q hq => by
      rcases List.mem_cons.mp hq with rfl | hq
      · exact .head _
      rcases List.mem_cons.mp hq with rfl | hq
      · exact .tail _ (.head _)
      · refine .tail _ (.tail _ ?_)
        rw [hTT]; exact List.mem_append_right _ (.tail _ hq)
    have hstep := split_snoc hi
    rw [e5] at hstep
    k_steps
    · -- a sign of the row
      rename (σ.text != Str.ofString "\n") = true => hc
      have hσ : σ ≠ .nl := by rintro rfl; revert hc; decide
      rename Fr g L _ _ => F4
      rename News g L _ _ => N4
      have e : (List.map sgV cur).toArray.push (.str σ.text t) = ((cur ++ [(σ, t)]).map sgV).toArray := by rw [map_snoc, List.push_toArray]
      rw [e] at N4
      refine ⟨_, _, _, _, _, rfl, F4, N4, hO, hS, ?_, due, row, dl, cur ++ [(σ, t)], _, cd, (fun y => if y = Str.ofString "sign" then some (.str σ.text t) else m' y), e1, e2, e3, e4, ?_, ?_, ?_, by kmod_is, ?_, rfl⟩
      · intro q hq
        rcases List.mem_cons.mp hq with rfl | hq
        · exact Ne.symm hIr
        rcases List.mem_cons.mp hq with rfl | hq
        · exact Ne.symm hId
        · exact hoff _ (.tail _ (.tail _ hq))
      · rw [hstep]; simp [stepR, hσ]
      · intro x hx
        rcases List.mem_append.mp hx with hx | hx
        · exact e6 x hx
        · rw [List.mem_singleton.mp hx]; exact ⟨hσ, hσe⟩
      · simp only [List.length_append, List.length_cons, List.length_nil]; kmod_is
      · exact funext l3_sign
    · -- an empty row
      rename (σ.text != Str.ofString "\n") = false => hc
      have hσ : σ = .nl := by rw [ne_nl_iff] at hc; simpa using hc
      subst hσ
      rename (List.map sgV cur).isEmpty = true => he
      have he : cur = [] := by simpa using he
      refine ⟨_, _, _, _, _, rfl, F2, N3, hO, hS, hoff, due, row, dl, cur, cr, cd, _, e1, e2, e3, e4, ?_, e6, by kmod_is, by kmod_is, funext l3_sign, rfl⟩
      rw [hstep, he]; simp [stepR]
    · -- a row that may read
      rename (σ.text != Str.ofString "\n") = false => hc
      have hσ : σ = .nl := by rw [ne_nl_iff] at hc; simpa using hc
      subst hσ
      rename (List.map sgV cur).isEmpty = false => he
      have he : cur ≠ [] := by intro h; rw [h] at he; cases he
      rename (dl.all fun d => rowOk d.row) = true => hb
      refine Stop.go (lawReads (hroom := by ktr_room) (hun := by ktr_units) (B := B) (F := by k_asm) (X := X) (N := by k_asm) (T := T) (hk := rfl) (rl := cur) (c := cr) (by kmod_is) (.head _) e6 ?_)
      intro h3 tk3 F3 N4
      k_steps
      rename Fr g L _ _ => F4
      rename News g L _ _ => N4
      rename _ < _ ∧ _ < _ ∧ AllLt _ _ => l4
      rw [due_push (c := cr) (sg := cur)] at N4
      have l5 := ktn_ltOf l4.2.2
      have l6 : ∀ q ∈ dl.map DRow.ent ++ rest, q ∈ TT := fun q hq => by rw [hTT]; exact List.mem_append_right _ (.tail _ hq)
      refine ⟨_, _, _, _, _, rfl, F4, N4, (fun q hq => .tail _ (hO q hq)), ?_, ?_, due, _, dl ++ [⟨row, cr, cur⟩], [], 0, cd + 1, _, Nat.ne_of_lt l4.2.1, e2, ?_, ?_, ?_, (fun x h => absurd h (by simp)), Nat.zero_le _, by simp only [List.length_append, List.length_cons, List.length_nil]; kmod_is, (funext l3_row_good_sign).trans (by rw [all_snoc, hb, Bool.true_and]; rfl), rfl⟩
      · intro q hq
        rcases List.mem_cons.mp hq with rfl | hq
        · exact .head _
        rcases List.mem_cons.mp hq with rfl | hq
        · exact .tail _ (.tail _ (.head _))
        rw [List.map_append, List.append_assoc] at hq
        rcases List.mem_append.mp hq with hq | hq
        · exact .tail _ (.tail _ (.tail _ (l6 q (List.mem_append_left _ hq))))
        rcases List.mem_append.mp hq with hq | hq
        · obtain rfl := List.mem_singleton.mp hq
          exact .tail _ (.head _)
        · exact .tail _ (.tail _ (.tail _ (l6 q (List.mem_append_right _ hq))))
      · intro q hq
        obtain ⟨io, hio⟩ := hio
        have hI : I < _ := l5 (I, io) (by rw [hTT]; exact List.mem_append_left _ hio)
        rcases List.mem_cons.mp hq with rfl | hq
        · exact Nat.ne_of_gt hI
        rcases List.mem_cons.mp hq with rfl | hq
        · exact Ne.symm hId
        rw [List.map_append, List.append_assoc] at hq
        rcases List.mem_append.mp hq with hq | hq
        · exact hoff _ (.tail _ (.tail _ (List.mem_append_left _ hq)))
        rcases List.mem_append.mp hq with hq | hq
        · obtain rfl := List.mem_singleton.mp hq
          exact Ne.symm hIr
        · exact hoff _ (.tail _ (.tail _ (List.mem_append_right _ hq)))
      · exact Nat.ne_of_gt (l5 (rows, listOf (rl.map sgV).toArray c) (by rw [hTT]; exact List.mem_append_right _ (.head _)))
      · intro q hq
        rw [List.map_append, List.append_assoc] at hq
        rcases List.mem_append.mp hq with hq | hq
        · exact ⟨Nat.ne_of_lt (l5 q (l6 q (List.mem_append_left _ hq))), (e4 q (List.mem_append_left _ hq)).2⟩
        rcases List.mem_append.mp hq with hq | hq
        · obtain rfl := List.mem_singleton.mp hq
          exact ⟨Nat.ne_of_lt l4.1, Ne.symm e1⟩
        · exact ⟨Nat.ne_of_lt (l5 q (l6 q (List.mem_append_right _ hq))), (e4 q (List.mem_append_right _ hq)).2⟩
      · rw [hstep]
        have he' : cur.map Prod.fst ≠ [] := by simpa using he
        simp [stepR, he', DRow.row]
    · -- a row behind one that does not read
      rename (σ.text != Str.ofString "\n") = false => hc
      have hσ : σ = .nl := by rw [ne_nl_iff] at hc; simpa using hc
      subst hσ
      rename (List.map sgV cur).isEmpty = false => he
      have he : cur ≠ [] := by intro h; rw [h] at he; cases he
      rename (dl.all fun d => rowOk d.row) = false => hb
      rename Fr g L _ _ => F4
      rename News g L _ _ => N4
      rename _ < _ ∧ _ < _ ∧ AllLt _ _ => l4
      rw [due_push (c := cr) (sg := cur)] at N4
      have l5 := ktn_ltOf l4.2.2
      have l6 : ∀ q ∈ dl.map DRow.ent ++ rest, q ∈ TT := fun q hq => by rw [hTT]; exact List.mem_append_right _ (.tail _ hq)
      refine ⟨_, _, _, _, _, rfl, F4, N4, (fun q hq => .tail _ (hO q hq)), ?_, ?_, due, _, dl ++ [⟨row, cr, cur⟩], [], 0, cd + 1, _, Nat.ne_of_lt l4.2.1, e2, ?_, ?_, ?_, (fun x h => absurd h (by simp)), Nat.zero_le _, by simp only [List.length_append, List.length_cons, List.length_nil]; kmod_is, (funext l3_row_good_sign).trans (by rw [all_snoc, hb, Bool.false_and]), rfl⟩
      · intro q hq
        rcases List.mem_cons.mp hq with rfl | hq
        · exact .head _
        rcases List.mem_cons.mp hq with rfl | hq
        · exact .tail _ (.tail _ (.head _))
        rw [List.map_append, List.append_assoc] at hq
        rcases List.mem_append.mp hq with hq | hq
        · exact .tail _ (.tail _ (.tail _ (l6 q (List.mem_append_left _ hq))))
        rcases List.mem_append.mp hq with hq | hq
        · obtain rfl := List.mem_singleton.mp hq
          exact .tail _ (.head _)
        · exact .tail _ (.tail _ (.tail _ (l6 q (List.mem_append_right _ hq))))
      · intro q hq
        obtain ⟨io, hio⟩ := hio
        have hI : I < _ := l5 (I, io) (by rw [hTT]; exact List.mem_append_left _ hio)
        rcases List.mem_cons.mp hq with rfl | hq
        · exact Nat.ne_of_gt hI
        rcases List.mem_cons.mp hq with rfl | hq
        · exact Ne.symm hId
        rw [List.map_append, List.append_assoc] at hq
        rcases List.mem_append.mp hq with hq | hq
        · exact hoff _ (.tail _ (.tail _ (List.mem_append_left _ hq)))
        rcases List.mem_append.mp hq with hq | hq
        · obtain rfl := List.mem_singleton.mp hq
          exact Ne.symm hIr
        · exact hoff _ (.tail _ (.tail _ (List.mem_append_right _ hq)))
      · exact Nat.ne_of_gt (l5 (rows, listOf (rl.map sgV).toArray c) (by rw [hTT]; exact List.mem_append_right _ (.head _)))
      · intro q hq
        rw [List.map_append, List.append_assoc] at hq
        rcases List.mem_append.mp hq with hq | hq
        · exact ⟨Nat.ne_of_lt (l5 q (l6 q (List.mem_append_left _ hq))), (e4 q (List.mem_append_left _ hq)).2⟩
        rcases List.mem_append.mp hq with hq | hq
        · obtain rfl := List.mem_singleton.mp hq
          exact ⟨Nat.ne_of_lt l4.1, Ne.symm e1⟩
        · exact ⟨Nat.ne_of_lt (l5 q (l6 q (List.mem_append_right _ hq))), (e4 q (List.mem_append_right _ hq)).2⟩
      · rw [hstep]
        have he' : cur.map Prod.fst ≠ [] := by simpa using he
        simp [stepR, he', DRow.row]
  · rintro m₁ nx h2 tk2 ⟨due, row, dl, cur, cr, cd, m', e1, e2, e3, e4, e5, e6, e7, e8, rfl, rfl⟩ F2 N2
    rw [List.length_map, List.take_length] at e5
    exact SegQ.next ⟨due, row, dl, cur, cr, cd, m', h2, tk2, rfl, e1, e5, e6, by simpa using e7, F2, News.sub N2 (by (first | with_reducible exact subId | ((repeat' (first | with_reducible exact subId | with_reducible exact subNil | with_reducible refine subCC ?_ | with_reducible refine subCons ?_ ?_ | with_reducible refine subApp ?_ ?_)) <;> kse_small) | (intro q hq; first | (simp only [List.mem_cons, List.mem_append, hq, true_or, or_true]; done) | (simp only [List.mem_cons, List.mem_append] at hq ⊢; grind))))⟩

end
section
open PyProof.Rows.LCg PyProof.Rows.LCt
section
variable {prog : Program} {w : World} {A : Around} {E : Value → Shared → Prop} {s : Shared} {h₀ : Heap} {L : Addr} {m : Str → Option Value} {env : Env}
inductive EnEnd (h₀ : Heap) (L : Addr) (m : Str → Option Value) (e it C D : Addr) (oE oI oC : Obj) (ys : List Value) (J : List Value → List (Addr × Obj) → Prop) (s : Shared) (y : Value) (s' : Shared) : Prop
  | mk (h' : Heap) (tk' : Tok) (news' : List (Addr × Obj)) (x0 : s' = { s with heap := h', toks := tk' }) (x1 : Fr h₀ L h' m) (x2 : News h₀ L h' ((e, oE) :: (it, oI) :: (C, oC) :: (D, lst ys) :: news')) (x3 : (∀ p ∈ news', p.1 ≠ e ∧ p.1 ≠ it ∧ p.1 ≠ C ∧ p.1 ≠ D)) (x4 : J (ys ++ [y]) news') : EnEnd h₀ L m e it C D oE oI oC ys J s y s'
inductive EnInv (h₀ : Heap) (L : Addr) (m : Str → Option Value) (e it C D ax : Addr) (items : Array Value) (J : Nat → List Value → List (Addr × Obj) → Prop) (s₁ : Shared) (k : Nat) (s' : Shared) : Prop
  | mk (h' : Heap) (tk : Tok) (i : Nat) (ys : List Value) (m' : Str → Option Value) (news' : List (Addr × Obj)) (old : Value) (x0 : s' = { s₁ with heap := h', toks := tk }) (x1 : i ≤ items.size) (x2 : k = items.size + 1 - i) (x3 : ys.length = i) (x4 : IsEnum h' e it ((i : Nat) : Int) old) (x5 : h'.IsListIter it ax i) (x6 : Fr h₀ L h' m) (x7 : h'.Ns C m') (x8 : News h₀ L h' ((D, lst ys) :: news')) (x9 : (∀ p ∈ news', p.1 ≠ e ∧ p.1 ≠ it ∧ p.1 ≠ C ∧ p.1 ≠ D)) (x10 : J i ys news') : EnInv h₀ L m e it C D ax items J s₁ k s'
/-- what the turns of a comprehension over an enumeration keep -/
noncomputable def EnTurn (prog : Program) (w : World) (A : Around) (h₀ : Heap) (L : Addr) (m : Str → Option Value) (env : Env) (elt : PySem.Expr) (x x₂ : Str) (scope : Scope) (cl : List (Str × Addr)) (s : Shared) (items : Array Value) (J : Nat → List Value → List (Addr × Obj) → Prop) : Prop :=
  ∀ i ys news v e it C oE oI oC D m₂ tki h tk (E' : Value → Shared → Prop), J i ys news → items[i]? = some v → NsObj oC m₂ → m₂ x = some (.int i tki) → m₂ x₂ = some v → Fr h₀ L h m →
    News h₀ L h ((e, oE) :: (it, oI) :: (C, oC) :: (D, lst ys) :: news) → (∀ p ∈ news, p.1 ≠ e ∧ p.1 ≠ it ∧ p.1 ≠ C ∧ p.1 ≠ D) →
    wpAny (model prog w) A (eval elt (compEnvC scope cl C env)) (EnEnd h₀ L m e it C D oE oI oC ys (J (i + 1)) s) E' { s with heap := h, toks := tk }
/-- the source: an enumeration of a list of the ledger -/
inductive EnSrc (prog : Program) (w : World) (A : Around) (h₀ : Heap) (L : Addr) (m : Str → Option Value) (env : Env) (elt : PySem.Expr) (x x₂ : Str) (scope : Scope) (cl : List (Str × Addr)) (Q : Value → Shared → Prop) (xv : Value) (s₁ : Shared) : Prop
  | mk (e it ax c : Nat) (items : Array Value) (news : List (Addr × Obj)) (J : Nat → List Value → List (Addr × Obj) → Prop) (x0 : xv = .ref e) (x1 : A.handled = none) (x2 : IsEnum s₁.heap e it 0 .none) (x3 : s₁.heap.IsListIter it ax 0) (x4 : e ≠ it) (x5 : e ≠ L) (x6 : it ≠ L) (x7 : h₀.get? e = none) (x8 : h₀.get? it = none) (x9 : (∀ p ∈ news, p.1 ≠ e ∧ p.1 ≠ it)) (x10 : Fr h₀ L s₁.heap m) (x11 : News h₀ L s₁.heap news) (x12 : (∀ i ys nw, J i ys nw → (ax, { cls := .type "list", data := .seq items c }) ∈ nw)) (x13 : items.size ≤ sizeLine) (x14 : J 0 [] news) (x15 : (∀ g, EnTurn prog w A h₀ L m env elt x x₂ scope cl { s₁ with heap := g } items J)) (x16 : (∀ ys nw (D : Nat) h tk, J items.size ys nw → Fr h₀ L h m → News h₀ L h ((D, lst ys) :: nw) → (∀ p ∈ nw, p.1 ≠ D) → Q (.ref D) { s₁ with heap := h, toks := tk })) : EnSrc prog w A h₀ L m env elt x x₂ scope cl Q xv s₁
theorem compEnum {elt iter : PySem.Expr} {x x₂ : Str} {px px₂ tp : Pos} {tkk} {scope : Scope} {cl : List (Str × Addr)} {pos : Pos} {Q : Value → Shared → Prop}
    (hclos : closureFor scope env = pure cl) (hcell : ∀ y ∈ scope.names, y.2 ≠ .cell) (hkind : scope.kind = .function)
    (hnames : ∀ y ∈ scope.names, y.2 = .local → scope.names.lookup y.1 = some .local) (hx : scope.names.lookup x = some .local) (hx₂ : scope.names.lookup x₂ = some .local) (hxx : x ≠ x₂)
    (h : wpAny (model prog w) A (eval iter env) (EnSrc prog w A h₀ L m env elt x x₂ scope cl Q) E s)
    (hs : ∀ x, foldedSetIterable iter env x = pure x := by intro _; rfl) :
    wpAny (model prog w) A (eval (.ListComp elt [⟨.Tuple [.Name x px, .Name x₂ px₂] tkk tp, iter, [], 0⟩] scope pos) env) Q E s := by
  rw [eval_ListComp]
  refine wpAny_comprehension_free (use := none) rfl hs hclos hkind hnames (wpAny_mono h (fun xv s₁ h₁ => ?_) fun _ _ e => e)
  obtain ⟨e, it, ax, c, items, news, J, rfl, hh, he, hit, hei, heL, hiL, he₀, hi₀, off, F, N, hax, hsz, hJ, turn, fin⟩ := h₁
  refine wpAny_pyIter_enum he ?_
  refine wpAny_newObj_type (wpAny_newFunctionEnv hcell (by intro y hy; simp at hy) (fun h₁ hns₁ hsb₁ => ?_) hkind)
  dsimp only at hns₁ hsb₁ ⊢
  have elt' : e < s₁.heap.objs.size := Heap.lt_size he
  have ilt : it < s₁.heap.objs.size := by obtain ⟨_, q, _⟩ := hit; exact Heap.lt_size q
  have hLlt : L < s₁.heap.objs.size := F.ns.lt
  have nlt : ∀ p ∈ news, p.1 < s₁.heap.objs.size := fun p hp => Heap.lt_size (N p hp).1
  generalize hH2 : s₁.heap.push { cls := .type "list", dict := none, data := .seq ([] : List Value).toArray } = H2 at hns₁ hsb₁ ⊢
  have hC : H2.objs.size = s₁.heap.objs.size + 1 := by rw [← hH2, Heap.size_push]
  have old : ∀ b o, s₁.heap.get? b = some o → h₁.get? b = some o := fun b o q => hsb₁.extBut b o (by have := Heap.lt_size q; rw [hC]; exact Nat.ne_of_lt (Nat.lt_succ_of_lt this)) (Heap.get?_push_of_some _ (hH2 ▸ Heap.get?_push_of_some _ q))
  have hDC : s₁.heap.objs.size ≠ H2.objs.size := by rw [hC]; exact Nat.ne_of_lt (Nat.lt_succ_self _)
  have hacc : h₁.get? s₁.heap.objs.size = some (lst []) := hsb₁.extBut _ _ hDC (Heap.get?_push_of_some _ (hH2 ▸ Heap.get?_push_size _ rfl))
  have fresh₀ : ∀ a, s₁.heap.objs.size ≤ a → h₀.get? a = none := fun a ha => by
    cases q : h₀.get? a with
    | none => rfl
    | some o' => exact absurd (Heap.lt_size (F.keep a o' q)) (Nat.not_lt.mpr ha)
  have hD₀ : h₀.get? s₁.heap.objs.size = none := fresh₀ _ (Nat.le_refl _)
  have hC₀ : h₀.get? H2.objs.size = none := fresh₀ _ (by rw [hC]; exact Nat.le_succ _)
  have hDL : s₁.heap.objs.size ≠ L := Nat.ne_of_gt hLlt
  have hCL : H2.objs.size ≠ L := by rw [hC]; exact Nat.ne_of_gt (Nat.lt_succ_of_lt hLlt)
  have hCe : e ≠ H2.objs.size := by rw [hC]; exact Nat.ne_of_lt (Nat.lt_succ_of_lt elt')
  have hCi : it ≠ H2.objs.size := by rw [hC]; exact Nat.ne_of_lt (Nat.lt_succ_of_lt ilt)
  have hDe : e ≠ s₁.heap.objs.size := Nat.ne_of_lt elt'
  have hDi : it ≠ s₁.heap.objs.size := Nat.ne_of_lt ilt
  have hs₃ : ({ s₁ with heap := h₁, toks := s₁.toks + ([] : List (Str × Value)).length } : Shared) = { s₁ with heap := h₁, toks := s₁.toks + ([] : List (Str × Value)).length } := rfl
  have off₀ : ∀ p ∈ news, p.1 ≠ e ∧ p.1 ≠ it ∧ p.1 ≠ H2.objs.size ∧ p.1 ≠ s₁.heap.objs.size := fun p hp => ⟨(off p hp).1, (off p hp).2, by rw [hC]; exact Nat.ne_of_lt (Nat.lt_succ_of_lt (nlt p hp)), Nat.ne_of_lt (nlt p hp)⟩
  generalize hDg : s₁.heap.objs.size = D at *
  generalize hCg : H2.objs.size = C at *
  have N₁ : News h₀ L h₁ ((D, lst []) :: news) := fun p hp => by
    rcases List.mem_cons.mp hp with rfl | hp
    · exact ⟨hacc, hDL, hD₀⟩
    · exact ⟨old _ _ (N p hp).1, (N p hp).2⟩
  have loop : ∀ s₃ : Shared, s₃ = { s₁ with heap := h₁, toks := s₁.toks + ([] : List (Str × Value)).length } →
      codeAny (model prog w) A (.compLoop (.ListComp elt [⟨.Tuple [.Name x px, .Name x₂ px₂] tkk tp, iter, [], 0⟩] scope pos) 0 (.ref e) (.ref D) (compEnvC scope cl C env))
        (compPost (model prog w) A E none Q (.ref D) C) s₃ := by
    rintro s₃ rfl
    refine LCp.codeAny_compLoop_pair
      (EnInv h₀ L m e it C D ax items J s₁) ?_ (items.size + 1)
      ⟨h₁, _, 0, [], _, news, .none, rfl, Nat.zero_le _, rfl, rfl, old _ _ he, hit.at fun o q => old _ _ q, F.keeps old, hns₁, N₁, off₀, hJ⟩
    rintro k s' ⟨h', tk, i, ys, m', news', od, rfl, hi, rfl, hyl, he', hit', F', hn', N', off', hJ'⟩
    have hl' : h'.IsList ax items := ⟨_, (N' _ (List.mem_cons_of_mem _ (hax _ _ _ hJ'))).1, rfl, _, rfl⟩
    by_cases hlt : i < items.size
    · have hv : items[i]? = some items[i] := Array.getElem?_eq_getElem hlt
      generalize items[i] = v at hv
      have eH : e < h'.objs.size := Heap.lt_size he'
      have iH : it < h'.objs.size := by obtain ⟨_, q, _⟩ := hit'; exact Heap.lt_size q
      have CH : C < h'.objs.size := hn'.lt
      have DH : D < h'.objs.size := Heap.lt_size (N' _ List.mem_cons_self).1
      refine wpAny_pyNext_enum_item he' hit' hl' hv hei fun h₂ heo hit₂ ht₂ hz₂ hk₂ => ?_
      refine wpAny_letOwnedTupleGo_enum heo fun h₃ he₃ hs₃ => ?_
      replace hs₃ : Heap.SameBut e h₂ h₃ := hs₃
      have hz₃ : h₃.objs.size = h'.objs.size + 1 := hs₃.1.trans hz₂
      have ht₃ : IsTup h₃ h'.objs.size #[.int i tk, v] := ⟨_, (hs₃.2 _ (Nat.ne_of_gt eH)).trans ht₂, rfl, _, rfl⟩
      refine assign_Tuple_tuple hh ht₃ rfl rfl fun h₄ hx₄ => ?_
      replace hx₄ : Heap.ExtBut h₃.objs.size h₃ h₄ := hx₄
      have up₄ : ∀ b o, b < h'.objs.size → b ≠ e → b ≠ it → h'.get? b = some o → h₄.get? b = some o := fun b o hb hbe hbi q => hx₄ b o (by rw [hz₃]; exact Nat.ne_of_lt (Nat.lt_succ_of_lt hb)) ((hs₃.2 b hbe).trans (hk₂ b o hbe hbi q))
      have hn₄ : h₄.Ns C m' := hn'.at' fun o q => up₄ _ o CH (Ne.symm hCe) (Ne.symm hCi) q
      refine assignInOrder_cons (wpAny_assign_Name (wpAny_storeName_local (lookup_relabel_local hx) hn₄ (fun h₅ hn₅ hs₅ => ?_) (by simp [compEnvC, relabel, hkind])))
      refine assignInOrder_cons (wpAny_assign_Name (wpAny_storeName_local (lookup_relabel_local hx₂) hn₅ (fun h₆ hn₆ hs₆ => ?_) (by simp [compEnvC, relabel, hkind])))
      refine assignInOrder_nil ?_
      replace hs₅ : Heap.SameBut C h₄ h₅ := hs₅
      replace hs₆ : Heap.SameBut C h₅ h₆ := hs₆
      have up₆ : ∀ b o, b ≠ C → h₄.get? b = some o → h₆.get? b = some o := fun b o hb q => hs₆.extBut b o hb (hs₅.extBut b o hb q)
      have he₆ : IsEnum h₆ e it (((i + 1 : Nat)) : Int) v := by
        have : ((i + 1 : Nat) : Int) = (i : Int) + 1 := rfl
        rw [this]
        exact up₆ e _ hCe (hx₄ e _ (by rw [hz₃]; exact Nat.ne_of_lt (Nat.lt_succ_of_lt eH)) he₃)
      obtain ⟨oI, hoI, rI⟩ := hit₂
      have hi₆ : h₆.get? it = some oI := up₆ it _ hCi (hx₄ it _ (by rw [hz₃]; exact Nat.ne_of_lt (Nat.lt_succ_of_lt iH)) ((hs₃.2 it (Ne.symm hei)).trans hoI))
      have hit₆ : h₆.IsListIter it ax (i + 1) := ⟨oI, hi₆, rI⟩
      obtain ⟨oC, heC, hoC⟩ := ns_obj hn₆
      have F₄ : Fr h₀ L h₄ m := ⟨F'.ns.at' fun o q => up₄ L o F'.ns.lt (Ne.symm heL) (Ne.symm hiL) q, fun b o q => up₄ b o (Heap.lt_size (F'.keep b o q)) (fun hb => by rw [hb, he₀] at q; cases q) (fun hb => by rw [hb, hi₀] at q; cases q) (F'.keep b o q), F'.above⟩
      have F₆ : Fr h₀ L h₆ m := (F₄.change hs₅ hCL hC₀).change hs₆ hCL hC₀
      have N₆ : News h₀ L h₆ ((e, _) :: (it, oI) :: (C, oC) :: (D, lst ys) :: news') := fun p hp => by
        rcases List.mem_cons.mp hp with rfl | hp
        · exact ⟨he₆, heL, he₀⟩
        rcases List.mem_cons.mp hp with rfl | hp
        · exact ⟨hi₆, hiL, hi₀⟩
        rcases List.mem_cons.mp hp with rfl | hp
        · exact ⟨heC, hCL, hC₀⟩
        have z := N' p hp
        rcases List.mem_cons.mp hp with rfl | hp
        · exact ⟨up₆ _ _ hDC (up₄ _ _ DH (Ne.symm hDe) (Ne.symm hDi) z.1), z.2⟩
        · have o := off' p hp
          exact ⟨up₆ _ _ o.2.2.1 (up₄ _ _ (Heap.lt_size z.1) o.1 o.2.1 z.1), z.2⟩
      refine wpAny_mono (turn s₁.heap i ys news' v e it C _ oI oC D _ tk h₆ _ _ hJ' hv hoC (by simp [hxx]) (by simp) F₆ N₆ off') (fun y s₄ h₄ => ?_) fun _ _ e => e
      obtain ⟨h₇, tk₇, news₇, rfl, F₇, N₇, off₇, hJ₇⟩ := h₄
      have zE : h₇.get? e = some _ := (N₇ _ List.mem_cons_self).1
      have zI : h₇.get? it = some oI := (N₇ _ (List.mem_cons_of_mem _ List.mem_cons_self)).1
      have zC : h₇.get? C = some oC := (N₇ _ (List.mem_cons_of_mem _ (List.mem_cons_of_mem _ List.mem_cons_self))).1
      have zD : h₇.get? D = some (lst ys) := (N₇ _ (List.mem_cons_of_mem _ (List.mem_cons_of_mem _ (List.mem_cons_of_mem _ List.mem_cons_self)))).1
      refine append_at (hsz := by show ys.toArray.size ≤ sizeLine; rw [List.size_toArray, hyl]; exact Nat.le_trans hi hsz) zD fun h₈ hs₈ hD₈ => ?_
      refine ⟨items.size + 1 - (i + 1), Nat.sub_lt_sub_left (Nat.lt_succ_of_lt hlt) (Nat.lt_succ_self i), h₈, _, i + 1, ys ++ [y], _, news₇, v, rfl, hlt, rfl, by rw [List.length_append, List.length_singleton, hyl], hs₈.extBut _ _ hDe zE, ⟨oI, hs₈.extBut _ _ hDi zI, rI⟩, F₇.change hs₈ hDL hD₀,
        (hoC.ns zC).sameBut hs₈ (Ne.symm hDC), fun p hp => ?_, off₇, hJ₇⟩
      rcases List.mem_cons.mp hp with rfl | hp
      · exact ⟨hD₈.trans (congrArg some (lst_snoc ys y)), hDL, hD₀⟩
      · have z := N₇ p (List.mem_cons_of_mem _ (List.mem_cons_of_mem _ (List.mem_cons_of_mem _ (List.mem_cons_of_mem _ hp))))
        exact ⟨hs₈.extBut _ _ (off₇ p hp).2.2.2 z.1, z.2⟩
    · obtain rfl : i = items.size := Nat.le_antisymm hi (Nat.not_lt.mp hlt)
      refine wpAny_pyNext_enum_end hh he' hit' hl' (Array.getElem?_eq_none (Nat.le_refl _)) fun h₂ hx₂ => ?_
      have F₂ : Fr h₀ L h₂ m := ⟨F'.ns.at' fun o q => hx₂ L o (Ne.symm hiL) q, fun b o q => hx₂ b o (fun hb => by rw [hb, hi₀] at q; cases q) (F'.keep b o q), F'.above⟩
      refine ⟨m', hn'.at' fun o q => hx₂ C o (Ne.symm hCi) q, fun h'' hs'' => fin ys news' D h'' tk hJ' (F₂.change hs'' hCL hC₀) (fun p hp => ?_) fun p hp => (off' p hp).2.2.2⟩
      have z := N' p hp
      refine ⟨?_, z.2⟩
      rcases List.mem_cons.mp hp with rfl | hp
      · exact hs''.extBut _ _ hDC (hx₂ _ _ (Ne.symm hDi) z.1)
      · exact hs''.extBut _ _ (off' p hp).2.2.1 (hx₂ _ _ (off' p hp).2.1 z.1)
  exact codeAny_compStart_list (loop _ rfl) (wpAny_pyIter_enum (old _ _ he) (loop _ rfl))
end

end
section
open PyProof.Rows.LCg PyProof.Rows.LCt
theorem fillLT (w : World) (h : Heap) : (hd.heap_1 w.params).In h → PySem.Challenge.rw_iv0024_01.row.prog = PySem.Challenge.rw_iv0024_01.row.prog := by w_top off; k_fill; intro _; rfl
section
variable {w : World} {A : Around} {E : Value → Shared → Prop} {s : Shared} {h₀ : Heap} {L a b ca cb : Nat} {m : Str → Option Value} {news : List (Addr × Obj)} {vs ws : List Value} {Q : Value → Shared → Prop}
theorem catL (F : Fr h₀ L s.heap m) (N : News h₀ L s.heap news) (ha : (a, listOf vs.toArray ca) ∈ news) (hb : (b, listOf ws.toArray cb) ∈ news) (hz : vs.length + ws.length < 1000000)
    (h : ∀ D h', Fr h₀ L h' m → News h₀ L h' ((D, listOf (vs ++ ws).toArray 0) :: news) → (∀ p ∈ news, p.1 < D) → Q (.ref D) { s with heap := h' }) :
    wpAny (model PySem.Challenge.rw_iv0024_01.row.prog w) A (binaryOp .Add (.ref a) (.ref b)) Q E s :=
  kmk_add_lit F N (N.isList ha) (N.isList hb) rfl h (by simp only [List.toList_toArray]; unfold sizeLine; kmod_is)
end
local macro_rules | `(tactic| walk_at "binaryOp Add ref ref") => tac "here ; df { by catL ?F ?N ?a ?b ?z ? ; F=asm ; N=asm ; a=mem ; b=mem ; z=lenlt ; whole } ; intro:D',h',F',N',l1"
local macro_rules | `(tactic| walk_at "call type:enumerate") => tac "here ; stop"
local macro_rules | `(tactic| walk_at "call type:list") => tac "here ; stop"
local macro_rules | `(tactic| walk_at "call ref") => tac "here ; df { sh call ( Value.ref 372 ) _ _ ; stop | sh call ( Value.ref 220 ) _ _ ; stop | sh call ( Value.ref 167 ) _ _ ; stop }"
theorem ends_snoc : ∀ {l : List Sg}, (∀ σ ∈ l, σ ≠ .em) → Ends (l ++ [.em])
  | [], _ => rfl
  | [σ], h => ⟨h σ (.head _), rfl⟩
  | σ :: τ :: l, h => ⟨h σ (.head _), ends_snoc (l := τ :: l) fun x hx => h x (.tail _ hx)⟩
theorem opens_snoc {l : List Sg} : opens (l ++ [.em]) = opens l := by unfold opens; rw [List.countP_append]; rfl
theorem ps_parse {P : Params} {q : PS} : getL (Str.ofString "parse") (PS.ents P q) = some none := by
  unfold PS.ents
  cases q.rule <;> rfl
theorem genRows_len : ∀ {n : Nat} {l : List Sg}, (genRows n l).1.length ≤ n
  | 0, _ => Nat.le_refl _
  | n + 1, l => by
    unfold genRows
    split
    · simp
    · split
      · simp
      · simp only [List.length_cons]; exact Nat.succ_le_succ genRows_len
theorem bare_done {gens : Array GenState} {gs : GenState} (h : AllBare gens) : AllBare ((gens.push gs).setIfInBounds gens.size .finished) := by
  intro y hy
  obtain ⟨i, hi, rfl⟩ := Array.mem_iff_getElem.mp hy
  have hi2 : i < gens.size + 1 := by simpa using hi
  rw [Array.getElem_setIfInBounds (by simpa using hi2)]
  split
  · rfl
  · rename_i hne
    have hl : i < gens.size := by kmod_is
    rw [Array.getElem_push_lt hl]
    exact h _ (Array.getElem_mem hl)
theorem isExc_Syn : isSubtype (.type "SyntaxError") (.type "BaseException") = pure true := by rw [isSubtype_type]; kernel_rfl
theorem notTuple_Syn : isSubtype (.type ((Manifest.find? "SyntaxError").elim "type" fun x => x.metatype)) (.type "tuple") = pure false := by
  rw [show ((Manifest.find? "SyntaxError").elim "type" fun x => x.metatype) = "type" from by kernel_rfl, isSubtype_type]; kernel_rfl
theorem self_Syn : isSubtype (.type "SyntaxError") (.type "SyntaxError") = pure true := by rw [isSubtype_type]; kernel_rfl
theorem news_rot {h₀ h : Heap} {L : Addr} {a b c d e f : Addr × Obj} {r : List (Addr × Obj)} (N : News h₀ L h (a :: b :: c :: d :: e :: f :: r)) : News h₀ L h (c :: d :: e :: f :: a :: b :: r) := News.sub N (by (first | with_reducible exact subId | ((repeat' (first | with_reducible exact subId | with_reducible exact subNil | with_reducible refine subCC ?_ | with_reducible refine subCons ?_ ?_ | with_reducible refine subApp ?_ ?_)) <;> kse_small) | (intro q hq; first | (simp only [List.mem_cons, List.mem_append, hq, true_or, or_true]; done) | (simp only [List.mem_cons, List.mem_append] at hq ⊢; grind))))
theorem tokIs_up {kept kept' : List (Addr × Obj)} {vs : List Value} {v : Value} {i : Nat} {σ : Sg} (h : TokIs kept vs i σ) (hk : ∀ q ∈ kept, q ∈ kept') : TokIs kept' (vs ++ [v]) i σ := by
  obtain ⟨t, b, pf, n, nb, tk, t1, t2, k, h1, h2, h3⟩ := h
  exact ⟨t, b, pf, n, nb, tk, t1, t2, k, by rw [List.getElem?_append_left (List.getElem?_eq_some_iff.mp h1).1]; exact h1, hk _ h2, hk _ h3⟩
theorem at_up {kept kept' : List (Addr × Obj)} {q : PS} {l : List Sg} (h : At kept q l) (hk : ∀ q ∈ kept, q ∈ kept') : At kept' q l := by
  obtain ⟨vs, nl, h⟩ := h
  cases l with
  | nil => exact h.elim
  | cons σ l =>
    obtain ⟨⟨x1, x2, b, t1, t2, k, nb, x3, x4⟩, x5, x6, x7, x8, x9⟩ := h
    refine ⟨vs, nl, ⟨x1, x2, b, t1, t2, k, nb, x3, hk _ x4⟩, x5, x6, hk _ x7, x8, fun j σ' e => ?_⟩
    obtain ⟨t, b, pf, n, nb, tk, t1, t2, k, h1, h2, h3⟩ := x9 j σ' e
    exact ⟨t, b, pf, n, nb, tk, t1, t2, k, h1, hk _ h2, hk _ h3⟩
local macro_rules | `(tactic| walk_at "getMethod ref") => tac "here ; wp getMethod ( Value.ref _ ) ( PySem.Str.ofString \"parse\" ) _ ; df { by method_inst ?k1 ?k2 ?k3 ?k4 ?k5 ?k6 ?k7 ? ; k1=asm ; k2=asm ; k3=inst ; k4=is ; k5=is ; k6=is ; k7! ps_parse ; whole }"
inductive TrEnd (w : World) (g : Heap) (L rows due c cd : Nat) (script pool row : Value) (m : Str → Option Value) (rl : List (Sg × Tok)) (rest : List (Addr × Obj)) (good : Bool) (dvs : List Value) (s : Shared) (s' : Shared) : Prop
  | mk (h' : Heap) (tk' : Nat) (gs' : Array GenState) (S c' : Nat) (rs : List Row) (x0 : s' = { s with heap := h', toks := tk', gens := gs' }) (x1 : (genRows 301 (rl.map Prod.fst ++ [.em])).2 = true) (x2 : rs.map sign = (genRows 301 (rl.map Prod.fst ++ [.em])).1) (x3 : (∀ r ∈ rs, PieceB r.G r.x r.z r.ls)) (x4 : AllBare gs') (x5 : Fr g L h' (fun y => if y = Str.ofString "told" then some (.ref S) else l3 script pool (.ref rows) (.ref due) row (.bool good) m y)) (x6 : News g L h' ((S, listOf (told rs).toArray c') :: (rled w.params rs ++ (due, listOf dvs.toArray cd) :: (rows, listOf (rl.map sgV).toArray c) :: rest))) : TrEnd w g L rows due c cd script pool row m rl rest good dvs s s'
inductive TrLen (w : World) (g : Heap) (L rows due c cd S c' : Nat) (script pool row : Value) (m : Str → Option Value) (rl : List (Sg × Tok)) (rest : List (Addr × Obj)) (good : Bool) (dvs : List Value) (rs : List Row) (gs' : Array GenState) (s : Shared) (s' : Shared) : Prop
  | mk (h2 : Heap) (tk2 : Nat) (x0 : s' = { s with heap := h2, toks := tk2, gens := gs' }) (x1 : good = true) (x2 : rs.length = dvs.length) (x3 : Fr g L h2 (fun y => if y = Str.ofString "told" then some (.ref S) else l3 script pool (.ref rows) (.ref due) row (.bool good) m y)) (x4 : News g L h2 ((S, listOf (told rs).toArray c') :: (rled w.params rs ++ (due, listOf dvs.toArray cd) :: (rows, listOf (rl.map sgV).toArray c) :: rest))) : TrLen w g L rows due c cd S c' script pool row m rl rest good dvs rs gs' s s'
set_option maxRecDepth 100000 in
set_option maxHeartbeats 1500000 in
theorem segTry {w : World} {mean : ExcName → Option Value} {mg mb : Str → Option Value} {g : Heap} {L fa rows due c : Nat} {ccd script pool row : Value} {m : Str → Option Value} {s : Shared} {Q : Flow → Shared → Prop} {E : Value → Shared → Prop} {rl : List (Sg × Tok)} {rest : List (Addr × Obj)} {good : Bool} {dn cd : Nat} {dvs : List Value}
    (B : Below callerA g [] g) (F : Fr g L s.heap (l3 script pool (.ref rows) (.ref due) row (.bool good) m)) (X : (hd.heap_1 w.params).In g) (T : Top vw (looseW vw [Str.ofString "PythonTokenTypes", Str.ofString "_tuplegetter", Str.ofString "PythonToken"]) mean mg mb g) (N : News g L s.heap ((due, listOf dvs.toArray cd) :: (rows, listOf (rl.map sgV).toArray c) :: rest)) (hlen : rl.length < 290) (hem : ∀ x ∈ rl, x.1 ≠ .em) (hop : opens (rl.map Prod.fst) ≤ 16) (hdv : dvs.length < 300)
    (hE : PassesOwn (model PySem.Challenge.rw_iv0024_01.row.prog w) (callerA.deeper (envX (Str.ofString "law") (lawScope w.params) L fa ccd [])) (envX (Str.ofString "law") (lawScope w.params) L fa ccd []) E) (hEA : ∀ hd, PassesOwnAt (model PySem.Challenge.rw_iv0024_01.row.prog w) ((callerA.deeper (envX (Str.ofString "law") (lawScope w.params) L fa ccd [])).mark hd) (callerA.deeper (envX (Str.ofString "law") (lawScope w.params) L fa ccd [])) (envX (Str.ofString "law") (lawScope w.params) L fa ccd []) E) (hG : AllBare s.gens)
    (hret : ∀ b h' tk' gs' m', ((genRows 301 (rl.map Prod.fst ++ [.em])).2 = false ∧ b = !good ∨ (genRows 301 (rl.map Prod.fst ++ [.em])).2 = true ∧ (good = false ∨ (genRows 301 (rl.map Prod.fst ++ [.em])).1.length ≠ dvs.length) ∧ b = false) → Fr g L h' m' → AllBare gs' → Q (.ret (.bool b)) { s with heap := h', toks := tk', gens := gs' })
    (next : ∀ (h' : Heap) (tk' : Nat) gs' (S c' : Nat) (rs : List Row), (genRows 301 (rl.map Prod.fst ++ [.em])).2 = true → good = true → rs.length = dvs.length → rs.map sign = (genRows 301 (rl.map Prod.fst ++ [.em])).1 → (∀ r ∈ rs, PieceB r.G r.x r.z r.ls) → AllBare gs' →
      Fr g L h' (fun y => if y = Str.ofString "told" then some (.ref S) else l3 script pool (.ref rows) (.ref due) row (.bool good) m y) →
      News g L h' ((S, listOf (told rs).toArray c') :: (rled w.params rs ++ (due, listOf dvs.toArray cd) :: (rows, listOf (rl.map sgV).toArray c) :: rest)) →
      wpAny (model PySem.Challenge.rw_iv0024_01.row.prog w) (callerA.deeper (envX (Str.ofString "law") (lawScope w.params) L fa ccd [])) (execs (lawRest w.params 11) (envX (Str.ofString "law") (lawScope w.params) L fa ccd [])) Q E { s with heap := h', toks := tk', gens := gs' }) :
    wpAny (model PySem.Challenge.rw_iv0024_01.row.prog w) (callerA.deeper (envX (Str.ofString "law") (lawScope w.params) L fa ccd [])) (execs (lawRest w.params 9) (envX (Str.ofString "law") (lawScope w.params) L fa ccd [])) Q E s := by
  have hb : lawRest w.params 9 = lawRest w.params 9 := rfl
  conv at hb => lhs; whnf
  rw [← hb]; clear hb
  generalize hcs : lawScope w.params = cs at *
  conv at hcs => lhs; whnf
  subst hcs
  let l0 := rl.map Prod.fst ++ [Sg.em]
  refine seg_cons (TrEnd w g L rows due c cd script pool row m rl rest good dvs s) ?tr ?_
  case tr =>
    refine wpAny_Try_except ?_
    k_steps
    refine Stop.go (compEnum (h₀ := g) (L := L) (m := l3 script pool (.ref rows) (.ref due) row (.bool good) m) (by with_unfolding_all rfl) (by decide) (by rfl) (by decide) (by rfl) (by rfl) (by decide) ?_)
    k_steps
    rename Fr g L _ _ => F1
    rename News g L _ _ => N1
    refine Stop.go (call_enumerate_list (N1.isList (.head _)) fun h2 he hi hz hk => ?_)
    generalize hb0 : (_ :: _ :: _ :: _ : List (Addr × Obj)) = base at N1
    obtain ⟨t0, ht0⟩ : ∃ t0, t0 = s.toks + 1 := ⟨_, rfl⟩
    have e0 : rl.map sgV ++ [Value.str (Str.ofString "") (s.toks + 1)] = (rl ++ [(Sg.em, t0)]).map sgV := by rw [map_snoc, ht0]; rfl
    rw [e0] at hb0
    obtain ⟨rl', hrl'⟩ : ∃ rl', rl' = rl ++ [(Sg.em, t0)] := ⟨_, rfl⟩
    rw [← hrl'] at hb0
    have hit : h2.IsListIter _ _ 0 := hi
    have hax := N1
    rw [← hb0] at hax
    have hlt2 : ∀ p ∈ base, p.1 < Array.size _ := fun p hp => Heap.lt_size (N1 p hp).1
    have hfr : ∀ a, Array.size _ ≤ a → g.get? a = none := fun a ha => by
      cases q : g.get? a with
      | none => rfl
      | some o' => exact absurd (Heap.lt_size (F1.keep a o' q)) (Nat.not_lt.mpr ha)
    refine ⟨_, _, _, 0, (rl'.map sgV).toArray, base, fun i ys nw => ys.length = i ∧ (∀ j σ', j < i → (rl'.map Prod.fst)[j]? = some σ' → TokIs nw ys j σ') ∧ ∀ q ∈ base, q ∈ nw, rfl, rfl, he, hi, Nat.succ_ne_self _, ?_, ?_, hfr _ (Nat.le_succ _), hfr _ (Nat.le_refl _), fun p hp => ⟨Nat.ne_of_lt (Nat.lt_succ_of_lt (hlt2 p hp)), Nat.ne_of_lt (hlt2 p hp)⟩,
      F1.keeps hk, N1.grown hk, (fun i ys nw hJ => hJ.2.2 _ (by rw [← hb0]; exact .head _)), by simp only [List.size_toArray, List.length_map, hrl', List.length_append, List.length_cons, List.length_nil]; unfold sizeLine; kmod_is, ⟨rfl, fun j _ h => absurd h (Nat.not_lt_zero _), fun q hq => hq⟩, ?_, ?_⟩
    · exact Nat.ne_of_gt (Nat.lt_succ_of_lt F1.ns.lt)
    · exact Nat.ne_of_gt F1.ns.lt
    · rintro g3 i ys nw v (e : Nat) (it : Nat) (C : Nat) oE oI oC (D : Nat) m₂ tki h3 tk3 E' ⟨hl, htk, hbs⟩ hv hC hx hx2 F3 N3 off
      have hv : (rl'.map sgV)[i]? = some v := by simpa using hv
      rw [List.getElem?_map, Option.map_eq_some_iff] at hv
      obtain ⟨⟨σ, t⟩, hi2, rfl⟩ := hv
      have hx2 : m₂ (Str.ofString "sign") = some (.str σ.text t) := hx2
      have hx : m₂ (Str.ofString "k") = some (.int (i : Int) tki) := hx
      k_steps
      refine Stop.go (lawTok (hroom := by ktr_room) (hun := by ktr_units) (B := B) (F := F3) (X := X) (N := N3) (T := T) (hk := rfl) ?_)
      intro (x : Nat) (b : Nat) h4 tk4 pf n nb t1 t2 t3 hxn hbn F4 N4
      refine ⟨_, _, (x, _) :: (b, _) :: nw, rfl, F4, news_rot N4, ?_, ?_, ?_, ?_⟩
      · intro q hq
        rcases List.mem_cons.mp hq with rfl | hq
        · exact ⟨Ne.symm (hxn (e, oE) (.head _)), Ne.symm (hxn (it, oI) (.tail _ (.head _))), Ne.symm (hxn (C, oC) (.tail _ (.tail _ (.head _)))), Ne.symm (hxn (D, lst ys) (.tail _ (.tail _ (.tail _ (.head _)))))⟩
        rcases List.mem_cons.mp hq with rfl | hq
        · exact ⟨Nat.ne_of_gt (hbn (e, oE) (.head _)), Nat.ne_of_gt (hbn (it, oI) (.tail _ (.head _))), Nat.ne_of_gt (hbn (C, oC) (.tail _ (.tail _ (.head _)))), Nat.ne_of_gt (hbn (D, lst ys) (.tail _ (.tail _ (.tail _ (.head _)))))⟩
        · exact off q hq
      · simp only [List.length_append, List.length_cons, List.length_nil, hl]
      · intro j σ' hj hs
        rcases Nat.lt_succ_iff_lt_or_eq.mp hj with hj | rfl
        · exact tokIs_up (htk j σ' hj hs) (fun q hq => .tail _ (.tail _ hq))
        · rw [List.getElem?_map, hi2] at hs
          obtain rfl := Option.some.inj hs
          exact ⟨x, b, pf, n, nb, t3, t1, t2, _, by rw [← hl]; simp, .head _, .tail _ (.head _)⟩
      · exact fun q hq => .tail _ (.tail _ (hbs q hq))
    · intro ys nw D h3 tk3 hJ F3 N3 off
      obtain ⟨hl, htk, hbs⟩ := hJ
      k_steps
      obtain ⟨σ, l, hσ⟩ : ∃ σ l, rl'.map Prod.fst = σ :: l := by
        cases hq : rl'.map Prod.fst with
        | nil => rw [hrl'] at hq; simp at hq
        | cons σ l => exact ⟨σ, l, rfl⟩
      have hlen' : rl'.length = rl.length + 1 := by rw [hrl']; simp
      have hl : ys.length = rl'.length := by simpa using hl
      refine Stop.go (mkParser (news := []) (kept := (D, lst ys) :: nw) (nl := ys.length) (hroom := by ktr_room) (hun := by ktr_units) (B := B) (F := F3) (X := X) (N := N3) (T := T) (hk := rfl) (hkp := fun q hq => hq) (hl := .head _) (hlen := by kmod_is) (σ := σ) (l := l) (htok := ?_) ?_)
      · intro j σ' hj
        rw [← hσ] at hj
        have hjl : j < rl'.length := by simpa using (List.getElem?_eq_some_iff.mp hj).1
        obtain ⟨t, b, pf, n, nb, tk, t1, t2, k, h1, h2, h3⟩ := htk j σ' (by simpa using hjl) hj
        exact ⟨t, b, pf, n, nb, tk, t1, t2, k, h1, .tail _ h2, .tail _ h3⟩
      intro p pd h4 tk4 q hpd hnl F4 N4 hat hru
      k_steps
      refine Stop.go (parseC (news := []) (hroom := by ktr_room) (hun := by ktr_units) (B := B) (F := F4) (X := X) (N := N4) (T := T) (hk := rfl) hpd hru ?_)
      intro gv g5 L5 h5 tk5 gs nm qn t1 t2 FG5 F5 N5 ho5 F5' N5' hwk
      k_steps
      have hsg : σ :: l = rl.map Prod.fst ++ [.em] := by rw [← hσ, hrl']; simp
      have hel : Ends (σ :: l) := by
        rw [hsg]
        refine ends_snoc fun x hx => ?_
        obtain ⟨y, hy, rfl⟩ := List.mem_map.mp hx
        exact hem y hy
      have hol : opens (σ :: l) ≤ 16 := by rw [hsg, opens_snoc]; exact hop
      have hll : (σ :: l).length < 300 := by rw [hsg]; simp only [List.length_append, List.length_map, List.length_cons, List.length_nil]; kmod_is
      have hdp : callerA.depth = 301 := rfl
      have hun : callerA.units < 1000 := by decide
      refine Stop.go (listC (A₀ := callerA) (kept := (gv, genObj s.gens.size nm qn t1 t2) :: (D, lst ys) :: nw) (FG := FG5) (F := F5) (N := N5) (ho := ho5) (hr := fun x hx => Nat.ne_of_lt (hnl x hx)) (T := T) (gs := gs) (hgs := by simp) (hkp := fun q hq => hq) (hgk := .head _) (hat := at_up hat fun q hq => .tail _ hq) (hru := hru) (hend := hel) (hlen := hll) (hroom := by rw [hdp]; kmod_is)
        (hwk := fun A h1 h2 h3 h4 => hwk A 300 (σ :: l) h1 h2 h3 h4 hll hll hel (by rw [hdp]; kmod_is) (by kmod_is)) ?hQ ?hE)
      case hQ =>
        intro S rs c' h6 tk6 q' hgen hrs hpc F6 N6
        k_steps
        rename Fr g L _ _ => F7
        rename News g L _ _ => N7
        rw [hsg] at hgen hrs
        refine SegQ.next ⟨_, _, _, S, c', rs, rfl, hgen, hrs, hpc, bare_done hG, F7, fun q hq => N7 q ?_⟩
        rcases List.mem_cons.mp hq with rfl | hq
        · exact .head _
        refine .tail _ (.tail _ (.tail _ (.tail _ ?_)))
        rcases List.mem_append.mp hq with hq | hq
        · exact List.mem_append_left _ hq
        · exact List.mem_append_right _ (.tail _ (hbs q (by rw [← hb0]; exact .tail _ (.tail _ hq))))
      case hE =>
        intro e h6 tk6 hgen hup hfly
        rw [hsg] at hgen
        obtain ⟨t, vs, hR⟩ := hfly
        k_steps
        refine caught_K0 (T' := "SyntaxError") B FG5 hup hR (by k_asm) PyProof.Rows.Boot.«SyntaxError» isExc_Syn notTuple_Syn self_Syn ?_ (hE := hEA _)
        intro h7 news7 F7 N7 hgot N8
        k_steps
        exact hret _ _ _ _ _ (.inl ⟨hgen, rfl⟩) F7 (bare_done hG)
  rintro _ ⟨h', tk', gs', S, c', rs, rfl, hgen, hrs, hpc, hG', F', N'⟩
  have hlr : rs.length = (genRows 301 (rl.map Prod.fst ++ [.em])).1.length := by rw [← hrs, List.length_map]
  refine seg_cons (TrLen w g L rows due c cd S c' script pool row m rl rest good dvs rs gs' s) ?_ ?_
  · cases good with
    | false =>
      k_steps
      exact hret _ _ _ _ _ (.inr ⟨hgen, .inl rfl, rfl⟩) F' hG'
    | true =>
      have hT : (told rs).length < 1000000 := by unfold told; rw [List.length_map, hlr]; have := genRows_len (n := 301) (l := rl.map Prod.fst ++ [.em]); kmod_is
      have hT2 : (told rs).length = rs.length := by unfold told; rw [List.length_map]
      have hmd : (due, listOf dvs.toArray cd) ∈ rled w.params rs ++ (due, listOf dvs.toArray cd) :: (rows, listOf (rl.map sgV).toArray c) :: rest := List.mem_append_right _ (.head _)
      k_steps
      · rename ((rs.length : Nat) : Int) ≠ _ => hne
        exact hret _ _ _ _ _ (.inr ⟨hgen, .inr (by rw [← hlr]; exact fun e => hne (congrArg Int.ofNat e)), rfl⟩) F' hG'
      · rename ((rs.length : Nat) : Int) = _ => heq
        exact SegQ.next ⟨_, _, rfl, rfl, Int.ofNat.inj heq, F', N'⟩
  · rintro _ ⟨h2, tk2, rfl, hg, hlr2, F2, N2⟩
    exact next h2 tk2 gs' S c' rs hgen hg hlr2 hrs hpc hG' F2 N2

end
section
theorem nodup_len {l : List Nat} : ∀ {l' : List Nat}, l.Nodup → (∀ x ∈ l, x ∈ l') → l.length ≤ l'.length := by
  induction l with
  | nil => intros; exact Nat.zero_le _
  | cons a l ih =>
    intro l' h k
    rw [List.nodup_cons] at h
    have ha := k a (.head _)
    have := ih (l' := l'.erase a) h.2 fun x hx => (List.mem_erase_of_ne (fun (e : x = a) => h.1 (by rw [← e]; exact hx))).mpr (k x (.tail _ hx))
    rw [List.length_erase_of_mem ha] at this
    have := List.length_pos_of_mem ha
    simp only [List.length_cons]; kmod_is
theorem nodup_perm {l : List Nat} : ∀ {l' : List Nat}, l.Nodup → l'.Nodup → (∀ x ∈ l, x ∈ l') → (∀ x ∈ l', x ∈ l) → l.Perm l' := by
  induction l with
  | nil =>
    intro l' _ _ _ k
    cases l' with
    | nil => exact .refl _
    | cons x r => exact nomatch k x (.head _)
  | cons a l ih =>
    intro l' h h' k k'
    rw [List.nodup_cons] at h
    have ha := k a (.head _)
    refine .trans (.cons a (ih (l' := l'.erase a) h.2 (h'.erase a) (fun x hx => (List.mem_erase_of_ne (fun (e : x = a) => h.1 (by rw [← e]; exact hx))).mpr (k x (.tail _ hx))) fun x hx => ?_)) (List.perm_cons_erase ha).symm
    rcases List.mem_cons.mp (k' x (List.mem_of_mem_erase hx)) with rfl | q
    · exact absurd hx (fun q => by rw [h'.mem_erase_iff] at q; exact q.1 rfl)
    · exact q
/-- the signs on the arcs that leave x -/
noncomputable def labsAt (G : List St) (x : Nat) : List Sg := G.flatMap fun st => if st.x = x then st.labs else []
theorem labsAt_out {G : List St} {x : Nat} (h : x ∉ G.map St.x) : labsAt G x = [] := by
  induction G with
  | nil => rfl
  | cons st G ih =>
    simp only [List.map_cons, List.mem_cons, not_or] at h
    simp only [labsAt, List.flatMap_cons, if_neg (fun e => h.1 (Eq.symm e)), List.nil_append]
    exact ih h.2
theorem labsAt_in {G : List St} {st : St} (hx : (G.map St.x).Nodup) (h : st ∈ G) : labsAt G st.x = st.labs := by
  induction G with
  | nil => cases h
  | cons s' G ih =>
    simp only [List.map_cons, List.nodup_cons] at hx
    simp only [labsAt, List.flatMap_cons]
    rcases List.mem_cons.mp h with rfl | h
    · rw [if_pos rfl]
      have := labsAt_out hx.1
      simp only [labsAt] at this
      rw [this, List.append_nil]
    · rw [if_neg (fun e => hx.1 (by rw [e]; exact List.mem_map.mpr ⟨st, h, rfl⟩)), List.nil_append]
      exact ih hx.2 h
theorem flat_labsAt {G : List St} (hx : (G.map St.x).Nodup) : (G.map St.x).flatMap (labsAt G) = labs G := by
  rw [List.flatMap_map, labs]
  rw [List.flatMap_def, List.flatMap_def]; congr 1; exact List.map_congr_left fun st h => labsAt_in hx h
theorem st_eq {G : List St} {a b : St} (hx : (G.map St.x).Nodup) (ha : a ∈ G) (hb : b ∈ G) (e : a.x = b.x) : a = b := by
  induction G with
  | nil => cases ha
  | cons s' G ih =>
    simp only [List.map_cons, List.nodup_cons] at hx
    rcases List.mem_cons.mp ha with rfl | ha2
    · rcases List.mem_cons.mp hb with rfl | hb2
      · rfl
      · exact (hx.1 (by rw [e]; exact List.mem_map.mpr ⟨b, hb2, rfl⟩)).elim
    · rcases List.mem_cons.mp hb with rfl | hb2
      · exact (hx.1 (by rw [← e]; exact List.mem_map.mpr ⟨a, ha2, rfl⟩)).elim
      · exact ih hx.2 ha2 hb2
/-- what the search has found: the states, how many are done, the signs -/
structure Bfs (G : List St) (a : Nat) (rc : List Nat) (k : Nat) (lb : List Sg) : Prop where
  nd : rc.Nodup
  sub : ∀ x ∈ rc, x ∈ G.map St.x
  hd : rc.head? = some a
  lab : lb = (rc.take k).flatMap (labsAt G)
  closed : ∀ x ∈ rc.take k, ∀ y, Edge G x y → y ∈ rc
  le : k ≤ rc.length
/-- the same inside a state's turn, after i arcs -/
structure BfsIn (G : List St) (a : Nat) (st : St) (rc : List Nat) (k i : Nat) (lb : List Sg) : Prop where
  nd : rc.Nodup
  sub : ∀ x ∈ rc, x ∈ G.map St.x
  hd : rc.head? = some a
  at_ : rc[k]? = some st.x
  lab : lb = (rc.take k).flatMap (labsAt G) ++ (st.arcs.take i).filterMap fun a => a.lab.map Prod.fst
  closed : ∀ x ∈ rc.take k, ∀ y, Edge G x y → y ∈ rc
  arcs : ∀ c ∈ st.arcs.take i, c.nx ∈ rc
variable {G : List St} {a z : Nat} {ls lb : List Sg} {rc : List Nat} {k i : Nat} {st : St}
theorem Bfs.start (p : Piece G a z ls) : Bfs G a [a] 0 [] :=
  ⟨by simp, fun x hx => by rw [List.mem_singleton.mp hx]; exact p.ain, rfl, rfl, fun x hx => absurd hx (by simp), Nat.zero_le _⟩
theorem Bfs.enter (b : Bfs G a rc k lb) (h : k < rc.length) : ∃ st ∈ G, BfsIn G a st rc k 0 lb := by
  obtain ⟨st, hs, e⟩ := List.mem_map.mp (b.sub _ (List.getElem_mem h))
  exact ⟨st, hs, b.nd, b.sub, b.hd, by rw [List.getElem?_eq_getElem h, e], by simpa using b.lab, b.closed, fun c hc => absurd hc (by simp)⟩
theorem take_snoc {rc : List Nat} {k x : Nat} (h : k ≤ rc.length) : (rc ++ [x]).take k = rc.take k := by rw [List.take_append_of_le_length h]
theorem BfsIn.lt (b : BfsIn G a st rc k i lb) : k < rc.length := (List.getElem?_eq_some_iff.mp b.at_).1
theorem BfsIn.step (p : Piece G a z ls) (hs : st ∈ G) (b : BfsIn G a st rc k i lb) {c : Arc} (hc : st.arcs[i]? = some c) :
    BfsIn G a st (if c.nx ∈ rc then rc else rc ++ [c.nx]) k (i + 1) (lb ++ (c.lab.map Prod.fst).toList) := by
  have hk := b.lt
  have ht : st.arcs.take (i + 1) = st.arcs.take i ++ [c] := by rw [List.take_add_one, hc]; rfl
  have hm : c ∈ st.arcs := List.mem_of_getElem? hc
  have hl : lb ++ (c.lab.map Prod.fst).toList = (rc.take k).flatMap (labsAt G) ++ (st.arcs.take (i + 1)).filterMap fun a => a.lab.map Prod.fst := by
    rw [b.lab, ht, List.filterMap_append, List.append_assoc]
    cases hcl : c.lab <;> simp [List.filterMap_cons, hcl]
  split
  · rename_i h
    refine ⟨b.nd, b.sub, b.hd, b.at_, hl, b.closed, fun d hd => ?_⟩
    rw [ht] at hd
    rcases List.mem_append.mp hd with hd | hd
    · exact b.arcs d hd
    · rw [List.mem_singleton.mp hd]; exact h
  · rename_i h
    refine ⟨?_, ?_, ?_, ?_, ?_, ?_, ?_⟩
    · rw [List.nodup_append]
      exact ⟨b.nd, by simp, fun x hx y hy e => h (by rw [← List.mem_singleton.mp hy, ← e]; exact hx)⟩
    · intro x hx
      rcases List.mem_append.mp hx with hx | hx
      · exact b.sub x hx
      · rw [List.mem_singleton.mp hx]; exact p.closed st hs c hm
    · rw [List.head?_append, b.hd]; rfl
    · rw [List.getElem?_append_left hk]; exact b.at_
    · rw [take_snoc (Nat.le_of_lt hk)]; exact hl
    · rw [take_snoc (Nat.le_of_lt hk)]; exact fun x hx y e => List.mem_append_left _ (b.closed x hx y e)
    · intro d hd
      rw [ht] at hd
      rcases List.mem_append.mp hd with hd | hd
      · exact List.mem_append_left _ (b.arcs d hd)
      · rw [List.mem_singleton.mp hd]; exact List.mem_append_right _ (.head _)
theorem BfsIn.leave (p : Piece G a z ls) (hs : st ∈ G) (b : BfsIn G a st rc k st.arcs.length lb) : Bfs G a rc (k + 1) lb := by
  have hk := b.lt
  have ht : rc.take (k + 1) = rc.take k ++ [st.x] := by rw [List.take_add_one, b.at_]; rfl
  refine ⟨b.nd, b.sub, b.hd, ?_, ?_, hk⟩
  · rw [ht, List.flatMap_append, b.lab, List.take_of_length_le (Nat.le_refl _)]
    congr 1
    simp only [List.flatMap_cons, List.flatMap_nil, List.append_nil]
    rw [labsAt_in p.xs hs]; rfl
  · intro x hx y e
    rw [ht] at hx
    rcases List.mem_append.mp hx with hx | hx
    · exact b.closed x hx y e
    · rw [List.mem_singleton.mp hx] at e
      obtain ⟨s', h1, h2, c, h3, rfl⟩ := e
      rw [st_eq p.xs h1 hs h2] at h3
      exact b.arcs c (by rw [List.take_of_length_le (Nat.le_refl _)]; exact h3)
theorem Bfs.done (p : Piece G a z ls) (b : Bfs G a rc rc.length lb) : z ∈ rc ∧ lb.Perm ls := by
  have hall : ∀ x ∈ G.map St.x, x ∈ rc := by
    intro x hx
    have hp := p.reach x hx
    clear hx
    induction hp with
    | refl => exact List.mem_of_mem_head? (by rw [b.hd]; rfl)
    | step _ e ih => exact b.closed _ (by rw [List.take_of_length_le (Nat.le_refl _)]; exact ih) _ e
  refine ⟨hall z p.zin, ?_⟩
  have hp : rc.Perm (G.map St.x) := nodup_perm b.nd p.xs b.sub hall
  rw [b.lab, List.take_of_length_le (Nat.le_refl _)]
  exact (hp.flatMap_right _).trans (by rw [flat_labsAt p.xs]; exact p.labs)
theorem narcs_nexts : (G.flatMap fun st => st.arcs.map Arc.nx).length = narcs G := by
  induction G with
  | nil => rfl
  | cons st G ih => simp only [List.flatMap_cons, List.length_append, List.length_map, ih, narcs, List.map_cons, List.sum_cons]
theorem card_le (p : Piece G a z ls) : G.length ≤ narcs G + 1 := by
  have := nodup_len (l' := a :: G.flatMap fun st => st.arcs.map Arc.nx) p.xs fun x hx => by
    cases p.reach x hx with
    | refl => exact .head _
    | step _ e =>
      obtain ⟨s', h1, _, c, h3, rfl⟩ := e
      exact .tail _ (List.mem_flatMap.mpr ⟨s', h1, List.mem_map.mpr ⟨c, h3, rfl⟩⟩)
  rw [List.length_cons, narcs_nexts, List.length_map] at this
  exact this
theorem Bfs.small (p : Piece G a z ls) (h3 : narcs G < 1000) (b : Bfs G a rc k lb) : rc.length ≤ 1000 ∧ rc.length ≤ G.length := by
  have h1 := nodup_len b.nd b.sub
  have h2 := card_le p
  rw [List.length_map] at h1
  exact ⟨by kmod_is, h1⟩
theorem BfsIn.small (p : Piece G a z ls) (h3 : narcs G < 1000) (b : BfsIn G a st rc k i lb) : rc.length ≤ 1000 ∧ rc.length ≤ G.length := by
  have h1 := nodup_len b.nd b.sub
  have h2 := card_le p
  rw [List.length_map] at h1
  exact ⟨by kmod_is, h1⟩
theorem flat_len {f : Nat → List Sg} {l : List Nat} : ∀ {l' : List Nat}, l.Nodup → (∀ x ∈ l, x ∈ l') → (l.flatMap f).length ≤ (l'.flatMap f).length := by
  induction l with
  | nil => intros; exact Nat.zero_le _
  | cons a l ih =>
    intro l' h k
    rw [List.nodup_cons] at h
    have ha := k a (.head _)
    have hi := ih (l' := l'.erase a) h.2 fun x hx => (List.mem_erase_of_ne (fun (e : x = a) => h.1 (by rw [← e]; exact hx))).mpr (k x (.tail _ hx))
    have hp := ((List.perm_cons_erase ha).flatMap_right f).length_eq
    rw [hp]
    simp only [List.flatMap_cons, List.length_append]; kmod_is
theorem labs_len {G : List St} : (labs G).length ≤ narcs G := by
  induction G with
  | nil => exact Nat.zero_le _
  | cons st G ih =>
    have h1 : st.labs.length ≤ st.arcs.length := List.length_filterMap_le _ _
    simp only [labs, narcs, List.flatMap_cons, List.length_append, List.map_cons, List.sum_cons] at ih ⊢
    kmod_is
theorem BfsIn.labSmall {G : List St} {a z : Nat} {ls lb : List Sg} {rc : List Nat} {k i : Nat} {st : St} (p : Piece G a z ls) (h3 : narcs G < 1000) (hs : st ∈ G) (b : BfsIn G a st rc k i lb) : lb.length ≤ 2000 := by
  have h1 := flat_len (f := labsAt G) (l := rc.take k) (l' := G.map St.x) (b.nd.sublist (List.take_sublist _ _)) fun x hx => b.sub x (List.mem_of_mem_take hx)
  rw [flat_labsAt p.xs] at h1
  have h2 := labs_len (G := G)
  have h4 := narcs_mem hs
  have h5 := List.length_filterMap_le (fun a : Arc => a.lab.map Prod.fst) (st.arcs.take i)
  have h6 := List.length_take_le' i st.arcs
  rw [b.lab, List.length_append]; kmod_is

end
section
open PySem.SeqAt PySem.Spec
theorem rising_pw : ∀ (p : Str) (l : List Str), risingS p l = true → (p :: l).Pairwise (fun a b => a.cps.toList ≤ b.cps.toList)
  | p, [], _ => by simp
  | p, x :: r, h => by
    have h' : (!ltCps x.cps.toList p.cps.toList && risingS x r) = true := h
    rw [Bool.and_eq_true, ltCps_eq] at h'
    have ih := rising_pw x r h'.2
    have hx : p.cps.toList ≤ x.cps.toList := by
      have := h'.1
      rw [Bool.not_eq_true', decide_eq_false_iff_not] at this
      exact List.not_lt.mp this
    rw [List.pairwise_cons]
    refine ⟨fun y hy => ?_, ih⟩
    rcases List.mem_cons.mp hy with rfl | hy
    · exact hx
    · exact List.le_trans hx (List.rel_of_pairwise_cons ih hy)
theorem sorted_pw : ∀ (l : List Str), sortedS l = true → l.Pairwise (fun a b => a.cps.toList ≤ b.cps.toList)
  | [], _ => by simp
  | x :: r, h => rising_pw x r h
theorem str_of_cps {a b : Str} (h : a.cps.toList = b.cps.toList) : a = b := by
  obtain ⟨⟨x⟩⟩ := a
  obtain ⟨⟨y⟩⟩ := b
  simp only at h
  rw [h]
theorem sorted_unique {a b : List Str} (ha : sortedS a = true) (hb : sortedS b = true) (h : a.Perm b) : a = b :=
  List.Perm.eq_of_pairwise (fun _ _ _ _ h1 h2 => str_of_cps (List.le_antisymm h1 h2)) (sorted_pw a ha) (sorted_pw b hb) h
theorem readsAll_strs {h : Heap} : ∀ {vs : List Value} {ns : List Str}, StrsAre vs ns → ReadsAll h vs (ns.map PyData.str) []
  | _, _, .nil => .nil
  | _, _, .cons k t r => by
    have := ReadsAll.cons (Reads.str (h := h) k t) (readsAll_strs (h := h) r)
    simpa using this
theorem reads_strs {h : Heap} {a : Addr} {vs : List Value} {ns : List Str} (hl : h.IsList a vs.toArray) (hi : StrsAre vs ns) : Reads h (.ref a) (.list (ns.map PyData.str)) [a] := by
  obtain ⟨o, ho, hc, n, hd⟩ := hl
  exact Reads.list ho hc hd (by simpa using readsAll_strs hi)
theorem lay_strs : ∀ ns : List Str, (∀ x ∈ ns, PyData.strOk x = true) → PyData.canLayAll0 (ns.map PyData.str) = true
  | [], _ => by simp [PyData.canLayAll0]
  | n :: r, h => by simp [PyData.canLayAll0, PyData.canLay0, lay_strs r fun x hx => h x (.tail _ hx), h n (.head _)]
theorem depth_strs : ∀ ns : List Str, PyData.depthAll (ns.map PyData.str) ≤ 1
  | [] => by simp [PyData.depthAll]
  | n :: r => by
    have := depth_strs r
    simp only [List.map_cons, PyData.depthAll, PyData.depth]
    kmod_is
theorem shaped_strs {ns : List Str} (h : ∀ x ∈ ns, PyData.strOk x = true) : shaped (.list (ns.map PyData.str)) = true := by
  have h1 := depth_strs ns
  have h2 : PyData.depth (.list (ns.map PyData.str)) ≤ 64 := by simp only [PyData.depth]; kmod_is
  show (PyData.canLay0 (.list (ns.map PyData.str)) && decide (PyData.depth (.list (ns.map PyData.str)) ≤ 64)) = true
  rw [Bool.and_eq_true]
  exact ⟨by simp only [PyData.canLay0]; exact lay_strs ns h, decide_eq_true h2⟩
theorem mix_strs : ∀ ns ms : List Str, noMixAll (ns.map PyData.str) (ms.map PyData.str) = true
  | [], [] => by simp [noMixAll]
  | [], _ :: _ => by simp [noMixAll]
  | _ :: _, [] => by simp [noMixAll]
  | _ :: r, _ :: q => by simp [noMixAll, noMix, mix_strs r q]
theorem same_strs : ∀ ns ms : List Str, PySem.Spec.sameAll (ns.map PyData.str) (ms.map PyData.str) = decide (ns = ms)
  | [], [] => by simp [PySem.Spec.sameAll]
  | [], _ :: _ => by simp [PySem.Spec.sameAll]
  | _ :: _, [] => by simp [PySem.Spec.sameAll]
  | n :: r, k :: q => by
    simp only [List.map_cons, PySem.Spec.sameAll, PySem.Spec.same, same_strs r q]
    by_cases h : n = k <;> simp [h]
theorem ne_strs {w : World} {A : Around} {E : Value → Shared → Prop} {s : Shared} {a b : Addr} {vs us : List Value} {ns ms : List Str} {Q : Value → Shared → Prop} (hl : s.heap.IsList a vs.toArray) (hi : StrsAre vs ns) (hl' : s.heap.IsList b us.toArray) (hi' : StrsAre us ms) (hu : A.units + 64 < cLine) (o1 : ∀ x ∈ ns, PyData.strOk x = true) (o2 : ∀ x ∈ ms, PyData.strOk x = true)
    (h : Q (.bool (!decide (ns = ms))) s) : wpAny (model PySem.Challenge.rw_iv0024_01.row.prog w) A (compareOp .NotEq (.ref a) (.ref b)) Q E s :=
  ne_dataH_same (reads_strs hl hi) (reads_strs hl' hi') (shaped_strs o1) (shaped_strs o2) hu (by simp only [noMix]; exact mix_strs ns ms) (by simp only [PySem.Spec.same]; rw [same_strs]; exact h)

end
section
open PySem.SeqAt
noncomputable def zipBody (P : Params) : List Stmt := match lawRest P 11 with
  | (.For _ _ b _ _) :: _ => b
  | _ => []
noncomputable def zipRest (P : Params) (n : Nat) : List Stmt := (zipBody P).drop n
/-- the law's frame while it checks a row -/
noncomputable abbrev cf (row start finish reached labels k : Value) (m : Str → Option Value) : Str → Option Value := fun y => if y = Str.ofString "k" then some k else if y = Str.ofString "labels" then some labels else if y = Str.ofString "reached" then some reached else if y = Str.ofString "finish" then some finish else if y = Str.ofString "start" then some start else if y = Str.ofString "row" then some row else m y
noncomputable abbrev pf (row pair : Value) (m : Str → Option Value) : Str → Option Value := fun y => if y = Str.ofString "pair" then some pair else if y = Str.ofString "row" then some row else m y
noncomputable abbrev mA (v : Option Value) (m : Str → Option Value) : Str → Option Value := fun y => if y = Str.ofString "arc" then v else m y
theorem cf_arc {r a b c d e : Value} {v : Option Value} {m : Str → Option Value} : ∀ y, (if y = Str.ofString "arc" then v else cf r a b c d e m y) = cf r a b c d e (mA v m) y := by
  intro y; unfold cf mA; (repeat' split) <;> simp_all +decide
theorem cf_k {r a b c d e e' : Value} {m : Str → Option Value} : ∀ y, (if y = Str.ofString "k" then some e' else cf r a b c d e m y) = cf r a b c d e' m y := by
  intro y; unfold cf; (repeat' split) <;> simp_all +decide
theorem cf_start {r p a b c d e : Value} {m : Str → Option Value} : ∀ y, (if y = Str.ofString "reached" then some c else if y = Str.ofString "labels" then some d else if y = Str.ofString "k" then some e else if y = Str.ofString "finish" then some b else if y = Str.ofString "start" then some a else pf r p m y) = cf r a b c d e (fun y => if y = Str.ofString "pair" then some p else m y) y := by
  intro y; unfold cf pf; (repeat' split) <;> simp_all +decide
/-- states in the ledger -/
noncomputable def InSt (x : Nat) (l : List (Addr × Obj)) : Prop := ∃ d, (x, instObj 142 d) ∈ l
noncomputable def AllSt (rc : List Nat) (l : List (Addr × Obj)) : Prop := ∀ y ∈ rc, ∃ d, (y, instObj 142 d) ∈ l
theorem InSt.up {x : Nat} {l l' : List (Addr × Obj)} (h : InSt x l) (k : ∀ q ∈ l, q ∈ l') : InSt x l' := let ⟨d, hd⟩ := h; ⟨d, k _ hd⟩
theorem AllSt.up {rc : List Nat} {l l' : List (Addr × Obj)} (h : AllSt rc l) (k : ∀ q ∈ l, q ∈ l') : AllSt rc l' := fun y hy => let ⟨d, hd⟩ := h y hy; ⟨d, k _ hd⟩
section
variable {w : World} {A : Around} {E : Value → Shared → Prop} {s : Shared} {h₀ : Heap} {L l x : Addr} {m : Str → Option Value} {news : List (Addr × Obj)} {rc : List Nat} {c : Nat} {Q : Value → Shared → Prop}
theorem notInRefs (F : Fr h₀ L s.heap m) (X : (hd.heap_1 w.params).In h₀) (N : News h₀ L s.heap news) (hm : (l, listOf (rc.map Value.ref).toArray c) ∈ news) (hx : InSt x news) (hall : AllSt rc news) (hu : A.units + 1 < cLine)
    (h : Q (.bool (!decide (x ∈ rc))) s) : wpAny (model PySem.Challenge.rw_iv0024_01.row.prog w) A (compareOp .NotIn (.ref x) (.ref l)) Q E s := by
  have X' := X.keeps F.keep
  have hu' : A.in1.units < cLine := hu
  obtain ⟨dx, hx⟩ := hx
  refine notIn_listAt (fun v => match v with | .ref a => decide (a = x) | _ => false) (N.isList hm) (fun y hy => ?_) ?_
  · obtain ⟨a, ha, rfl⟩ : ∃ a ∈ rc, Value.ref a = y := by simpa using hy
    obtain ⟨d, hd⟩ := hall a ha
    exact eqInst (cmpSt X' (N.get hd)) (cmpSt X' (N.get hx)) hu'
  · have e : ((rc.map Value.ref).toArray.any fun v => match v with | .ref a => decide (a = x) | _ => false) = decide (x ∈ rc) := by
      rw [List.any_toArray, List.any_map]
      apply Bool.eq_iff_iff.mpr
      simp
    rw [e]; exact h
theorem notInRefs0 (F : Fr h₀ L s.heap m) (X : (hd.heap_1 w.params).In h₀) (N : News h₀ L s.heap news) (hm : (l, listOf (rc.map Value.ref).toArray c) ∈ news) (hx : InSt x news) (hall : AllSt rc news) (hu : A.units + 1 < cLine) (hin : x ∈ rc)
    (h : Q (.bool false) s) : wpAny (model PySem.Challenge.rw_iv0024_01.row.prog w) A (compareOp .NotIn (.ref x) (.ref l)) Q E s := notInRefs F X N hm hx hall hu (by rw [decide_eq_true hin]; exact h)
theorem itemRef {k : Nat} {i : Int} {u : Tok} {value slice : PySem.Expr} (e : i = ((k : Nat) : Int)) (N : News h₀ L s.heap news) (hm : (l, listOf (rc.map Value.ref).toArray c) ∈ news) (hk : rc[k]? = some x) (hl : rc.length < 900000) (h : Q (.ref x) s)
    (hs : subscripted slice false (.ref l) (.int i u) = operate [.ref l, .int i u] (getItem (.ref l) (.int i u)) := by with_unfolding_all rfl) :
    wpAny (model PySem.Challenge.rw_iv0024_01.row.prog w) A (subscriptTail value slice (.ref l) (.int i u)) Q E s := by
  subst e
  have := (List.getElem?_eq_some_iff.mp hk).1
  exact listItem_N N hm (by kmod_is) (by kmod_is) (by rw [Int.toNat_natCast, List.getElem?_map, hk]; rfl) h hs
end
theorem ref_push {rc : List Nat} {x : Nat} : (rc.map Value.ref).toArray.push (.ref x) = ((rc ++ [x]).map Value.ref).toArray := by
  rw [List.map_append, List.push_toArray]; rfl
theorem sg_push {lb : List (Sg × Tok)} {σ : Sg} {t : Tok} : (lb.map sgV).toArray.push (.str σ.text t) = ((lb ++ [(σ, t)]).map sgV).toArray := by
  rw [List.map_append, List.push_toArray]; rfl
theorem st_mem {P : Params} {r : Value} {G : List St} {st : St} (h : st ∈ G) : ∀ q ∈ st.led P r, q ∈ gled P r G := fun q hq => List.mem_flatMap.mpr ⟨st, h, hq⟩
theorem arc_mem {P : Params} {r : Value} {G : List St} {st : St} {c : Arc} (h : st ∈ G) (hc : c ∈ st.arcs) : ∀ q ∈ c.led P, q ∈ gled P r G := fun q hq =>
  st_mem h q (.tail _ (.tail _ (.tail _ (List.mem_flatMap.mpr ⟨c, hc, hq⟩))))

end
section
theorem fillCA (w : World) (h : Heap) : (hd.heap_1 w.params).In h → PySem.Challenge.rw_iv0024_01.row.prog = PySem.Challenge.rw_iv0024_01.row.prog := by w_top off; k_fill; intro _; rfl
theorem bne_self_false {a : Str} {P : Prop} (h : (a != a) = true) : P := by simp at h
set_option maxRecDepth 100000 in
set_option maxHeartbeats 1500000 in
theorem segPair {w : World} {mean : ExcName → Option Value} {mg mb : Str → Option Value} {g base : Heap} {L fa t nt x z xd zd xal zal da dc : Nat} {k1 k2 k3 k4 rt u0 : Tok} {ccd : Value} {m : Str → Option Value} {s : Shared} {Q : Flow → Shared → Prop} {E : Value → Shared → Prop} {σ : Sg} {rv : List Value} {nws : List (Addr × Obj)}
    (B : Below callerA base [] g) (F : Fr g L s.heap (pf (.ref da) (.ref t) m)) (X : (hd.heap_1 w.params).In g) (T : Top vw (looseW vw [Str.ofString "PythonTokenTypes", Str.ofString "_tuplegetter", Str.ofString "PythonToken"]) mean mg mb g)
    (N : News g L s.heap ((t, tupObj [.ref x, .ref z] nt) :: (x, instObj 142 xd) :: (xd, dictOf (stEnts w.params k1 k2 (.str σ.text rt) xal) 2) :: (z, instObj 142 zd) :: (zd, dictOf (stEnts w.params k3 k4 (.str σ.text rt) zal) 2) :: (da, listOf (.str σ.text u0 :: rv).toArray dc) :: nws))
    (hE : PassesOwn (model PySem.Challenge.rw_iv0024_01.row.prog w) (callerA.deeper (envX (Str.ofString "law") (lawScope w.params) L fa ccd [])) (envX (Str.ofString "law") (lawScope w.params) L fa ccd []) E)
    (next : ∀ (h' : Heap) (tk' : Nat) (Ra La : Nat) (t0 : Tok) (m' : Str → Option Value), (∀ q ∈ nws, q.1 < Ra) → (∀ q ∈ nws, q.1 < La) → Ra ≠ La → Fr g L h' (cf (.ref da) (.ref x) (.ref z) (.ref Ra) (.ref La) (.int 0 t0) m') →
      News g L h' ((Ra, listOf ([x].map Value.ref).toArray 0) :: (La, listOf (([] : List (Sg × Tok)).map sgV).toArray 0) :: nws) →
      wpAny (model PySem.Challenge.rw_iv0024_01.row.prog w) (callerA.deeper (envX (Str.ofString "law") (lawScope w.params) L fa ccd [])) (execs (zipRest w.params 3) (envX (Str.ofString "law") (lawScope w.params) L fa ccd [])) Q E { s with heap := h', toks := tk' }) :
    wpAny (model PySem.Challenge.rw_iv0024_01.row.prog w) (callerA.deeper (envX (Str.ofString "law") (lawScope w.params) L fa ccd [])) (execs (zipRest w.params 0) (envX (Str.ofString "law") (lawScope w.params) L fa ccd [])) Q E s := by
  have hb : zipRest w.params 0 = zipRest w.params 0 := rfl
  conv at hb => lhs; whnf
  rw [← hb]; clear hb
  generalize hcs : lawScope w.params = cs at *
  conv at hcs => lhs; whnf
  subst hcs
  refine seg_cons (fun s' => ∃ (h1 : Heap) (tk1 : Nat), s' = { s with heap := h1, toks := tk1 } ∧ Fr g L h1 (fun y => if y = Str.ofString "finish" then some (.ref z) else if y = Str.ofString "start" then some (.ref x) else pf (.ref da) (.ref t) m y) ∧
    News g L h1 ((t, tupObj [.ref x, .ref z] nt) :: (x, instObj 142 xd) :: (xd, dictOf (stEnts w.params k1 k2 (.str σ.text rt) xal) 2) :: (z, instObj 142 zd) :: (zd, dictOf (stEnts w.params k3 k4 (.str σ.text rt) zal) 2) :: (da, listOf (.str σ.text u0 :: rv).toArray dc) :: nws)) ?_ ?_
  · k_steps
    exact SegQ.next ⟨_, _, rfl, by k_asm, by k_asm⟩
  clear F N
  rintro s₁ ⟨h1, tk1, rfl, F, N⟩
  refine seg_cons (fun s' => ∃ (h1 : Heap) (tk1 : Nat), s' = { s with heap := h1, toks := tk1 } ∧ Fr g L h1 (fun y => if y = Str.ofString "finish" then some (.ref z) else if y = Str.ofString "start" then some (.ref x) else pf (.ref da) (.ref t) m y) ∧
    News g L h1 nws) ?_ ?_
  · k_steps
    · rename (σ.text != σ.text) = true => hb
      simp at hb
    · exact SegQ.next ⟨_, _, rfl, by k_asm, News.sub (by k_asm) (by (first | with_reducible exact subId | ((repeat' (first | with_reducible exact subId | with_reducible exact subNil | with_reducible refine subCC ?_ | with_reducible refine subCons ?_ ?_ | with_reducible refine subApp ?_ ?_)) <;> kse_small) | (intro q hq; first | (simp only [List.mem_cons, List.mem_append, hq, true_or, or_true]; done) | (simp only [List.mem_cons, List.mem_append] at hq ⊢; grind))))⟩
  clear F N
  rintro s₁ ⟨h1, tk1, rfl, F, N⟩
  refine seg_cons (fun s' => ∃ (h1 : Heap) (tk1 : Nat) (Ra La : Nat) (t0 : Tok), s' = { s with heap := h1, toks := tk1 } ∧ (∀ q ∈ nws, q.1 < Ra) ∧ (∀ q ∈ nws, q.1 < La) ∧ Ra ≠ La ∧ Fr g L h1 (cf (.ref da) (.ref x) (.ref z) (.ref Ra) (.ref La) (.int 0 t0) (fun y => if y = Str.ofString "pair" then some (.ref t) else m y)) ∧
    News g L h1 ((Ra, listOf ([x].map Value.ref).toArray 0) :: (La, listOf (([] : List (Sg × Tok)).map sgV).toArray 0) :: nws)) ?_ ?_
  · k_steps
    rename Fr g L _ _ => F1
    rename News g L _ _ => N1
    rename _ ∧ _ ∧ AllLt _ _ => l3
    rename _ < _ ∧ AllLt _ _ => l2
    rename ∀ p ∈ nws, p.1 < _ => l1
    exact SegQ.next ⟨_, _, _, _, _, rfl, l1, ktn_ltOf l2.2, Nat.ne_of_lt l2.1, frCongr F1 cf_start, News.sub N1 (by (first | with_reducible exact subId | ((repeat' (first | with_reducible exact subId | with_reducible exact subNil | with_reducible refine subCC ?_ | with_reducible refine subCons ?_ ?_ | with_reducible refine subApp ?_ ?_)) <;> kse_small) | (intro q hq; first | (simp only [List.mem_cons, List.mem_append, hq, true_or, or_true]; done) | (simp only [List.mem_cons, List.mem_append] at hq ⊢; grind))))⟩
  · rintro s₁ ⟨h1, tk1, Ra, La, t0, rfl, a1, a2, a3, F1, N1⟩
    exact next h1 tk1 Ra La t0 _ a1 a2 a3 F1 N1

end
section
theorem fillCW (w : World) (h : Heap) : (hd.heap_1 w.params).In h → PySem.Challenge.rw_iv0024_01.row.prog = PySem.Challenge.rw_iv0024_01.row.prog := by w_top off; k_fill; intro _; rfl
local macro_rules | `(tactic| walk_at "exec For Name Attribute cons nil") => tac "here ; stop"
local macro_rules | `(tactic| walk_at "compareOp NotIn ref ref") => tac "here ; wp compareOp _ ( Value.ref _ ) ( Value.ref _ ) ; df { by notInRefs ?F ?X ?N ?m ?hx ?ha ?u ? ; F=asm ; X=asm ; N=asm ; m=mem ; hx=z17 ; ha=z18 ; u=units ; whole }"
local macro_rules | `(tactic| walk_at "subscriptTail Name Name ref int") => tac "here ; df { by itemRef ?e ?N ?m ?k ?l ? ?z ; e=cast ; N=asm ; m=mem ; k=ass ; l=lt ; z=wrfl ; whole }"
inductive ArcEnd (g : Heap) (L Ra La a k tk0 : Nat) (row start finish : Value) (G : List St) (st : St) (nws : List (Addr × Obj)) (s s' : Shared) : Prop
  | mk (rc : List Nat) (lb : List (Sg × Tok)) (cr cl : Nat) (m' : Str → Option Value) (h3 : Heap) (tk3 : Nat) (x0 : s' = { s with heap := h3, toks := tk3 }) (x1 : BfsIn G a st rc k st.arcs.length (lb.map Prod.fst)) (x2 : Fr g L h3 (cf row start finish (.ref Ra) (.ref La) (.int (k : Int) tk0) m')) (x3 : News g L h3 ((Ra, listOf (rc.map Value.ref).toArray cr) :: (La, listOf (lb.map sgV).toArray cl) :: nws)) : ArcEnd g L Ra La a k tk0 row start finish G st nws s s'
inductive WhEnd (g : Heap) (L Ra La a : Nat) (row start finish : Value) (G : List St) (nws : List (Addr × Obj)) (s : Shared) (s' : Shared) : Prop
  | mk (h' : Heap) (tk' : Nat) (rc : List Nat) (lb : List (Sg × Tok)) (cr' cl' : Nat) (kv : Value) (m' : Str → Option Value) (x0 : s' = { s with heap := h', toks := tk' }) (x1 : Bfs G a rc rc.length (lb.map Prod.fst)) (x2 : Fr g L h' (cf row start finish (.ref Ra) (.ref La) kv m')) (x3 : News g L h' ((Ra, listOf (rc.map Value.ref).toArray cr') :: (La, listOf (lb.map sgV).toArray cl') :: nws)) : WhEnd g L Ra La a row start finish G nws s s'
inductive WhInv (g : Heap) (L Ra La a : Nat) (row start finish : Value) (G : List St) (nws : List (Addr × Obj)) (s : Shared) (n : Nat) (s' : Shared) : Prop
  | mk (rc : List Nat) (k : Nat) (lb : List (Sg × Tok)) (cr cl tk0 : Nat) (m' : Str → Option Value) (h1 : Heap) (tk1 : Nat) (x0 : s' = { s with heap := h1, toks := tk1 }) (x1 : n = G.length - k) (x2 : Bfs G a rc k (lb.map Prod.fst)) (x3 : Fr g L h1 (cf row start finish (.ref Ra) (.ref La) (.int (k : Int) tk0) m')) (x4 : News g L h1 ((Ra, listOf (rc.map Value.ref).toArray cr) :: (La, listOf (lb.map sgV).toArray cl) :: nws)) : WhInv g L Ra La a row start finish G nws s n s'
inductive ArcInv (Ra La a k tk0 : Nat) (row start finish : Value) (G : List St) (st : St) (nws : List (Addr × Obj)) (i : Nat) (m : Str → Option Value) (nx : List (Addr × Obj)) : Prop
  | mk (rc : List Nat) (lb : List (Sg × Tok)) (cr cl : Nat) (m' : Str → Option Value) (x0 : BfsIn G a st rc k i (lb.map Prod.fst)) (x1 : m = cf row start finish (.ref Ra) (.ref La) (.int (k : Int) tk0) m') (x2 : nx = (Ra, listOf (rc.map Value.ref).toArray cr) :: (La, listOf (lb.map sgV).toArray cl) :: nws) : ArcInv Ra La a k tk0 row start finish G st nws i m nx
set_option maxRecDepth 100000 in
set_option maxHeartbeats 1500000 in
theorem segWhile {w : World} {mean : ExcName → Option Value} {mg mb : Str → Option Value} {g base : Heap} {L fa Ra La cr cl a z : Nat} {ccd row start finish : Value} {t0 rt : Tok} {rx : Str} {m : Str → Option Value} {s : Shared} {Q : Flow → Shared → Prop} {E : Value → Shared → Prop} {G : List St} {ls : List Sg} {nws : List (Addr × Obj)}
    (B : Below callerA base [] g) (F : Fr g L s.heap (cf row start finish (.ref Ra) (.ref La) (.int 0 t0) m)) (X : (hd.heap_1 w.params).In g) (T : Top vw (looseW vw [Str.ofString "PythonTokenTypes", Str.ofString "_tuplegetter", Str.ofString "PythonToken"]) mean mg mb g) (N : News g L s.heap ((Ra, listOf ([a].map Value.ref).toArray cr) :: (La, listOf (([] : List (Sg × Tok)).map sgV).toArray cl) :: nws))
    (hRa : ∀ q ∈ nws, q.1 < Ra) (hLa : ∀ q ∈ nws, q.1 < La) (hne : Ra ≠ La) (hP : PieceB G a z ls) (hG : ∀ q ∈ gled w.params (.str rx rt) G, q ∈ nws)
    (hE : PassesOwn (model PySem.Challenge.rw_iv0024_01.row.prog w) (callerA.deeper (envX (Str.ofString "law") (lawScope w.params) L fa ccd [])) (envX (Str.ofString "law") (lawScope w.params) L fa ccd []) E)
    (next : ∀ (h' : Heap) (tk' : Nat) (rc : List Nat) (lb : List (Sg × Tok)) (cr' cl' : Nat) (kv : Value) (m' : Str → Option Value), Bfs G a rc rc.length (lb.map Prod.fst) → Fr g L h' (cf row start finish (.ref Ra) (.ref La) kv m') →
      News g L h' ((Ra, listOf (rc.map Value.ref).toArray cr') :: (La, listOf (lb.map sgV).toArray cl') :: nws) →
      wpAny (model PySem.Challenge.rw_iv0024_01.row.prog w) (callerA.deeper (envX (Str.ofString "law") (lawScope w.params) L fa ccd [])) (execs (zipRest w.params 4) (envX (Str.ofString "law") (lawScope w.params) L fa ccd [])) Q E { s with heap := h', toks := tk' }) :
    wpAny (model PySem.Challenge.rw_iv0024_01.row.prog w) (callerA.deeper (envX (Str.ofString "law") (lawScope w.params) L fa ccd [])) (execs (zipRest w.params 3) (envX (Str.ofString "law") (lawScope w.params) L fa ccd [])) Q E s := by
  have hb : zipRest w.params 3 = zipRest w.params 3 := rfl
  conv at hb => lhs; whnf
  rw [← hb]; clear hb
  generalize hcs : lawScope w.params = cs at *
  conv at hcs => lhs; whnf
  subst hcs
  refine seg_cons (WhEnd g L Ra La a row start finish G nws s) ?_ (by rintro _ ⟨h', tk', rc, lb, cr', cl', kv, m', rfl, e, F', N'⟩; exact next h' tk' rc lb cr' cl' kv m' e F' N')
  have hp := hP.toPiece
  have hAll : ∀ rc : List Nat, (∀ x ∈ rc, x ∈ G.map St.x) → AllSt rc nws := fun rc h y hy => by
    obtain ⟨st, hs, rfl⟩ := List.mem_map.mp (h y hy)
    exact ⟨st.xd, hG _ (st_mem hs _ (.head _))⟩
  refine While_syn (n₀ := G.length) (WhInv g L Ra La a row start finish G nws s) ?_ ?_ hE
  · exact ⟨[a], 0, [], _, _, _, _, _, _, rfl, rfl, Bfs.start hp, F, N⟩
  clear F N
  rintro n s₁ ⟨rc, k, lb, cr, cl, tk0, m', h1, tk1, rfl, rfl, hb, F1, N1⟩
  obtain ⟨hsm, hsg⟩ := hb.small hp hP.small
  refine wpId ?_
  k_fold
  k_steps
  · rename ((k : Nat) : Int) < _ => hlt
    have hkl : k < rc.length := by kmod_is
    obtain ⟨st, hst, hin⟩ := hb.enter hkl
    have hat := hin.at_
    rename Fr g L _ _ => F2
    rename News g L _ _ => N2
    have hgl : ∀ q ∈ st.led w.params (.str rx rt), q ∈ nws := fun q hq => hG q (st_mem hst q hq)
    have N3 : News g L _ ((Ra, listOf (rc.map Value.ref).toArray cr) :: (La, listOf (lb.map sgV).toArray cl) :: (st.x, instObj 142 st.xd) :: (st.xd, dictOf (stEnts w.params st.k1 st.k2 (.str rx rt) st.al) 2) :: (st.al, listOf st.lst.toArray st.n) :: nws) := News.sub N2 (by
      intro q hq
      rcases List.mem_cons.mp hq with rfl | hq
      · exact .head _
      rcases List.mem_cons.mp hq with rfl | hq
      · exact .tail _ (.head _)
      refine .tail _ (.tail _ ?_)
      rcases List.mem_cons.mp hq with rfl | hq
      · exact hgl _ (.head _)
      rcases List.mem_cons.mp hq with rfl | hq
      · exact hgl _ (.tail _ (.head _))
      rcases List.mem_cons.mp hq with rfl | hq
      · exact hgl _ (.tail _ (.tail _ (.head _)))
      · exact hq)
    have hal : (st.al, listOf st.lst.toArray st.n) ∈ nws := hgl _ (.tail _ (.tail _ (.head _)))
    clear N2
    refine Stop.go (wpAny_mono (Q := SegQ (ArcEnd g L Ra La a k tk0 row start finish G st nws s) fun _ _ => False) ?_ (fun f s' hs => ?k) (fun _ _ e => e))
    case k =>
      cases f with
      | next =>
        obtain ⟨rc, lb, cr, cl, m', h3, tk3, rfl, hin, F4, N4⟩ := hs
        have hsm2 := hin.small hp hP.small
        have hout := hin.leave hp hst
        have hk2 := hin.lt
        k_steps
        rename Fr g L _ _ => F5
        rename News g L _ _ => N5
        exact ⟨G.length - (k + 1), by kmod_is, rc, k + 1, lb, _, _, _, _, _, _, rfl, rfl, hout, frCongr F5 cf_k, N5⟩
      | brk => exact hs.elim
      | cont => exact hs.elim
      | ret v => exact hs.elim
    refine For_invV g rfl rfl ?_ (hE := hE)
    k_steps
    rename Fr g L _ _ => F4
    rename News g L _ _ => N4
    have N5 : News g L _ ((st.al, listOf st.lst.toArray st.n) :: (Ra, listOf (rc.map Value.ref).toArray cr) :: (La, listOf (lb.map sgV).toArray cl) :: nws) := News.sub N4 (by (first | with_reducible exact subId | ((repeat' (first | with_reducible exact subId | with_reducible exact subNil | with_reducible refine subCC ?_ | with_reducible refine subCons ?_ ?_ | with_reducible refine subApp ?_ ?_)) <;> kse_small) | (intro q hq; first | (simp only [List.mem_cons, List.mem_append, hq, true_or, or_true]; done) | (simp only [List.mem_cons, List.mem_append] at hq ⊢; grind))))
    clear N4
    refine Stop.go (forList (x := Str.ofString "arc") (ArcInv Ra La a k tk0 row start finish G st nws) rfl F4 N5 ?_ ?_ ?_)
    · exact ⟨rc, lb, cr, cl, _, hin, rfl, rfl⟩
    · clear N5 F4
      rintro i v m₁ nx h2 tk2 I own hv ⟨rc, lb, cr, cl, m'', hb, rfl, rfl⟩ hoff hown hIl hio F6 N6
      obtain ⟨c, hc, rfl⟩ : ∃ c, st.arcs[i]? = some c ∧ v = .ref c.y := by
        unfold St.lst at hv
        rw [List.getElem?_map, Option.map_eq_some_iff] at hv
        obtain ⟨c, h1, h2⟩ := hv
        exact ⟨c, h1, h2.symm⟩
      have hne2 : La ≠ Ra := Ne.symm hne
      have hcm : c ∈ st.arcs := List.mem_of_getElem? hc
      have hy1 : (c.y, instObj 113 c.yd) ∈ nws := hG _ (arc_mem hst hcm _ (.head _))
      have hy2 : (c.yd, dictOf (arcEnts w.params c.j1 c.j2 (.ref c.nx) (labV c.lab)) 2) ∈ nws := hG _ (arc_mem hst hcm _ (.tail _ (.head _)))
      have a1 : c.y ≠ Ra := Nat.ne_of_lt (hRa _ hy1)
      have a2 : c.y ≠ La := Nat.ne_of_lt (hLa _ hy1)
      have a3 : c.yd ≠ Ra := Nat.ne_of_lt (hRa _ hy2)
      have a4 : c.yd ≠ La := Nat.ne_of_lt (hLa _ hy2)
      have F6 : Fr g L h2 (fun y => if y = Str.ofString "arc" then some (.ref c.y) else cf row start finish (.ref Ra) (.ref La) (.int (k : Int) tk0) m'' y) := F6
      have hIr : Ra ≠ I := hoff _ (.head _)
      have hIa : La ≠ I := hoff _ (.tail _ (.head _))
      obtain ⟨TT, hTT⟩ : ∃ TT, TT = own ++ (st.al, listOf st.lst.toArray st.n) :: nws := ⟨_, rfl⟩
      have hT1 : ∀ q ∈ TT, q.1 ≠ Ra := fun q hq => by
        rw [hTT] at hq
        rcases List.mem_append.mp hq with hq | hq
        · rw [hown q hq]; exact Ne.symm hIr
        rcases List.mem_cons.mp hq with rfl | hq
        · exact Nat.ne_of_lt (hRa _ hal)
        · exact Nat.ne_of_lt (hRa _ hq)
      have hT2 : ∀ q ∈ TT, q.1 ≠ La := fun q hq => by
        rw [hTT] at hq
        rcases List.mem_append.mp hq with hq | hq
        · rw [hown q hq]; exact Ne.symm hIa
        rcases List.mem_cons.mp hq with rfl | hq
        · exact Nat.ne_of_lt (hLa _ hal)
        · exact Nat.ne_of_lt (hLa _ hq)
      have hTn : ∀ q ∈ nws, q ∈ TT := fun q hq => by rw [hTT]; exact List.mem_append_right _ (.tail _ hq)
      have hA1 : AllSt rc TT := (hAll rc hb.sub).up hTn
      have hI1 : InSt c.nx TT := (hAll [c.nx] (fun x hx => by rw [List.mem_singleton.mp hx]; exact hp.closed st hst c hcm) c.nx (.head _)).imp fun d hd => hTn _ hd
      have N7 : News g L h2 ((Ra, listOf (rc.map Value.ref).toArray cr) :: (La, listOf (lb.map sgV).toArray cl) :: (c.y, instObj 113 c.yd) :: (c.yd, dictOf (arcEnts w.params c.j1 c.j2 (.ref c.nx) (labV c.lab)) 2) :: TT) := News.sub N6 (by
        intro q hq
        rcases List.mem_cons.mp hq with rfl | hq
        · exact List.mem_append_right _ (.tail _ (.head _))
        rcases List.mem_cons.mp hq with rfl | hq
        · exact List.mem_append_right _ (.tail _ (.tail _ (.head _)))
        rcases List.mem_cons.mp hq with rfl | hq
        · exact List.mem_append_right _ (.tail _ (.tail _ (.tail _ hy1)))
        rcases List.mem_cons.mp hq with rfl | hq
        · exact List.mem_append_right _ (.tail _ (.tail _ (.tail _ hy2)))
        rw [hTT] at hq
        rcases List.mem_append.mp hq with hq | hq
        · exact List.mem_append_left _ hq
        rcases List.mem_cons.mp hq with rfl | hq
        · exact List.mem_append_right _ (.head _)
        · exact List.mem_append_right _ (.tail _ (.tail _ (.tail _ hq))))
      clear N6
      have hO : ∀ {p1 p2 p3 p4 : Addr × Obj}, ∀ q ∈ own ++ [(st.al, listOf st.lst.toArray st.n)], q ∈ p1 :: p2 :: p3 :: p4 :: TT := fun q hq => by
        refine .tail _ (.tail _ (.tail _ (.tail _ ?_)))
        rw [hTT]
        rcases List.mem_append.mp hq with hq | hq
        · exact List.mem_append_left _ hq
        · rw [List.mem_singleton.mp hq]; exact List.mem_append_right _ (.head _)
      have hS : ∀ {p1 p2 p3 p4 : Addr × Obj}, ∀ q ∈ p1 :: p2 :: nws, q ∈ p1 :: p2 :: p3 :: p4 :: TT := fun q hq => by
        rcases List.mem_cons.mp hq with rfl | hq
        · exact .head _
        rcases List.mem_cons.mp hq with rfl | hq
        · exact .tail _ (.head _)
        · exact .tail _ (.tail _ (.tail _ (.tail _ (hTn q hq))))
      have hoff2 : ∀ {o1 o2 : Obj}, ∀ q ∈ (Ra, o1) :: (La, o2) :: nws, q.1 ≠ I := fun q hq => by
        rcases List.mem_cons.mp hq with rfl | hq
        · exact hIr
        rcases List.mem_cons.mp hq with rfl | hq
        · exact hIa
        · exact hoff q (.tail _ (.tail _ hq))
      have hnext := hb.step hp hst hc
      have hsm2 := hb.small hp hP.small
      have hlb2 : lb.length ≤ 2000 := by simpa using hb.labSmall hp hP.small hst
      cases hcl : c.lab with
      | none =>
        rw [hcl] at N7 hnext
        dsimp only [labV] at N7
        have hnext : BfsIn G a st (if c.nx ∈ rc then rc else rc ++ [c.nx]) k (i + 1) (lb.map Prod.fst) := by simpa using hnext
        k_steps
        · rename Fr g L _ _ => F8
          rename News g L _ _ => N8
          rw [if_pos (by assumption : c.nx ∈ rc)] at hnext
          skip
          exact ⟨_, _, _, _, _, rfl, F8, N8, hO, hS, hoff2, rc, lb, _, _, _, hnext, funext cf_arc, rfl⟩
        · rename Fr g L _ _ => F8
          rename News g L _ _ => N8
          rw [if_neg (by assumption : ¬ c.nx ∈ rc)] at hnext
          rw [ref_push] at N8
          exact ⟨_, _, _, _, _, rfl, F8, N8, hO, hS, hoff2, (rc ++ [c.nx]), lb, _, _, _, hnext, funext cf_arc, rfl⟩
      | some x =>
        obtain ⟨σ, t⟩ := x
        rw [hcl] at N7 hnext
        dsimp only [labV] at N7
        have hnext : BfsIn G a st (if c.nx ∈ rc then rc else rc ++ [c.nx]) k (i + 1) ((lb ++ [(σ, t)]).map Prod.fst) := by simpa using hnext
        k_steps
        · rename Fr g L _ _ => F8
          rename News g L _ _ => N8
          rw [if_pos (by assumption : c.nx ∈ rc)] at hnext
          rw [sg_push] at N8
          exact ⟨_, _, _, _, _, rfl, F8, N8, hO, hS, hoff2, rc, (lb ++ [(σ, t)]), _, _, _, hnext, funext cf_arc, rfl⟩
        · rename Fr g L _ _ => F8
          rename News g L _ _ => N8
          rw [if_neg (by assumption : ¬ c.nx ∈ rc)] at hnext
          rw [ref_push, sg_push] at N8
          exact ⟨_, _, _, _, _, rfl, F8, N8, hO, hS, hoff2, (rc ++ [c.nx]), (lb ++ [(σ, t)]), _, _, _, hnext, funext cf_arc, rfl⟩
    · rintro m₁ nx h3 tk3 ⟨rc, lb, cr, cl, m'', hb, rfl, rfl⟩ F6 N6
      rw [show st.lst.length = st.arcs.length from by unfold St.lst; simp] at hb
      exact SegQ.next ⟨rc, lb, cr, cl, m'', h3, tk3, rfl, hb, F6, News.sub N6 (by (first | with_reducible exact subId | ((repeat' (first | with_reducible exact subId | with_reducible exact subNil | with_reducible refine subCC ?_ | with_reducible refine subCons ?_ ?_ | with_reducible refine subApp ?_ ?_)) <;> kse_small) | (intro q hq; first | (simp only [List.mem_cons, List.mem_append, hq, true_or, or_true]; done) | (simp only [List.mem_cons, List.mem_append] at hq ⊢; grind))))⟩
  · rename ¬ _ < _ => hlt
    rename Fr g L _ _ => F2
    rename News g L _ _ => N2
    have hle := hb.le
    obtain rfl : k = rc.length := by kmod_is
    exact SegQ.next ⟨_, _, rc, lb, _, _, _, _, rfl, hb, F2, N2⟩

end
section
open PyProof.Rows.LCg PyProof.Rows.LCt
theorem fillCE (w : World) (h : Heap) : (hd.heap_1 w.params).In h → PySem.Challenge.rw_iv0024_01.row.prog = PySem.Challenge.rw_iv0024_01.row.prog := by w_top off; k_fill; intro _; rfl
local macro_rules | `(tactic| walk_at "compareOp NotIn ref ref") => tac "here ; wp compareOp _ ( Value.ref _ ) ( Value.ref _ ) ; df { by notInRefs0 ?F ?X ?N ?m ?hx ?ha ?u ?hin ? ; F=asm ; X=asm ; N=asm ; m=mem ; hx=z17 ; ha=z18 ; u=units ; hin=ass ; whole }"
local macro_rules | `(tactic| walk_at "compareOp NotEq ref ref") => tac "here ; stop"
local macro_rules | `(tactic| walk_at "subscriptTail Name Slice ref ref") => tac "here ; stop"
local macro_rules | `(tactic| walk_at "call builtin:sorted") => tac "here ; stop"
theorem text_ok (σ : Sg) : PyData.strOk σ.text = true := by generalize σ = τ; revert τ; refine sgAll ?_; decide +kernel
theorem texts_ok {l : List Sg} {ss : List Str} (h : ss.Perm (l.map Sg.text)) : ∀ x ∈ ss, PyData.strOk x = true := fun x hx => by
  obtain ⟨σ, _, rfl⟩ := List.mem_map.mp (h.mem_iff.mp hx)
  exact text_ok σ
theorem filter_take {rl : List (Sg × Tok)} {i : Nat} {σ : Sg} {t : Tok} (h : rl[i]? = some (σ, t)) : ((rl.take (i + 1)).map Prod.fst).filter isName = ((rl.take i).map Prod.fst).filter isName ++ (if isName σ then [σ] else []) := by
  rw [List.take_add_one, h]
  simp [List.filter_cons]
theorem strs_add {ys : List Value} {l : List Sg} {σ : Sg} {t : Tok} (h : StrsAre ys (l.map Sg.text)) : StrsAre (ys ++ [.str σ.text t]) ((l ++ [σ]).map Sg.text) := by
  rw [List.map_append]
  revert h
  generalize l.map Sg.text = ss
  intro h
  induction h with
  | nil => exact .cons _ _ .nil
  | cons k u _ ih => exact .cons _ _ ih
theorem strs_same {ys : List Value} {l l' : List Sg} (h : StrsAre ys (l.map Sg.text)) (e : l = l') : StrsAre ys (l'.map Sg.text) := e ▸ h
set_option maxRecDepth 100000 in
set_option maxHeartbeats 1500000 in
theorem segEnd {w : World} {mean : ExcName → Option Value} {mg mb : Str → Option Value} {g base : Heap} {L fa Ra La cr cl z da dc : Nat} {ccd start kv : Value} {m : Str → Option Value} {s : Shared} {Q : Flow → Shared → Prop} {E : Value → Shared → Prop} {rc : List Nat} {lb : List (Sg × Tok)} {x0 x1 : Sg × Tok} {rl : List (Sg × Tok)} {nws : List (Addr × Obj)}
    (B : Below callerA base [] g) (F : Fr g L s.heap (cf (.ref da) start (.ref z) (.ref Ra) (.ref La) kv m)) (X : (hd.heap_1 w.params).In g) (T : Top vw (looseW vw [Str.ofString "PythonTokenTypes", Str.ofString "_tuplegetter", Str.ofString "PythonToken"]) mean mg mb g) (N : News g L s.heap ((Ra, listOf (rc.map Value.ref).toArray cr) :: (La, listOf (lb.map sgV).toArray cl) :: nws))
    (hd : (da, listOf (sgV x0 :: sgV x1 :: rl.map sgV).toArray dc) ∈ nws) (hA : AllSt rc nws) (hI : InSt z nws) (hz : z ∈ rc) (hperm : (lb.map Prod.fst).Perm ((rl.map Prod.fst).filter isName)) (hlb : ((rl.map Prod.fst).filter isName).length < 64) (hrl : rl.length < 1000)
    (hE : PassesOwn (model PySem.Challenge.rw_iv0024_01.row.prog w) (callerA.deeper (envX (Str.ofString "law") (lawScope w.params) L fa ccd [])) (envX (Str.ofString "law") (lawScope w.params) L fa ccd []) E)
    (next : ∀ (h' : Heap) (tk' : Nat) m', Fr g L h' m' → News g L h' nws → Q .next { s with heap := h', toks := tk' }) :
    wpAny (model PySem.Challenge.rw_iv0024_01.row.prog w) (callerA.deeper (envX (Str.ofString "law") (lawScope w.params) L fa ccd [])) (execs (zipRest w.params 4) (envX (Str.ofString "law") (lawScope w.params) L fa ccd [])) Q E s := by
  have hb : zipRest w.params 4 = zipRest w.params 4 := rfl
  conv at hb => lhs; whnf
  rw [← hb]; clear hb
  generalize hcs : lawScope w.params = cs at *
  conv at hcs => lhs; whnf
  subst hcs
  have hl64 : (lb.map sgV).length < 64 := by
    have := hperm.length_eq
    simp only [List.length_map] at this ⊢
    kmod_is
  k_steps
  rename Fr g L _ _ => F1
  rename News g L _ _ => N1
  refine Stop.go (sorted_N_str F1 N1 (N1.isList (.tail _ (.head _))) (strs_map lb) hl64 ?_)
  intro h1 vs1 ss1 e1 F2 N2 hS1 hp1 hs1
  k_steps
  refine Stop.go (ListComp_T (F₀ := by k_asm) (by with_unfolding_all rfl) (by decide) (by rfl) (by decide) (by rfl) ?_)
  k_steps
  refine Stop.go (sliceFrom (a := 2) (by exact rfl) (by k_asm) (by k_asm) (.tail _ (.tail _ (.tail _ hd))) (by simp only [List.length_cons, List.length_map]; kmod_is) ?_)
  intro (D : Nat) h3 F3 N3 l3
  k_steps
  rename News g L _ _ => N3
  rename Fr g L _ _ => F3
  generalize hb0 : ((s.heap.objs.size + 1, _) :: (Ra, _) :: (La, _) :: nws : List (Addr × Obj)) = base0 at N3
  have N3 : News g L _ ((D, listOf (rl.map sgV).toArray 0) :: base0) := N3
  refine CompSrcT.ledger rfl F3 N3 (.head _) (by simp only [List.size_toArray, List.length_map]; unfold sizeLine; kmod_is) fun g0 => ?_
  refine comp_indT _ (fun i ys nw => ((∀ q ∈ base0, q ∈ nw) ∧ (D, listOf (rl.map sgV).toArray 0) ∈ nw) ∧ StrsAre ys ((((rl.take i).map Prod.fst).filter isName).map Sg.text)) ?_ ?_ _ 0 [] _ (Nat.zero_add _) ⟨⟨fun q hq => .tail _ hq, .head _⟩, .nil⟩
  · rintro ys nw ⟨⟨hnw, hDm⟩, hys⟩
    intro (D2 : Nat) h2 tk2 F4 N4 o2
    rw [List.take_of_length_le (by simp)] at hys
    have N4 : News g L h2 ((D2, lst ys) :: base0) := News.sub N4 (fun q hq => by
      rcases List.mem_cons.mp hq with rfl | hq
      · exact .head _
      · exact .tail _ (hnw q hq))
    rw [← hb0] at N4
    clear N3 F3
    k_steps
    rename News g L _ _ => N5
    rename Fr g L _ _ => F5
    have hl64' : ys.length < 64 := by
      rw [hys.length]; simpa using hlb
    refine Stop.go (sorted_N_str F5 N5 (N5.isList (.head _)) hys hl64' ?_)
    intro h6 vs2 ss2 e2 F6 N6 hS2 hp2 hs2
    k_steps
    rename News g L _ _ => N7
    have e12 : ss1 = ss2 := by
      refine sorted_unique hs1 hs2 (hp1.trans (.trans ?_ hp2.symm))
      have := hperm.map Sg.text
      rw [List.map_map] at this
      exact this
    have ok1 : ∀ x ∈ ss1, PyData.strOk x = true := texts_ok (l := lb.map Prod.fst) (by rw [List.map_map]; exact hp1)
    subst e12
    refine Stop.go (ne_strs (N7.isList (.tail _ (.tail _ (.head _)))) hS1 (N7.isList (.head _)) hS2 (by ktr_units) ok1 ok1 ?_)
    k_steps
    · rename Fr g L _ _ => F8
      rename News g L _ _ => N8
      exact next _ _ _ F8 (News.sub N8 (by (first | with_reducible exact subId | ((repeat' (first | with_reducible exact subId | with_reducible exact subNil | with_reducible refine subCC ?_ | with_reducible refine subCons ?_ ?_ | with_reducible refine subApp ?_ ?_)) <;> kse_small) | (intro q hq; first | (simp only [List.mem_cons, List.mem_append, hq, true_or, or_true]; done) | (simp only [List.mem_cons, List.mem_append] at hq ⊢; grind)))))
    · exact absurd rfl (by assumption)
  · rintro i ys nw v I oI C oC D2 m₂ h2 tk2 E' hi ⟨⟨hnw, hDm⟩, hys⟩ hP hC hx F4 N4 o4 ne4
    have hP : (rl.map sgV)[i]? = some v := by simpa using hP
    rw [List.getElem?_map, Option.map_eq_some_iff] at hP
    obtain ⟨⟨σ, u⟩, hi2, rfl⟩ := hP
    have hx : m₂ (Str.ofString "sign") = some (.str σ.text u) := hx
    have hft := filter_take hi2
    k_steps
    · rename Fr g L _ _ => F5
      rename News g L _ _ => N5
      rename isName σ = true => hc
      rw [if_pos hc] at hft
      refine CompEnd.intro F5 N5 nw (by (first | with_reducible exact subId | ((repeat' (first | with_reducible exact subId | with_reducible exact subNil | with_reducible refine subCC ?_ | with_reducible refine subCons ?_ ?_ | with_reducible refine subApp ?_ ?_)) <;> kse_small) | (intro q hq; first | (simp only [List.mem_cons, List.mem_append, hq, true_or, or_true]; done) | (simp only [List.mem_cons, List.mem_append] at hq ⊢; grind)))) o4 (.inr ⟨_, hDm, rfl, _, rfl⟩) ⟨⟨hnw, hDm⟩, ?_⟩
      rw [hft]
      exact strs_add hys
    · rename Fr g L _ _ => F5
      rename News g L _ _ => N5
      rename isName σ = false => hc
      rw [if_neg (by rw [hc]; exact Bool.false_ne_true), List.append_nil] at hft
      refine CompEnd.intro F5 N5 nw (by (first | with_reducible exact subId | ((repeat' (first | with_reducible exact subId | with_reducible exact subNil | with_reducible refine subCC ?_ | with_reducible refine subCons ?_ ?_ | with_reducible refine subApp ?_ ?_)) <;> kse_small) | (intro q hq; first | (simp only [List.mem_cons, List.mem_append, hq, true_or, or_true]; done) | (simp only [List.mem_cons, List.mem_append] at hq ⊢; grind)))) o4 (.inr ⟨_, hDm, rfl, _, rfl⟩) ⟨⟨hnw, hDm⟩, ?_⟩
      rw [hft]
      exact hys

end
section
theorem fillCk (w : World) (h : Heap) : (hd.heap_1 w.params).In h → PySem.Challenge.rw_iv0024_01.row.prog = PySem.Challenge.rw_iv0024_01.row.prog := by w_top off; k_fill; intro _; rfl
local macro_rules | `(tactic| walk_at "call type:zip") => tac "here ; stop"
local macro_rules | `(tactic| walk_at "exec For Tuple Call cons nil") => tac "here ; stop"
noncomputable def zipTarget (P : Params) : PySem.Expr := match lawRest P 11 with
  | (.For t _ _ _ _) :: _ => t
  | _ => default
theorem allObj_mk : ∀ {ws : List (Addr × String)} {k : List (Addr × Obj) → Prop}, (∀ its, its.map Prod.fst = ws.map Prod.fst → k its) → AllObj ws k
  | [], k, h => h [] rfl
  | w :: ws, k, h => fun o _ => allObj_mk (ws := ws) fun its e => h ((w.1, o) :: its) (by simp [e])
set_option maxRecDepth 100000 in
set_option maxHeartbeats 1500000 in
theorem assignPair {w : World} {mean : ExcName → Option Value} {mg mb : Str → Option Value} {g base : Heap} {L fa da t tt : Nat} {ccd : Value} {m : Str → Option Value} {s : Shared} {Q : Unit → Shared → Prop} {E : Value → Shared → Prop} {nws : List (Addr × Obj)}
    (B : Below callerA base [] g) (F : Fr g L s.heap m) (X : (hd.heap_1 w.params).In g) (T : Top vw (looseW vw [Str.ofString "PythonTokenTypes", Str.ofString "_tuplegetter", Str.ofString "PythonToken"]) mean mg mb g) (N : News g L s.heap nws) (hT : IsTup s.heap tt #[.ref da, .ref t])
    (hQ : ∀ (h' : Heap) (tk' : Nat), Fr g L h' (pf (.ref da) (.ref t) m) → News g L h' nws → Q () { s with heap := h', toks := tk' }) :
    wpAny (model PySem.Challenge.rw_iv0024_01.row.prog w) (callerA.deeper (envX (Str.ofString "law") (lawScope w.params) L fa ccd [])) (assign (zipTarget w.params) (envX (Str.ofString "law") (lawScope w.params) L fa ccd []) (.ref tt)) Q E s := by
  have hb : zipTarget w.params = zipTarget w.params := rfl
  conv at hb => lhs; whnf
  rw [← hb]; clear hb
  generalize hcs : lawScope w.params = cs at *
  conv at hcs => lhs; whnf
  subst hcs
  k_steps
  exact hQ _ _ (by k_asm) (by k_asm)
/-- a row that is due and the row that was told go together -/
structure RowFits (d : DRow) (r : Row) : Prop where
  ex : ∃ u0 x1 rl, d.sg = (r.σ, u0) :: x1 :: rl ∧ r.ls = (rl.map Prod.fst).filter isName ∧ ((rl.map Prod.fst).filter isName).length < 64 ∧ rl.length < 1000
  piece : PieceB r.G r.x r.z r.ls
noncomputable def Fits (P : Params) (nws : List (Addr × Obj)) : List DRow → List Row → Prop
  | [], [] => True
  | d :: dl, r :: rs => RowFits d r ∧ d.ent ∈ nws ∧ (∀ q ∈ r.led P, q ∈ nws) ∧ Fits P nws dl rs
  | _, _ => False
theorem st_at {P : Params} {r : Value} {G : List St} {x : Nat} {nws : List (Addr × Obj)} (h : x ∈ G.map St.x) (hG : ∀ q ∈ gled P r G, q ∈ nws) : ∃ xd k1 k2 al, (x, instObj 142 xd) ∈ nws ∧ (xd, dictOf (stEnts P k1 k2 r al) 2) ∈ nws := by
  obtain ⟨st, hs, rfl⟩ := List.mem_map.mp h
  exact ⟨st.xd, st.k1, st.k2, st.al, hG _ (st_mem hs _ (.head _)), hG _ (st_mem hs _ (.tail _ (.head _)))⟩
/-- one turn of the law's last loop -/
theorem rowTurn {w : World} {mean : ExcName → Option Value} {mg mb : Str → Option Value} {g base : Heap} {L fa : Nat} {ccd : Value} {m : Str → Option Value} {s : Shared} {Q : Flow → Shared → Prop} {E : Value → Shared → Prop} {d : DRow} {r : Row} {nws : List (Addr × Obj)}
    (B : Below callerA base [] g) (F : Fr g L s.heap (pf (.ref d.a) (.ref r.t) m)) (X : (hd.heap_1 w.params).In g) (T : Top vw (looseW vw [Str.ofString "PythonTokenTypes", Str.ofString "_tuplegetter", Str.ofString "PythonToken"]) mean mg mb g) (N : News g L s.heap nws) (hf : RowFits d r) (hd : d.ent ∈ nws) (hr : ∀ q ∈ r.led w.params, q ∈ nws)
    (hE : PassesOwn (model PySem.Challenge.rw_iv0024_01.row.prog w) (callerA.deeper (envX (Str.ofString "law") (lawScope w.params) L fa ccd [])) (envX (Str.ofString "law") (lawScope w.params) L fa ccd []) E)
    (next : ∀ (h' : Heap) (tk' : Nat) m', Fr g L h' m' → News g L h' nws → Q .next { s with heap := h', toks := tk' }) :
    wpAny (model PySem.Challenge.rw_iv0024_01.row.prog w) (callerA.deeper (envX (Str.ofString "law") (lawScope w.params) L fa ccd [])) (execs (zipRest w.params 0) (envX (Str.ofString "law") (lawScope w.params) L fa ccd [])) Q E s := by
  obtain ⟨⟨u0, x1, rl, e1, e2, e3, e4⟩, hp⟩ := hf
  have hG : ∀ q ∈ gled w.params (.str r.σ.text r.rt) r.G, q ∈ nws := fun q hq => hr q (.tail _ hq)
  obtain ⟨xd, k1, k2, al, hx1, hx2⟩ := st_at hp.ain hG
  obtain ⟨zd, k3, k4, al', hz1, hz2⟩ := st_at hp.zin hG
  have hd' : (d.a, listOf (sgV (r.σ, u0) :: sgV x1 :: rl.map sgV).toArray d.c) ∈ nws := by
    have := hd
    unfold DRow.ent at this
    rw [e1] at this
    exact this
  refine segPair (nws := nws) (rv := sgV x1 :: rl.map sgV) (u0 := u0) B F X T (nt := r.nt) (xd := xd) (zd := zd) (k1 := k1) (k2 := k2) (k3 := k3) (k4 := k4) (xal := al) (zal := al') (rt := r.rt) (σ := r.σ) (dc := d.c) (x := r.x) (z := r.z) ?_ hE ?_
  · refine News.sub N fun q hq => ?_
    rcases List.mem_cons.mp hq with rfl | hq
    · exact hr _ (.head _)
    rcases List.mem_cons.mp hq with rfl | hq
    · exact hx1
    rcases List.mem_cons.mp hq with rfl | hq
    · exact hx2
    rcases List.mem_cons.mp hq with rfl | hq
    · exact hz1
    rcases List.mem_cons.mp hq with rfl | hq
    · exact hz2
    rcases List.mem_cons.mp hq with rfl | hq
    · exact hd'
    · exact hq
  intro h1 tk1 Ra La t0 m1 hRa hLa hne F1 N1
  refine segWhile B F1 X T N1 hRa hLa hne hp hG hE ?_
  intro h2 tk2 rc lb cr cl kv m2 hb F2 N2
  obtain ⟨hz, hperm⟩ := hb.done hp.toPiece
  rw [e2] at hperm
  refine segEnd B F2 X T N2 hd' (fun y hy => ?_) ⟨zd, hz1⟩ hz hperm e3 e4 hE ?_
  · obtain ⟨xd, _, _, _, h, _⟩ := st_at (hb.sub y hy) hG
    exact ⟨xd, h⟩
  · intro h3 tk3 m3 F3 N3
    exact next h3 tk3 m3 F3 N3
theorem zipRows {w : World} {mean : ExcName → Option Value} {mg mb : Str → Option Value} {g base : Heap} {L fa : Nat} {ccd : Value} {s : Shared} {Q : Flow → Shared → Prop} {E : Value → Shared → Prop} {nws keep : List (Addr × Obj)} {ws : List (Addr × String)}
    (B : Below callerA base [] g) (X : (hd.heap_1 w.params).In g) (T : Top vw (looseW vw [Str.ofString "PythonTokenTypes", Str.ofString "_tuplegetter", Str.ofString "PythonToken"]) mean mg mb g)
    (hE : PassesOwn (model PySem.Challenge.rw_iv0024_01.row.prog w) (callerA.deeper (envX (Str.ofString "law") (lawScope w.params) L fa ccd [])) (envX (Str.ofString "law") (lawScope w.params) L fa ccd []) E)
    (hk : SubL keep nws) (hoff : ∀ p ∈ nws, ∀ b ∈ ws.map Prod.fst, p.1 ≠ b)
    (next : ∀ (h' : Heap) (tk' : Nat) m', Fr g L h' m' → News g L h' nws → Q .next { s with heap := h', toks := tk' }) :
    ∀ (dl : List DRow) (rs : List Row) (m : Str → Option Value), Fits w.params nws dl rs →
      ItemsRest PySem.Challenge.rw_iv0024_01.row.prog w (callerA.deeper (envX (Str.ofString "law") (lawScope w.params) L fa ccd [])) E g (envX (Str.ofString "law") (lawScope w.params) L fa ccd []) (zipTarget w.params) (zipRest w.params 0) Q s ws keep (zipItems (dl.map DRow.ref) (told rs)) m nws
  | [], [], m, _ => fun h tk F N => next h tk m F N
  | [], _ :: _, _, h => h.elim
  | _ :: _, [], _, h => h.elim
  | d :: dl, r :: rs, m, ⟨hf, hd, hr, hrest⟩ => by
    refine ItemsRest.pair fun T' t h tk hT F => allObj_mk fun its hits N => ?_
    refine assignPair (s := { s with heap := h, toks := tk }) (nws := its ++ nws) B F X T N hT fun h1 tk1 F1 N1 => ?_
    refine rowTurn (s := { s with heap := h1, toks := tk1 }) (nws := its ++ nws) B F1 X T N1 hf (List.mem_append_right _ hd) (fun q hq => List.mem_append_right _ (hr q hq)) hE fun h2 tk2 m2 F2 N2 => ?_
    refine ⟨h2, tk2, m2, nws, rfl, F2, N2, fun p hp q hq => ?_, hk, zipRows B X T hE hk hoff next dl rs m2 hrest⟩
    exact hoff p hp q.1 (by rw [← hits]; exact List.mem_map.mpr ⟨q, hq, rfl⟩)
set_option maxRecDepth 100000 in
set_option maxHeartbeats 1500000 in
theorem segCheck {w : World} {mean : ExcName → Option Value} {mg mb : Str → Option Value} {g base : Heap} {L fa due S cd c : Nat} {ccd script pool rows row good : Value} {m : Str → Option Value} {s : Shared} {Q : Flow → Shared → Prop} {E : Value → Shared → Prop} {dl : List DRow} {rs : List Row} {nws : List (Addr × Obj)}
    (B : Below callerA base [] g) (F : Fr g L s.heap (fun y => if y = Str.ofString "told" then some (.ref S) else l3 script pool rows (.ref due) row good m y)) (X : (hd.heap_1 w.params).In g) (T : Top vw (looseW vw [Str.ofString "PythonTokenTypes", Str.ofString "_tuplegetter", Str.ofString "PythonToken"]) mean mg mb g)
    (N : News g L s.heap nws) (hS : (S, listOf (told rs).toArray c) ∈ nws) (hD : (due, listOf (dl.map DRow.ref).toArray cd) ∈ nws) (hf : Fits w.params nws dl rs)
    (hE : PassesOwn (model PySem.Challenge.rw_iv0024_01.row.prog w) (callerA.deeper (envX (Str.ofString "law") (lawScope w.params) L fa ccd [])) (envX (Str.ofString "law") (lawScope w.params) L fa ccd []) E)
    (hret : ∀ (h' : Heap) (tk' : Nat) m', Fr g L h' m' → Q (.ret (.bool true)) { s with heap := h', toks := tk' }) :
    wpAny (model PySem.Challenge.rw_iv0024_01.row.prog w) (callerA.deeper (envX (Str.ofString "law") (lawScope w.params) L fa ccd [])) (execs (lawRest w.params 11) (envX (Str.ofString "law") (lawScope w.params) L fa ccd [])) Q E s := by
  have hzr : zipRest w.params 0 = zipRest w.params 0 := rfl
  conv at hzr => lhs; whnf
  have hzt : zipTarget w.params = zipTarget w.params := rfl
  conv at hzt => lhs; whnf
  have hsc : lawScope w.params = lawScope w.params := rfl
  conv at hsc => lhs; whnf
  have hz := fun (s₁ : Shared) (Q : Flow → Shared → Prop) (ws : List (Addr × String)) (keep : List (Addr × Obj)) hk hoff next => @zipRows w mean mg mb g base L fa ccd s₁ Q E nws keep ws B X T hE hk hoff next dl rs
  rw [← hzr, ← hzt, ← hsc] at hz
  have hb : lawRest w.params 11 = lawRest w.params 11 := rfl
  conv at hb => lhs; whnf
  rw [← hb]; clear hb
  rw [← hsc] at hE ⊢
  refine seg_cons (fun s' => ∃ (h' : Heap) (tk' : Nat) (m' : Str → Option Value), s' = { s with heap := h', toks := tk' } ∧ Fr g L h' m' ∧ News g L h' nws) ?_ ?_
  · k_steps
    rename Fr g L _ _ => F1
    refine Stop.go (For_turns F1 ?_ (hE := hE))
    k_steps
    rename Fr g L _ _ => F2
    rename News g L _ _ => N2
    refine Stop.go (ktu_zip rfl F2 N2 hD rfl rfl hS rfl rfl fun I hI => ?_)
    refine hz _ _ _ _ (by exact ⟨hD, hS, trivial⟩) (fun p hp b hb => ?_) (fun h' tk' m' F' N' => SegQ.next ⟨h', tk', m', rfl, F', N'⟩) _ hf
    have := hI p hp
    simp only [List.map_cons, List.map_nil, List.mem_cons, List.not_mem_nil, or_false] at hb
    rcases hb with rfl | rfl | rfl | rfl | rfl
    · exact ktu_ne 4 this
    · exact ktu_ne 2 this
    · exact ktu_ne 3 this
    · exact Nat.ne_of_lt this
    · exact ktu_ne 1 this
  · rintro _ ⟨h', tk', m', rfl, F', N'⟩
    k_steps
    exact hret _ _ _ (by k_asm)

end
section
noncomputable def Tidy (l : List Sg) : Prop := ∀ p, l = p ++ [.nl] → ∃ p' σ, p = p' ++ [σ] ∧ σ ≠ .nl
theorem stripR_tidy : ∀ (r p : List Sg), strip.stripR r = .nl :: p → ∃ σ p', p = σ :: p' ∧ σ ≠ .nl := by
  intro r
  induction r with
  | nil => intro p h; simp [strip.stripR] at h
  | cons x r ih =>
    intro p h
    by_cases hx : x = .nl
    · subst hx
      rw [strip.stripR.eq_2] at h
      split at h
      · exact ih p h
      · rename_i hc
        obtain rfl := (List.cons.inj h).2
        cases r with
        | nil => simp at hc
        | cons y r => exact ⟨y, r, rfl, by simpa using hc⟩
    · rw [strip.stripR.eq_3 _ _ (by simpa using hx)] at h
      exact absurd (List.cons.inj h).1 hx
theorem strip_tidy (l : List Sg) : Tidy (strip l) := by
  intro p h
  have h' : strip.stripR l.reverse = .nl :: p.reverse := by
    have := congrArg List.reverse h
    simpa [strip] using this
  obtain ⟨σ, p', h1, h2⟩ := stripR_tidy _ _ h'
  refine ⟨p'.reverse, σ, ?_, h2⟩
  have := congrArg List.reverse h1
  simpa using this
theorem stripR_mem : ∀ (r : List Sg) (x : Sg), x ∈ strip.stripR r → x ∈ r := by
  intro r
  induction r with
  | nil => intro x h; simp [strip.stripR] at h
  | cons y r ih =>
    intro x h
    by_cases hy : y = .nl
    · subst hy
      rw [strip.stripR.eq_2] at h
      split at h
      · exact .tail _ (ih x h)
      · exact h
    · rw [strip.stripR.eq_3 _ _ (by simpa using hy)] at h
      exact h
theorem stripR_len : ∀ (r : List Sg) (p : Sg → Bool), (strip.stripR r).countP p ≤ r.countP p := by
  intro r p
  induction r with
  | nil => simp [strip.stripR]
  | cons y r ih =>
    by_cases hy : y = .nl
    · subst hy
      rw [strip.stripR.eq_2]
      split
      · rw [List.countP_cons]; kmod_is
      · exact Nat.le_refl _
    · rw [strip.stripR.eq_3 _ _ (by simpa using hy)]; exact Nat.le_refl _
theorem strip_count (l : List Sg) (p : Sg → Bool) : (strip l).countP p ≤ l.countP p := by
  have := stripR_len l.reverse p
  unfold strip
  rw [List.countP_reverse] at this ⊢
  exact this
theorem strip_mem {l : List Sg} {x : Sg} (h : x ∈ strip l) : x ∈ l := by
  unfold strip at h
  rw [List.mem_reverse] at h
  simpa using stripR_mem _ _ h
theorem strip_len (l : List Sg) : (strip l).length ≤ l.length := by
  have := strip_count l fun _ => true
  simpa using this

theorem fold_pre : ∀ (l : List Sg) (ds : List (List Sg)) (c : List Sg), l.foldl stepR (ds, c) = (ds ++ (l.foldl stepR ([], c)).1, (l.foldl stepR ([], c)).2)
  | [], ds, c => by simp
  | σ :: l, ds, c => by
    simp only [List.foldl_cons, stepR]
    split
    · exact fold_pre l ds (c ++ [σ])
    · split
      · rw [fold_pre l (ds ++ [c]) [], fold_pre l ([] ++ [c]) []]; simp
      · exact fold_pre l ds c
theorem fold_plain : ∀ (u c : List Sg), plainRow u → u.foldl stepR ([], c) = ([], c ++ u)
  | [], c, _ => by simp
  | σ :: u, c, h => by
    have h1 := (h σ (.head _)).1
    simp only [List.foldl_cons, stepR, if_pos h1]
    rw [fold_plain u _ fun τ hτ => h τ (.tail _ hτ)]; simp
theorem split_row {u r : List Sg} (hu : plainRow u) (hne : u ≠ []) : splitRows (u ++ .nl :: r) = (u :: (splitRows r).1, (splitRows r).2) := by
  unfold splitRows
  rw [List.foldl_append, fold_plain u [] hu, List.foldl_cons]
  simp only [stepR, ne_eq, not_true_eq_false, if_false, List.nil_append, hne, not_false_eq_true, if_true]
  rw [fold_pre r [u] []]; simp
theorem split_nl {r : List Sg} : splitRows (.nl :: r) = splitRows r := by
  unfold splitRows; simp [stepR]
theorem split_cur {u : List Sg} (hu : plainRow u) : splitRows u = ([], u) := by
  unfold splitRows; rw [fold_plain u [] hu]; simp
theorem cut_row : ∀ (l : List Sg), (∀ σ ∈ l, σ ≠ .em) → ∃ u r, plainRow u ∧ (l = u ∨ l = u ++ .nl :: r)
  | [], _ => ⟨[], [], fun _ h => absurd h (by simp), .inl rfl⟩
  | σ :: l, h => by
    by_cases hσ : σ = .nl
    · exact ⟨[], l, fun _ h => absurd h (by simp), .inr (by rw [hσ]; rfl)⟩
    · obtain ⟨u, r, hu, e⟩ := cut_row l fun τ hτ => h τ (.tail _ hτ)
      refine ⟨σ :: u, r, fun τ hτ => ?_, e.imp (fun e => by rw [e]) fun e => by rw [e]; rfl⟩
      rcases List.mem_cons.mp hτ with rfl | hτ
      · exact ⟨hσ, h _ (.head _)⟩
      · exact hu τ hτ
/-- the sign and the names of a row -/
noncomputable def rowSign (u : List Sg) : Sg × List Sg := (u.head?.getD .em, (u.drop 2).filter isName)
theorem rowOk_eq {σ τ : Sg} {v : List Sg} : rowOk (σ :: τ :: v) = (decide (σ.ty = 58 ∧ τ = .co) && accepts (v.map chOf)) := by
  unfold rowOk
  rw [reads_acc _ _ (by simp; kmod_is)]
  cases v with
  | nil => simp [accepts, runs]
  | cons x v => by_cases h1 : σ.ty = 58 <;> by_cases h2 : τ = .co <;> simp [h1, h2]
theorem row_step {u r : List Sg} (hu : plainRow u) (hne : u ≠ []) (hl : (u ++ .nl :: r).length < 300) (he : Ends (u ++ .nl :: r)) :
    rowG (u ++ .nl :: r) = if rowOk u = true then some ((rowSign u).1, (rowSign u).2, r) else none := by
  match u, hne with
  | [σ], _ =>
    have : rowOk [σ] = false := by simp [rowOk]
    rw [this]
    simp [rowG]
  | σ :: τ :: v, _ =>
    have hv : plainRow v := fun x hx => hu x (.tail _ (.tail _ hx))
    have he2 : Ends (v ++ .nl :: r) := ((he.tail (hu σ (.head _)).2).2.tail (hu τ (.tail _ (.head _))).2).2
    show rowG (σ :: τ :: (v ++ .nl :: r)) = _
    rw [row_p (by simp only [List.cons_append, List.length_cons] at hl; kmod_is) he2, pRun_row v _ r hv, rowOk_eq]
    by_cases hc : σ.ty = 58 ∧ τ = .co
    · rw [if_pos hc, decide_eq_true hc, Bool.true_and]
      by_cases ha : accepts (v.map chOf) = true
      · rw [if_pos ha]
        obtain ⟨q', h1, h2, h3⟩ := accepts_iff.mp ha
        rw [h1]; dsimp only; rw [if_pos ⟨h2, h3⟩]; rfl
      · rw [if_neg ha]
        cases hr : runs (.s, []) (v.map chOf) with
        | none => rfl
        | some q' =>
          dsimp only
          rw [if_neg fun h => ha (accepts_iff.mpr ⟨q', hr, h⟩)]; rfl
    · rw [if_neg hc, decide_eq_false hc]; rfl
theorem row_em {u : List Sg} (hu : plainRow u) (hl : (u ++ [Sg.em]).length < 300) (he : Ends (u ++ [Sg.em])) : rowG (u ++ [Sg.em]) = none := by
  match u with
  | [] => rfl
  | [σ] => simp [rowG]
  | σ :: τ :: v =>
    have hv : plainRow v := fun x hx => hu x (.tail _ (.tail _ hx))
    have he2 : Ends (v ++ [Sg.em]) := ((he.tail (hu σ (.head _)).2).2.tail (hu τ (.tail _ (.head _))).2).2
    show rowG (σ :: τ :: (v ++ [Sg.em])) = _
    rw [row_p (by simp only [List.cons_append, List.length_cons] at hl; kmod_is) he2, pRun_em v _ hv]
    simp
theorem ends_end : ∀ {l : List Sg}, (∀ σ ∈ l, σ ≠ .em) → Ends (l ++ [Sg.em])
  | [], _ => rfl
  | [σ], h => ⟨h σ (.head _), rfl⟩
  | σ :: τ :: l, h => ⟨h σ (.head _), ends_end (l := τ :: l) fun x hx => h x (.tail _ hx)⟩
theorem skip_split : ∀ l : List Sg, (∀ σ ∈ l, σ ≠ .em) → ∃ q l' : List Sg, l = q ++ l' ∧ skipNl (l ++ [Sg.em]) = l' ++ [Sg.em] ∧ splitRows l = splitRows l' ∧ l'.head? ≠ some .nl ∧ (∀ σ ∈ q, σ = .nl)
  | [], _ => ⟨[], [], rfl, rfl, rfl, by simp, fun _ h => absurd h (by simp)⟩
  | σ :: l, h => by
    by_cases hσ : σ = .nl
    · subst hσ
      obtain ⟨q, l', h1, h2, h3, h4, h5⟩ := skip_split l fun τ hτ => h τ (.tail _ hτ)
      refine ⟨.nl :: q, l', by rw [h1]; rfl, h2, split_nl.trans h3, h4, fun τ hτ => ?_⟩
      rcases List.mem_cons.mp hτ with rfl | hτ
      · rfl
      · exact h5 τ hτ
    · exact ⟨[], σ :: l, rfl, by cases σ <;> first | rfl | exact (hσ rfl).elim, rfl, by simpa using hσ, fun _ h => absurd h (by simp)⟩
theorem gen_split : ∀ (n : Nat) (l : List Sg), l.length < n → (∀ σ ∈ l, σ ≠ .em) → l.length < 290 → Tidy l →
    (genRows n (l ++ [Sg.em])).2 = ((splitRows l).1.all rowOk && (splitRows l).2.isEmpty) ∧ ((genRows n (l ++ [Sg.em])).2 = true → (genRows n (l ++ [Sg.em])).1 = (splitRows l).1.map rowSign)
  | 0, l, h, _, _, _ => absurd h (Nat.not_lt_zero _)
  | n + 1, l, hn, hem, hl, ht => by
    obtain ⟨q, l', e1, e2, e3, e4, e5⟩ := skip_split l hem
    rw [e3]
    have hem' : ∀ σ ∈ l', σ ≠ .em := fun σ h => hem σ (by rw [e1]; exact List.mem_append_right _ h)
    have hl' : l'.length ≤ l.length := by rw [e1]; simp
    unfold genRows
    by_cases hl0 : l = []
    · subst hl0
      have := List.append_eq_nil_iff.mp e1.symm
      rw [this.2]
      simp [splitRows]
    have hh : (l ++ [Sg.em]).head? ≠ some .em := by
      cases l with
      | nil => exact (hl0 rfl).elim
      | cons x l => simpa using hem x (.head _)
    rw [if_neg hh, rowF, e2]
    by_cases hl'0 : l' = []
    · exfalso
      rw [hl'0, List.append_nil] at e1
      rw [← e1] at e5
      rcases List.eq_nil_or_concat l with h | ⟨p, x, h⟩
      · exact hl0 h
      · rw [List.concat_eq_append] at h
        have hx : x = .nl := e5 x (by rw [h]; simp)
        rw [hx] at h
        obtain ⟨p', σ, h1, h2⟩ := ht p h
        exact h2 (e5 σ (by rw [h, h1]; simp))
    obtain ⟨u, r, hu, e⟩ := cut_row l' hem'
    rcases e with e | e
    · subst e
      rw [row_em hu (by simp only [List.length_append, List.length_cons, List.length_nil]; kmod_is) (ends_end hem'), split_cur hu]
      simp [hl'0]
    · have hu0 : u ≠ [] := by rintro rfl; rw [e] at e4; exact e4 rfl
      have er : l' ++ [Sg.em] = u ++ .nl :: (r ++ [Sg.em]) := by rw [e]; simp
      have hr : r.length < l'.length := by rw [e]; simp; kmod_is
      rw [er, row_step hu hu0 (by rw [← er]; simp; kmod_is) (by rw [← er]; exact ends_end hem'), e, split_row hu hu0]
      have htr : Tidy r := by
        intro p hp
        have h0 : l = (q ++ u ++ .nl :: p) ++ [.nl] := by rw [e1, e, hp]; simp
        obtain ⟨p', σ, h1, h2⟩ := ht _ h0
        rcases List.eq_nil_or_concat p with h | ⟨p2, x, h⟩
        · subst h
          have := congrArg List.getLast? h1
          simp at this
          exact (h2 this.symm).elim
        · rw [List.concat_eq_append] at h
          refine ⟨p2, x, h, ?_⟩
          have := congrArg List.getLast? h1
          rw [h] at this
          simp [List.getLast?_cons, List.getLast?_append] at this
          rw [this]; exact h2
      obtain ⟨i1, i2⟩ := gen_split n r (by kmod_is) (fun σ h => hem' σ (by rw [e]; simp [h])) (by kmod_is) htr
      by_cases ho : rowOk u = true
      · rw [if_pos ho]
        dsimp only
        refine ⟨by rw [i1]; simp [ho], fun h => by rw [i2 h]; rfl⟩
      · rw [if_neg ho]
        simp [ho]

end
section
theorem nolen_lri : typeLookup (.type "list_reverseiterator") "__len__" = pure none := by rw [typeLookup_type, builtinLookup_eq_fast]; kernel_rfl
theorem hint_lri : typeLookup (.type "list_reverseiterator") "__length_hint__" = pure (some (.builtin "list_reverseiterator.__length_hint__")) := by rw [typeLookup_type, builtinLookup_eq_fast]; kernel_rfl
section
variable {prog : Program} {w : World} {A : Around} {s : Shared} {R : Result → Shared → Prop}
theorem extend_rev {l I : Addr} {items : Array Value} (hh : A.handled = none) (hne : l ≠ I) (hit : s.heap.IsRevIter I l ((items.size : Int) - 1)) (hl : s.heap.IsList l items) (S : Addr) (res : Value) (c₀ : Nat) (hSI : S ≠ I) (hSl : S ≠ l)
    (hS : s.heap.get? S = some { cls := .type "list", data := .seq #[] c₀ }) (hn : items.size ≤ sizeLine)
    (hR : ∀ h' tk acc' c', (∀ b o, b ≠ S → b ≠ I → s.heap.get? b = some o → h'.get? b = some o) → h'.get? S = some { cls := .type "list", dict := none, data := .seq acc' c', slots := #[] } →
      ItemsOf (fun i v => items[items.size - 1 - i]? = some v) acc' items.size → R (.ok (.ret res)) { s with heap := h', toks := tk }) :
    wpAny (model prog w) A.in1 (Builtin.List.listExtendWith (.ref S) (.ref I) res)
      (fun fin s' => match fin with | .done f => R (.ok f) s' | .again c' => c'.quiet = true ∧ codeAny (model prog w) A c' R s') (fun e s' => R (.error e) s') s := by
  have hSf : S ∉ [I, l] := fun hm => by
    rcases List.mem_cons.mp hm with e | hm
    · exact hSI e
    · exact hSl (List.mem_singleton.mp hm)
  have W := (Walks.listRev (prog := prog) (w := w) (A := A.in1) hh I l hne items).toS
  unfold Builtin.List.listExtendWith
  refine wpAny_bind (wpAny_typeOf hit.typeIs ?_)
  have h1 : Builtin.List.listSameRef (.ref S) (.ref I) = false := by simp [Builtin.List.listSameRef, hSI]
  have h2 : (Value.type "list_reverseiterator" == Value.type "list") = false := by decide
  have h3 : (Value.type "list_reverseiterator" == Value.type "tuple") = false := by decide
  simp only [h1, h2, h3, Bool.or_false, Bool.false_eq_true, if_false]
  refine wpAny_bind (wpAny_pyIter_revIter hit ?_)
  refine wpAny_bind (wpAny_holding ?_)
  unfold Builtin.List.listLengthHint
  refine wpAny_bind (wpAny_specialOf hit.typeIs nolen_lri ?_)
  show wpAny _ A.in1 (specialOf (Value.ref I) (Str.ofString "__length_hint__") >>= _) _ _ _
  refine wpAny_bind (wpAny_specialOf hit.typeIs hint_lri ?_)
  generalize hid : ("list_reverseiterator.__length_hint__" : String) = id0
  wp_delta
  rw [show splitId id0 = some ("list_reverseiterator", "__length_hint__") from by subst hid; decide +kernel]
  subst hid
  refine wpAny_bind (wpAny_isInstance (b := true) hit.typeIs (by rw [isSubtype_type]; kernel_rfl) ?_)
  refine wpAny_pure ?_
  refine wpAny_pure ⟨plainId_quiet F.plain_extend_loop _, codeAny_extend_loopS W hn S hSf res _ 0 s #[] c₀ rfl (Nat.zero_le _) ⟨Nat.zero_le _, by simpa using hit, hl⟩ hS (ItemsOf.nil _) fun s' acc' c' hm hS' hacc => ?_⟩
  rw [Moved.eq_with hm]
  refine hR s'.heap s'.toks acc' c' (fun b o hb hb' e => hm.heap b o (fun hmem => ?_) e) hS' hacc
  rcases List.mem_cons.mp hmem with e' | hmem
  · exact hb e'
  · exact hb' (List.mem_singleton.mp hmem)
theorem init_rev {l I : Addr} {items : Array Value} (hh : A.handled = none) (hne : l ≠ I) (hit : s.heap.IsRevIter I l ((items.size : Int) - 1)) (hl : s.heap.IsList l items) (S : Addr) (hSI : S ≠ I) (hSl : S ≠ l)
    (hS : s.heap.get? S = some { cls := .type "list", data := .seq #[] }) (hn : items.size ≤ sizeLine)
    (hR : ∀ h' tk acc' c', (∀ b o, b ≠ S → b ≠ I → s.heap.get? b = some o → h'.get? b = some o) → h'.get? S = some { cls := .type "list", dict := none, data := .seq acc' c', slots := #[] } →
      ItemsOf (fun i v => items[items.size - 1 - i]? = some v) acc' items.size → R (.ok (.ret .none)) { s with heap := h', toks := tk }) :
    wpAny (model prog w) A.in1 (Builtin.«list.__init__» ⟨[.ref S, .ref I], []⟩)
      (fun fin s' => match fin with | .done f => R (.ok f) s' | .again c' => c'.quiet = true ∧ codeAny (model prog w) A c' R s') (fun e s' => R (.error e) s') s := by
  show wpAny _ _ (do let old ← Builtin.List.listItems (.ref S); Builtin.List.listUpdate (.ref S) (fun _ => #[]); letGo old.toList.reverse; Builtin.List.listExtendWith (.ref S) (.ref I) .none) _ _ s
  refine wpAny_bind ?_
  unfold Builtin.List.listItems
  refine wpAny_bind (wpAny_seqItems hS rfl (wpAny_pure ?_))
  show wpAny _ _ (updateSeq S (fun _ => #[]) >>= fun _ => letGo (#[] : Array Value).toList.reverse >>= fun _ => Builtin.List.listExtendWith (.ref S) (.ref I) .none) _ _ s
  refine wpAny_bind (wpAny_updateSeq hS rfl ?_)
  have hS₂ := Heap.get?_update_self (Obj.mapSeq (fun _ => (#[] : Array Value))) hS rfl
  have oth : ∀ b o, b ≠ S → s.heap.get? b = some o → (s.heap.update S (Obj.mapSeq (fun _ => (#[] : Array Value)))).get? b = some o :=
    fun b o hb e => (Heap.get?_update_other _ _ (Ne.symm hb)).trans e
  refine wpAny_bind (wpAny_letGo ?_)
  refine extend_rev hh hne (hit.at fun o e => oth I o (Ne.symm hSI) e) (hl.at fun o e => oth l o (Ne.symm hSl) e) S .none _ hSI hSl hS₂ hn fun h' tk acc' c' hk hS' hacc => ?_
  exact hR h' tk acc' c' (fun b o hb hb' e => hk b o hb hb' (oth b o hb e)) hS' hacc
theorem items_rev {vs : List Value} {acc : Array Value} (h : ItemsOf (fun i v => vs.toArray[vs.toArray.size - 1 - i]? = some v) acc vs.toArray.size) : acc = vs.reverse.toArray := by
  obtain ⟨h1, h2⟩ := h
  simp only [List.size_toArray] at h1
  apply Array.ext
  · simpa using h1
  · intro i hi hi'
    have hv := h2 i acc[i] (Array.getElem?_eq_getElem hi)
    simp only [List.size_toArray, List.getElem?_toArray] at hv
    have hi2 : i < vs.length := by kmod_is
    have : vs.reverse[i]? = some acc[i] := by
      rw [List.getElem?_reverse hi2]; exact hv
    rw [List.getElem?_eq_getElem (by simpa using hi2)] at this
    simpa using (Option.some.inj this).symm
end
section
variable {w : World} {A : Around} {E : Value → Shared → Prop} {s : Shared} {h₀ : Heap} {L l I : Addr} {m : Str → Option Value} {news : List (Addr × Obj)} {vs : List Value} {lc : Nat} {Q : Value → Shared → Prop}
/-- list(reversed(..)) -/
theorem list_rev (hh : A.handled = none) (F : Fr h₀ L s.heap m) (N : News h₀ L s.heap ((I, revObj l ((vs.length : Int) - 1)) :: news)) (off : ∀ p ∈ news, p.1 ≠ I) (hm : (l, listOf vs.toArray lc) ∈ news) (hz : vs.length < 1000)
    (h : ∀ (S : Nat) c h' tk, Fr h₀ L h' m → News h₀ L h' ((S, listOf vs.reverse.toArray c) :: news) → (∀ p ∈ news, p.1 < S) → Q (.ref S) { s with heap := h', toks := tk }) :
    wpAny (model PySem.Challenge.rw_iv0024_01.row.prog w) A (call (.type "list") [.ref I]) Q E s := by
  have hI := N _ (.head _)
  have hlN := N _ (.tail _ hm)
  have hne : l ≠ I := off _ hm
  have hsz : (vs.toArray.size : Int) = (vs.length : Int) := by simp
  have hit : s.heap.IsRevIter I l ((vs.toArray.size : Int) - 1) := by rw [hsz]; exact ⟨_, hI.1, rfl, rfl⟩
  have hl : s.heap.IsList l vs.toArray := ⟨_, hlN.1, rfl, _, rfl⟩
  have hIlt : I < s.heap.objs.size := Heap.lt_size hI.1
  have hllt : l < s.heap.objs.size := Heap.lt_size hlN.1
  refine callType_codes (Q₁ := fun obj s₁ => obj = .ref s.heap.objs.size ∧ s₁ = { s with heap := s.heap.push { cls := .type "list", data := .seq #[] } }) PySem.F.called_list (PySem.F.typeCall_list_1 _) PySem.F.entry_list_init
    (code_list_new _ ⟨rfl, rfl⟩) fun obj s₁ h₁ => ?_
  obtain ⟨rfl, rfl⟩ := h₁
  have hS : (s.heap.push { cls := .type "list", data := .seq #[] }).get? s.heap.objs.size = some { cls := .type "list", data := .seq #[] } := Heap.get?_push_size _ rfl
  refine ⟨⟨_, hS, rfl⟩, PySem.F.args_list_init_2 _ _, init_rev (A := A.in1) hh hne (hit.at fun o e => Heap.get?_push_of_some _ e) (hl.at fun o e => Heap.get?_push_of_some _ e) _ (Nat.ne_of_gt hIlt) (Nat.ne_of_gt hllt) hS (by simp only [List.size_toArray]; unfold sizeLine; kmod_is) fun h' tk acc' c' hk hS' hacc => ?_⟩
  rw [items_rev hacc] at hS'
  have hk' : ∀ b o, b ≠ I → s.heap.get? b = some o → h'.get? b = some o := fun b o hb e => hk b o (Nat.ne_of_lt (Heap.lt_size e)) hb (Heap.get?_push_of_some _ e)
  have hnew : h₀.get? I = none := hI.2.2
  have hLI : L ≠ I := hI.2.1.symm
  refine ⟨rfl, h _ c' h' tk ⟨F.ns.at' fun o e => hk' L o hLI e, fun b o e => hk' b o (fun q => by rw [q, hnew] at e; cases e) (F.keep b o e), F.above⟩ (fun q hq => ?_) fun p hp => Heap.lt_size (N p (.tail _ hp)).1⟩
  rcases List.mem_cons.mp hq with rfl | hq
  · exact ⟨hS', (Nat.ne_of_gt F.ns.lt), next_is_new F⟩
  · have := N q (.tail _ hq)
    exact ⟨hk' _ _ (off q hq) this.1, this.2⟩
end

end
section
theorem opens_app {a b : List Sg} : opens (a ++ b) = opens a + opens b := by unfold opens; rw [List.countP_append]
theorem opens_cons {σ : Sg} {b : List Sg} : opens (σ :: b) = opens b + (if σ = .lp ∨ σ = .lb then 1 else 0) := by
  unfold opens; rw [List.countP_cons]; simp
theorem atomAt_name (k : Int) : isName (atomAt k) = true ∧ atomAt k ≠ .lp ∧ atomAt k ≠ .lb ∧ atomAt k ≠ .em := by
  unfold atomAt
  generalize k.toNat = n
  match n with
  | 0 => decide
  | 1 => decide
  | 2 => decide
  | 3 => decide
  | 4 => decide
  | 5 => decide
  | 6 => decide
  | n + 7 => simp [atoms, List.getD_eq_getElem?_getD, isName, Sg.ty]
/-- what a side's text holds -/
structure SideIs (l : List Int) (x : List Sg × List Int) (c d : Nat) : Prop where
  op : opens x.1 + x.2.length ≤ l.length + c
  nm : x.1.countP isName + x.2.length ≤ l.length + d
  em : ∀ σ ∈ x.1, σ ≠ .em
theorem pm_opens {r : List Sg} (h : ∀ σ ∈ r, σ = .pl ∨ σ = .st) : opens r = 0 := by unfold opens; rw [List.countP_eq_zero]; intro σ hσ; rcases h σ hσ with rfl | rfl <;> decide
theorem pm_names {r : List Sg} (h : ∀ σ ∈ r, σ = .pl ∨ σ = .st) : r.countP isName = 0 := by rw [List.countP_eq_zero]; intro σ hσ; rcases h σ hσ with rfl | rfl <;> decide
theorem pm_em {r : List Sg} (h : ∀ σ ∈ r, σ = .pl ∨ σ = .st) : ∀ σ ∈ r, σ ≠ .em := fun σ hσ => by rcases h σ hσ with rfl | rfl <;> decide
theorem atom_side {l : List Int} {σ : Sg} {r : List Sg} (a : isName σ = true ∧ σ ≠ .lp ∧ σ ≠ .lb ∧ σ ≠ .em) (h : ∀ σ ∈ r, σ = .pl ∨ σ = .st) : SideIs l (σ :: r, l) 1 1 := by
  refine ⟨?_, ?_, List.forall_mem_cons.mpr ⟨a.2.2.2, pm_em h⟩⟩
  · show opens (σ :: r) + l.length ≤ l.length + 1
    rw [opens_cons, pm_opens h, if_neg (fun e => e.elim a.2.1 a.2.2.1), Nat.zero_add]
    exact Nat.le_succ _
  · show (σ :: r).countP isName + l.length ≤ l.length + 1
    rw [List.countP_cons, pm_names h, if_pos a.1, Nat.add_comm]
    exact Nat.le_refl _
theorem mid_is {R : Nat → List Int → List Sg × List Int} (hR : ∀ d l, SideIs l (R d l) 0 1) (deep : Nat) (number : Int) (l : List Int) : SideIs l (midF R deep number l) 1 1 := by
  have ha := atomAt_name ((number.fdiv 24).fmod 7)
  unfold midF
  split
  · exact atom_side ha (by
      repeat' split
      all_goals first | exact List.forall_mem_singleton.mpr (.inl rfl) | exact List.forall_mem_singleton.mpr (.inr rfl) | exact fun _ h => nomatch h)
  · obtain ⟨b1, b2, b3⟩ := hR (deep - 1) l
    have h1 : ∀ (o c : Sg) (r : List Sg), (o = .lb ∨ o = .lp) → (c = .rb ∨ c = .rp) → (∀ σ ∈ r, σ = .pl ∨ σ = .st) →
        SideIs l (o :: ((R (deep - 1) l).1 ++ c :: r), (R (deep - 1) l).2) 1 1 := by
      intro o c r ho hc hr
      have hr1 := pm_opens hr
      have hr2 := pm_names hr
      have ho1 : isName o = false ∧ o ≠ .em := by rcases ho with rfl | rfl <;> decide
      have hc1 : isName c = false ∧ c ≠ .em ∧ c ≠ .lp ∧ c ≠ .lb := by rcases hc with rfl | rfl <;> decide
      refine ⟨?_, ?_, ?_⟩
      · simp only [opens_cons, opens_app, hr1, hc1.2.2.1, hc1.2.2.2, or_self, if_false]
        split <;> kmod_is
      · simp only [List.countP_cons, List.countP_append, hr2, ho1.1, hc1.1, Bool.false_eq_true, if_false]; kmod_is
      · intro σ hσ
        rcases List.mem_cons.mp hσ with rfl | hσ
        · exact ho1.2
        rcases List.mem_append.mp hσ with hσ | hσ
        · exact b3 σ hσ
        rcases List.mem_cons.mp hσ with rfl | hσ
        · exact hc1.2.1
        · exact pm_em hr σ hσ
    refine h1 _ _ _ ?_ ?_ ?_
    · split <;> simp
    · split <;> simp
    · split
      · split <;> simp
      · simp
theorem side_is : ∀ (n deep : Nat) (l : List Int), SideIs l (sideF n deep l) 0 1
  | 0, _, l => ⟨by simp [sideF, opens], by simp [sideF], by simp [sideF]⟩
  | n + 1, deep, l => by
    cases l with
    | nil => rw [sideF_nil]; exact ⟨by decide, by decide, by decide⟩
    | cons x l =>
      obtain ⟨m1, m2, m3⟩ := mid_is (side_is n) deep x l
      rw [sideF_cons]
      by_cases h : (x.fdiv 6).fmod 4 < 2
      · rw [if_pos h]; exact ⟨by simp only [List.length_cons]; kmod_is, by simp only [List.length_cons]; kmod_is, m3⟩
      · rw [if_neg h]
        obtain ⟨s1, s2, s3⟩ := side_is n deep (midF (sideF n) deep x l).2
        have hb : ∀ b : List Sg, (b = [] ∨ b = [.ba]) → SideIs (x :: l) ((midF (sideF n) deep x l).1 ++ (b ++ (sideF n deep (midF (sideF n) deep x l).2).1), (sideF n deep (midF (sideF n) deep x l).2).2) 0 1 := by
          intro b hb
          have hb1 : opens b = 0 := by rcases hb with rfl | rfl <;> decide
          have hb2 : b.countP isName = 0 := by rcases hb with rfl | rfl <;> decide
          refine ⟨?_, ?_, ?_⟩
          · simp only [opens_app, hb1, List.length_cons]; kmod_is
          · simp only [List.countP_append, hb2, List.length_cons]; kmod_is
          · intro σ hσ
            rcases List.mem_append.mp hσ with hσ | hσ
            · exact m3 σ hσ
            rcases List.mem_append.mp hσ with hσ | hσ
            · rcases hb with rfl | rfl
              · simp at hσ
              · rw [List.mem_singleton.mp hσ]; decide
            · exact s3 σ hσ
        exact hb _ (by split <;> simp)
/-- the rows while the names are laid -/
structure RowsN (i : Nat) (pl : List (Int × Tok)) (rl : List (Sg × Tok)) : Prop where
  em : ∀ x ∈ rl, x.1 ≠ .em
  len : rl.length + 10 * pl.length ≤ 120 + 6 * i
  opn : opens (rl.map Prod.fst) + pl.length ≤ 12
  nam : (rl.map Prod.fst).countP isName + pl.length ≤ 12 + 2 * i
  pos : 0 < i → 4 ≤ rl.length
theorem RowsN.skip {i : Nat} {pl : List (Int × Tok)} {rl : List (Sg × Tok)} (h : RowsN i pl rl) (hr : rl ≠ []) (hz : i = 0 → rl = []) : RowsN (i + 1) pl rl :=
  ⟨h.em, by have := h.len; kmod_is, h.opn, by have := h.nam; kmod_is, fun _ => h.pos (by rcases Nat.eq_zero_or_pos i with e | e; exact absurd (hz e) hr; exact e)⟩
/-- one name's row: maybe an empty row ahead, the name, the colon, the side, the row's end -/
theorem nameOpen {σ : Sg} (h : isName σ = true) : opens [σ, Sg.co] = 0 := by revert h; generalize σ = τ; revert τ; refine sgAll ?_; decide +kernel
theorem nameCount {σ : Sg} (h : isName σ = true) : [σ, Sg.co].countP isName = 1 := by revert h; generalize σ = τ; revert τ; refine sgAll ?_; decide +kernel
theorem RowsN.add {i n : Nat} {pl pl' : List (Int × Tok)} {rl rl' : List (Sg × Tok)} {σ : Sg} {b : List Sg} (h : RowsN i pl rl) (hσ : isName σ = true) (hb : b = [] ∨ b = [.nl])
    (e1 : (sideF n 2 (pl.map Prod.fst)).2 = pl'.map Prod.fst) (e2 : rl'.map Prod.fst = rl.map Prod.fst ++ b ++ [σ, .co] ++ (sideF n 2 (pl.map Prod.fst)).1 ++ [.nl]) (hne : (sideF n 2 (pl.map Prod.fst)).1 ≠ []) : RowsN (i + 1) pl' rl' := by
  obtain ⟨s1, s2, s3⟩ := side_is n 2 (pl.map Prod.fst)
  have s4 := side_len n 2 (pl.map Prod.fst)
  rw [e1] at s1 s2 s4
  simp only [List.length_map] at s1 s2 s4
  have hl : rl'.length = rl.length + b.length + 2 + (sideF n 2 (pl.map Prod.fst)).1.length + 1 := by
    have := congrArg List.length e2
    rw [List.length_map] at this
    rw [this]
    simp only [List.length_append, List.length_map, List.length_cons, List.length_nil]
  have hbl : b.length ≤ 1 := by rcases hb with rfl | rfl <;> simp
  have hb1 : opens b = 0 := by rcases hb with rfl | rfl <;> decide
  have hb2 : b.countP isName = 0 := by rcases hb with rfl | rfl <;> decide
  have hσ1 : opens [σ, Sg.co] = 0 := nameOpen hσ
  have hσ2 : [σ, Sg.co].countP isName = 1 := nameCount hσ
  have hsl : 0 < (sideF n 2 (pl.map Prod.fst)).1.length := List.length_pos_iff.mpr hne
  refine ⟨?_, ?_, ?_, ?_, fun _ => by kmod_is⟩
  · intro x hx
    have hx' : x.1 ∈ rl'.map Prod.fst := List.mem_map.mpr ⟨x, hx, rfl⟩
    rw [e2] at hx'
    simp only [List.mem_append, List.mem_cons, List.not_mem_nil, or_false] at hx'
    rcases hx' with (((hx' | hx') | hx') | hx') | hx'
    · obtain ⟨y, hy, e⟩ := List.mem_map.mp hx'
      rw [← e]; exact h.em y hy
    · rcases hb with rfl | rfl
      · simp at hx'
      · rw [List.mem_singleton.mp hx']; decide
    · rcases hx' with e | e
      · rw [e]; rintro rfl; exact absurd hσ (by decide)
      · rw [e]; decide
    · exact s3 _ hx'
    · rw [hx']; decide
  · have := h.len; kmod_is
  · rw [e2]
    simp only [opens_app, hb1, hσ1, show opens [Sg.nl] = 0 from rfl]
    have := h.opn; kmod_is
  · rw [e2]
    simp only [List.countP_append, hb2, hσ2, show [Sg.nl].countP isName = 0 from rfl]
    have := h.nam; kmod_is
/-- the rows while they are edited -/
structure RowsE (i : Nat) (rl : List (Sg × Tok)) : Prop where
  em : ∀ x ∈ rl, x.1 ≠ .em
  len : rl.length ≤ 140 + i
  opn : opens (rl.map Prod.fst) ≤ 12 + i
  nam : (rl.map Prod.fst).countP isName ≤ 20 + i
  pos : 4 ≤ rl.length + i
theorem RowsE.start {pl : List (Int × Tok)} {rl : List (Sg × Tok)} (h : RowsN 3 pl rl) : RowsE 0 rl :=
  ⟨h.em, by have := h.len; kmod_is, by have := h.opn; kmod_is, by have := h.nam; kmod_is, h.pos (by decide)⟩
theorem RowsE.next {i : Nat} {rl : List (Sg × Tok)} (h : RowsE i rl) : RowsE (i + 1) rl :=
  ⟨h.em, by have := h.len; kmod_is, by have := h.opn; kmod_is, by have := h.nam; kmod_is, by have := h.pos; kmod_is⟩
theorem countP_td {α : Type} {p : α → Bool} {l : List α} (k : Nat) : (l.take k).countP p + (l.drop k).countP p = l.countP p := by
  rw [← List.countP_append, List.take_append_drop]
theorem countP_td1 {α : Type} {p : α → Bool} {l : List α} (k : Nat) : (l.take k).countP p + (l.drop (k + 1)).countP p ≤ l.countP p := by
  have := countP_td (p := p) (l := l) k
  have h2 : (l.drop (k + 1)).countP p ≤ (l.drop k).countP p := by
    rw [← List.drop_drop]
    exact (List.drop_sublist 1 (l.drop k)).countP_le
  kmod_is
theorem RowsE.edit {i : Nat} {rl : List (Sg × Tok)} {mid : List (Sg × Tok)} {u v : List (Sg × Tok)} (h : RowsE i rl) (hm : mid.length ≤ 1) (hme : ∀ x ∈ mid, x.1 ≠ .em) (hu : ∀ x ∈ u, x ∈ rl) (hv : ∀ x ∈ v, x ∈ rl)
    (hc : ∀ p : Sg → Bool, (u.map Prod.fst).countP p + (v.map Prod.fst).countP p ≤ (rl.map Prod.fst).countP p) (hl : rl.length ≤ u.length + v.length + 1) : RowsE (i + 1) (u ++ mid ++ v) := by
  have hmid : ∀ p : Sg → Bool, (mid.map Prod.fst).countP p ≤ 1 := fun p => Nat.le_trans (List.countP_le_length) (by simpa using hm)
  refine ⟨?_, ?_, ?_, ?_, ?_⟩
  · intro x hx
    rcases List.mem_append.mp hx with hx | hx
    · rcases List.mem_append.mp hx with hx | hx
      · exact h.em x (hu x hx)
      · exact hme x hx
    · exact h.em x (hv x hx)
  · have h1 := hc fun _ => true
    simp at h1
    have := h.len
    simp only [List.length_append]; kmod_is
  · have h1 := hc fun σ => σ = .lp || σ = .lb
    have h2 := hmid fun σ => σ = .lp || σ = .lb
    have := h.opn
    unfold opens at this ⊢
    simp only [List.map_append, List.countP_append]; kmod_is
  · have h1 := hc isName
    have h2 := hmid isName
    have := h.nam
    simp only [List.map_append, List.countP_append]; kmod_is
  · have := h.pos
    simp only [List.length_append]; kmod_is

end
section
theorem fillNm (w : World) (h : Heap) : (hd.heap_1 w.params).In h → PySem.Challenge.rw_iv0024_01.row.prog = PySem.Challenge.rw_iv0024_01.row.prog := by w_top off; k_fill; intro _; rfl
local macro_rules | `(tactic| walk_at "exec For Name List cons nil") => tac "here ; stop"
local macro_rules | `(tactic| walk_at "exec If") => tac "here ; wp exec ( Stmt.If ( Expr.BoolOp _ _ _ ) _ _ _ ) _ ; stop"
local macro_rules | `(tactic| walk_at "call type:list") => tac "here ; stop"
local macro_rules | `(tactic| walk_at "subscriptTail Name Slice ref ref") => tac "here ; stop"
local macro_rules | `(tactic| walk_at "call ref") => tac "here ; sh call ( Value.ref 365 ) _ _ ; stop"
section
variable {w : World} {A : Around} {E : Value → Shared → Prop} {s : Shared} {h₀ : Heap} {L l : Addr} {m : Str → Option Value} {news : List (Addr × Obj)} {vs : List Value} {c : Nat} {Q : Value → Shared → Prop}
theorem sliceUptoI {value slice : PySem.Expr} {b : Nat} {i : Int} {t : Tok} (e : i = ((b : Nat) : Int)) (F : Fr h₀ L s.heap m) (N : News h₀ L s.heap news) (hl : s.heap.IsList l vs.toArray) (hf : vs.length < 1000000)
    (h : ∀ D h', Fr h₀ L h' m → News h₀ L h' ((D, listOf (vs.take b).toArray 0) :: news) → (∀ p ∈ news, p.1 < D) → Q (.ref D) { s with heap := h' })
    (hs : subscripted slice false (.ref l) (.ref s.heap.objs.size) = operate [.ref s.heap.objs.size, .ref l] (getItem (.ref l) (.ref s.heap.objs.size)) := by with_unfolding_all rfl) (ht : ∀ r, letTemporaryGo value (.ref l) r = pure () := by intro _; with_unfolding_all rfl) :
    wpAny (model PySem.Challenge.rw_iv0024_01.row.prog w) A (subscriptTail value slice (.ref l) (.ref s.heap.objs.size)) Q E { s with heap := s.heap.push { cls := .type "slice", data := .fields #[.none, .int i t, .none] } } := by
  subst e
  exact kmk_slice F N hl .none (IsPart.int _ _) (fun D h' F' N' l1 => h D h' F' (by rw [pick_upto] at N'; exact N') l1) hs ht (by simp only [List.size_toArray]; unfold sizeLine; kmod_is)
end
theorem ints_pl : ∀ {vs : List Value} {ns : List Int}, IntsAre vs ns → ∃ pl : List (Int × Tok), vs = pl.map intV ∧ pl.map Prod.fst = ns
  | _, _, .nil => ⟨[], rfl, rfl⟩
  | _, _, .cons k t r => by
    obtain ⟨pl, h1, h2⟩ := ints_pl r
    exact ⟨(k, t) :: pl, by rw [h1]; rfl, by rw [← h2]; rfl⟩
theorem side_ne {n deep : Nat} {l : List Int} : (sideF (n + 1) deep l).1 ≠ [] := by
  have hm : ∀ (R : Nat → List Int → List Sg × List Int) d k l, (midF R d k l).1 ≠ [] := fun R d k l => by unfold midF; split <;> simp
  rw [sideF_succ]
  split
  · exact hm _ _ _ _
  · intro h
    exact hm _ _ _ _ (List.append_eq_nil_iff.mp h).1
local macro_rules | `(tactic| walk_at "binaryOp Add ref ref") => tac "here ; stop"
noncomputable abbrev mN (v : Option Value) (m : Str → Option Value) : Str → Option Value := fun y => if y = Str.ofString "name" then v else m y
theorem lf_name {a p r : Value} {v : Option Value} {m : Str → Option Value} : ∀ y, (if y = Str.ofString "name" then v else lfm a p r m y) = lfm a p r (mN v m) y := by
  intro y; unfold lfm mN; (repeat' split) <;> simp_all +decide
theorem lf_rows {a p r r' : Value} {v : Option Value} {m : Str → Option Value} : ∀ y, (if y = Str.ofString "rows" then some r' else if y = Str.ofString "name" then v else lfm a p r m y) = lfm a p r' (mN v m) y := by
  intro y; unfold lfm mN; (repeat' split) <;> simp_all +decide
theorem cat_name {r1 : List (Sg × Tok)} {σ : Sg} {t tc : Tok} : r1.map sgV ++ [Value.str σ.text t, Value.str (Str.ofString ":") tc] = (r1 ++ [(σ, t), (Sg.co, tc)]).map sgV := by rw [List.map_append]; rfl
theorem nl_push {lb : List (Sg × Tok)} {t : Tok} : (lb.map sgV).toArray.push (.str (Str.ofString "\n") t) = ((lb ++ [(Sg.nl, t)]).map sgV).toArray := by
  rw [List.map_append, List.push_toArray]; rfl
theorem pool_cons {x : Int × Tok} {pl : List (Int × Tok)} : (x :: pl).reverse.map intV = pl.reverse.map intV ++ [.int x.1 x.2] := by simp [intV]
inductive NmPool (g : Heap) (L sl : Nat) (m : Str → Option Value) (s : Shared) (s' : Shared) : Prop
  | mk (h' : Heap) (tk' pool : Nat) (pl : List (Int × Tok)) (c : Nat) (x0 : s' = { s with heap := h', toks := tk' }) (x1 : pl.length ≤ 12) (x2 : Fr g L h' (fun y => if y = Str.ofString "pool" then some (.ref pool) else if y = Str.ofString "script" then some (.ref sl) else m y)) (x3 : News g L h' [(pool, listOf (pl.reverse.map intV).toArray c)]) : NmPool g L sl m s s'
inductive NmRows (g : Heap) (L sl pool c : Nat) (pl : List (Int × Tok)) (m : Str → Option Value) (s : Shared) (s' : Shared) : Prop
  | mk (h' : Heap) (tk' rows : Nat) (x0 : s' = { s with heap := h', toks := tk' }) (x1 : pool < rows) (x2 : Fr g L h' (lfm (.ref sl) (.ref pool) (.ref rows) m)) (x3 : News g L h' [(pool, listOf (pl.reverse.map intV).toArray c), (rows, listOf (([] : List (Sg × Tok)).map sgV).toArray 0)]) : NmRows g L sl pool c pl m s s'
inductive NmEnd (g : Heap) (L sl : Nat) (s : Shared) (s' : Shared) : Prop
  | mk (h' : Heap) (tk' : Nat) (pool : Value) (rows c : Nat) (rl : List (Sg × Tok)) (m' : Str → Option Value) (x0 : s' = { s with heap := h', toks := tk' }) (x1 : RowsE 0 rl) (x2 : Fr g L h' (lfm (.ref sl) pool (.ref rows) m')) (x3 : News g L h' [(rows, listOf (rl.map sgV).toArray c)]) : NmEnd g L sl s s'
inductive NmInv (sl l0 : Nat) (i : Nat) (m : Str → Option Value) (nx : List (Addr × Obj)) : Prop
  | mk (pool rows : Nat) (pl : List (Int × Tok)) (rl : List (Sg × Tok)) (c1 c2 : Nat) (m' : Str → Option Value) (x0 : pool ≠ rows) (x1 : pool ≠ l0) (x2 : rows ≠ l0) (x3 : RowsN i pl rl) (x4 : (i = 0 → rl = [])) (x5 : m = lfm (.ref sl) (.ref pool) (.ref rows) m') (x6 : nx = [(pool, listOf (pl.reverse.map intV).toArray c1), (rows, listOf (rl.map sgV).toArray c2)]) : NmInv sl l0 i m nx
inductive NmBr (g : Heap) (L sl pool rows c1 : Nat) (pl : List (Int × Tok)) (rl : List (Sg × Tok)) (σ : Sg) (t : Tok) (m' : Str → Option Value) (TT : List (Addr × Obj)) (s : Shared) (s' : Shared) : Prop
  | mk (h4 : Heap) (tk4 : Nat) (b : List Sg) (rl1 : List (Sg × Tok)) (c3 : Nat) (x0 : s' = { s with heap := h4, toks := tk4 }) (x1 : (b = [] ∨ b = [.nl])) (x2 : rl1.map Prod.fst = rl.map Prod.fst ++ b) (x3 : rl1.length ≤ 200) (x4 : Fr g L h4 (fun y => if y = Str.ofString "name" then some (.str σ.text t) else lfm (.ref sl) (.ref pool) (.ref rows) m' y)) (x5 : News g L h4 ((pool, listOf (pl.reverse.map intV).toArray c1) :: (rows, listOf (rl1.map sgV).toArray c3) :: TT)) : NmBr g L sl pool rows c1 pl rl σ t m' TT s s'
set_option maxRecDepth 100000 in
set_option maxHeartbeats 1500000 in
theorem segNames {w : World} {mean : ExcName → Option Value} {mg mb : Str → Option Value} {g : Heap} {L fa sl : Nat} {ccd : Value} {m : Str → Option Value} {s : Shared} {Q : Flow → Shared → Prop} {E : Value → Shared → Prop} {sp : List (Int × Tok)}
    (B : Below callerA g [] g) (F : Fr g L s.heap (fun y => if y = Str.ofString "script" then some (.ref sl) else m y)) (X : (hd.heap_1 w.params).In g) (T : Top vw (looseW vw [Str.ofString "PythonTokenTypes", Str.ofString "_tuplegetter", Str.ofString "PythonToken"]) mean mg mb g) (N : News g L s.heap []) (hl : g.IsList sl (sp.map intV).toArray) (hsp : sp.length < 64)
    (hE : PassesOwn (model PySem.Challenge.rw_iv0024_01.row.prog w) (callerA.deeper (envX (Str.ofString "law") (lawScope w.params) L fa ccd [])) (envX (Str.ofString "law") (lawScope w.params) L fa ccd []) E)
    (next : ∀ (h' : Heap) (tk' : Nat) (pool : Value) (rows c : Nat) (rl : List (Sg × Tok)) (m' : Str → Option Value), RowsE 0 rl → Fr g L h' (lfm (.ref sl) pool (.ref rows) m') → News g L h' [(rows, listOf (rl.map sgV).toArray c)] →
      wpAny (model PySem.Challenge.rw_iv0024_01.row.prog w) (callerA.deeper (envX (Str.ofString "law") (lawScope w.params) L fa ccd [])) (execs (lawRest w.params 3) (envX (Str.ofString "law") (lawScope w.params) L fa ccd [])) Q E { s with heap := h', toks := tk' }) :
    wpAny (model PySem.Challenge.rw_iv0024_01.row.prog w) (callerA.deeper (envX (Str.ofString "law") (lawScope w.params) L fa ccd [])) (execs (lawRest w.params 0) (envX (Str.ofString "law") (lawScope w.params) L fa ccd [])) Q E s := by
  have hb : lawRest w.params 0 = lawRest w.params 0 := rfl
  conv at hb => lhs; whnf
  rw [← hb]; clear hb
  generalize hcs : lawScope w.params = cs at *
  conv at hcs => lhs; whnf
  subst hcs
  refine seg_cons (NmPool g L sl m s) ?_ ?_
  · k_steps
    rename Fr g L _ _ => F1
    rename News g L _ _ => N1
    refine Stop.go (sliceUptoI (b := 12) (by exact rfl) F1 N1 (hl.at fun o e => F1.keep _ _ e) (by simp only [List.length_map]; kmod_is) ?_)
    intro (D : Nat) h2 F2 N2 l2
    k_steps
    rename Fr g L _ _ => F3
    rename News g L _ _ => N3
    rename D < _ => l3
    refine Stop.go (list_rev rfl F3 N3 (fun p hp => by rw [List.mem_singleton.mp hp]; exact Nat.ne_of_lt l3) (.head _) (by simp only [List.length_take, List.length_map]; kmod_is) ?_)
    intro (S : Nat) c h4 tk4 F4 N4 l4
    k_steps
    rename Fr g L _ _ => F5
    rename News g L _ _ => N5
    rw [← List.map_take, ← List.map_reverse] at N5
    exact SegQ.next ⟨_, _, S, sp.take 12, c, rfl, by simp only [List.length_take]; kmod_is, F5, News.sub N5 (fun q hq => by rw [List.mem_singleton.mp hq]; exact .head _)⟩
  clear F N
  rintro s₁ ⟨h1, tk1, pool, pl, c, rfl, hpl, F1, N1⟩
  refine seg_cons (NmRows g L sl pool c pl m s) ?_ ?_
  · k_steps
    rename Fr g L _ _ => F2
    rename News g L _ _ => N2
    rename pool < _ => l2
    exact SegQ.next ⟨_, _, _, rfl, l2, F2, News.sub N2 (by (first | with_reducible exact subId | ((repeat' (first | with_reducible exact subId | with_reducible exact subNil | with_reducible refine subCC ?_ | with_reducible refine subCons ?_ ?_ | with_reducible refine subApp ?_ ?_)) <;> kse_small) | (intro q hq; first | (simp only [List.mem_cons, List.mem_append, hq, true_or, or_true]; done) | (simp only [List.mem_cons, List.mem_append] at hq ⊢; grind))))⟩
  clear F1 N1
  rintro s₁ ⟨h1, tk1, rows, rfl, hpr, F1, N1⟩
  refine seg_cons (NmEnd g L sl s) ?_ ?_
  · k_steps
    refine Stop.go (For_invV g rfl rfl ?_ (hE := hE))
    k_steps
    rename Fr g L _ _ => F2
    rename News g L _ _ => N2
    rename _ < _ ∧ _ < _ => l2
    rename Addr => l0
    have l2 : pool < l0 ∧ rows < l0 := l2
    generalize hvs : ([Value.str (Str.ofString "r") _, Value.str _ _, Value.str _ _] : List Value) = vs at N2
    refine Stop.go (forList (x := Str.ofString "name") (NmInv sl l0) rfl F2 N2 ?_ ?_ ?_)
    · exact ⟨pool, rows, pl, [], c, 0, m, Nat.ne_of_lt hpr, Nat.ne_of_lt l2.1, Nat.ne_of_lt l2.2, ⟨by simp, by simp; kmod_is, by simp [opens]; kmod_is, by simp; kmod_is, by simp⟩, fun _ => rfl, rfl, rfl⟩
    · clear N2 F2
      rintro i v m₁ nx h2 tk2 I own hv ⟨pool, rows, pl, rl, c1, c2, m', hpr, hpl0, hrl0, hR, hz, rfl, rfl⟩ hoff hown hIl hio F3 N3
      obtain ⟨σ, t, rfl, hσ⟩ : ∃ σ t, v = .str (Sg.text σ) t ∧ isName σ = true := by
        rw [← hvs] at hv
        match i, hv with
        | 0, hv => exact ⟨.nr, _, (Option.some.inj hv).symm, by decide⟩
        | 1, hv => exact ⟨.ns, _, (Option.some.inj hv).symm, by decide⟩
        | 2, hv => exact ⟨.nt, _, (Option.some.inj hv).symm, by decide⟩
        | n + 3, hv => simp at hv
      have F3 : Fr g L h2 (fun y => if y = Str.ofString "name" then some (.str σ.text t) else lfm (.ref sl) (.ref pool) (.ref rows) m' y) := F3
      have hIp : pool ≠ I := hoff _ (.head _)
      have hIr : rows ≠ I := hoff _ (.tail _ (.head _))
      have hrp : rows ≠ pool := Ne.symm hpr
      obtain ⟨TT, hTT⟩ : ∃ TT, TT = own ++ [(l0, listOf vs.toArray 0)] := ⟨_, rfl⟩
      have hT : ∀ q ∈ TT, q.1 = I ∨ q.1 = l0 := fun q hq => by
        rw [hTT] at hq
        rcases List.mem_append.mp hq with hq | hq
        · exact .inl (hown q hq)
        · exact .inr (by rw [List.mem_singleton.mp hq])
      have hT1 : ∀ q ∈ TT, q.1 ≠ pool := fun q hq e => (hT q hq).elim (fun h => hIp (e.symm.trans h)) fun h => hpl0 (e.symm.trans h)
      have hT2 : ∀ q ∈ TT, q.1 ≠ rows := fun q hq e => (hT q hq).elim (fun h => hIr (e.symm.trans h)) fun h => hrl0 (e.symm.trans h)
      have N4 : News g L h2 ((pool, listOf (pl.reverse.map intV).toArray c1) :: (rows, listOf (rl.map sgV).toArray c2) :: TT) := News.sub N3 (fun q hq => by
        rcases List.mem_cons.mp hq with rfl | hq
        · exact List.mem_append_right _ (.tail _ (.head _))
        rcases List.mem_cons.mp hq with rfl | hq
        · exact List.mem_append_right _ (.tail _ (.tail _ (.head _)))
        rw [hTT] at hq
        rcases List.mem_append.mp hq with hq | hq
        · exact List.mem_append_left _ hq
        · rw [List.mem_singleton.mp hq]; exact List.mem_append_right _ (.head _))
      clear N3
      have hO : ∀ {a b : Addr × Obj}, ∀ q ∈ own ++ [(l0, listOf vs.toArray 0)], q ∈ a :: b :: TT := fun q hq => .tail _ (.tail _ (by rw [hTT]; exact hq))
      have hS : ∀ {a b : Addr × Obj}, ∀ q ∈ [a, b], q ∈ a :: b :: TT := fun q hq => by
        rcases List.mem_cons.mp hq with rfl | hq
        · exact .head _
        · rw [List.mem_singleton.mp hq]; exact .tail _ (.head _)
      have hTl : (l0, listOf vs.toArray 0) ∈ TT := by rw [hTT]; exact List.mem_append_right _ (.head _)
      have hIT : HasI I TT := hio.sub fun q h => by rw [hTT]; exact List.mem_append_left _ h
      have hoff2 : ∀ (D : Nat) {o1 o2 : Obj}, (∀ q ∈ TT, q.1 < D) → ∀ q ∈ [(pool, o1), (D, o2)], q.1 ≠ I := fun D _ _ hD q hq => by
        obtain ⟨io, h⟩ := hIT
        rcases List.mem_cons.mp hq with rfl | hq
        · exact hIp
        · rw [List.mem_singleton.mp hq]; exact Nat.ne_of_gt (hD _ h)
      have hi3 : i < 3 := by
        have := (List.getElem?_eq_some_iff.mp hv).1
        rw [← hvs] at this; exact this
      have hrl := hR.len
      have hrl2 : rl.length < 200 := by kmod_is
      have hop := hR.opn
      k_steps
      refine Stop.go (wpAny_If (wpAny_mono (Q := fun b s' => Stop (∃ (h3 : Heap) (tk3 : Nat), s' = { s with heap := h3, toks := tk3 } ∧ (b = false → pl = [] ∧ rl ≠ []) ∧ Fr g L h3 (fun y => if y = Str.ofString "name" then some (.str σ.text t) else lfm (.ref sl) (.ref pool) (.ref rows) m' y) ∧
        News g L h3 ((pool, listOf (pl.reverse.map intV).toArray c1) :: (rows, listOf (rl.map sgV).toArray c2) :: TT))) ?t1 (fun b s' hs => ?t2) (fun _ _ e => e)))
      case t1 =>
        cases pl with
        | nil =>
          have N4 : News g L h2 ((pool, listOf ([] : List Value).toArray c1) :: (rows, listOf (rl.map sgV).toArray c2) :: TT) := N4
          k_steps
          · rename Fr g L _ _ => F5
            rename News g L _ _ => N5
            exact Stop.go ⟨_, _, rfl, (fun h => absurd h (by decide)), F5, News.sub N5 (by (first | with_reducible exact subId | ((repeat' (first | with_reducible exact subId | with_reducible exact subNil | with_reducible refine subCC ?_ | with_reducible refine subCons ?_ ?_ | with_reducible refine subApp ?_ ?_)) <;> kse_small) | (intro q hq; first | (simp only [List.mem_cons, List.mem_append, hq, true_or, or_true]; done) | (simp only [List.mem_cons, List.mem_append] at hq ⊢; grind))))⟩
          · rename Fr g L _ _ => F5
            rename News g L _ _ => N5
            rename (List.map sgV rl).isEmpty = false => he
            exact Stop.go ⟨_, _, rfl, (fun _ => ⟨by first | rfl | trivial, by rintro rfl; simp at he⟩), F5, News.sub N5 (by (first | with_reducible exact subId | ((repeat' (first | with_reducible exact subId | with_reducible exact subNil | with_reducible refine subCC ?_ | with_reducible refine subCons ?_ ?_ | with_reducible refine subApp ?_ ?_)) <;> kse_small) | (intro q hq; first | (simp only [List.mem_cons, List.mem_append, hq, true_or, or_true]; done) | (simp only [List.mem_cons, List.mem_append] at hq ⊢; grind))))⟩
        | cons x pl' =>
          simp only [List.length_cons] at hrl hop
          have hrv : pl'.reverse.length = pl'.length := List.length_reverse
          rw [pool_cons] at N4 ⊢
          k_steps
          · rename Fr g L _ _ => F5
            rename News g L _ _ => N5
            exact Stop.go ⟨_, _, rfl, (fun h => absurd h (by decide)), F5, News.sub N5 (by (first | with_reducible exact subId | ((repeat' (first | with_reducible exact subId | with_reducible exact subNil | with_reducible refine subCC ?_ | with_reducible refine subCons ?_ ?_ | with_reducible refine subApp ?_ ?_)) <;> kse_small) | (intro q hq; first | (simp only [List.mem_cons, List.mem_append, hq, true_or, or_true]; done) | (simp only [List.mem_cons, List.mem_append] at hq ⊢; grind))))⟩
          · rename Fr g L _ _ => F5
            rename News g L _ _ => N5
            exact Stop.go ⟨_, _, rfl, (fun h => absurd h (by decide)), F5, News.sub N5 (by (first | with_reducible exact subId | ((repeat' (first | with_reducible exact subId | with_reducible exact subNil | with_reducible refine subCC ?_ | with_reducible refine subCons ?_ ?_ | with_reducible refine subApp ?_ ?_)) <;> kse_small) | (intro q hq; first | (simp only [List.mem_cons, List.mem_append, hq, true_or, or_true]; done) | (simp only [List.mem_cons, List.mem_append] at hq ⊢; grind))))⟩
      case t2 =>
        clear F3 N4
        obtain ⟨h3, tk3, rfl, hb0, F3, N4⟩ := Stop.of hs
        cases b with
        | false =>
          obtain ⟨rfl, hrn⟩ := hb0 rfl
          k_steps
          rename Fr g L _ _ => F5
          rename News g L _ _ => N5
          exact ⟨_, _, _, _, _, rfl, F5, N5, hO, hS, hoff, pool, rows, [], rl, c1, c2, _, hpr, hpl0, hrl0, hR.skip hrn hz, fun h => absurd h (Nat.succ_ne_zero _), funext lf_name, rfl⟩
        | true =>
          clear hb0
          rw [if_pos rfl]
          refine seg_cons (NmBr g L sl pool rows c1 pl rl σ t m' TT s) ?_ ?_
          · k_steps
            refine Stop.go (wpAny_If ?_)
            cases pl with
            | nil =>
              have N4 : News g L h3 ((pool, listOf ([] : List Value).toArray c1) :: (rows, listOf (rl.map sgV).toArray c2) :: TT) := N4
              k_steps
              rename Fr g L _ _ => F5
              rename News g L _ _ => N5
              exact SegQ.next ⟨_, _, [], rl, c2, rfl, .inl rfl, by simp, by kmod_is, F5, N5⟩
            | cons x pl' =>
              simp only [List.length_cons] at hrl hop
              have hrv : pl'.reverse.length = pl'.length := List.length_reverse
              rw [pool_cons] at N4
              k_steps
              · rename Fr g L _ _ => F5
                rename News g L _ _ => N5
                rw [← pool_cons] at N5
                rw [nl_push] at N5
                exact SegQ.next ⟨_, _, [.nl], _, _, rfl, .inr rfl, by simp, by simp only [List.length_append, List.length_cons, List.length_nil]; kmod_is, F5, N5⟩
              · rename Fr g L _ _ => F5
                rename News g L _ _ => N5
                rw [← pool_cons] at N5
                exact SegQ.next ⟨_, _, [], rl, c2, rfl, .inl rfl, by simp, by kmod_is, F5, N5⟩
          · clear F3 N4
            rintro s₁ ⟨h4, tk4, b, rl1, c3, rfl, hb, hrb, hrl1, F3, N4⟩
            k_steps
            rename Fr g L _ _ => F5
            rename News g L _ _ => N5
            refine Stop.go (catL (vs := (rl1).map sgV) F5 N5 (by k_mem) (by k_mem) (by simp only [List.length_map, List.length_append, List.length_cons, List.length_nil]; kmod_is) ?_)
            intro (D : Nat) h6 F6 N6 l6
            k_steps
            rename Fr g L _ _ => F7
            rename News g L _ _ => N7
            rw [cat_name] at N7
            obtain ⟨tc, N7⟩ : ∃ tc : Tok, News g L _ ((D, listOf ((rl1 ++ [(σ, t), (Sg.co, tc)]).map sgV).toArray 0) :: _) := ⟨_, N7⟩
            have lT : ∀ q ∈ TT, q.1 < D := fun q hq => l6 q (by (repeat' (first | exact hq | refine List.mem_cons_of_mem _ ?_)))
            have lp : pool < D := l6 (pool, _) (by k_mem)
            have N8 := News.sub (l' := (pool, listOf (pl.reverse.map intV).toArray c1) :: (D, listOf ((rl1 ++ [(σ, t), (Sg.co, tc)]).map sgV).toArray 0) :: TT) N7 (by
              intro q hq
              rcases List.mem_cons.mp hq with rfl | hq
              · refine .tail _ ?_
                k_mem
              rcases List.mem_cons.mp hq with rfl | hq
              · exact .head _
              · (repeat' (first | exact hq | refine List.mem_cons_of_mem _ ?_)))
            clear N7
            refine Stop.go ((show SideC 13 from sideC 13) B F7 X N8 T rfl (by ktr_room) (by ktr_units) (Nat.ne_of_lt lp) hT1 (fun q hq => Nat.ne_of_lt (lT q hq)) (by kmod_is) (by kmod_is) (by simp only [List.length_append, List.length_cons, List.length_nil]; kmod_is) ?_)
            intro h9 tk9 pl9 rl9 c9 d9 hs1 hs2 F9 N9
            have hlen9 : rl9.length < 5000 := by
              have := congrArg List.length hs2
              have h2 := side_len 13 2 (pl.map Prod.fst)
              simp only [List.length_map, List.length_append, List.length_cons, List.length_nil] at this h2
              kmod_is
            have hDp : D ≠ pool := Nat.ne_of_gt lp
            have hTD : ∀ q ∈ TT, q.1 ≠ D := fun q hq => Nat.ne_of_lt (lT q hq)
            k_steps
            rename Fr g L _ _ => F10
            rename News g L _ _ => N10
            rw [nl_push] at N10
            exact ⟨_, _, _, _, _, rfl, F10, N10, hO, hS, hoff2 D lT, pool, D, pl9, _, _, _, _, Nat.ne_of_lt lp, hpl0, Nat.ne_of_gt (lT _ hTl), RowsN.add (b := b) hR hσ hb hs1 (by simp [hs2, hrb]) side_ne, fun h => absurd h (Nat.succ_ne_zero _), funext lf_rows, rfl⟩
    · rintro m₁ nx h3 tk3 ⟨pool, rows, pl, rl, c1, c2, m', hpr, hpl0, hrl0, hR, hz, rfl, rfl⟩ F3 N3
      exact SegQ.next ⟨h3, tk3, .ref pool, rows, c2, rl, m', rfl, RowsE.start (by rw [show vs.length = 3 from by rw [← hvs]; rfl] at hR; exact hR), F3, News.sub N3 (by (first | with_reducible exact subId | ((repeat' (first | with_reducible exact subId | with_reducible exact subNil | with_reducible refine subCC ?_ | with_reducible refine subCons ?_ ?_ | with_reducible refine subApp ?_ ?_)) <;> kse_small) | (intro q hq; first | (simp only [List.mem_cons, List.mem_append, hq, true_or, or_true]; done) | (simp only [List.mem_cons, List.mem_append] at hq ⊢; grind))))⟩
  · rintro s₁ ⟨h1, tk1, pool, rows, c, rl, m', rfl, hE0, F2, N2⟩
    exact next h1 tk1 pool rows c rl m' hE0 F2 N2

end
section
theorem fillEd (w : World) (h : Heap) : (hd.heap_1 w.params).In h → PySem.Challenge.rw_iv0024_01.row.prog = PySem.Challenge.rw_iv0024_01.row.prog := by w_top off; k_fill; intro _; rfl
local macro_rules | `(tactic| walk_at "zz") => tac "skip"
local macro_rules | `(tactic| walk_at "zy") => tac "skip"
local macro_rules | `(tactic| walk_at "subscriptTail Name Slice ref ref") => tac "here ; df { by sliceFrom ?e ?F ?N ?m ?f ? ; e=cast ; F=asm ; N=asm ; m=mem ; f=lenlt ; whole | by sliceUpto ?e ?F ?N ?m ?f ? ; e=cast ; F=asm ; N=asm ; m=mem ; f=lenlt ; whole } ; intro:D',h',F',N',l1 ; lt:l1 ; sweep"
local macro_rules | `(tactic| walk_at "subscriptTail Name Slice ref ref") => tac "here ; wp subscriptTail ( Expr.Name ( Str.ofString \"script\" ) _ ) _ _ _ ; stop"
local macro_rules | `(tactic| walk_at "binaryOp Add ref ref") => tac "here ; stop"
local macro_rules | `(tactic| walk_at "call ref") => tac "here ; df { by lawSigns ?B ?F ?X ?N ?T ?k ?r ? ; B=asm ; F=asm ; X=asm ; N=asm ; T=asm ; k=rfl ; r=room ; whole ; intro:x,h',tk',t0,c,lx,F',N' ; lt:lx ; sweep }"
local macro_rules | `(tactic| walk_at "subscriptTail") => tac "here ; wp subscriptTail ( Expr.Call _ _ _ _ ) _ ( Value.ref _ ) ( Value.int _ _ ) ; un { by signItem ?N ?l ?a ?b ? ?z ; N=asm ; l=mem ; a! fmod_lo _ [dec] ; b! fmod_hi _ [dec] ; z=wrfl ; whole } ; intro:σs,ts,hs"
theorem pick_mid {vs : List Value} {a b : Nat} (hab : a ≤ b) : slicePick vs.toArray (some (a : Int)) (some (b : Int)) none = ((vs.take b).drop a).toArray := by
  have e : sliceBounds (some (a : Int)) (some (b : Int)) none vs.toArray.size = (((min a vs.toArray.size : Nat) : Int), ((min b vs.toArray.size : Nat) : Int), 1) := by
    simp only [sliceBounds, Option.getD_none, show (1 : Int) > 0 by decide, if_true, if_neg (show ¬ ((a : Int) < 0) by kmod_is), if_neg (show ¬ ((b : Int) < 0) by kmod_is)]
    congr 1
    · kmod_is
    · congr 1; kmod_is
  rw [kmk_pick_nat _ e]
  simp only [List.size_toArray]
  congr 1
  show (vs.drop (min a vs.length)).take (min b vs.length - min a vs.length) = _
  rw [List.drop_take, kmk_drop_min]
  rcases Nat.le_total vs.length a with h | h
  · rw [List.drop_eq_nil_of_le h, List.take_nil, List.take_nil]
  · rw [Nat.min_eq_left h]
    rcases Nat.le_total b vs.length with h' | h'
    · rw [Nat.min_eq_left h']
    · rw [Nat.min_eq_right h', List.take_of_length_le (by rw [List.length_drop]; exact Nat.le_refl _), List.take_of_length_le (by rw [List.length_drop]; exact Nat.sub_le_sub_right h' a)]
section
variable {w : World} {A : Around} {E : Value → Shared → Prop} {s : Shared} {h₀ : Heap} {L l : Addr} {m : Str → Option Value} {news : List (Addr × Obj)} {vs : List Value} {c : Nat} {Q : Value → Shared → Prop}
theorem sliceMidI {value slice : PySem.Expr} {a b : Nat} {i j : Int} {t u : Tok} (e : i = ((a : Nat) : Int)) (e' : j = ((b : Nat) : Int)) (hab : a ≤ b) (F : Fr h₀ L s.heap m) (N : News h₀ L s.heap news) (hl : s.heap.IsList l vs.toArray) (hf : vs.length < 1000000)
    (h : ∀ D h', Fr h₀ L h' m → News h₀ L h' ((D, listOf ((vs.take b).drop a).toArray 0) :: news) → (∀ p ∈ news, p.1 < D) → Q (.ref D) { s with heap := h' })
    (hs : subscripted slice false (.ref l) (.ref s.heap.objs.size) = operate [.ref s.heap.objs.size, .ref l] (getItem (.ref l) (.ref s.heap.objs.size)) := by with_unfolding_all rfl) (ht : ∀ r, letTemporaryGo value (.ref l) r = pure () := by intro _; with_unfolding_all rfl) :
    wpAny (model PySem.Challenge.rw_iv0024_01.row.prog w) A (subscriptTail value slice (.ref l) (.ref s.heap.objs.size)) Q E { s with heap := s.heap.push { cls := .type "slice", data := .fields #[.int i t, .int j u, .none] } } := by
  subst e e'
  exact kmk_slice F N hl (IsPart.int _ _) (IsPart.int _ _) (fun D h' F' N' l1 => h D h' F' (by rw [pick_mid hab] at N'; exact N') l1) hs ht (by simp only [List.size_toArray]; unfold sizeLine; kmod_is)
end
theorem cat1 {rl : List (Sg × Tok)} {a b : Nat} : (rl.map sgV).take a ++ (rl.map sgV).drop b = (rl.take a ++ [] ++ rl.drop b).map sgV := by simp [List.map_take, List.map_drop]
theorem cat2 {rl : List (Sg × Tok)} {a b : Nat} {σ : Sg} {t : Tok} : (rl.map sgV).take a ++ [Value.str σ.text t] ++ (rl.map sgV).drop b = (rl.take a ++ [(σ, t)] ++ rl.drop b).map sgV := by simp [List.map_take, List.map_drop, sgV]
noncomputable abbrev mE (w k σ n : Value) (m : Str → Option Value) : Str → Option Value := fun y => if y = Str.ofString "way" then some w else if y = Str.ofString "k" then some k else if y = Str.ofString "sign" then some σ else if y = Str.ofString "number" then some n else m y
theorem lf_edit0 {w k σ n a p r : Value} {m : Str → Option Value} : ∀ y, (if y = Str.ofString "way" then some w else if y = Str.ofString "k" then some k else if y = Str.ofString "sign" then some σ else if y = Str.ofString "number" then some n else lfm a p r m y) = lfm a p r (mE w k σ n m) y := by
  intro y; unfold lfm mE; (repeat' split) <;> simp_all +decide
theorem lf_edit {w k σ n a p r r' : Value} {m : Str → Option Value} : ∀ y, (if y = Str.ofString "rows" then some r' else if y = Str.ofString "way" then some w else if y = Str.ofString "k" then some k else if y = Str.ofString "sign" then some σ else if y = Str.ofString "number" then some n else lfm a p r m y) = lfm a p r' (mE w k σ n m) y := by
  intro y; unfold lfm mE; (repeat' split) <;> simp_all +decide
theorem cB1 {a b n : Nat} (h : n < 1000) : min a n + (n - b) < 1000000 := Nat.lt_of_le_of_lt (Nat.add_le_add (Nat.min_le_right a n) (Nat.sub_le n b)) (by kmod_is)
theorem cB2 {a n : Nat} (h : n < 1000) : min a n + (0 + 1) < 1000000 := Nat.lt_of_le_of_lt (Nat.add_le_add_right (Nat.min_le_right a n) _) (by kmod_is)
theorem cB3 {a b n : Nat} (h : n < 1000) : min a n + (0 + 1) + (n - b) < 1000000 := Nat.lt_of_le_of_lt (Nat.add_le_add (Nat.add_le_add_right (Nat.min_le_right a n) _) (Nat.sub_le n b)) (by kmod_is)
inductive EdEnd (g : Heap) (L sl : Nat) (pool : Value) (s : Shared) (s' : Shared) : Prop
  | mk (h' : Heap) (tk' : Nat) (rows c : Nat) (rl : List (Sg × Tok)) (m' : Str → Option Value) (x0 : s' = { s with heap := h', toks := tk' }) (x1 : RowsE 3 rl) (x2 : Fr g L h' (lfm (.ref sl) pool (.ref rows) m')) (x3 : News g L h' [(rows, listOf (rl.map sgV).toArray c)]) : EdEnd g L sl pool s s'
inductive EdInv (sl : Nat) (pool : Value) (i : Nat) (m : Str → Option Value) (nx : List (Addr × Obj)) : Prop
  | mk (rows c : Nat) (rl : List (Sg × Tok)) (m' : Str → Option Value) (x0 : RowsE i rl) (x1 : m = lfm (.ref sl) pool (.ref rows) m') (x2 : nx = [(rows, listOf (rl.map sgV).toArray c)]) : EdInv sl pool i m nx
inductive EdMid (g : Heap) (L sl rows c : Nat) (pool : Value) (rl : List (Sg × Tok)) (num : Int) (tn : Tok) (m' : Str → Option Value) (TT : List (Addr × Obj)) (s : Shared) (s' : Shared) : Prop
  | mk (h1 : Heap) (tk1 kn : Nat) (wv : Int) (σ : Sg) (t1 t2 t3 : Tok) (x0 : s' = { s with heap := h1, toks := tk1 }) (x1 : kn < rl.length) (x2 : σ ≠ .em) (x3 : Fr g L h1 (fun y => if y = Str.ofString "way" then some (.int wv t1) else if y = Str.ofString "k" then some (.int (kn : Int) t2) else if y = Str.ofString "sign" then some (.str σ.text t3) else if y = Str.ofString "number" then some (.int num tn) else lfm (.ref sl) pool (.ref rows) m' y)) (x4 : News g L h1 ((rows, listOf (rl.map sgV).toArray c) :: TT)) : EdMid g L sl rows c pool rl num tn m' TT s s'
set_option maxRecDepth 100000 in
set_option maxHeartbeats 1500000 in
theorem segEdits {w : World} {mean : ExcName → Option Value} {mg mb : Str → Option Value} {g : Heap} {L fa sl rows c : Nat} {ccd pool : Value} {m : Str → Option Value} {s : Shared} {Q : Flow → Shared → Prop} {E : Value → Shared → Prop} {sp : List (Int × Tok)} {rl : List (Sg × Tok)}
    (B : Below callerA g [] g) (F : Fr g L s.heap (lfm (.ref sl) pool (.ref rows) m)) (X : (hd.heap_1 w.params).In g) (T : Top vw (looseW vw [Str.ofString "PythonTokenTypes", Str.ofString "_tuplegetter", Str.ofString "PythonToken"]) mean mg mb g) (N : News g L s.heap [(rows, listOf (rl.map sgV).toArray c)]) (hR : RowsE 0 rl) (hl : g.IsList sl (sp.map intV).toArray) (hsp : sp.length < 64)
    (hE : PassesOwn (model PySem.Challenge.rw_iv0024_01.row.prog w) (callerA.deeper (envX (Str.ofString "law") (lawScope w.params) L fa ccd [])) (envX (Str.ofString "law") (lawScope w.params) L fa ccd []) E)
    (next : ∀ (h' : Heap) (tk' : Nat) (rows c : Nat) (rl : List (Sg × Tok)) (m' : Str → Option Value), RowsE 3 rl → Fr g L h' (lfm (.ref sl) pool (.ref rows) m') → News g L h' [(rows, listOf (rl.map sgV).toArray c)] →
      wpAny (model PySem.Challenge.rw_iv0024_01.row.prog w) (callerA.deeper (envX (Str.ofString "law") (lawScope w.params) L fa ccd [])) (execs (lawRest w.params 4) (envX (Str.ofString "law") (lawScope w.params) L fa ccd [])) Q E { s with heap := h', toks := tk' }) :
    wpAny (model PySem.Challenge.rw_iv0024_01.row.prog w) (callerA.deeper (envX (Str.ofString "law") (lawScope w.params) L fa ccd [])) (execs (lawRest w.params 3) (envX (Str.ofString "law") (lawScope w.params) L fa ccd [])) Q E s := by
  have hb : lawRest w.params 3 = lawRest w.params 3 := rfl
  conv at hb => lhs; whnf
  rw [← hb]; clear hb
  generalize hcs : lawScope w.params = cs at *
  conv at hcs => lhs; whnf
  subst hcs
  refine seg_cons (EdEnd g L sl pool s) ?_ ?_
  · k_steps
    refine Stop.go (For_invV g rfl rfl ?_ (hE := hE))
    k_steps
    rename Fr g L _ _ => F1
    rename News g L _ _ => N1
    refine Stop.go (sliceMidI (a := 12) (b := 15) (by exact rfl) (by exact rfl) (by decide) F1 N1 (hl.at fun o e => F1.keep _ _ e) (by simp only [List.length_map]; kmod_is) ?_)
    intro (D : Nat) h2 F2 N2 l2
    k_steps
    rename Fr g L _ _ => F3
    rename News g L _ _ => N3
    obtain ⟨vs, hvs⟩ : ∃ vs, vs = ((sp.map intV).take 15).drop 12 := ⟨_, rfl⟩
    have hvl : vs.length ≤ 3 := by rw [hvs]; simp only [List.length_drop, List.length_take]; kmod_is
    rw [← hvs] at N3

    refine Stop.go (forList (x := Str.ofString "number") (EdInv sl pool) rfl F3 N3 ?_ ?_ ?_)
    · exact ⟨rows, c, rl, m, hR, rfl, rfl⟩
    · clear F3 N3
      rintro i v m₁ nx h2 tk2 I own hv ⟨rows, c, rl, m', hR, rfl, rfl⟩ hoff hown hIl hio F3 N3
      obtain ⟨x, rfl⟩ : ∃ x, v = intV x := by
        have := List.mem_of_getElem? hv
        rw [hvs] at this
        obtain ⟨x, _, e⟩ := List.mem_map.mp (List.mem_of_mem_take (List.mem_of_mem_drop this))
        exact ⟨x, e.symm⟩
      have hi3 : i < 3 := Nat.lt_of_lt_of_le (List.getElem?_eq_some_iff.mp hv).1 hvl
      obtain ⟨num, tn⟩ := x
      have F3 : Fr g L h2 (fun y => if y = Str.ofString "number" then some (.int num tn) else lfm (.ref sl) pool (.ref rows) m' y) := F3
      have hlen := hR.len
      have hpos := hR.pos
      have hl1 : 1 ≤ rl.length := by kmod_is
      have hl2 : rl.length < 1000 := by kmod_is
      obtain ⟨TT, hTT⟩ : ∃ TT, TT = own ++ [(D, listOf vs.toArray 0)] := ⟨_, rfl⟩
      have hIT : HasI I TT := hio.sub fun q h => by rw [hTT]; exact List.mem_append_left _ h
      have hO : ∀ {a : Addr × Obj}, ∀ q ∈ own ++ [(D, listOf vs.toArray 0)], q ∈ a :: TT := fun q hq => .tail _ (by rw [hTT]; exact hq)
      have N4 : News g L h2 ((rows, listOf (rl.map sgV).toArray c) :: TT) := News.sub N3 (fun q hq => by
        rcases List.mem_cons.mp hq with rfl | hq
        · exact List.mem_append_right _ (.tail _ (.head _))
        rw [hTT] at hq
        rcases List.mem_append.mp hq with hq | hq
        · exact List.mem_append_left _ hq
        · rw [List.mem_singleton.mp hq]; exact List.mem_append_right _ (.head _))
      clear N3
      refine hideQ fun Qt hQt => ?_
      refine seg_cons (EdMid g L sl rows c pool rl num tn m' TT s) ?_ ?_
      · k_steps
        rename Fr g L _ _ => F5
        rename News g L _ _ => N5
        rename _ ≠ Sg.em => hσ
        have b0 : 0 ≤ (num.fdiv 4).fmod (rl.length : Int) := Int.fmod_nonneg_of_pos _ (by kmod_is)
        have b1 : (num.fdiv 4).fmod (rl.length : Int) < (rl.length : Int) := Int.fmod_lt_of_pos _ (by kmod_is)
        obtain ⟨kn, hkn⟩ : ∃ kn : Nat, (num.fdiv 4).fmod (rl.length : Int) = (kn : Int) := ⟨((num.fdiv 4).fmod (rl.length : Int)).toNat, by kmod_is⟩
        rw [hkn] at F5 b1
        exact SegQ.next ⟨_, _, kn, _, _, _, _, _, rfl, by kmod_is, hσ, F5, News.sub N5 (by (first | with_reducible exact subId | ((repeat' (first | with_reducible exact subId | with_reducible exact subNil | with_reducible refine subCC ?_ | with_reducible refine subCons ?_ ?_ | with_reducible refine subApp ?_ ?_)) <;> kse_small) | (intro q hq; first | (simp only [List.mem_cons, List.mem_append, hq, true_or, or_true]; done) | (simp only [List.mem_cons, List.mem_append] at hq ⊢; grind))))⟩
      · clear F3 N4
        rintro s₁ ⟨h1, tk1, kn, wv, σ, t1, t2, t3, rfl, hk, hσ, F4, N4⟩
        have hk1 : (kn : Int) + 1 = ((kn + 1 : Nat) : Int) := rfl
        by_cases w1 : wv = 1
        · subst w1
          k_steps
          rename Fr g L _ _ => F5
          rename News g L _ _ => N5
          refine Stop.go (catL F5 N5 (by k_mem) (by k_mem) (by simp only [List.length_take, List.length_drop, List.length_map, List.length_cons, List.length_nil]; first | exact cB1 hl2 | exact cB2 hl2 | kmod_is) ?_)
          intro (D1 : Nat) h6 F6 N6 l6
          k_steps
          rename Fr g L _ _ => F9
          rename News g L _ _ => N9
          rw [cat1] at N9
          obtain ⟨io, hio2⟩ := hIT
          have hDI : D1 ≠ I := Nat.ne_of_gt ((by first | exact l8 | exact l6 : ∀ p ∈ _, p.1 < D1) (I, io) (by (repeat' (first | exact hio2 | refine List.mem_cons_of_mem _ ?_))))
          refine hQt _ _ ⟨_, _, _, [(D1, listOf (((rl.take kn) ++ [] ++ (rl.drop (kn + 1))).map sgV).toArray 0)], _, rfl, F9, N9, ?_, fun q hq => by rw [List.mem_singleton.mp hq]; exact .head _, fun q hq => by rw [List.mem_singleton.mp hq]; exact hDI, D1, 0, _, _, hR.edit (mid := []) (by simp) (by simp) (fun x hx => List.mem_of_mem_take hx) (fun x hx => List.mem_of_mem_drop hx) (fun p => by rw [List.map_take, List.map_drop]; exact countP_td1 kn) ?_, funext lf_edit, rfl⟩
          · intro q hq
            have hq2 : q ∈ TT := by rw [hTT]; exact hq
            (repeat' (first | exact hq2 | refine List.mem_cons_of_mem _ ?_))
          · simp only [List.length_take, List.length_drop]; kmod_is
        by_cases w2 : wv = 2
        · subst w2
          k_steps
          rename Fr g L _ _ => F5
          rename News g L _ _ => N5
          refine Stop.go (catL F5 N5 (by k_mem) (by k_mem) (by simp only [List.length_take, List.length_drop, List.length_map, List.length_cons, List.length_nil]; first | exact cB1 hl2 | exact cB2 hl2 | kmod_is) ?_)
          intro (D1 : Nat) h6 F6 N6 l6
          k_steps
          rename Fr g L _ _ => F7
          rename News g L _ _ => N7
          refine Stop.go (catL F7 N7 (by k_mem) (by k_mem) (by simp only [List.length_take, List.length_drop, List.length_map, List.length_cons, List.length_nil, List.length_append]; first | exact cB3 hl2 | kmod_is) ?_)
          intro (D2 : Nat) h8 F8 N8 l8
          k_steps
          rename Fr g L _ _ => F9
          rename News g L _ _ => N9
          rw [cat2] at N9
          obtain ⟨io, hio2⟩ := hIT
          have hDI : D2 ≠ I := Nat.ne_of_gt ((by first | exact l8 | exact l6 : ∀ p ∈ _, p.1 < D2) (I, io) (by (repeat' (first | exact hio2 | refine List.mem_cons_of_mem _ ?_))))
          refine hQt _ _ ⟨_, _, _, [(D2, listOf (((rl.take kn) ++ [(σ, t3)] ++ (rl.drop (kn + 1))).map sgV).toArray 0)], _, rfl, F9, N9, ?_, fun q hq => by rw [List.mem_singleton.mp hq]; exact .head _, fun q hq => by rw [List.mem_singleton.mp hq]; exact hDI, D2, 0, _, _, hR.edit (mid := [(σ, t3)]) (by simp) (by simpa using hσ) (fun x hx => List.mem_of_mem_take hx) (fun x hx => List.mem_of_mem_drop hx) (fun p => by rw [List.map_take, List.map_drop]; exact countP_td1 kn) ?_, funext lf_edit, rfl⟩
          · intro q hq
            have hq2 : q ∈ TT := by rw [hTT]; exact hq
            (repeat' (first | exact hq2 | refine List.mem_cons_of_mem _ ?_))
          · simp only [List.length_take, List.length_drop]; kmod_is
        by_cases w3 : wv = 3
        · subst w3
          k_steps
          rename Fr g L _ _ => F5
          rename News g L _ _ => N5
          refine Stop.go (catL F5 N5 (by k_mem) (by k_mem) (by simp only [List.length_take, List.length_drop, List.length_map, List.length_cons, List.length_nil]; first | exact cB1 hl2 | exact cB2 hl2 | kmod_is) ?_)
          intro (D1 : Nat) h6 F6 N6 l6
          k_steps
          rename Fr g L _ _ => F7
          rename News g L _ _ => N7
          refine Stop.go (catL F7 N7 (by k_mem) (by k_mem) (by simp only [List.length_take, List.length_drop, List.length_map, List.length_cons, List.length_nil, List.length_append]; first | exact cB3 hl2 | kmod_is) ?_)
          intro (D2 : Nat) h8 F8 N8 l8
          k_steps
          rename Fr g L _ _ => F9
          rename News g L _ _ => N9
          rw [cat2] at N9
          obtain ⟨io, hio2⟩ := hIT
          have hDI : D2 ≠ I := Nat.ne_of_gt ((by first | exact l8 | exact l6 : ∀ p ∈ _, p.1 < D2) (I, io) (by (repeat' (first | exact hio2 | refine List.mem_cons_of_mem _ ?_))))
          refine hQt _ _ ⟨_, _, _, [(D2, listOf (((rl.take kn) ++ [(σ, t3)] ++ (rl.drop kn)).map sgV).toArray 0)], _, rfl, F9, N9, ?_, fun q hq => by rw [List.mem_singleton.mp hq]; exact .head _, fun q hq => by rw [List.mem_singleton.mp hq]; exact hDI, D2, 0, _, _, hR.edit (mid := [(σ, t3)]) (by simp) (by simpa using hσ) (fun x hx => List.mem_of_mem_take hx) (fun x hx => List.mem_of_mem_drop hx) (fun p => by rw [List.map_take, List.map_drop]; exact (Nat.le_of_eq (countP_td kn))) ?_, funext lf_edit, rfl⟩
          · intro q hq
            have hq2 : q ∈ TT := by rw [hTT]; exact hq
            (repeat' (first | exact hq2 | refine List.mem_cons_of_mem _ ?_))
          · simp only [List.length_take, List.length_drop]; kmod_is
        k_steps
        all_goals first | exact absurd (by assumption) w1 | exact absurd (by assumption) w2 | exact absurd (by assumption) w3 | skip
        rename Fr g L _ _ => F9
        rename News g L _ _ => N9
        exact hQt _ _ ⟨_, _, _, _, _, rfl, F9, N9, hO, fun q hq => by rw [List.mem_singleton.mp hq]; exact .head _, hoff, rows, c, rl, _, hR.next, funext lf_edit0, rfl⟩
    · rintro m₁ nx h3 tk3 ⟨rows, c, rl, m', hR, rfl, rfl⟩ F4 N4
      exact SegQ.next ⟨h3, tk3, rows, c, rl, m', rfl, ⟨hR.em, by have := hR.len; kmod_is, by have := hR.opn; kmod_is, by have := hR.nam; kmod_is, by have := hR.pos; kmod_is⟩, F4, News.sub N4 (by (first | with_reducible exact subId | ((repeat' (first | with_reducible exact subId | with_reducible exact subNil | with_reducible refine subCC ?_ | with_reducible refine subCons ?_ ?_ | with_reducible refine subApp ?_ ?_)) <;> kse_small) | (intro q hq; first | (simp only [List.mem_cons, List.mem_append, hq, true_or, or_true]; done) | (simp only [List.mem_cons, List.mem_append] at hq ⊢; grind))))⟩
  · rintro s₁ ⟨h1, tk1, rows, c, rl, m', rfl, hE0, F2, N2⟩
    exact next h1 tk1 rows c rl m' hE0 F2 N2

end
section
theorem fold_count (p : Sg → Bool) : ∀ (l : List Sg) (ds : List (List Sg)) (c : List Sg), ∀ u ∈ (l.foldl stepR (ds, c)).1, u ∈ ds ∨ u.countP p ≤ c.countP p + l.countP p
  | [], ds, c => fun u hu => .inl hu
  | σ :: l, ds, c => fun u hu => by
    simp only [List.foldl_cons, stepR] at hu
    split at hu
    · rcases fold_count p l ds (c ++ [σ]) u hu with h | h
      · exact .inl h
      · refine .inr ?_
        simp only [List.countP_append, List.countP_cons, List.countP_nil] at h ⊢; kmod_is
    · split at hu
      · rcases fold_count p l (ds ++ [c]) [] u hu with h | h
        · rcases List.mem_append.mp h with h | h
          · exact .inl h
          · rw [List.mem_singleton.mp h]; exact .inr (by kmod_is)
        · refine .inr ?_
          simp only [List.countP_cons, List.countP_nil] at h ⊢; kmod_is
      · rcases fold_count p l ds c u hu with h | h
        · exact .inl h
        · refine .inr ?_
          simp only [List.countP_cons] at h ⊢; kmod_is
theorem rows_count (p : Sg → Bool) {l u : List Sg} (h : u ∈ (splitRows l).1) : u.countP p ≤ l.countP p := by
  rcases fold_count p l [] [] u h with h | h
  · exact absurd h (by simp)
  · simpa using h
theorem fold_rows : ∀ (l : List Sg) (ds : List (List Sg)) (c : List Sg), (l.foldl stepR (ds, c)).1.length ≤ ds.length + l.length
  | [], ds, c => by simp
  | σ :: l, ds, c => by
    simp only [List.foldl_cons, stepR]
    split
    · have := fold_rows l ds (c ++ [σ])
      simp only [List.length_cons]; kmod_is
    · split
      · have := fold_rows l (ds ++ [c]) []
        simp only [List.length_append, List.length_cons, List.length_nil] at this ⊢; kmod_is
      · have := fold_rows l ds c
        simp only [List.length_cons]; kmod_is
theorem fits_of {P : Params} {nws : List (Addr × Obj)} : ∀ (dl : List DRow) (rs : List Row), rs.map sign = dl.map (fun d => rowSign d.row) → (∀ d ∈ dl, rowOk d.row = true) → (∀ d ∈ dl, d.row.countP isName < 64 ∧ d.sg.length < 1000) → (∀ r ∈ rs, PieceB r.G r.x r.z r.ls) →
    (∀ d ∈ dl, d.ent ∈ nws) → (∀ q ∈ rled P rs, q ∈ nws) → Fits P nws dl rs
  | [], [], _, _, _, _, _, _ => trivial
  | [], r :: rs, e, _, _, _, _, _ => by simp at e
  | d :: dl, [], e, _, _, _, _, _ => by simp at e
  | d :: dl, r :: rs, e, ho, hc, hp, hd, hr => by
    simp only [List.map_cons, List.cons.injEq] at e
    refine ⟨⟨?_, hp r (.head _)⟩, hd d (.head _), fun q hq => hr q (by unfold rled; rw [List.flatMap_cons]; exact List.mem_append_left _ hq), fits_of dl rs e.2 (fun x hx => ho x (.tail _ hx)) (fun x hx => hc x (.tail _ hx)) (fun x hx => hp x (.tail _ hx)) (fun x hx => hd x (.tail _ hx))
      fun q hq => hr q (by unfold rled at hq ⊢; rw [List.flatMap_cons]; exact List.mem_append_right _ hq)⟩
    have h1 := ho d (.head _)
    obtain ⟨h2, h3⟩ := hc d (.head _)
    have he := e.1
    unfold sign rowSign at he
    rw [Prod.mk.injEq] at he
    obtain ⟨e1, e2⟩ := he
    obtain ⟨da, dc, sg⟩ := d
    match sg, h1 with
    | [], h1 => simp [rowOk, DRow.row] at h1
    | [x], h1 => simp [rowOk, DRow.row] at h1
    | x0 :: x1 :: rl, h1 =>
      refine ⟨x0.2, x1, rl, ?_, ?_, ?_, ?_⟩
      · have : r.σ = x0.1 := by rw [e1]; rfl
        rw [this]
      · rw [e2]; rfl
      · have : ((x0 :: x1 :: rl).map Prod.fst).countP isName < 64 := h2
        rw [← List.countP_eq_length_filter]
        simp only [List.map_cons, List.countP_cons] at this
        kmod_is
      · simp only [List.length_cons] at h3; kmod_is
set_option maxRecDepth 100000 in
set_option maxHeartbeats 1500000 in
theorem lawMain {w : World} {mean : ExcName → Option Value} {mg mb : Str → Option Value} {g : Heap} {L fa sl : Nat} {ccd : Value} {m : Str → Option Value} {s : Shared} {Q : Flow → Shared → Prop} {E : Value → Shared → Prop} {vs : List Value} {ns : List Int}
    (B : Below callerA g [] g) (F : Fr g L s.heap (fun y => if y = Str.ofString "script" then some (.ref sl) else m y)) (X : (hd.heap_1 w.params).In g) (T : Top vw (looseW vw [Str.ofString "PythonTokenTypes", Str.ofString "_tuplegetter", Str.ofString "PythonToken"]) mean mg mb g) (N : News g L s.heap []) (hl : g.IsList sl vs.toArray) (hI : IntsAre vs ns) (hn : ¬ 63 < ns.length) (hG : AllBare s.gens)
    (hE : PassesOwn (model PySem.Challenge.rw_iv0024_01.row.prog w) (callerA.deeper (envX (Str.ofString "law") (lawScope w.params) L fa ccd [])) (envX (Str.ofString "law") (lawScope w.params) L fa ccd []) E) (hEA : ∀ hd, PassesOwnAt (model PySem.Challenge.rw_iv0024_01.row.prog w) ((callerA.deeper (envX (Str.ofString "law") (lawScope w.params) L fa ccd [])).mark hd) (callerA.deeper (envX (Str.ofString "law") (lawScope w.params) L fa ccd [])) (envX (Str.ofString "law") (lawScope w.params) L fa ccd []) E)
    (hret : ∀ (h' : Heap) (tk' : Nat) gs' m', Fr g L h' m' → AllBare gs' → Q (.ret (.bool true)) { s with heap := h', toks := tk', gens := gs' }) :
    wpAny (model PySem.Challenge.rw_iv0024_01.row.prog w) (callerA.deeper (envX (Str.ofString "law") (lawScope w.params) L fa ccd [])) (execs (lawRest w.params 0) (envX (Str.ofString "law") (lawScope w.params) L fa ccd [])) Q E s := by
  obtain ⟨sp, rfl, hsp⟩ := ints_pl hI
  have hsl : sp.length < 64 := by
    have := congrArg List.length hsp
    rw [List.length_map] at this; kmod_is
  refine segNames B F X T N hl hsl hE fun h1 tk1 pool rows c rl m1 hR F1 N1 => ?_
  refine segEdits B F1 X T N1 hR hl hsl hE fun h2 tk2 rows c rl m2 hR F2 N2 => ?_
  have hlen := hR.len
  have hopn := hR.opn
  have hnam := hR.nam
  refine segStrip (rest := []) B F2 X T N2 (fun q hq => absurd hq (by simp)) (by kmod_is) hE fun h3 tk3 rl' c' hst F3 N3 => ?_
  have hl' : rl'.length ≤ rl.length := by
    have := strip_len (rl.map Prod.fst)
    rw [← hst, List.length_map, List.length_map] at this; exact this
  have hem' : ∀ x ∈ rl', x.1 ≠ .em := fun x hx => by
    have : x.1 ∈ strip (rl.map Prod.fst) := by rw [← hst]; exact List.mem_map.mpr ⟨x, hx, rfl⟩
    obtain ⟨y, hy, e⟩ := List.mem_map.mp (strip_mem this)
    rw [← e]; exact hR.em y hy
  have hop' : opens (rl'.map Prod.fst) ≤ 16 := by
    rw [hst]
    have := strip_count (rl.map Prod.fst) fun σ => σ = .lp || σ = .lb
    unfold opens at hopn ⊢; kmod_is
  have hnm' : (rl'.map Prod.fst).countP isName ≤ 23 := by
    rw [hst]
    have := strip_count (rl.map Prod.fst) isName
    kmod_is
  have htd : Tidy (rl'.map Prod.fst) := by rw [hst]; exact strip_tidy _
  refine segSplit B F3 X T N3 (by kmod_is) hem' hE fun h4 tk4 dl cur due row cd m4 hsp4 F4 N4 => ?_
  obtain ⟨g1, g2⟩ := gen_split 301 (rl'.map Prod.fst) (by rw [List.length_map]; kmod_is) (fun σ hσ => by
    obtain ⟨y, hy, e⟩ := List.mem_map.mp hσ
    rw [← e]; exact hem' y hy) (by rw [List.length_map]; kmod_is) htd
  rw [hsp4] at g1 g2
  have hgood : (dl.map DRow.row).all rowOk = dl.all fun d => rowOk d.row := by rw [List.all_map]; rfl
  dsimp only at g1 g2
  rw [hgood] at g1
  have hdl : dl.length ≤ rl'.length := by
    have := fold_rows (rl'.map Prod.fst) [] []
    have h2 : ((rl'.map Prod.fst).foldl stepR ([], [])).1 = dl.map DRow.row := congrArg Prod.fst hsp4
    rw [h2] at this
    simpa using this
  refine segTry (dn := 0) (dvs := dl.map DRow.ref) B F4 X T N4 (by kmod_is) hem' hop' (by rw [List.length_map]; kmod_is) hE hEA hG (fun b h5 tk5 gs5 m5 hb F5 hG5 => ?_) fun h5 tk5 gs5 S c5 rs hg hgd hrl hrs hpc hG5 F5 N5 => ?_
  · rcases hb with ⟨b1, b2⟩ | ⟨b1, b2, b3⟩
    · rw [g1] at b1
      rw [b1] at b2
      rw [b2]; exact hret _ _ _ _ F5 hG5
    · exfalso
      have b4 := g2 b1
      rw [b4] at b2
      rw [← g1, b1] at b2
      simp at b2
  · refine segCheck (dl := dl) (rs := rs) (cd := cd) (c := c5) (row := .ref row) (good := .bool _) (script := .ref sl) (pool := pool) (rows := .ref rows) B F5 X T N5 (.head _) (.tail _ (List.mem_append_right _ (.head _))) ?_ hE fun h6 tk6 m6 F6 => hret _ _ _ _ F6 hG5
    have hok := hg
    rw [g1, Bool.and_eq_true, List.all_eq_true] at hok
    refine fits_of dl rs (by rw [hrs, g2 hg, List.map_map]; rfl) hok.1 (fun d hd => ?_) hpc (fun d hd => ?_) fun q hq => .tail _ (List.mem_append_left _ hq)
    · have hdm : d.row ∈ (splitRows (rl'.map Prod.fst)).1 := by rw [hsp4]; exact List.mem_map.mpr ⟨d, hd, rfl⟩
      have h1 := rows_count isName hdm
      have h2 := rows_count (fun _ => true) hdm
      have h3 : d.row.length = d.sg.length := by unfold DRow.row; rw [List.length_map]
      simp at h2
      exact ⟨by kmod_is, by kmod_is⟩
    · exact .tail _ (List.mem_append_right _ (.tail _ (.tail _ (List.mem_append_left _ (List.mem_map.mpr ⟨d, hd, rfl⟩)))))

end
end
end
end
end
end
end Mine
set_option maxRecDepth 100000 in
set_option maxHeartbeats 8000000 in
theorem PySem.Challenge.cw_iv0024_01_holds : PySem.Challenge.rw_iv0024_01.Holds := by
  refine Mine.hd ?_
  k_fill
  intro w s₀ s₁ mg mb G Y fa o pm cd doc dV kV ho hd hcd hD hmg hg args vals as hpre hlay hrd hwl hlo
  have KX := kIn_of Y
  refine Ground.open G ?_
  intro T B D TE TW
  try (refine guard_noD D (by decide +kernel) ?_; clear D)
  obtain ⟨_, _, M⟩ := bmod_of_top T
  have TA := at_of_top T
  try (obtain ⟨_, _, he, B0⟩ := based_of_top T rfl hmg ho hd; have he' : cd = _ := he; subst he'; clear he)
  clear hmg
  wrow_args hpre hlay hrd hwl hlo
  all_goals (
    first | refine callC_kw (enter_call ?_) | refine enter_call ?_ | refine callC_kw (enter_callW ?_) | refine enter_callW ?_ | w_how
    w_top on
    have K0 := below_caller (Top.heap T)
    w_call any ho hd hcd hD T F
    clear hd TA
    k_drop
    skip)
  rename Heap.IsList _ _ _ => hL
  rename IntsAre _ _ => hI
  rename Fr _ _ _ _ => F1
  rename News _ _ _ _ => N1
  rename Below _ _ _ _ => K1
  rename ¬ _ < _ => hn
  have hb : Mine.lawRest w.params 0 = Mine.lawRest w.params 0 := rfl
  conv at hb => lhs; whnf
  have hsc : Mine.lawScope w.params = Mine.lawScope w.params := rfl
  conv at hsc => lhs; whnf
  have F2 : Fr s₁.heap _ _ (fun y => if y = Str.ofString "script" then some (.ref _) else (fun _ => none) y) := Mine.frCongr F1 fun y => by
    by_cases hy : y = Str.ofString "script"
    · subst hy; rfl
    · rw [if_neg hy]
      show (match y == Str.ofString "script" with | true => _ | false => none) = _
      rw [beq_false_of_ne hy]
  have key := fun (L : Nat) (ccd : Value) (sl : Nat) (m : Str → Option Value) (s : Shared) (Q : Flow → Shared → Prop) (E : Value → Shared → Prop) (vs : List Value) (ns : List Int) => @Mine.lawMain w (ExcName.means s₀.heap) mg mb s₁.heap L fa sl ccd m s Q E vs ns
  rw [← hb, ← hsc] at key
  refine key _ _ _ _ _ _ _ _ _ K1 F2 KX T N1 hL hI (by lia) (AllBare.of_eq hg) PassesOwn.leaving (fun _ => PassesOwnAt.leaving) fun h' tk' gs' m' F' hG' => ?_
  exact ⟨.inl ⟨_, _, [], rfl, fun cls => rfl, ReadsW.bool true, by wrow_post, fun _ => ⟨List.nodup_nil, fun _ hm => nomatch hm⟩⟩, OldK.of_keep F'.keep, rfl, hG'⟩

