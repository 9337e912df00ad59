import PyProof.Rows.All
import Wide.All
import OpenK.AllK
import Wide.FinOn
import PySem.Challenge.RW_ta0033_01
open PySem PySem.W PyProof.Rows PySem.Calls
set_option Elab.async false
set_option maxRecDepth 100000
set_option compiler.extract_closed false

namespace Mine
section

section
theorem off_Hd : True ∧ True := by
  w_top off
  walk1
  all_goals trivial
abbrev RL : OpenLaw := PySem.Challenge.rw_ta0033_01
abbrev RP : Program := OpenRow.toRowW (OpenLaw.row PySem.Challenge.rw_ta0033_01) |>.prog
theorem r1 : sreFenced RP.main = true := by decide +kernel
theorem r2 : ((moduleNames RP.main.body).isEmpty || lookedIntoSs (moduleNames RP.main.body) RP.main.body) = true := by decide +kernel
theorem r3 : namesResolve RP = true := by decide +kernel
theorem r4 : (RP.boundNames.all fun n => !worldNames.contains n) = true := by decide +kernel
theorem r5 : noRoadLSs { strict := !(importedModules RP.main.body).all cThrough.contains, foot := none, bare := (["vars", "dir", "locals"] : List Str).filter (readsOut RP RP.main.body) } RP.main.body = true := by decide +kernel
theorem r6 : (namesMeet RP RP.main.body fun _ n => attrL n) = true := by decide +kernel
theorem said_row : RL.row.wellSaid = true := by
  unfold OpenRow.wellSaid OpenRow.partSaid looksOpen
  repeat' (with_reducible refine look_both ?_ ?_)
  · exact r1
  · exact r2
  · exact r3
  · exact r4
  · exact r5
  · exact r6
  all_goals decide +kernel
theorem a3 : noClassBlock RL.prog RL.footing = true := by decide +kernel
theorem a4 : noRoadLSs { strict := true, foot := some RL.bound', writes := RL.writes, may := RL.may } RL.footing = true := by decide +kernel
theorem a5 : (RL.bound'.all fun n => !builtinNamed n || RL.about == [n] || !RL.reads n) = true := by decide +kernel
theorem a6 : (RL.own.all fun n => !builtinNamed n) = true := by decide +kernel
theorem a7 : (namesMeet RL.prog RL.above (fun _ n => !RL.own.contains n)) = true := by decide +kernel
theorem a8 : (namesMeet RL.prog RL.footing fun sc n => sc.kind == .module || sc.names.lookup n != some .globalExplicit) = true := by decide +kernel
theorem a9 : defStands RL.about RL.above = true := by decide +kernel
theorem said1 : RL.wellSaid = true := by
  unfold OpenLaw.wellSaid
  repeat' (with_reducible refine look_both ?_ ?_)
  · exact said_row
  all_goals (first | with_reducible exact a3 | with_reducible exact a4 | with_reducible exact a5 | with_reducible exact a6 | with_reducible exact a7 | with_reducible exact a8 | with_reducible exact a9 | decide +kernel)
def q0 : Program := view PySem.Challenge.pw_ta0033_01 [5, 6, 7, 8, 9, 10, 11, 13, 15, 16, 17, 18, 19, 20, 21, 22]
def lo0 : List Str := ["insort_right", "bisect_right", "bisect_left"]
set_option maxHeartbeats 400000 in
theorem open1 : ∀ w : World, (fencedOpening treeTable PySem.Challenge.rw_ta0033_01.row.prog w 1444).map (fun s => (s.heap, s.gens, s.drawn, s.toks)) = some (boot_heap w.params, Array.mk [], boot_drawn, boot_toks) :=
  boot_open (by kernel_rfl) (by kernel_rfl) (fun s => by kernel_rfl)
theorem left_of_boot {p q : Program} {loose : List Str} {Xt : Shared → Bool} {α : Type} {Yf : Shared → α} {Ya : World → α} {N : Nat} {g0 : Bool} {H₀ : Params → Heap} {gs₀ : Array GenState} {d₀ : Drawn} {k₀ : Nat}
    (open_ : ∀ w : World, (fencedOpening treeTable p w N).map (fun s => (s.heap, s.gens, s.drawn, s.toks)) = some (H₀ w.params, gs₀, d₀, k₀))
    (run : ∀ (w : World) (os : OsState), (topFrom treeTable p w N ⟨H₀ w.params, gs₀, d₀, k₀, os⟩).map (fun s => (openSeen q loose (importedModules p.main.body) Xt g0 s, Yf s)) = some (openGood q loose, Ya w)) : LeftO p q loose Xt Yf Ya N g0 := by
  intro w
  obtain ⟨⟨h, gs, d, k, os⟩, e, e'⟩ := Option.map_eq_some_iff.mp (open_ w)
  obtain ⟨rfl, rfl, rfl, rfl⟩ : h = H₀ w.params ∧ gs = gs₀ ∧ d = d₀ ∧ k = k₀ := by simpa using e'
  unfold openEnds
  rw [e]
  exact run w os
local macro_rules | `(tactic| o_law) => `(tactic| refine holds_law said1 fun said => ?_)
local macro_rules | `(tactic| o_head $H) => `(tactic| (refine holds_open (q := q0) (loose := lo0) (Xt := fun s => xlAt q0 [] s && recOk (RowW.records (OpenRow.toRowW (OpenLaw.row PySem.Challenge.rw_ta0033_01))) s) (XP := XL q0 []) (Yf := Hook.obs $H) (Ya := Hook.val $H) (YP := Hook.says $H) (N := 1444) ?hl (Hook.of $H) (Hook.keeps $H) (fun s e => xl_of s (Bool.and_eq_true_iff.mp e).1) XL.keeps (by rfl) (by rfl) (by rfl) (fun s e => recFacts_of (Bool.and_eq_true_iff.mp e).2) (by rfl) (by first | assumption | decide +kernel) (by decide +kernel) ⟨rfl, rfl, rfl, rfl, rfl, by decide +kernel⟩ ?hw ?hc; (case hl => (refine left_of_boot (p := PySem.Challenge.rw_ta0033_01.row.prog) (H₀ := boot_heap) (gs₀ := Array.mk []) (d₀ := boot_drawn) (k₀ := boot_toks) open1 ?_); intro w os; kernel_rfl)))
set_option maxHeartbeats 1000000 in
open_top hd for PySem.Challenge.rw_ta0033_01
end

section
theorem off_B0 : True ∧ True := by
  w_top off
  walk1
  all_goals trivial
abbrev Pg : Program := PySem.Challenge.rw_ta0033_01.row.prog
def Stop (P : Prop) : Prop := P
theorem Stop.of {P : Prop} (h : Stop P) : P := h
/-- a contract of a def at address f: called with vs (by place) and kw -/
def Ctr (w : World) (f : Addr) (vs : List Value) (kw : List (Str × Value)) (sz : Nat) (news : List (Addr × Obj)) (Post : Value → List (Addr × Obj) → Prop) : Prop :=
  ∀ (p : Program) (loose : List Str) (mean : ExcName → Option Value) (mg mb : Str → Option Value) (dp un : Nat) (gd : Option (List Code)) (cn : Str) (cs : Scope) (a : Addr) (ccd : Value) (cl : List (Str × Addr)) (outer : List Env) (A₀ : Around) (base h₀ : Heap) (L : Addr) (m : Str → Option Value) (s : Shared)
    (Q E : Value → Shared → Prop),
    Below A₀ base outer h₀ → Fr h₀ L s.heap m → (hd.heap_1 w.params).In h₀ → News h₀ L s.heap news → Top p loose mean mg mb h₀ → cs.kind = .function → dp + sz < recursionLimit → un + 8 * sz < cLine →
    (∀ r news' h' tk', Fr h₀ L h' m → News h₀ L h' news' → Post r news' → Q r { s with heap := h', toks := tk' }) →
    wpAny (model Pg w) (ktrTop dp un gd cn cs L a ccd cl outer) (call (.ref f) vs kw) Q E s
theorem k_eq {K : (Str → Option Value) → List (Addr × Obj) → Prop} {m M : Str → Option Value} {n : List (Addr × Obj)} (e : m = M) (h : K M n) : K m n := e ▸ h
theorem frc {h₀ h : Heap} {L : Addr} {m m' : Str → Option Value} (F : Fr h₀ L h m) (e : ∀ y, m y = m' y) : Fr h₀ L h m' := (funext e : m = m') ▸ F
theorem fillme : PySem.Challenge.rw_ta0033_01 = PySem.Challenge.rw_ta0033_01 ∧ hd.heap_1 = hd.heap_1 := by
  k_fill
  exact ⟨rfl, rfl⟩
theorem binds_KW {K : Frag} {s : Shared} {fd : FuncData} {args : Args} {binds : List (Str × Value)} {T D : Addr} {o oD : Obj} {items : Array Value} {n : Nat} {k : Option (Array Value) → Sem (List (Str × Value))} {part : Option Value} {k2 : Obj → Sem (List (Str × Value))} (X : K.In s.heap) (hd : fd.defaults = .ref T) (ho : K.lookup T = some o) (hs : o.data = .seq items n)
    (_hkd : fd.kwdefaults = .ref D) (hoD : K.lookup D = some oD)
    (h₁ : bindArgs fd args = seqItems? fd.defaults >>= k) (h₂ : k (some items) = loadPart D part >>= k2) (h₃ : k2 oD = pure binds) : BindsTo s fd args binds := by
  intro M A E Q hq
  rw [h₁, hd]
  refine wpAny_bind (wpAny_seqItems (X _ _ ho) hs ?_)
  rw [h₂]
  refine wpAny_bind (wpAny_loadPart (X _ _ hoD) ?_)
  rw [h₃]
  exact wpAny_pure hq

section
variable {M : Model} {A : Around} {E : Value → Shared → Prop} {s : Shared} {env : Env} {Q : Flow → Shared → Prop} {R : List Stmt}
theorem stIf {a b c d} (h : Stop (wpAny M A (execs (Stmt.If a b c d :: R) env) Q E s)) : wpAny M A (execs (Stmt.If a b c d :: R) env) Q E s := Stop.of h
theorem stFor {a b c d e} (h : Stop (wpAny M A (execs (Stmt.For a b c d e :: R) env) Q E s)) : wpAny M A (execs (Stmt.For a b c d e :: R) env) Q E s := Stop.of h
theorem stAs {a b c} (h : Stop (wpAny M A (execs (Stmt.Assign a b c :: R) env) Q E s)) : wpAny M A (execs (Stmt.Assign a b c :: R) env) Q E s := Stop.of h
theorem stLc {a b c d e f p} (h : Stop (wpAny M A (execs (Stmt.Assign [Expr.Name a b] (Expr.ListComp c d e f) p :: R) env) Q E s)) : wpAny M A (execs (Stmt.Assign [Expr.Name a b] (Expr.ListComp c d e f) p :: R) env) Q E s := Stop.of h
theorem stBin {a b c d e f p} (h : Stop (wpAny M A (execs (Stmt.Assign [Expr.Name a b] (Expr.BinOp c d e f) p :: R) env) Q E s)) : wpAny M A (execs (Stmt.Assign [Expr.Name a b] (Expr.BinOp c d e f) p :: R) env) Q E s := Stop.of h
theorem stCall {a b c d e f p} (h : Stop (wpAny M A (execs (Stmt.Assign [Expr.Name a b] (Expr.Call c d e f) p :: R) env) Q E s)) : wpAny M A (execs (Stmt.Assign [Expr.Name a b] (Expr.Call c d e f) p :: R) env) Q E s := Stop.of h
theorem stIt {pr : Program} {w : World} {a h₀ x body Q' E' E''} {env' : Env} (h : Stop (wpAny (model pr w) A (pyIter (.ref a)) (fun it s₂ => LoopAtV pr w A h₀ env' x body Q' E' it s₂) E'' s)) : wpAny (model pr w) A (pyIter (.ref a)) (fun it s₂ => LoopAtV pr w A h₀ env' x body Q' E' it s₂) E'' s := Stop.of h
end
section
variable {prog : Program} {w : World} {A : Around} {E : Value → Shared → Prop} {s : Shared} {h₀ : Heap} {L : Addr} {news : List (Addr × Obj)} {value slice : Expr} {a : Addr} {vs : List Value} {ns : List Int} {n : Nat} {k : Int} {u : Tok} {Q : Value → Shared → Prop}
theorem len_ints (N : News h₀ L s.heap news) (hm : (a, listOf vs.toArray n) ∈ news) (hi : IntsAre vs ns) (hfit : ns.length < 2 ^ 62) (h : Q (.int ns.length (s.toks + 1)) { s with toks := s.toks + 1 + 1 }) :
    wpAny (model prog w) A (call (.builtin "len") [.ref a]) Q E s := by
  have e : vs.toArray.size = ns.length := by rw [List.size_toArray]; exact hi.length
  refine call_len_list (N.isList hm) (by rw [e]; omega) ?_
  rw [e]; exact h
theorem item_ints (N : News h₀ L s.heap news) (hm : (a, listOf vs.toArray n) ∈ news) (hi : IntsAre vs ns) (h0 : 0 ≤ k) (h1 : k < ns.length) (hfit : ns.length < 2 ^ 62) (h : ∀ t, Q (.int (ns.getD k.toNat 0) t) s)
    (hs : subscripted slice false (.ref a) (.int k u) = operate [.ref a, .int k u] (getItem (.ref a) (.int k u)) := by with_unfolding_all rfl) (hg : ∀ r, letTemporaryGo value (.ref a) r = pure () := by intro _; with_unfolding_all rfl) :
    wpAny (model prog w) A (subscriptTail value slice (.ref a) (.int k u)) Q E s := by
  have hlt : k.toNat < ns.length := by omega
  obtain ⟨t, hx⟩ := hi.get k.toNat (ns.getD k.toNat 0) (by simp [List.getD_eq_getElem?_getD, hlt])
  exact kim_list N hm rfl rfl h0 (by omega) hx (h t) hs hg
theorem len_intsA (h : Q (.int ns.length (s.toks + 1)) { s with toks := s.toks + 1 + 1 }) (N : News h₀ L s.heap news := by k_asm) (hm : (a, listOf vs.toArray n) ∈ news := by k_mem) (hi : IntsAre vs ns := by assumption) (hfit : ns.length < 2 ^ 62 := by first | assumption | omega) :
    wpAny (model prog w) A (call (.builtin "len") [.ref a]) Q E s := len_ints N hm hi hfit h
theorem item_intsA (h : ∀ t, Q (.int (ns.getD k.toNat 0) t) s) (N : News h₀ L s.heap news := by k_asm) (hm : (a, listOf vs.toArray n) ∈ news := by k_mem) (hi : IntsAre vs ns := by assumption) (h0 : 0 ≤ k := by first | assumption | omega) (h1 : k < ns.length := by first | assumption | omega) (hfit : ns.length < 2 ^ 62 := by first | assumption | omega)
    (hs : subscripted slice false (.ref a) (.int k u) = operate [.ref a, .int k u] (getItem (.ref a) (.int k u)) := by with_unfolding_all rfl) (hg : ∀ r, letTemporaryGo value (.ref a) r = pure () := by intro _; with_unfolding_all rfl) :
    wpAny (model prog w) A (subscriptTail value slice (.ref a) (.int k u)) Q E s := item_ints N hm hi h0 h1 hfit h hs hg
theorem forA {env : Env} {x : Str} {body : List Stmt} {Q : Flow → Shared → Prop} {m : Str → Option Value} {px pos : Pos} {iter : Expr} (h : wpAny (model prog w) A (eval iter env) (fun xv s₁ => wpAny (model prog w) A (pyIter xv) (fun it s₂ => LoopAtV prog w A h₀ env x body Q E it s₂) E s₁) E s)
    (hx : env.kindOf x = some .local := by exact rfl) (hp : (env.scope.kind == .class || (env.scope.kind == .module && env.locals != env.globals)) = false := by exact rfl) (hE : PassesOwn (model prog w) A env E := by assumption) (F : Fr h₀ env.locals s.heap m := by k_asm) (hs : ∀ x, foldedSetIterable iter env x = pure x := by intro _; rfl) :
    wpAny (model prog w) A (exec (.For (.Name x px) iter body [] pos) env) Q E s := For_invVF F hx hp h hs hE
theorem appendA {Q : Value → Shared → Prop} {D : Addr} {m : Str → Option Value} {news' : List (Addr × Obj)} {x : Value} (h : ∀ h', Fr h₀ L h' m → News h₀ L h' news' → Q .none { s with heap := h' }) (F : Fr h₀ L s.heap m := by k_asm) (N : News h₀ L s.heap news := by k_asm) (U : Upd D (listOf vs.toArray n) (listOf (vs.toArray.push x) (n + 1)) news news' := by k_upd) (hsz : vs.toArray.size ≤ sizeLine := by rw [List.size_toArray, sizeLine_eq]; omega) :
    wpAny (model prog w) A (call (.builtin "list.append") [.ref D, x]) Q E s := append_K F N U h hsz
theorem mulA {a b : Int} {t : Tok} (h : Q (.int (a * b) s.toks) { s with toks := s.toks + 1 }) (hm : IntMulOk a b := by exact IntMulOk.of_left (PySem.intBits_le_iff.mpr (by omega))) : wpAny (model prog w) A (binaryOp .Mult (.int a t) (.int b u)) Q E s := mul_int h hm
theorem while_ind {env : Env} {test : Expr} {body orelse : List Stmt} {Q : Flow → Shared → Prop} {kk : Nat} {α : Type} (I : α → Shared → Prop) (μ : α → Nat) (hE : PassesOwn (model prog w) A env E)
    (step : ∀ a s, I a s → wpAny (model prog w) A (isTrue test env (eval test env)) (fun b s₂ => WhlIf b (wpAny (model prog w) A (execs body env) (fun f s₃ => match f with
      | .next => Stop (∃ a', I a' s₃ ∧ μ a' < μ a)
      | .cont => Stop (∃ a', I a' s₃ ∧ μ a' < μ a)
      | .brk => Q .next s₃
      | .ret v => Q (.ret v) s₃) E s₂) (wpAny (model prog w) A (execs orelse env) Q E s₂)) E s) (a : α) (h : I a s) : WhlRest prog w A E env test body orelse Q kk s := by
  have main : ∀ n, ∀ a s kk, μ a = n → I a s → WhlRest prog w A E env test body orelse Q kk s := by
    intro n
    induction n using Nat.strongRecOn with
    | ind n ih =>
      intro a s kk hn hI
      show WhlRest prog w A E env test body orelse Q (0 + 1) s
      refine whl_turn hE (wpAny_mono (step a s hI) (fun b s₂ h₂ => ?_) fun _ _ x => x)
      cases b with
      | false => exact WhlIf.no rfl (by simpa only [WhlIf, if_neg Bool.false_ne_true] using h₂)
      | true =>
        refine WhlIf.yes rfl ?_
        have h₃ := h₂
        unfold WhlIf at h₃
        rw [if_pos rfl] at h₃
        refine wpAny_mono h₃ (fun f s₃ h₄ => ?_) fun _ _ x => x
        cases f with
        | next => obtain ⟨a', hI', hlt⟩ := h₄; exact ih _ (by omega) a' _ 0 rfl hI'
        | cont => obtain ⟨a', hI', hlt⟩ := h₄; exact ih _ (by omega) a' _ 0 rfl hI'
        | brk => exact h₄
        | ret v => exact h₄
  exact main _ a s kk rfl h
end
end

section
theorem off_B1 : True ∧ True := by
  w_top off
  walk1
  all_goals trivial
local macro_rules | `(tactic| walk_at "call builtin:len") => `(tactic| k_dflt refine' len_intsA ?_)
local macro_rules | `(tactic| walk_at "exec While Compare cons nil") => `(tactic| k_dflt refine whl_start 0 (Stop.of ?_))
local macro_rules | `(tactic| walk_at "subscriptTail") => `(tactic| k_dflt refine' item_intsA ?_)

theorem bs_mid {p1 p2 n : Int} (hlt : p1 < p2) (h0 : 0 ≤ p1) (hn : p2 ≤ n) : 0 ≤ (p1 + p2).fdiv 2 ∧ (p1 + p2).fdiv 2 < n := by
  rw [Int.fdiv_eq_ediv_of_nonneg _ (by decide)]
  omega
theorem bs_lo {p1 p2 C M : Int} (hlt : p1 < p2) (h0 : 0 ≤ p1) (hM : max p1 (min C p2) = M) (h : (p1 + p2).fdiv 2 < C) : 0 ≤ (p1 + p2).fdiv 2 + 1 ∧ max ((p1 + p2).fdiv 2 + 1) (min C p2) = M ∧ (p2 - ((p1 + p2).fdiv 2 + 1)).toNat < (p2 - p1).toNat := by
  rw [Int.fdiv_eq_ediv_of_nonneg _ (by decide)] at h ⊢
  subst hM
  have e0 : p1 ≤ (p1 + p2) / 2 + 1 := by omega
  have e1 : (p1 + p2) / 2 + 1 ≤ min C p2 := Int.le_min.mpr ⟨h, by omega⟩
  refine ⟨Int.le_trans h0 e0, ?_, by omega⟩
  rw [Int.max_eq_right e1, Int.max_eq_right (Int.le_trans e0 e1)]
theorem bs_hi {p1 p2 n C M : Int} (hlt : p1 < p2) (hn : p2 ≤ n) (hM : max p1 (min C p2) = M) (h : C ≤ (p1 + p2).fdiv 2) : (p1 + p2).fdiv 2 ≤ n ∧ max p1 (min C ((p1 + p2).fdiv 2)) = M ∧ ((p1 + p2).fdiv 2 - p1).toNat < (p2 - p1).toNat := by
  rw [Int.fdiv_eq_ediv_of_nonneg _ (by decide)] at h ⊢
  subst hM
  refine ⟨by omega, ?_, by omega⟩
  rw [Int.min_eq_left h, Int.min_eq_left (by omega)]
theorem bs_end {p1 p2 C M : Int} (h : ¬ p1 < p2) (hM : max p1 (min C p2) = M) : p1 = M := by
  subst hM
  exact (Int.max_eq_left (Int.le_trans (Int.min_le_right _ _) (Int.not_lt.mp h))).symm
theorem upd_lo {M M0 A A0 H : Option Value} {R : Str → Option Value} (y : Str) : (if y = Str.ofString "lo" then A else if y = Str.ofString "mid" then M else if y = Str.ofString "mid" then M0 else if y = Str.ofString "lo" then A0 else if y = Str.ofString "hi" then H else R y) = (if y = Str.ofString "mid" then M else if y = Str.ofString "lo" then A else if y = Str.ofString "hi" then H else R y) := by
  by_cases h1 : y = Str.ofString "mid"
  · subst h1; rfl
  simp only [if_neg h1]
  by_cases h2 : y = Str.ofString "lo"
  · simp only [if_pos h2]
  simp only [if_neg h2]
theorem upd_hi {M M0 A H H0 : Option Value} {R : Str → Option Value} (y : Str) : (if y = Str.ofString "hi" then H else if y = Str.ofString "mid" then M else if y = Str.ofString "mid" then M0 else if y = Str.ofString "lo" then A else if y = Str.ofString "hi" then H0 else R y) = (if y = Str.ofString "mid" then M else if y = Str.ofString "lo" then A else if y = Str.ofString "hi" then H else R y) := by
  by_cases h1 : y = Str.ofString "mid"
  · subst h1; rfl
  simp only [if_neg h1]
  by_cases h2 : y = Str.ofString "lo"
  · subst h2; rfl
  simp only [if_neg h2]
  by_cases h3 : y = Str.ofString "hi"
  · simp only [if_pos h3]
  simp only [if_neg h3]
set_option maxHeartbeats 8000000 in
theorem bisect_left_C {w : World} {l : Addr} {vs : List Value} {ns : List Int} {n : Nat} {x lo hi C : Int} {tx tlo : Tok} {hv : Value} {args : List Value} {news : List (Addr × Obj)} (hl : (l, listOf vs.toArray n) ∈ news) (hvs : IntsAre vs ns)
   (h0 : 0 ≤ lo) (hn : ns.length < 1000) (hC : ∀ i : Nat, i < ns.length → (ns.getD i 0 < x ↔ (i : Int) < C)) (hhv : (hv = .none ∧ hi = ns.length) ∨ ∃ t, hv = .int hi t) (hhi : hi ≤ ns.length)
   (hb : ∀ oc od fd sl, (hd.heap_1 w.params).lookup 41 = some ⟨oc, od, .func fd, sl⟩ → ∀ s' : Shared, (hd.heap_1 w.params).In s'.heap → BindsTo s' fd ⟨args, []⟩ [(Str.ofString "a", .ref l), (Str.ofString "x", .int x tx), (Str.ofString "lo", .int lo tlo), (Str.ofString "hi", hv), (Str.ofString "key", .none)]) :
    Ctr w 41 args [] 1 news (fun r news' => (∃ t, r = .int (max lo (min C hi)) t) ∧ news' = news) := by
  unfold Ctr
  intro p loose mean mg mb dp un gd cn cs a ccd cl outer A₀ base h₀ L m s Q E B F X N T hk hd hu hret
  dsimp only at hret
  refine wpAny_call ?_
  refine' code_def ?k1 ?k2 ?k3 ?k4 ?k5 ?kA ?kF ?kK ?k6 ?k7 ?k8 ?k9 ?kB ?_ ?c2 ?c3 ?c4 ?c5
  case kA => exact rfl
  case kF => exact rfl
  case kK => assumption
  case k1 => k_asm
  case k2 => k_asm
  case k3 => k_asm
  case k4 => k_asm
  case k5 => k_asm
  case k6 => k_is
  case k7 => k_is
  case k8 => ktr_room
  case k9 => exact hb _ _ _ _ (by k_is) _ (by k_in)
  case c5 => decide
  case kB => exact locs rfl
  case c2 => exact rfl
  case c3 => exact rfl
  case c4 => exact rfl
  k_whole
  intro g' L' h' FG' F' N' B' X' T'
  try dsimp only
  try k_fold
  clear hb
  have hn62 : ns.length < 2 ^ 62 := Nat.lt_trans hn (by decide)
  rcases hhv with ⟨rfl, hhv⟩ | ⟨thi, rfl⟩
  all_goals (
    k_steps
    unfold Stop
    rename Fr g' _ _ _ => Fw
    rename News g' _ _ _ => Nw
    refine while_ind (α := Int × Int) (fun p s' => ∀ K : Shared → Prop, (∀ h tk u t1 t2, Fr g' L' h (fun y => if y = Str.ofString "mid" then u else if y = Str.ofString "lo" then some (.int p.1 t1) else if y = Str.ofString "hi" then some (.int p.2 t2) else
      List.lookup y [(Str.ofString "key", .none), (Str.ofString "x", .int x tx), (Str.ofString "a", .ref l)]) → News g' L' h news → 0 ≤ p.1 → p.2 ≤ ns.length → max p.1 (min C p.2) = max lo (min C hi) → K { s with heap := h, toks := tk }) → K s') (fun p => (p.2 - p.1).toNat) ?hE ?step (lo, hi) ?h0
    case hE => first | passes_own | with_unfolding_all passes_own
    case h0 =>
      intro K k9
      refine' k9 _ _ none tlo _ ?F Nw h0 hhi rfl
      case F =>
        refine frc Fw ?_
        intro y
        by_cases h1 : y = Str.ofString "mid"
        · subst h1; rfl
        by_cases h2 : y = Str.ofString "lo"
        · subst h2; rfl
        by_cases h3 : y = Str.ofString "hi"
        · subst h3; first | rfl | exact congrArg (fun z => some (Value.int z _)) hhv.symm
        have b2 : (y == Str.ofString "lo") = false := beq_false_of_ne h2
        have b3 : (y == Str.ofString "hi") = false := beq_false_of_ne h3
        simp only [if_neg h1, if_neg h2, if_neg h3, List.reverse_cons, List.reverse_nil, List.nil_append, List.cons_append, List.lookup_cons, b2, b3]
    case step =>
      rintro ⟨p1, p2⟩ s' P9
      refine P9 _ fun h tk u t1 t2 F9 N9 hp1 hp2 hp3 => ?_
      clear P9
      dsimp only at hp1 hp2 hp3 F9 ⊢
      k_steps
      by_cases hlt : p1 < p2
      · refine WhlIf.yes (by simpa using hlt) ?_
        obtain ⟨hm0, hm1⟩ := bs_mid hlt hp1 hp2
        have hcm := hC ((p1 + p2).fdiv 2).toNat (Int.toNat_lt hm0 |>.mpr hm1)
        rw [Int.toNat_of_nonneg hm0] at hcm
        k_steps
        all_goals (
          dsimp only
          unfold Stop
          rename Fr g' _ _ _ => Fz
          rename News g' _ _ _ => Nz
          first
          | (rename ns.getD _ 0 < x => ha; have q := bs_lo hlt hp1 hp3 (hcm.1 ha); exact ⟨((p1 + p2).fdiv 2 + 1, p2), fun K k9 => k9 _ _ _ _ _ (frc Fz upd_lo) Nz q.1 hp2 q.2.1, q.2.2⟩)
          | (rename ¬ (ns.getD _ 0 < x) => ha; have q := bs_hi hlt hp2 hp3 (Int.not_lt.mp (mt hcm.2 ha)); exact ⟨(p1, (p1 + p2).fdiv 2), fun K k9 => k9 _ _ _ _ _ (frc Fz upd_hi) Nz hp1 q.1 q.2.1, q.2.2⟩)
          )
      · refine WhlIf.no (by simpa using hlt) ?_
        k_steps
        exact hret _ _ _ _ (by assumption) (by assumption) ⟨⟨t1, by rw [bs_end hlt hp3]⟩, rfl⟩)

set_option maxHeartbeats 8000000 in
theorem bisect_right_C {w : World} {l : Addr} {vs : List Value} {ns : List Int} {n : Nat} {x lo hi C : Int} {tx tlo : Tok} {hv : Value} {args : List Value} {news : List (Addr × Obj)} (hl : (l, listOf vs.toArray n) ∈ news) (hvs : IntsAre vs ns)
   (h0 : 0 ≤ lo) (hn : ns.length < 1000) (hC : ∀ i : Nat, i < ns.length → (x < ns.getD i 0 ↔ C ≤ (i : Int))) (hhv : (hv = .none ∧ hi = ns.length) ∨ ∃ t, hv = .int hi t) (hhi : hi ≤ ns.length)
   (hb : ∀ oc od fd sl, (hd.heap_1 w.params).lookup 32 = some ⟨oc, od, .func fd, sl⟩ → ∀ s' : Shared, (hd.heap_1 w.params).In s'.heap → BindsTo s' fd ⟨args, []⟩ [(Str.ofString "a", .ref l), (Str.ofString "x", .int x tx), (Str.ofString "lo", .int lo tlo), (Str.ofString "hi", hv), (Str.ofString "key", .none)]) :
    Ctr w 32 args [] 1 news (fun r news' => (∃ t, r = .int (max lo (min C hi)) t) ∧ news' = news) := by
  unfold Ctr
  intro p loose mean mg mb dp un gd cn cs a ccd cl outer A₀ base h₀ L m s Q E B F X N T hk hd hu hret
  dsimp only at hret
  refine wpAny_call ?_
  refine' code_def ?k1 ?k2 ?k3 ?k4 ?k5 ?kA ?kF ?kK ?k6 ?k7 ?k8 ?k9 ?kB ?_ ?c2 ?c3 ?c4 ?c5
  case kA => exact rfl
  case kF => exact rfl
  case kK => assumption
  case k1 => k_asm
  case k2 => k_asm
  case k3 => k_asm
  case k4 => k_asm
  case k5 => k_asm
  case k6 => k_is
  case k7 => k_is
  case k8 => ktr_room
  case k9 => exact hb _ _ _ _ (by k_is) _ (by k_in)
  case c5 => decide
  case kB => exact locs rfl
  case c2 => exact rfl
  case c3 => exact rfl
  case c4 => exact rfl
  k_whole
  intro g' L' h' FG' F' N' B' X' T'
  try dsimp only
  try k_fold
  clear hb
  have hn62 : ns.length < 2 ^ 62 := Nat.lt_trans hn (by decide)
  rcases hhv with ⟨rfl, hhv⟩ | ⟨thi, rfl⟩
  all_goals (
    k_steps
    unfold Stop
    rename Fr g' _ _ _ => Fw
    rename News g' _ _ _ => Nw
    refine while_ind (α := Int × Int) (fun p s' => ∀ K : Shared → Prop, (∀ h tk u t1 t2, Fr g' L' h (fun y => if y = Str.ofString "mid" then u else if y = Str.ofString "lo" then some (.int p.1 t1) else if y = Str.ofString "hi" then some (.int p.2 t2) else
      List.lookup y [(Str.ofString "key", .none), (Str.ofString "x", .int x tx), (Str.ofString "a", .ref l)]) → News g' L' h news → 0 ≤ p.1 → p.2 ≤ ns.length → max p.1 (min C p.2) = max lo (min C hi) → K { s with heap := h, toks := tk }) → K s') (fun p => (p.2 - p.1).toNat) ?hE ?step (lo, hi) ?h0
    case hE => first | passes_own | with_unfolding_all passes_own
    case h0 =>
      intro K k9
      refine' k9 _ _ none tlo _ ?F Nw h0 hhi rfl
      case F =>
        refine frc Fw ?_
        intro y
        by_cases h1 : y = Str.ofString "mid"
        · subst h1; rfl
        by_cases h2 : y = Str.ofString "lo"
        · subst h2; rfl
        by_cases h3 : y = Str.ofString "hi"
        · subst h3; first | rfl | exact congrArg (fun z => some (Value.int z _)) hhv.symm
        have b2 : (y == Str.ofString "lo") = false := beq_false_of_ne h2
        have b3 : (y == Str.ofString "hi") = false := beq_false_of_ne h3
        simp only [if_neg h1, if_neg h2, if_neg h3, List.reverse_cons, List.reverse_nil, List.nil_append, List.cons_append, List.lookup_cons, b2, b3]
    case step =>
      rintro ⟨p1, p2⟩ s' P9
      refine P9 _ fun h tk u t1 t2 F9 N9 hp1 hp2 hp3 => ?_
      clear P9
      dsimp only at hp1 hp2 hp3 F9 ⊢
      k_steps
      by_cases hlt : p1 < p2
      · refine WhlIf.yes (by simpa using hlt) ?_
        obtain ⟨hm0, hm1⟩ := bs_mid hlt hp1 hp2
        have hcm := hC ((p1 + p2).fdiv 2).toNat (Int.toNat_lt hm0 |>.mpr hm1)
        rw [Int.toNat_of_nonneg hm0] at hcm
        k_steps
        all_goals (
          dsimp only
          unfold Stop
          rename Fr g' _ _ _ => Fz
          rename News g' _ _ _ => Nz
          first
          | (rename x < ns.getD _ 0 => ha; have q := bs_hi hlt hp2 hp3 (hcm.1 ha); exact ⟨(p1, (p1 + p2).fdiv 2), fun K k9 => k9 _ _ _ _ _ (frc Fz upd_hi) Nz hp1 q.1 q.2.1, q.2.2⟩)
          | (rename ¬ (x < ns.getD _ 0) => ha; have q := bs_lo hlt hp1 hp3 (Int.not_le.mp (mt hcm.2 ha)); exact ⟨((p1 + p2).fdiv 2 + 1, p2), fun K k9 => k9 _ _ _ _ _ (frc Fz upd_lo) Nz q.1 hp2 q.2.1, q.2.2⟩)
          )
      · refine WhlIf.no (by simpa using hlt) ?_
        k_steps
        exact hret _ _ _ _ (by assumption) (by assumption) ⟨⟨t1, by rw [bs_end hlt hp3]⟩, rfl⟩)
end

section
theorem off_B2 : True ∧ True := by
  w_top off
  walk1
  all_goals trivial
def cL (ns : List Int) (x : Int) : Int := (ns.countP (fun y => decide (y < x)) : Nat)
def cR (ns : List Int) (x : Int) : Int := (ns.countP (fun y => decide (y ≤ x)) : Nat)
def Srt (ns : List Int) : Prop := ns.Pairwise (· ≤ ·)
theorem countP_split (p : Int → Bool) : ∀ (ns : List Int), ns.Pairwise (fun a b => p b = true → p a = true) → ∀ i, i < ns.length → (p (ns.getD i 0) = true ↔ i < ns.countP p)
  | [], _, i, h => by simp at h
  | a :: r, hp, i, h => by
    rw [List.pairwise_cons] at hp
    cases ha : p a with
    | true =>
      rw [List.countP_cons_of_pos ha]
      cases i with
      | zero => simp [ha]
      | succ i =>
        have ih := countP_split p r hp.2 i (by simpa using h)
        simp only [List.getD_cons_succ]
        rw [ih]; omega
    | false =>
      have hz : r.countP p = 0 := by
        rw [List.countP_eq_zero]
        intro b hb hpb
        have := hp.1 b hb hpb
        rw [ha] at this; cases this
      rw [List.countP_cons_of_neg (by simp [ha]), hz]
      cases i with
      | zero => simp [ha]
      | succ i =>
        simp only [List.getD_cons_succ]
        constructor
        · intro hh
          exfalso
          have hi : i < r.length := by simpa using h
          have hm : r.getD i 0 ∈ r := by
            rw [List.getD_eq_getElem?_getD, List.getElem?_eq_getElem hi]; exact List.getElem_mem hi
          have := hp.1 _ hm hh
          rw [ha] at this; cases this
        · intro hh; omega
theorem cL_spec {ns : List Int} (h : Srt ns) (x : Int) : ∀ i : Nat, i < ns.length → (ns.getD i 0 < x ↔ (i : Int) < cL ns x) := by
  intro i hi
  have := countP_split (fun y => decide (y < x)) ns (List.Pairwise.imp (fun {a b} hab hb => by simp only [decide_eq_true_eq] at *; omega) h) i hi
  unfold cL
  rw [decide_eq_true_eq] at this
  rw [this]; omega
theorem cR_spec {ns : List Int} (h : Srt ns) (x : Int) : ∀ i : Nat, i < ns.length → (x < ns.getD i 0 ↔ cR ns x ≤ (i : Int)) := by
  intro i hi
  have := countP_split (fun y => decide (y ≤ x)) ns (List.Pairwise.imp (fun {a b} hab hb => by simp only [decide_eq_true_eq] at *; omega) h) i hi
  unfold cR
  rw [decide_eq_true_eq] at this
  omega
theorem cL_le (ns : List Int) (x : Int) : 0 ≤ cL ns x ∧ cL ns x ≤ cR ns x ∧ cR ns x ≤ ns.length := by
  unfold cL cR
  have h1 : ns.countP (fun y => decide (y < x)) ≤ ns.countP (fun y => decide (y ≤ x)) := List.countP_mono_left (fun y _ hy => by simp only [decide_eq_true_eq] at *; omega)
  have h2 := List.countP_le_length (p := fun y => decide (y ≤ x)) (l := ns)
  omega
theorem Ctr.use {w : World} {f : Addr} {vs : List Value} {kw : List (Str × Value)} {sz : Nat} {news : List (Addr × Obj)} {Post : Value → List (Addr × Obj) → Prop} (C : Ctr w f vs kw sz news Post)
  {p : Program} {loose : List Str} {mean : ExcName → Option Value} {mg mb : Str → Option Value} {dp un : Nat} {gd : Option (List Code)} {cn : Str} {cs : Scope} {a : Addr} {ccd : Value} {cl : List (Str × Addr)} {outer : List Env} {A₀ : Around} {base h₀ : Heap} {L : Addr} {m : Str → Option Value} {s : Shared}
    {Q E : Value → Shared → Prop} (B : Below A₀ base outer h₀) (F : Fr h₀ L s.heap m) (X : (hd.heap_1 w.params).In h₀) (N : News h₀ L s.heap news) (T : Top p loose mean mg mb h₀) (hk : cs.kind = .function) (hd : dp + sz < recursionLimit) (hu : un + 8 * sz < cLine)
    (hret : ∀ r news' h' tk', Fr h₀ L h' m → News h₀ L h' news' → Post r news' → Q r { s with heap := h', toks := tk' }) :
    wpAny (model Pg w) (ktrTop dp un gd cn cs L a ccd cl outer) (call (.ref f) vs kw) Q E s := C _ _ _ _ _ _ _ _ _ _ _ _ _ _ _ _ _ _ _ _ _ _ B F X N T hk hd hu hret
theorem Ctr.useI {w : World} {f : Addr} {vs : List Value} {kw : List (Str × Value)} {sz : Nat} {news : List (Addr × Obj)} {p : Program} {loose : List Str} {mean : ExcName → Option Value} {mg mb : Str → Option Value} {dp un : Nat} {gd : Option (List Code)} {cn : Str} {cs : Scope} {a : Addr} {ccd : Value} {cl : List (Str × Addr)} {outer : List Env} {A₀ : Around} {base h₀ : Heap} {L : Addr} {m : Str → Option Value} {s : Shared} {Q E : Value → Shared → Prop} {v : Int}
    (k : ∀ h' tk', Fr h₀ L h' m → ∀ t, News h₀ L h' news → Q (.int v t) { s with heap := h', toks := tk' })
    (F : Fr h₀ L s.heap m := by k_asm) (N : News h₀ L s.heap news := by k_asm) (C : Ctr w f vs kw sz news (fun r n' => (∃ t, r = .int v t) ∧ n' = news)) (B : Below A₀ base outer h₀ := by k_asm) (X : (hd.heap_1 w.params).In h₀ := by k_asm) (T : Top p loose mean mg mb h₀ := by k_asm) (hk : cs.kind = .function := by first | exact rfl | assumption) (hd : dp + sz < recursionLimit := by ktr_room) (hu : un + 8 * sz < cLine := by ktr_units) :
    wpAny (model Pg w) (ktrTop dp un gd cn cs L a ccd cl outer) (call (.ref f) vs kw) Q E s :=
  C.use B F X N T hk hd hu fun r n h tk F' N' P => by
    obtain ⟨⟨t, e⟩, g⟩ := P
    subst e
    subst g
    exact k h tk F' t N'
theorem Ctr.useB {w : World} {f : Addr} {vs : List Value} {kw : List (Str × Value)} {sz : Nat} {news : List (Addr × Obj)} {p : Program} {loose : List Str} {mean : ExcName → Option Value} {mg mb : Str → Option Value} {dp un : Nat} {gd : Option (List Code)} {cn : Str} {cs : Scope} {a : Addr} {ccd : Value} {cl : List (Str × Addr)} {outer : List Env} {A₀ : Around} {base h₀ : Heap} {L : Addr} {m : Str → Option Value} {s : Shared} {Q E : Value → Shared → Prop} {v : Array UInt8}
    (k : ∀ h' tk', Fr h₀ L h' m → ∀ t, News h₀ L h' news → Q (.bytes v t) { s with heap := h', toks := tk' })
    (F : Fr h₀ L s.heap m := by k_asm) (N : News h₀ L s.heap news := by k_asm) (C : Ctr w f vs kw sz news (fun r n' => ∃ t, r = .bytes v t ∧ n' = news)) (B : Below A₀ base outer h₀ := by k_asm) (X : (hd.heap_1 w.params).In h₀ := by k_asm) (T : Top p loose mean mg mb h₀ := by k_asm) (hk : cs.kind = .function := by first | exact rfl | assumption) (hd : dp + sz < recursionLimit := by ktr_room) (hu : un + 8 * sz < cLine := by ktr_units) :
    wpAny (model Pg w) (ktrTop dp un gd cn cs L a ccd cl outer) (call (.ref f) vs kw) Q E s :=
  C.use B F X N T hk hd hu fun r n h tk F' N' P => by
    obtain ⟨t, e, g⟩ := P
    subst e
    subst g
    exact k h tk F' t N'
theorem Ctr.useN {w : World} {f : Addr} {vs : List Value} {kw : List (Str × Value)} {sz : Nat} {news : List (Addr × Obj)} {p : Program} {loose : List Str} {mean : ExcName → Option Value} {mg mb : Str → Option Value} {dp un : Nat} {gd : Option (List Code)} {cn : Str} {cs : Scope} {a : Addr} {ccd : Value} {cl : List (Str × Addr)} {outer : List Env} {A₀ : Around} {base h₀ : Heap} {L : Addr} {m : Str → Option Value} {s : Shared} {Q E : Value → Shared → Prop} {Y : List Value → List (Addr × Obj)} {P : List Value → Prop}
    (k : ∀ h' tk', Fr h₀ L h' m → ∀ us, P us → News h₀ L h' (Y us) → Q .none { s with heap := h', toks := tk' })
    (F : Fr h₀ L s.heap m := by k_asm) (N : News h₀ L s.heap news := by k_asm) (C : Ctr w f vs kw sz news (fun r n' => r = .none ∧ ∃ us, P us ∧ n' = Y us)) (B : Below A₀ base outer h₀ := by k_asm) (X : (hd.heap_1 w.params).In h₀ := by k_asm) (T : Top p loose mean mg mb h₀ := by k_asm) (hk : cs.kind = .function := by first | exact rfl | assumption) (hd : dp + sz < recursionLimit := by ktr_room) (hu : un + 8 * sz < cLine := by ktr_units) :
    wpAny (model Pg w) (ktrTop dp un gd cn cs L a ccd cl outer) (call (.ref f) vs kw) Q E s :=
  C.use B F X N T hk hd hu fun r n h tk F' N' P => by
    obtain ⟨e, us, hv, g⟩ := P
    subst e
    subst g
    exact k h tk F' us hv N'
theorem Ctr.useL {w : World} {f : Addr} {vs : List Value} {kw : List (Str × Value)} {sz : Nat} {news : List (Addr × Obj)} {p : Program} {loose : List Str} {mean : ExcName → Option Value} {mg mb : Str → Option Value} {dp un : Nat} {gd : Option (List Code)} {cn : Str} {cs : Scope} {a : Addr} {ccd : Value} {cl : List (Str × Addr)} {outer : List Env} {A₀ : Around} {base h₀ : Heap} {L : Addr} {m : Str → Option Value} {s : Shared} {Q E : Value → Shared → Prop} {P1 : List (Addr × Obj) → Prop} {P2 : List Value → Prop} {Y : Addr → List Value → Nat → List (Addr × Obj) → List (Addr × Obj)} {Z : Addr → List Value → Nat → List (Addr × Obj) → Prop}
    (k : ∀ h' tk', Fr h₀ L h' m → ∀ D us n tb, P1 tb → P2 us → Z D us n tb → News h₀ L h' (Y D us n tb) → Q (.ref D) { s with heap := h', toks := tk' })
    (F : Fr h₀ L s.heap m := by k_asm) (N : News h₀ L s.heap news := by k_asm) (C : Ctr w f vs kw sz news (fun r n' => ∃ D us n tb, r = .ref D ∧ P1 tb ∧ P2 us ∧ n' = Y D us n tb ∧ Z D us n tb)) (B : Below A₀ base outer h₀ := by k_asm) (X : (hd.heap_1 w.params).In h₀ := by k_asm) (T : Top p loose mean mg mb h₀ := by k_asm) (hk : cs.kind = .function := by first | exact rfl | assumption) (hd : dp + sz < recursionLimit := by ktr_room) (hu : un + 8 * sz < cLine := by ktr_units) :
    wpAny (model Pg w) (ktrTop dp un gd cn cs L a ccd cl outer) (call (.ref f) vs kw) Q E s :=
  C.use B F X N T hk hd hu fun r n h tk F' N' P => by
    obtain ⟨D, us, n, tb, e, hT, hv, g, hz⟩ := P
    subst e
    subst g
    exact k h tk F' D us n tb hT hv hz N'
theorem Ctr.useD {w : World} {f : Addr} {vs : List Value} {kw : List (Str × Value)} {sz : Nat} {news : List (Addr × Obj)} {p : Program} {loose : List Str} {mean : ExcName → Option Value} {mg mb : Str → Option Value} {dp un : Nat} {gd : Option (List Code)} {cn : Str} {cs : Scope} {a : Addr} {ccd : Value} {cl : List (Str × Addr)} {outer : List Env} {A₀ : Around} {base h₀ : Heap} {L : Addr} {m : Str → Option Value} {s : Shared} {Q E : Value → Shared → Prop} {Y : Addr → Tok → Tok → List (Addr × Obj)} {Z : Addr → Tok → Tok → Prop}
    (k : ∀ h' tk', Fr h₀ L h' m → ∀ D t1 t2, Z D t1 t2 → News h₀ L h' (Y D t1 t2) → Q (.ref D) { s with heap := h', toks := tk' })
    (F : Fr h₀ L s.heap m := by k_asm) (N : News h₀ L s.heap news := by k_asm) (C : Ctr w f vs kw sz news (fun r n' => ∃ D t1 t2, r = .ref D ∧ n' = Y D t1 t2 ∧ Z D t1 t2)) (B : Below A₀ base outer h₀ := by k_asm) (X : (hd.heap_1 w.params).In h₀ := by k_asm) (T : Top p loose mean mg mb h₀ := by k_asm) (hk : cs.kind = .function := by first | exact rfl | assumption) (hd : dp + sz < recursionLimit := by ktr_room) (hu : un + 8 * sz < cLine := by ktr_units) :
    wpAny (model Pg w) (ktrTop dp un gd cn cs L a ccd cl outer) (call (.ref f) vs kw) Q E s :=
  C.use B F X N T hk hd hu fun r n h tk F' N' P => by
    obtain ⟨D, t1, t2, e, g, hz⟩ := P
    subst e
    subst g
    exact k h tk F' D t1 t2 hz N'
theorem Ctr.useJ {w : World} {f : Addr} {vs : List Value} {kw : List (Str × Value)} {sz : Nat} {news : List (Addr × Obj)} {p : Program} {loose : List Str} {mean : ExcName → Option Value} {mg mb : Str → Option Value} {dp un : Nat} {gd : Option (List Code)} {cn : Str} {cs : Scope} {a : Addr} {ccd : Value} {cl : List (Str × Addr)} {outer : List Env} {A₀ : Around} {base h₀ : Heap} {L : Addr} {m : Str → Option Value} {s : Shared} {Q E : Value → Shared → Prop} {v : Int} {P : List (Addr × Obj) → Prop} {Y : List (Addr × Obj) → List (Addr × Obj)}
    (k : ∀ h' tk', Fr h₀ L h' m → ∀ t b, P b → News h₀ L h' (Y b) → Q (.int v t) { s with heap := h', toks := tk' })
    (F : Fr h₀ L s.heap m := by k_asm) (N : News h₀ L s.heap news := by k_asm) (C : Ctr w f vs kw sz news (fun r n' => ∃ t b, r = .int v t ∧ P b ∧ n' = Y b)) (B : Below A₀ base outer h₀ := by k_asm) (X : (hd.heap_1 w.params).In h₀ := by k_asm) (T : Top p loose mean mg mb h₀ := by k_asm) (hk : cs.kind = .function := by first | exact rfl | assumption) (hd : dp + sz < recursionLimit := by ktr_room) (hu : un + 8 * sz < cLine := by ktr_units) :
    wpAny (model Pg w) (ktrTop dp un gd cn cs L a ccd cl outer) (call (.ref f) vs kw) Q E s :=
  C.use B F X N T hk hd hu fun r n h tk F' N' P => by
    obtain ⟨t, b, e, hb, g⟩ := P
    subst e
    subst g
    exact k h tk F' t b hb N'
theorem Ctr.useP {w : World} {f : Addr} {vs : List Value} {kw : List (Str × Value)} {sz : Nat} {news : List (Addr × Obj)} {p : Program} {loose : List Str} {mean : ExcName → Option Value} {mg mb : Str → Option Value} {dp un : Nat} {gd : Option (List Code)} {cn : Str} {cs : Scope} {a : Addr} {ccd : Value} {cl : List (Str × Addr)} {outer : List Env} {A₀ : Around} {base h₀ : Heap} {L : Addr} {m : Str → Option Value} {s : Shared} {Q E : Value → Shared → Prop} {v : Int} {P1 P2 : List (Addr × Obj) → Prop} {Y : List (Addr × Obj) → List (Addr × Obj) → List (Addr × Obj)}
    (k : ∀ h' tk', Fr h₀ L h' m → ∀ t a b, P1 a → P2 b → News h₀ L h' (Y a b) → Q (.int v t) { s with heap := h', toks := tk' })
    (F : Fr h₀ L s.heap m := by k_asm) (N : News h₀ L s.heap news := by k_asm) (C : Ctr w f vs kw sz news (fun r n' => ∃ t a b, r = .int v t ∧ P1 a ∧ P2 b ∧ n' = Y a b)) (B : Below A₀ base outer h₀ := by k_asm) (X : (hd.heap_1 w.params).In h₀ := by k_asm) (T : Top p loose mean mg mb h₀ := by k_asm) (hk : cs.kind = .function := by first | exact rfl | assumption) (hd : dp + sz < recursionLimit := by ktr_room) (hu : un + 8 * sz < cLine := by ktr_units) :
    wpAny (model Pg w) (ktrTop dp un gd cn cs L a ccd cl outer) (call (.ref f) vs kw) Q E s :=
  C.use B F X N T hk hd hu fun r n h tk F' N' P => by
    obtain ⟨t, a, b, e, ha, hb, g⟩ := P
    subst e
    subst g
    exact k h tk F' t a b ha hb N'
theorem Ctr.usePZ {w : World} {f : Addr} {vs : List Value} {kw : List (Str × Value)} {sz : Nat} {news : List (Addr × Obj)} {p : Program} {loose : List Str} {mean : ExcName → Option Value} {mg mb : Str → Option Value} {dp un : Nat} {gd : Option (List Code)} {cn : Str} {cs : Scope} {a : Addr} {ccd : Value} {cl : List (Str × Addr)} {outer : List Env} {A₀ : Around} {base h₀ : Heap} {L : Addr} {m : Str → Option Value} {s : Shared} {Q E : Value → Shared → Prop} {v : Int} {P1 P2 : List (Addr × Obj) → Prop} {Y : List (Addr × Obj) → List (Addr × Obj) → List (Addr × Obj)} {Z : List (Addr × Obj) → List (Addr × Obj) → Prop}
    (k : ∀ h' tk', Fr h₀ L h' m → ∀ t a b, P1 a → P2 b → Z a b → News h₀ L h' (Y a b) → Q (.int v t) { s with heap := h', toks := tk' })
    (F : Fr h₀ L s.heap m := by k_asm) (N : News h₀ L s.heap news := by k_asm) (C : Ctr w f vs kw sz news (fun r n' => ∃ t a b, r = .int v t ∧ P1 a ∧ P2 b ∧ n' = Y a b ∧ Z a b)) (B : Below A₀ base outer h₀ := by k_asm) (X : (hd.heap_1 w.params).In h₀ := by k_asm) (T : Top p loose mean mg mb h₀ := by k_asm) (hk : cs.kind = .function := by first | exact rfl | assumption) (hd : dp + sz < recursionLimit := by ktr_room) (hu : un + 8 * sz < cLine := by ktr_units) :
    wpAny (model Pg w) (ktrTop dp un gd cn cs L a ccd cl outer) (call (.ref f) vs kw) Q E s :=
  C.use B F X N T hk hd hu fun r n h tk F' N' P => by
    obtain ⟨t, a, b, e, ha, hb, g, hz⟩ := P
    subst e
    subst g
    exact k h tk F' t a b ha hb hz N'
theorem Ctr.useT1 {w : World} {f : Addr} {vs : List Value} {kw : List (Str × Value)} {sz : Nat} {news : List (Addr × Obj)} {p : Program} {loose : List Str} {mean : ExcName → Option Value} {mg mb : Str → Option Value} {dp un : Nat} {gd : Option (List Code)} {cn : Str} {cs : Scope} {a : Addr} {ccd : Value} {cl : List (Str × Addr)} {outer : List Env} {A₀ : Around} {base h₀ : Heap} {L : Addr} {m : Str → Option Value} {s : Shared} {Q E : Value → Shared → Prop} {P1 P2 : List (Addr × Obj) → Prop} {Y : Addr → Tok → Tok → List (Addr × Obj) → List (Addr × Obj) → List (Addr × Obj)} {Z1 : Addr → Tok → Tok → List (Addr × Obj) → List (Addr × Obj) → Prop}
    (k : ∀ h' tk', Fr h₀ L h' m → ∀ D u v a b, P1 a → P2 b → Z1 D u v a b → News h₀ L h' (Y D u v a b) → Q (.ref D) { s with heap := h', toks := tk' })
    (F : Fr h₀ L s.heap m := by k_asm) (N : News h₀ L s.heap news := by k_asm) (C : Ctr w f vs kw sz news (fun r n' => ∃ D u v a b, r = .ref D ∧ P1 a ∧ P2 b ∧ n' = Y D u v a b ∧ Z1 D u v a b)) (B : Below A₀ base outer h₀ := by k_asm) (X : (hd.heap_1 w.params).In h₀ := by k_asm) (T : Top p loose mean mg mb h₀ := by k_asm) (hk : cs.kind = .function := by first | exact rfl | assumption) (hd : dp + sz < recursionLimit := by ktr_room) (hu : un + 8 * sz < cLine := by ktr_units) :
    wpAny (model Pg w) (ktrTop dp un gd cn cs L a ccd cl outer) (call (.ref f) vs kw) Q E s :=
  C.use B F X N T hk hd hu fun r n h tk F' N' P => by
    obtain ⟨D, u, v, a, b, e, ha, hb, g, z1⟩ := P
    subst e
    subst g
    exact k h tk F' D u v a b ha hb z1 N'
theorem Ctr.useT2 {w : World} {f : Addr} {vs : List Value} {kw : List (Str × Value)} {sz : Nat} {news : List (Addr × Obj)} {p : Program} {loose : List Str} {mean : ExcName → Option Value} {mg mb : Str → Option Value} {dp un : Nat} {gd : Option (List Code)} {cn : Str} {cs : Scope} {a : Addr} {ccd : Value} {cl : List (Str × Addr)} {outer : List Env} {A₀ : Around} {base h₀ : Heap} {L : Addr} {m : Str → Option Value} {s : Shared} {Q E : Value → Shared → Prop} {P1 P2 : List (Addr × Obj) → Prop} {Y : Addr → Tok → Tok → List (Addr × Obj) → List (Addr × Obj) → List (Addr × Obj)} {Z1 Z2 : Addr → Tok → Tok → List (Addr × Obj) → List (Addr × Obj) → Prop}
    (k : ∀ h' tk', Fr h₀ L h' m → ∀ D u v a b, P1 a → P2 b → Z1 D u v a b → Z2 D u v a b → News h₀ L h' (Y D u v a b) → Q (.ref D) { s with heap := h', toks := tk' })
    (F : Fr h₀ L s.heap m := by k_asm) (N : News h₀ L s.heap news := by k_asm) (C : Ctr w f vs kw sz news (fun r n' => ∃ D u v a b, r = .ref D ∧ P1 a ∧ P2 b ∧ n' = Y D u v a b ∧ Z1 D u v a b ∧ Z2 D u v a b)) (B : Below A₀ base outer h₀ := by k_asm) (X : (hd.heap_1 w.params).In h₀ := by k_asm) (T : Top p loose mean mg mb h₀ := by k_asm) (hk : cs.kind = .function := by first | exact rfl | assumption) (hd : dp + sz < recursionLimit := by ktr_room) (hu : un + 8 * sz < cLine := by ktr_units) :
    wpAny (model Pg w) (ktrTop dp un gd cn cs L a ccd cl outer) (call (.ref f) vs kw) Q E s :=
  C.use B F X N T hk hd hu fun r n h tk F' N' P => by
    obtain ⟨D, u, v, a, b, e, ha, hb, g, z1, z2⟩ := P
    subst e
    subst g
    exact k h tk F' D u v a b ha hb z1 z2 N'
theorem Ctr.useT3 {w : World} {f : Addr} {vs : List Value} {kw : List (Str × Value)} {sz : Nat} {news : List (Addr × Obj)} {p : Program} {loose : List Str} {mean : ExcName → Option Value} {mg mb : Str → Option Value} {dp un : Nat} {gd : Option (List Code)} {cn : Str} {cs : Scope} {a : Addr} {ccd : Value} {cl : List (Str × Addr)} {outer : List Env} {A₀ : Around} {base h₀ : Heap} {L : Addr} {m : Str → Option Value} {s : Shared} {Q E : Value → Shared → Prop} {P1 P2 : List (Addr × Obj) → Prop} {Y : Addr → Tok → Tok → List (Addr × Obj) → List (Addr × Obj) → List (Addr × Obj)} {Z1 Z2 Z3 : Addr → Tok → Tok → List (Addr × Obj) → List (Addr × Obj) → Prop}
    (k : ∀ h' tk', Fr h₀ L h' m → ∀ D u v a b, P1 a → P2 b → Z1 D u v a b → Z2 D u v a b → Z3 D u v a b → News h₀ L h' (Y D u v a b) → Q (.ref D) { s with heap := h', toks := tk' })
    (F : Fr h₀ L s.heap m := by k_asm) (N : News h₀ L s.heap news := by k_asm) (C : Ctr w f vs kw sz news (fun r n' => ∃ D u v a b, r = .ref D ∧ P1 a ∧ P2 b ∧ n' = Y D u v a b ∧ Z1 D u v a b ∧ Z2 D u v a b ∧ Z3 D u v a b)) (B : Below A₀ base outer h₀ := by k_asm) (X : (hd.heap_1 w.params).In h₀ := by k_asm) (T : Top p loose mean mg mb h₀ := by k_asm) (hk : cs.kind = .function := by first | exact rfl | assumption) (hd : dp + sz < recursionLimit := by ktr_room) (hu : un + 8 * sz < cLine := by ktr_units) :
    wpAny (model Pg w) (ktrTop dp un gd cn cs L a ccd cl outer) (call (.ref f) vs kw) Q E s :=
  C.use B F X N T hk hd hu fun r n h tk F' N' P => by
    obtain ⟨D, u, v, a, b, e, ha, hb, g, z1, z2, z3⟩ := P
    subst e
    subst g
    exact k h tk F' D u v a b ha hb z1 z2 z3 N'
theorem Ctr.useR {w : World} {f : Addr} {vs : List Value} {kw : List (Str × Value)} {sz : Nat} {news : List (Addr × Obj)} {p : Program} {loose : List Str} {mean : ExcName → Option Value} {mg mb : Str → Option Value} {dp un : Nat} {gd : Option (List Code)} {cn : Str} {cs : Scope} {a : Addr} {ccd : Value} {cl : List (Str × Addr)} {outer : List Env} {A₀ : Around} {base h₀ : Heap} {L : Addr} {m : Str → Option Value} {s : Shared} {Q E : Value → Shared → Prop} {P1 P2 : List (Addr × Obj) → Prop} {P3 : List Value → Prop} {Y : Addr → Addr → List Value → Nat → Tok → List (Addr × Obj) → List (Addr × Obj) → List (Addr × Obj)} {Z1 Z2 Z3 Z4 : Addr → Addr → List Value → Nat → Tok → List (Addr × Obj) → List (Addr × Obj) → Prop}
    (k : ∀ h' tk', Fr h₀ L h' m → ∀ D l us n v a b, P1 a → P2 b → P3 us → Z1 D l us n v a b → Z2 D l us n v a b → Z3 D l us n v a b → Z4 D l us n v a b → News h₀ L h' (Y D l us n v a b) → Q (.ref D) { s with heap := h', toks := tk' })
    (F : Fr h₀ L s.heap m := by k_asm) (N : News h₀ L s.heap news := by k_asm) (C : Ctr w f vs kw sz news (fun r n' => ∃ D l us n v a b, r = .ref D ∧ P1 a ∧ P2 b ∧ P3 us ∧ n' = Y D l us n v a b ∧ Z1 D l us n v a b ∧ Z2 D l us n v a b ∧ Z3 D l us n v a b ∧ Z4 D l us n v a b)) (B : Below A₀ base outer h₀ := by k_asm) (X : (hd.heap_1 w.params).In h₀ := by k_asm) (T : Top p loose mean mg mb h₀ := by k_asm) (hk : cs.kind = .function := by first | exact rfl | assumption) (hd : dp + sz < recursionLimit := by ktr_room) (hu : un + 8 * sz < cLine := by ktr_units) :
    wpAny (model Pg w) (ktrTop dp un gd cn cs L a ccd cl outer) (call (.ref f) vs kw) Q E s :=
  C.use B F X N T hk hd hu fun r n h tk F' N' P => by
    obtain ⟨D, l, us, n, v, a, b, e, ha, hb, hu, g, z1, z2, z3, z4⟩ := P
    subst e
    subst g
    exact k h tk F' D l us n v a b ha hb hu z1 z2 z3 z4 N'
theorem Ctr.mono {w : World} {f : Addr} {vs : List Value} {kw : List (Str × Value)} {sz : Nat} {news : List (Addr × Obj)} {Post Post' : Value → List (Addr × Obj) → Prop} (C : Ctr w f vs kw sz news Post) (h : ∀ r n', Post r n' → Post' r n') : Ctr w f vs kw sz news Post' :=
  fun _ _ _ _ _ _ _ _ _ _ _ _ _ _ _ _ _ _ _ _ _ _ B F X N T hk hd hu hret => C _ _ _ _ _ _ _ _ _ _ _ _ _ _ _ _ _ _ _ _ _ _ B F X N T hk hd hu fun r n' h' tk' F' N' hp => hret r n' h' tk' F' N' (h r n' hp)
theorem lk_inj {K : Frag} {a : Addr} {o o' : Obj} (h1 : K.lookup a = some o) (h2 : K.lookup a = some o') : o = o' := Option.some.inj (h1.symm.trans h2)

theorem bl2 {w : World} {l : Addr} {vs : List Value} {ns : List Int} {n : Nat} {x : Int} {tx : Tok} {news : List (Addr × Obj)} (hl : (l, listOf vs.toArray n) ∈ news := by k_mem) (hvs : IntsAre vs ns := by assumption) (hn : ns.length < 1000 := by first | assumption | omega) (hs : Srt ns := by assumption) :
    Ctr w 41 [.ref l, .int x tx] [] 1 news (fun r news' => (∃ t, r = .int (cL ns x) t) ∧ news' = news) := by
  refine (bisect_left_C (tx := tx) (lo := 0) (tlo := 216) (hv := .none) (C := cL ns x) (hi := ns.length) hl hvs (by decide) hn (cL_spec hs x) (.inl ⟨rfl, rfl⟩) (Int.le_refl _) ?_).mono fun r n' ⟨⟨t, e⟩, e2⟩ => ⟨⟨t, e.trans (congrArg (fun z => Value.int z t) (by have := cL_le ns x; omega))⟩, e2⟩
  intro oc od fd sl hK s' X
  have e := lk_inj hK (by k_is)
  cases e
  refine' binds_KW ?X ?d ?o ?s ?kd ?m ?h1 ?h2 ?h3
  case X => exact X
  case d => exact rfl
  case o => k_is
  case s => exact rfl
  case kd => exact rfl
  case m => k_is
  case h1 => exact rfl
  case h2 => exact rfl
  case h3 => exact rfl

theorem bl3 {w : World} {l : Addr} {vs : List Value} {ns : List Int} {n : Nat} {x lo : Int} {tx tlo : Tok} {news : List (Addr × Obj)} (hl : (l, listOf vs.toArray n) ∈ news := by k_mem) (hvs : IntsAre vs ns := by assumption) (hn : ns.length < 1000 := by first | assumption | omega) (hs : Srt ns := by assumption) (h0 : 0 ≤ lo := by omega) :
    Ctr w 41 [.ref l, .int x tx, .int lo tlo] [] 1 news (fun r news' => (∃ t, r = .int (max lo (cL ns x)) t) ∧ news' = news) := by
  refine (bisect_left_C (tx := tx) (lo := lo) (tlo := tlo) (hv := .none) (C := cL ns x) (hi := ns.length) hl hvs h0 hn (cL_spec hs x) (.inl ⟨rfl, rfl⟩) (Int.le_refl _) ?_).mono fun r n' ⟨⟨t, e⟩, e2⟩ => ⟨⟨t, e.trans (congrArg (fun z => Value.int z t) (by have := cL_le ns x; omega))⟩, e2⟩
  intro oc od fd sl hK s' X
  have e := lk_inj hK (by k_is)
  cases e
  refine' binds_KW ?X ?d ?o ?s ?kd ?m ?h1 ?h2 ?h3
  case X => exact X
  case d => exact rfl
  case o => k_is
  case s => exact rfl
  case kd => exact rfl
  case m => k_is
  case h1 => exact rfl
  case h2 => exact rfl
  case h3 => exact rfl

theorem bl4 {w : World} {l : Addr} {vs : List Value} {ns : List Int} {n : Nat} {x lo hi : Int} {tx tlo thi : Tok} {news : List (Addr × Obj)} (hl : (l, listOf vs.toArray n) ∈ news := by k_mem) (hvs : IntsAre vs ns := by assumption) (hn : ns.length < 1000 := by first | assumption | omega) (hs : Srt ns := by assumption) (h0 : 0 ≤ lo := by omega) (h1 : hi ≤ ns.length := by omega) :
    Ctr w 41 [.ref l, .int x tx, .int lo tlo, .int hi thi] [] 1 news (fun r news' => (∃ t, r = .int (max lo (min (cL ns x) hi)) t) ∧ news' = news) := by
  refine (bisect_left_C (tx := tx) (lo := lo) (tlo := tlo) (hv := .int hi thi) (C := cL ns x) (hi := hi) hl hvs h0 hn (cL_spec hs x) (.inr ⟨thi, rfl⟩) h1 ?_).mono fun r n' ⟨⟨t, e⟩, e2⟩ => ⟨⟨t, e.trans (congrArg (fun z => Value.int z t) (by have := cL_le ns x; omega))⟩, e2⟩
  intro oc od fd sl hK s' X
  have e := lk_inj hK (by k_is)
  cases e
  refine' binds_KW ?X ?d ?o ?s ?kd ?m ?h1 ?h2 ?h3
  case X => exact X
  case d => exact rfl
  case o => k_is
  case s => exact rfl
  case kd => exact rfl
  case m => k_is
  case h1 => exact rfl
  case h2 => exact rfl
  case h3 => exact rfl

theorem br2 {w : World} {l : Addr} {vs : List Value} {ns : List Int} {n : Nat} {x : Int} {tx : Tok} {news : List (Addr × Obj)} (hl : (l, listOf vs.toArray n) ∈ news := by k_mem) (hvs : IntsAre vs ns := by assumption) (hn : ns.length < 1000 := by first | assumption | omega) (hs : Srt ns := by assumption) :
    Ctr w 32 [.ref l, .int x tx] [] 1 news (fun r news' => (∃ t, r = .int (cR ns x) t) ∧ news' = news) := by
  refine (bisect_right_C (tx := tx) (lo := 0) (tlo := 202) (hv := .none) (C := cR ns x) (hi := ns.length) hl hvs (by decide) hn (cR_spec hs x) (.inl ⟨rfl, rfl⟩) (Int.le_refl _) ?_).mono fun r n' ⟨⟨t, e⟩, e2⟩ => ⟨⟨t, e.trans (congrArg (fun z => Value.int z t) (by have := cL_le ns x; omega))⟩, e2⟩
  intro oc od fd sl hK s' X
  have e := lk_inj hK (by k_is)
  cases e
  refine' binds_KW ?X ?d ?o ?s ?kd ?m ?h1 ?h2 ?h3
  case X => exact X
  case d => exact rfl
  case o => k_is
  case s => exact rfl
  case kd => exact rfl
  case m => k_is
  case h1 => exact rfl
  case h2 => exact rfl
  case h3 => exact rfl

theorem br3 {w : World} {l : Addr} {vs : List Value} {ns : List Int} {n : Nat} {x lo : Int} {tx tlo : Tok} {news : List (Addr × Obj)} (hl : (l, listOf vs.toArray n) ∈ news := by k_mem) (hvs : IntsAre vs ns := by assumption) (hn : ns.length < 1000 := by first | assumption | omega) (hs : Srt ns := by assumption) (h0 : 0 ≤ lo := by omega) :
    Ctr w 32 [.ref l, .int x tx, .int lo tlo] [] 1 news (fun r news' => (∃ t, r = .int (max lo (cR ns x)) t) ∧ news' = news) := by
  refine (bisect_right_C (tx := tx) (lo := lo) (tlo := tlo) (hv := .none) (C := cR ns x) (hi := ns.length) hl hvs h0 hn (cR_spec hs x) (.inl ⟨rfl, rfl⟩) (Int.le_refl _) ?_).mono fun r n' ⟨⟨t, e⟩, e2⟩ => ⟨⟨t, e.trans (congrArg (fun z => Value.int z t) (by have := cL_le ns x; omega))⟩, e2⟩
  intro oc od fd sl hK s' X
  have e := lk_inj hK (by k_is)
  cases e
  refine' binds_KW ?X ?d ?o ?s ?kd ?m ?h1 ?h2 ?h3
  case X => exact X
  case d => exact rfl
  case o => k_is
  case s => exact rfl
  case kd => exact rfl
  case m => k_is
  case h1 => exact rfl
  case h2 => exact rfl
  case h3 => exact rfl

theorem br4 {w : World} {l : Addr} {vs : List Value} {ns : List Int} {n : Nat} {x lo hi : Int} {tx tlo thi : Tok} {news : List (Addr × Obj)} (hl : (l, listOf vs.toArray n) ∈ news := by k_mem) (hvs : IntsAre vs ns := by assumption) (hn : ns.length < 1000 := by first | assumption | omega) (hs : Srt ns := by assumption) (h0 : 0 ≤ lo := by omega) (h1 : hi ≤ ns.length := by omega) :
    Ctr w 32 [.ref l, .int x tx, .int lo tlo, .int hi thi] [] 1 news (fun r news' => (∃ t, r = .int (max lo (min (cR ns x) hi)) t) ∧ news' = news) := by
  refine (bisect_right_C (tx := tx) (lo := lo) (tlo := tlo) (hv := .int hi thi) (C := cR ns x) (hi := hi) hl hvs h0 hn (cR_spec hs x) (.inr ⟨thi, rfl⟩) h1 ?_).mono fun r n' ⟨⟨t, e⟩, e2⟩ => ⟨⟨t, e.trans (congrArg (fun z => Value.int z t) (by have := cL_le ns x; omega))⟩, e2⟩
  intro oc od fd sl hK s' X
  have e := lk_inj hK (by k_is)
  cases e
  refine' binds_KW ?X ?d ?o ?s ?kd ?m ?h1 ?h2 ?h3
  case X => exact X
  case d => exact rfl
  case o => k_is
  case s => exact rfl
  case kd => exact rfl
  case m => k_is
  case h1 => exact rfl
  case h2 => exact rfl
  case h3 => exact rfl
theorem useB6 {w : World} {f : Addr} {vs : List Value} {kw : List (Str × Value)} {sz : Nat} {news : List (Addr × Obj)} {p : Program} {loose : List Str} {mean : ExcName → Option Value} {mg mb : Str → Option Value} {dp un : Nat} {gd : Option (List Code)} {cn : Str} {cs : Scope} {a : Addr} {ccd : Value} {cl : List (Str × Addr)} {outer : List Env} {A₀ : Around} {base h₀ : Heap} {L : Addr} {m : Str → Option Value} {s : Shared} {Q E : Value → Shared → Prop} {v : Int}
    (k : ∀ h' tk', Fr h₀ L h' m → ∀ t, News h₀ L h' news → Q (.int v t) { s with heap := h', toks := tk' })
    (F : Fr h₀ L s.heap m := by k_asm) (N : News h₀ L s.heap news := by k_asm) (C : Ctr w f vs kw sz news (fun r n' => (∃ t, r = .int v t) ∧ n' = news) := by first | exact bl2 | exact br2 | exact bl3 | exact br3 | exact bl4 | exact br4) (B : Below A₀ base outer h₀ := by k_asm) (X : (hd.heap_1 w.params).In h₀ := by k_asm) (T : Top p loose mean mg mb h₀ := by k_asm) (hk : cs.kind = .function := by first | exact rfl | assumption) (hd : dp + sz < recursionLimit := by ktr_room) (hu : un + 8 * sz < cLine := by ktr_units) :
    wpAny (model Pg w) (ktrTop dp un gd cn cs L a ccd cl outer) (call (.ref f) vs kw) Q E s := Ctr.useI k F N C B X T hk hd hu
end

section
theorem off_B3 : True ∧ True := by
  w_top off
  walk1
  all_goals trivial
local macro_rules | `(tactic| walk_at "z") => `(tactic| ((try dsimp only); (try k_sweep); (try k_fold)))
local macro_rules | `(tactic| walk_at "call ref") => `(tactic| k_dflt (refine' useB6 ?_; intros; walk_at "z"))

def Wt (ns : List Int) (x : Int) : Int := cR ns x - cL ns x
set_option maxHeartbeats 8000000 in
theorem weight_C {w : World} {l : Addr} {vs : List Value} {ns : List Int} {n : Nat} {x : Int} {tx : Tok} {news : List (Addr × Obj)} (hl : (l, listOf vs.toArray n) ∈ news := by k_mem) (hvs : IntsAre vs ns := by assumption) (hn : ns.length < 1000 := by first | assumption | omega) (hs : Srt ns := by assumption) :
    Ctr w 109 [.ref l, .int x tx] [] 2 news (fun r news' => (∃ t, r = .int (Wt ns x) t) ∧ news' = news) := by
  unfold Ctr
  intro p loose mean mg mb dp un gd cn cs a ccd cl outer A₀ base h₀ L m s Q E B F X N T hk hd hu hret
  dsimp only at hret
  refine wpAny_call ?_
  refine' code_def ?k1 ?k2 ?k3 ?k4 ?k5 ?kA ?kF ?kK ?k6 ?k7 ?k8 ?k9 ?kB ?_ ?c2 ?c3 ?c4 ?c5
  case kA => exact rfl
  case kF => exact rfl
  case kK => assumption
  case k1 => k_asm
  case k2 => k_asm
  case k3 => k_asm
  case k4 => k_asm
  case k5 => k_asm
  case k6 => k_is
  case k7 => k_is
  case k8 => ktr_room
  case k9 => exact BindsTo.of_eq (binds := [(Str.ofString "line", .ref l), (Str.ofString "s", .int x tx)]) rfl
  case c5 => decide
  case kB => exact locs rfl
  case c2 => exact rfl
  case c3 => exact rfl
  case c4 => exact rfl
  k_whole
  intro g' L' h' FG' F' N' B' X' T'
  try dsimp only
  try k_fold
  k_steps
  exact hret _ _ _ _ (by assumption) (by assumption) ⟨⟨_, rfl⟩, rfl⟩
end

section
theorem off_B4 : True ∧ True := by
  w_top off
  walk1
  all_goals trivial

abbrev tupOf (its : Array Value) : Obj := { cls := .type "tuple", data := .seq its }
theorem dvmA {prog : Program} {w : World} {A : Around} {E : Value → Shared → Prop} {s : Shared} {a b : Int} {t u : Tok} {Q : Value → Shared → Prop} {h₀ : Heap} {L : Addr} {m : Str → Option Value} {news : List (Addr × Obj)}
    (h : ∀ h', Fr h₀ L h' m → News h₀ L h' ((s.heap.objs.size, { cls := .type "tuple", data := .seq #[.int (a.fdiv b) s.toks, .int (a.fmod b) (s.toks + 1)] }) :: news) → Q (.ref s.heap.objs.size) { s with toks := s.toks + 1 + 1, heap := h' })
    (F : Fr h₀ L s.heap m := by k_asm) (N : News h₀ L s.heap news := by k_asm) (hb : b ≠ 0 := by omega) (hp : PySem.Builtin.divisionGoesByPylong a b = false := by exact PyProof.noPylong_small (by omega)) :
    wpAny (model prog w) A (call (.builtin "divmod") [.int a t, .int b u]) Q E s := divmod_N F N hb h (.inl hp)
local macro_rules | `(tactic| walk_at "call builtin:divmod") => `(tactic| (k_dflt refine' dvmA ?_; intros; (try k_sweep)))
set_option maxHeartbeats 8000000 in
theorem div2_C {w : World} {a b k : Int} {ta tb tk : Tok} {news : List (Addr × Obj)} (ha : 0 ≤ a := by omega) (ha2 : a < 2 ^ 60 := by omega) (hb : 0 < b := by omega) (hb2 : b < 1000 := by omega) (hk0 : 0 ≤ k := by omega) :
    Ctr w 48 [.int a ta, .int b tb, .int k tk] [] 1 news (fun r news' => ∃ D t1 t2, r = .ref D ∧ news' = (D, tupOf #[.int (a / b) t1, .int (a % b) t2]) :: news ∧ (∀ p ∈ news, p.1 < D)) := by
  unfold Ctr
  intro p loose mean mg mb dp un gd cn cs ai ccd cl outer A₀ base h₀ L m s Q E B F X N T hk hd hu hret
  dsimp only at hret
  refine wpAny_call ?_
  refine' code_def ?k1 ?k2 ?k3 ?k4 ?k5 ?kA ?kF ?kK ?k6 ?k7 ?k8 ?k9 ?kB ?_ ?c2 ?c3 ?c4 ?c5
  case kA => exact rfl
  case kF => exact rfl
  case kK => assumption
  case k1 => k_asm
  case k2 => k_asm
  case k3 => k_asm
  case k4 => k_asm
  case k5 => k_asm
  case k6 => k_is
  case k7 => k_is
  case k8 => ktr_room
  case k9 => exact BindsTo.of_eq (binds := [(Str.ofString "a", .int a ta), (Str.ofString "b", .int b tb), (Str.ofString "n", .int k tk)]) rfl
  case c5 => decide
  case kB => exact locs rfl
  case c2 => exact rfl
  case c3 => exact rfl
  case c4 => exact rfl
  k_whole
  intro g' L' h' FG' F' N' B' X' T'
  try dsimp only
  try k_fold
  have hbits : (PySem.Builtin.Int.intBits a : Int) ≤ 60 := by
    have := (PySem.intBits_le_iff (m := 60) (x := a)).mpr (by omega)
    omega
  have hlt : ∀ p ∈ news, p.1 < h'.objs.size := fun p hp => Heap.lt_size (N' p hp).1
  have e1 : a.fdiv b = a / b := Int.fdiv_eq_ediv_of_nonneg _ (by omega)
  have e2 : a.fmod b = a % b := Int.fmod_eq_emod_of_nonneg _ (by omega)
  k_steps
  exact hret _ _ _ _ (by assumption) (by assumption) ⟨_, _, _, rfl, by rw [← e1, ← e2], hlt⟩
end

section
theorem off_B5 : True ∧ True := by
  w_top off
  walk1
  all_goals trivial

theorem allLt_ne {d a : Nat} : ∀ {l : List (Addr × Obj)}, AllLt d l → d ≤ a → ∀ p ∈ l, p.1 ≠ a
  | [], _, _, _, h => nomatch h
  | q :: r, h, e, p, hp => by
    rcases List.mem_cons.mp hp with rfl | hp
    · exact Nat.ne_of_lt (Nat.lt_of_lt_of_le h.1 e)
    · exact allLt_ne h.2 e p hp
def nestFn : List Stmt → Option (Str × Arguments × List Stmt × Scope × Pos)
  | [] => none
  | .FunctionDef name params body _ _ _ scope _ _ pos :: _ => some (name, params, body, scope, pos)
  | _ :: r => nestFn r
def nestAt (o : Obj) : Option (Str × Arguments × List Stmt × Scope × Pos) := match o.data with
  | .func fd => (match fd.body with | .stmts b => nestFn b | _ => none)
  | _ => none
section
variable {prog : Program} {w : World} {A : Around} {E : Value → Shared → Prop} {s : Shared} {a n : Int} {t u : Tok} {Q : Value → Shared → Prop}
theorem rshift1 (h : Q (.int (a / 2) s.toks) { s with toks := s.toks + 1 }) (_h0 : 0 ≤ a := by omega) : wpAny (model prog w) A (binaryOp .RShift (.int a t) (.int 1 u)) Q E s := by
  refine rshift_int (by decide) ?_
  rw [show (2 : Int) ^ (1 : Int).toNat = 2 from rfl, Int.fdiv_eq_ediv_of_nonneg _ (by decide)]
  exact h
end
def dval (k : Nat) : List Int → Int
  | [] => 0
  | d :: r => d + 2 ^ k * dval k r
theorem dval_append (k : Nat) : ∀ (xs ys : List Int), dval k (xs ++ ys) = dval k xs + 2 ^ (k * xs.length) * dval k ys
  | [], ys => by simp [dval]
  | d :: r, ys => by
    rw [List.cons_append, dval, dval, dval_append k r ys, List.length_cons, Nat.mul_succ, Nat.add_comm (k * r.length) k, Int.pow_add, Int.mul_add, Int.mul_assoc, Int.add_assoc]
def Digs (k : Nat) (ds : List Int) : Prop := ∀ d ∈ ds, 0 ≤ d ∧ d < 2 ^ k
theorem dval_bnd (k : Nat) : ∀ (ds : List Int), Digs k ds → 0 ≤ dval k ds ∧ dval k ds < 2 ^ (k * ds.length)
  | [], _ => by simp [dval]
  | d :: r, h => by
    have h1 := h d (.head _)
    have h2 := dval_bnd k r fun x hx => h x (.tail _ hx)
    have hp : (0 : Int) < 2 ^ k := Int.pow_pos (by decide)
    rw [dval, List.length_cons, Nat.mul_succ, Nat.add_comm (k * r.length) k, Int.pow_add]
    refine ⟨Int.add_nonneg h1.1 (Int.mul_nonneg (Int.le_of_lt hp) h2.1), ?_⟩
    have h3 : (2 : Int) ^ k * dval k r ≤ 2 ^ k * (2 ^ (k * r.length) - 1) := Int.mul_le_mul_of_nonneg_left (by omega) (Int.le_of_lt hp)
    rw [Int.mul_sub, Int.mul_one] at h3
    omega
def seg (ds : List Int) (a b : Int) : List Int := (ds.drop a.toNat).take (b - a).toNat
theorem seg_split (ds : List Int) {a m b : Int} (_h0 : 0 ≤ a) (h1 : a ≤ m) (h2 : m ≤ b) : seg ds a b = seg ds a m ++ seg ds m b := by
  unfold seg
  rw [show (b - a).toNat = (m - a).toNat + (b - m).toNat by omega, List.take_add, List.drop_drop, show a.toNat + (m - a).toNat = m.toNat by omega]
theorem seg_len (ds : List Int) {a b : Int} (h0 : 0 ≤ a) (h1 : a ≤ b) (h2 : b ≤ ds.length) : (seg ds a b).length = (b - a).toNat := by
  unfold seg
  rw [List.length_take, List.length_drop]; omega
theorem seg_digs {k : Nat} {ds : List Int} (h : Digs k ds) (a b : Int) : Digs k (seg ds a b) := fun d hd => h d (List.mem_of_mem_drop (List.mem_of_mem_take hd))
theorem seg_one (ds : List Int) {a b : Int} (h0 : 0 ≤ a) (h1 : a + 1 = b) (h2 : b ≤ ds.length) : seg ds a b = [ds.getD a.toNat 0] := by
  unfold seg
  have hlt : a.toNat < ds.length := by omega
  rw [show (b - a).toNat = 1 by omega, List.drop_eq_getElem_cons hlt, List.take_succ_cons, List.take_zero, List.getD_eq_getElem?_getD, List.getElem?_eq_getElem hlt]
  rfl
theorem seg_all (ds : List Int) : seg ds 0 ds.length = ds := by
  unfold seg; simp
theorem pow2_le {a b : Nat} (h : a ≤ b) : (2 : Int) ^ a ≤ 2 ^ b := by
  have := Nat.pow_le_pow_right (n := 2) (by decide) h
  exact_mod_cast this
theorem dval_bits {k : Nat} {ds : List Int} (hd : Digs k ds) (hk : k < 9) {a b n : Int} (h0 : 0 ≤ a) (h1 : a ≤ b) (h2 : b ≤ ds.length) (hl : ds.length < 1000) (hn : n ≤ 10000) : (PySem.Builtin.Int.intBits (dval k (seg ds a b)) : Int) + n ≤ 2 ^ 27 := by
  have hb := dval_bnd k _ (seg_digs hd a b)
  rw [seg_len ds h0 h1 h2] at hb
  obtain ⟨M, hM⟩ : ∃ M : Nat, M = 10000 := ⟨_, rfl⟩
  have hle : k * (b - a).toNat ≤ M := by
    rw [hM]
    exact Nat.le_trans (Nat.mul_le_mul (Nat.le_of_lt hk) (show (b - a).toNat ≤ 1000 by omega)) (by decide)
  have hnat : (dval k (seg ds a b)).natAbs < 2 ^ M := by
    have h3 : (2 : Int) ^ (k * (b - a).toNat) ≤ 2 ^ M := pow2_le hle
    generalize dval k (seg ds a b) = v at *
    generalize (2 : Int) ^ (k * (b - a).toNat) = p at *
    have h4 : ((v.natAbs : Nat) : Int) < ((2 ^ M : Nat) : Int) := by
      rw [Int.natCast_pow]
      have : ((v.natAbs : Nat) : Int) = v := Int.natAbs_of_nonneg hb.1
      rw [this]
      exact Int.lt_of_lt_of_le hb.2 h3
    exact Int.ofNat_lt.mp h4
  have := (PySem.intBits_le_iff (m := M)).mpr hnat
  omega
end

section
theorem off_B6 : True ∧ True := by
  w_top off
  walk1
  all_goals trivial

abbrev cellOf (v : Value) (o : Obj) : Prop := o.data = .cell (some v)
def In1 (w : World) (f : Addr) (k : Nat) (ds : List Int) (news : List (Addr × Obj)) (e : Nat) : Prop := ∀ (a b : Int) (ta tb : Tok), 0 ≤ a → a < b → b ≤ ds.length → b - a ≤ 2 ^ e →
  Ctr w f [.int a ta, .int b tb] [] (e + 1) news (fun r n' => (∃ t, r = .int (dval k (seg ds a b)) t) ∧ n' = news)
theorem In1.use {w : World} {f : Addr} {k : Nat} {ds : List Int} {news : List (Addr × Obj)} {e : Nat} (h : In1 w f k ds news e := by assumption) {a b : Int} {ta tb : Tok} (h0 : 0 ≤ a := by omega) (h1 : a < b := by omega) (h2 : b ≤ ds.length := by omega) (h3 : b - a ≤ 2 ^ e := by omega) :
  Ctr w f [.int a ta, .int b tb] [] (e + 1) news (fun r n' => (∃ t, r = .int (dval k (seg ds a b)) t) ∧ n' = news) := h a b ta tb h0 h1 h2 h3
theorem shift_bnd {x y : Int} {k : Nat} (hk : k < 9) (h0 : 0 ≤ x) (h1 : x ≤ y) (h2 : y ≤ 1000) : 0 ≤ x * (k : Int) ∧ x * (k : Int) ≤ 10000 := by
  have h3 : x * (k : Int) ≤ 1000 * 8 := Int.mul_le_mul (by omega) (by omega) (by omega) (by omega)
  exact ⟨Int.mul_nonneg h0 (by omega), by omega⟩
theorem dval_one {k : Nat} {ds : List Int} {a b : Int} (h0 : 0 ≤ a) (h1 : a + 1 = b) (h2 : b ≤ ds.length) : ds.getD a.toNat 0 = dval k (seg ds a b) := by
  rw [seg_one ds h0 h1 h2]; simp [dval]
theorem dval_join {k : Nat} {ds : List Int} {a m b : Int} (h0 : 0 ≤ a) (h1 : a ≤ m) (h2 : m ≤ b) (h3 : b ≤ ds.length) :
    dval k (seg ds m b) * 2 ^ ((m - a) * (k : Int)).toNat + dval k (seg ds a m) = dval k (seg ds a b) := by
  rw [seg_split ds h0 h1 h2, dval_append, seg_len ds h0 h1 (by omega), Int.add_comm, Int.mul_comm]
  congr 3
  rw [Int.toNat_mul (by omega) (by omega), Int.toNat_natCast, Nat.mul_comm]
theorem lsh6 {prog : Program} {w : World} {A : Around} {E : Value → Shared → Prop} {s : Shared} {k : Nat} {ds : List Int} {a b x : Int} {t u : Tok} {Q : Value → Shared → Prop} (h : Q (.int (dval k (seg ds a b) * 2 ^ (x * (k : Int)).toNat) s.toks) { s with toks := s.toks + 1 }) (hk : k < 9 := by assumption) (h0 : 0 ≤ x := by omega) (h1 : x ≤ 1000 := by omega) (hd : Digs k ds := by assumption) (ha : 0 ≤ a := by omega) (hb : a ≤ b := by omega) (hc : b ≤ ds.length := by omega) (hl : ds.length < 1000 := by assumption) :
    wpAny (model prog w) A (binaryOp .LShift (.int (dval k (seg ds a b)) t) (.int (x * (k : Int)) u)) Q E s := lshift_int (shift_bnd hk h0 h1 (by decide)).1 (dval_bits hd hk ha hb hc hl (shift_bnd hk h0 h1 (by decide)).2) h
local macro_rules | `(tactic| walk_at "z") => `(tactic| ((try dsimp only); (try k_sweep); (try k_fold)))
local macro_rules | `(tactic| walk_at "binaryOp RShift int int") => `(tactic| k_dflt with_reducible refine' rshift1 ?_)
local macro_rules | `(tactic| walk_at "binaryOp Mult int int") => `(tactic| k_dflt refine mulA ?_)
local macro_rules | `(tactic| walk_at "binaryOp LShift int int") => `(tactic| k_dflt refine lsh6 ?_)
local macro_rules | `(tactic| walk_at "subscriptTail") => `(tactic| k_dflt refine' item_intsA ?_)
local macro_rules | `(tactic| walk_at "call ref") => `(tactic| k_dflt (refine' Ctr.useI ?_ (C := In1.use); intros; walk_at "z"))

set_option maxHeartbeats 8000000 in
theorem inner1_C {w : World} {o : Obj} {nm qual : Str} {params : Arguments} {body : List Stmt} {scope : Scope} {pos : Pos} (ho : (hd.heap_1 w.params).lookup 69 = some o) (hnst : nestAt o = some (nm, params, body, scope, pos))
    {f c cn ci cd l : Addr} {doc pm ctv : Value} {oc on oi od : Obj} {cvs : Array Value} {tq tk0 : Tok} {news : List (Addr × Obj)} {k : Nat} {vs : List Value} {ds : List Int} {n : Nat}
    (hf : (f, fnMade nm qual params body scope [(Str.ofString "n", cn), (Str.ofString "inner", ci), (Str.ofString "digits", cd)] doc pm c ctv) ∈ news)
    (hc : (c, oc) ∈ news) (hc1 : oc.data = .fields cvs) (hc2 : cvs[1]? = some (.str qual tq))
    (hcn : (cn, on) ∈ news) (hcn1 : on.data = .cell (some (.int (k : Int) tk0))) (hci : (ci, oi) ∈ news) (hci1 : oi.data = .cell (some (.ref f))) (hcd : (cd, od) ∈ news) (hcd1 : od.data = .cell (some (.ref l)))
    (hl : (l, listOf vs.toArray n) ∈ news) (hvs : IntsAre vs ds) (hlen : ds.length < 1000) (hk : k < 9) (hds : Digs k ds) : ∀ e, In1 w f k ds news e := by
  have eo := lk_inj ho (by k_is)
  subst eo
  dsimp only [nestAt, nestFn] at hnst
  cases hnst
  intro e
  induction e
  case' zero =>
    intro a b ta tb h0 h1 h2 h3
    have hab : a + 1 = b := by omega
  case' succ e ih =>
    intro a b ta tb h0 h1 h2 h3
    have h4 : (2 : Int) ^ (e + 1) = 2 * 2 ^ e := by rw [Int.pow_succ, Int.mul_comm]
    rw [h4] at h3
  all_goals (
    unfold Ctr
    intro p loose mean mg mb dp un gd cn cs ai ccd cl outer A₀ base h₀ L m s Q E B F X N T hk hd hu hret
    dsimp only at hret
    refine wpAny_call ?_
    refine' code_nest ?k1 ?k2 ?k3 ?k4 ?k5 ?kA ?kF ?kK ?k6 ?k7 ?k8 ?k9 ?kB ?_ ?c2 ?c3 ?c4 ?c5
    case kA => exact rfl
    case kF => exact rfl
    case kK => assumption
    case k1 => k_asm
    case k2 => k_asm
    case k3 => k_asm
    case k4 => k_asm
    case k5 => k_asm
    case k6 => exact hf
    case k7 => exact codeRec_news N hc hc1 hc2
    case k8 => ktr_room
    case k9 => exact BindsTo.of_eq (binds := [(Str.ofString "L", .int a ta), (Str.ofString "R", .int b tb)]) rfl
    case c5 => decide
    case kB => exact locs rfl
    case c2 => exact rfl
    case c3 => exact rfl
    case c4 => exact rfl
    k_whole
    intro g' L' h' FG' F' N' B' X' T'
    try dsimp only
    try k_fold
    have codeHd' : CodeHd g' 68 64 := codeHd_of_K X' (by kernel_rfl)
    k_steps
    all_goals try (first | (exfalso; omega) | exact hret _ _ _ _ (by assumption) (by assumption) ⟨ktn_int (dval_one h0 (by omega) h2), rfl⟩ | exact hret _ _ _ _ (by assumption) (by assumption) ⟨ktn_int (dval_join h0 (by omega) (by omega) h2), rfl⟩))
end

section
theorem off_B7 : True ∧ True := by
  w_top off
  walk1
  all_goals trivial

inductive TabSt (P : Addr) (ln col : Nat) (qual : Str) : List (Addr × Obj) → Prop where
  | fresh : TabSt P ln col qual [(P, tabObj #[])]
  | used {cc : Addr} {oc : Obj} {vs : Array Value} {t : Tok} : oc.data = .fields vs → vs[1]? = some (.str qual t) → @LT.lt Nat _ 142 cc → TabSt P ln col qual [(P, tabObj #[rawInt (ln : Int), rawInt (col : Int), .ref cc]), (cc, oc)]
theorem tab_end {h₀ h : Heap} {L P c : Addr} {x0 x1 x2 x3 : Addr × Obj} {o oc : Obj} {rest : List (Addr × Obj)} (N : News h₀ L h (x0 :: (c, oc) :: x1 :: x2 :: x3 :: (P, o) :: rest)) : News h₀ L h ([(P, o), (c, oc)] ++ rest) := by
  refine cb_drop N ?_
  dsimp only [List.cons_append, List.nil_append]
  repeat (refine List.forall_mem_cons.mpr ⟨by (repeat (first | exact List.Mem.head _ | refine List.Mem.tail _ ?_)), ?_⟩)
  first | exact List.forall_mem_nil _ | exact fun p hp => by (repeat (first | exact hp | refine List.Mem.tail _ ?_))
theorem tab_end2 {h₀ h : Heap} {L P c : Addr} {x0 x1 x2 x3 : Addr × Obj} {o oc : Obj} {rest : List (Addr × Obj)} (N : News h₀ L h (x0 :: x1 :: x2 :: x3 :: (P, o) :: (c, oc) :: rest)) : News h₀ L h ([(P, o), (c, oc)] ++ rest) := by
  refine cb_drop N ?_
  dsimp only [List.cons_append, List.nil_append]
  repeat (refine List.forall_mem_cons.mpr ⟨by (repeat (first | exact List.Mem.head _ | refine List.Mem.tail _ ?_)), ?_⟩)
  first | exact List.forall_mem_nil _ | exact fun p hp => by (repeat (first | exact hp | refine List.Mem.tail _ ?_))
theorem TabSt.ne {P q : Nat} {ln col : Nat} {qual : Str} {tb : List (Addr × Obj)} (h : TabSt P ln col qual tb) (h1 : P ≠ q) (h2 : q < 143) : ∀ p ∈ tb, p.1 ≠ q := by
  intro p hp
  cases h with
  | fresh =>
    rw [List.mem_singleton.mp hp]; exact h1
  | used a b c =>
    rcases List.mem_cons.mp hp with rfl | hp
    · exact h1
    · rw [List.mem_singleton.mp hp]
      intro e
      have e' : (_ : Nat) = q := e
      omega
theorem low_L {w : World} {h₀ h : Heap} {L : Nat} {m : Str → Option Value} (X : (hd.heap_1 w.params).In h₀) (F : Fr h₀ L h m) : 142 < L := by
  have e : h₀.get? 142 = some _ := X 142 _ (by k_is)
  exact Nat.lt_of_lt_of_le (Heap.lt_size e) F.above
abbrev q64 : Str := Str.ofString "_digits2int.<locals>.inner"
local macro_rules | `(tactic| k_all) => `(tactic| first | assumption | exact allLt_ne (by assumption) (by first | exact Nat.le_refl _ | omega))
local macro_rules | `(tactic| k_mem) => `(tactic| assumption)
theorem truthy_ints {prog : Program} {w : World} {A : Around} {E : Value → Shared → Prop} {s : Shared} {h₀ : Heap} {L : Addr} {news : List (Addr × Obj)} {a : Addr} {vs : List Value} {ns : List Int} {n : Nat} {Q : Bool → Shared → Prop} (h : Q (decide (ns ≠ [])) { s with toks := s.toks + 1 + 1 }) (N : News h₀ L s.heap news := by k_asm) (hm : (a, listOf vs.toArray n) ∈ news := by k_mem) (hi : IntsAre vs ns := by assumption) (hfit : ns.length < 2 ^ 62 := by omega) :
    wpAny (model prog w) A (truthy (.ref a)) Q E s := by
  have e : vs.toArray.size = ns.length := by rw [List.size_toArray]; exact hi.length
  refine wpAny_truthy_list (N.isList hm) (by rw [e]; omega) ?_
  have e2 : (!vs.toArray.isEmpty) = decide (ns ≠ []) := by
    cases hi <;> simp
  rw [e2]; exact h
local macro_rules | `(tactic| walk_at "truthy ref") => `(tactic| k_dflt refine truthy_ints ?_)
local macro_rules | `(tactic| walk_at "call builtin:len") => `(tactic| k_dflt refine' len_intsA ?_)

set_option maxHeartbeats 8000000 in
theorem d2i_C {w : World} {l : Addr} {vs : List Value} {ds : List Int} {n : Nat} {k : Nat} {tk0 : Tok} {tb rest : List (Addr × Obj)} (hT : TabSt 64 94 4 q64 tb := by assumption) (hl : (l, listOf vs.toArray n) ∈ rest := by k_mem) (hvs : IntsAre vs ds := by assumption) (hlen : ds.length < 1000 := by omega) (h64 : ∀ p ∈ rest, p.1 ≠ 64 := by assumption) (hk9 : k < 9 := by omega) (hds : Digs k ds := by assumption) :
    Ctr w 69 [.ref l, .int (k : Int) tk0] [] 13 (tb ++ rest) (fun r n' => ∃ t tb', r = .int (dval k ds) t ∧ TabSt 64 94 4 q64 tb' ∧ n' = tb' ++ rest) := by
  cases hT
  all_goals (
    unfold Ctr
    intro p loose mean mg mb dp un gd cn cs a ccd cl outer A₀ base h₀ L m s Q E B F X N T hk hd hu hret
    dsimp only at hret
    simp only [List.cons_append, List.nil_append] at N
    refine wpAny_call ?_
    refine' code_defC ?k1 ?k2 ?k3 ?k4 ?k5 ?kA ?kF ?kK ?k6 ?k7 ?k8 ?k9 ?kB ?kD ?_ ?c2 ?c3 ?c4
    case kA => exact rfl
    case kF => exact rfl
    case kK => assumption
    case k1 => k_asm
    case k2 => k_asm
    case k3 => k_asm
    case k4 => k_asm
    case k5 => k_asm
    case k6 => k_is
    case k7 => k_is
    case k8 => ktr_room
    case k9 => exact BindsTo.of_eq (binds := [(Str.ofString "digits", .ref l), (Str.ofString "n", .int (k : Int) tk0)]) rfl
    case kB => exact rfl
    case kD => decide +kernel
    case c2 => exact rfl
    case c3 => exact rfl
    case c4 => exact rfl
    k_whole
    intro g' L' h' tk' cells' FG' F' N' Y' B' X' T' l1
    (try k_lt l1)
    have hrest : AllLt L' rest := by first | exact l1.2 | exact l1.2.2
    k_cells Y'
    (try simp only [List.cons_append, List.nil_append] at N')
    (try dsimp only)
    (try k_fold)
    have codeHd' : CodeHd g' 68 64 := codeHd_of_K X' (by kernel_rfl)
    have hL143 := low_L X' F'
    k_steps
    · refine' Ctr.use (In1.use (e := 10) (inner1_C ?ho ?hnst ?hf ?hc ?hc1 ?hc2 ?hcn ?hcn1 ?hci ?hci1 ?hcd ?hcd1 ?hl hvs hlen hk9 hds 10) ?h0 ?h1 ?h2 ?h3) ?B ?F ?X ?N ?T ?hk ?hd ?hu ?_
      case F => k_asm
      case N => k_asm
      case ho => k_is
      case hnst => exact rfl
      case hf => k_mem
      case hc => k_mem
      case hc1 => assumption
      case hc2 => assumption
      case hcn => k_mem
      case hcn1 => assumption
      case hci => k_mem
      case hci1 => assumption
      case hcd => k_mem
      case hcd1 => assumption
      case hl => k_mem
      case h0 => omega
      case h1 => (have := List.length_pos_iff.mpr (by assumption : ds ≠ []); omega)
      case h2 => omega
      case h3 => (refine Int.le_trans (show _ ≤ (1000 : Int) by omega) (by decide))
      case B => k_asm
      case X => k_asm
      case T => k_asm
      case hk => first | exact rfl | assumption
      case hd => ktr_room
      case hu => ktr_units
      intro r9 n9 h9 t9 F9 N9 P9
      obtain ⟨⟨t9, e9⟩, f9⟩ := P9
      subst e9
      replace f9 := f9.symm
      subst f9
      (try dsimp only)
      (try k_sweep)
      (try k_fold)
      k_steps
      rename News h₀ _ _ _ => Nq
      rename Fr h₀ _ _ _ => Fq
      simp only [Array.empty_append] at Nq
      first | exact hret _ _ _ _ Fq (tab_end Nq) ⟨_, _, by rw [seg_all], .used (by assumption) (by assumption) (by omega), rfl⟩ | exact hret _ _ _ _ Fq (tab_end2 Nq) ⟨_, _, by rw [seg_all], .used (by assumption) (by assumption) (by omega), rfl⟩
    · rename News h₀ _ _ _ => Nq
      rename Fr h₀ _ _ _ => Fq
      simp only [Array.empty_append] at Nq
      have hnil : ds = [] := Classical.byContradiction (by assumption)
      first | exact hret _ _ _ _ Fq (tab_end Nq) ⟨_, _, by rw [hnil]; rfl, .used (by assumption) (by assumption) (by omega), rfl⟩ | exact hret _ _ _ _ Fq (tab_end2 Nq) ⟨_, _, by rw [hnil]; rfl, .used (by assumption) (by assumption) (by omega), rfl⟩)
end

section
theorem off_B8 : True ∧ True := by
  w_top off
  walk1
  all_goals trivial

theorem and_high (X s : Nat) : X &&& (X / 2 ^ s * 2 ^ s) = X / 2 ^ s * 2 ^ s := by
  apply Nat.eq_of_testBit_eq
  intro i
  rw [← Nat.shiftRight_eq_div_pow, ← Nat.shiftLeft_eq, Nat.testBit_and, Nat.testBit_shiftLeft, Nat.testBit_shiftRight]
  by_cases h : s ≤ i
  · simp [h, Nat.add_sub_of_le h]
  · simp [h]
theorem xor_lowI {x : Int} (s : Nat) (h0 : 0 ≤ x) : Builtin.bitXor x (x / 2 ^ s * 2 ^ s) = x % 2 ^ s := by
  obtain ⟨X, rfl⟩ : ∃ X : Nat, x = X := ⟨x.toNat, by omega⟩
  have hp : (0 : Int) < 2 ^ s := Int.pow_pos (by decide)
  have e : ((X : Int) / 2 ^ s * 2 ^ s) = ((X / 2 ^ s * 2 ^ s : Nat) : Int) := by simp
  rw [bitXor_and, e, bitAnd_pp (by omega) (by omega), Int.toNat_natCast, Int.toNat_natCast, and_high, ← e]
  have := Int.emod_add_mul_ediv (X : Int) (2 ^ s)
  rw [Int.mul_comm] at this
  omega
section
variable {prog : Program} {w : World} {A : Around} {E : Value → Shared → Prop} {s : Shared} {a n : Int} {t u : Tok} {Q : Value → Shared → Prop}
theorem rshiftN (hn : 0 ≤ n) (h : Q (.int (a / 2 ^ n.toNat) s.toks) { s with toks := s.toks + 1 }) : wpAny (model prog w) A (binaryOp .RShift (.int a t) (.int n u)) Q E s := by
  refine rshift_int hn ?_
  rw [Int.fdiv_eq_ediv_of_nonneg _ (Int.le_of_lt (Int.pow_pos (by decide)))]
  exact h
theorem xor_low {k : Nat} (h0 : 0 ≤ a) (h : Q (.int (a % 2 ^ k) s.toks) { s with toks := s.toks + 1 }) : wpAny (model prog w) A (binaryOp .BitXor (.int a t) (.int (a / 2 ^ k * 2 ^ k) u)) Q E s := by
  refine xor_int ?_
  rw [xor_lowI k h0]
  exact h
end
def digs (k : Nat) : Nat → Int → List Int
  | 0, _ => []
  | m + 1, x => (x % 2 ^ k) :: digs k m (x / 2 ^ k)
theorem digs_len (k : Nat) : ∀ m x, (digs k m x).length = m
  | 0, _ => rfl
  | m + 1, x => by rw [digs, List.length_cons, digs_len k m]
theorem emod_mul_ediv {x K P : Int} (hK : 0 < K) (_hP : 0 < P) : x % (K * P) / K = x / K % P := by
  rw [Int.emod_def x (K * P), ← Int.ediv_ediv_of_nonneg (Int.le_of_lt hK), Int.mul_assoc, Int.sub_eq_add_neg, ← Int.mul_neg, Int.add_mul_ediv_left _ _ (by omega), Int.emod_def (x / K) P]
  omega
theorem digs_add (k : Nat) : ∀ p q x, digs k (p + q) x = digs k p (x % 2 ^ (k * p)) ++ digs k q (x / 2 ^ (k * p))
  | 0, q, x => by simp [digs]
  | p + 1, q, x => by
    have hk : (0 : Int) < 2 ^ k := Int.pow_pos (by decide)
    have e1 : (2 : Int) ^ (k * (p + 1)) = 2 ^ k * 2 ^ (k * p) := by rw [Nat.mul_succ, Nat.add_comm, Int.pow_add]
    have hq : (0 : Int) < 2 ^ (k * p) := Int.pow_pos (by decide)
    rw [Nat.add_right_comm, digs, digs_add k p q, digs, List.cons_append, e1, Int.emod_emod_of_dvd _ (Int.dvd_mul_right _ _), emod_mul_ediv hk hq, Int.ediv_ediv_of_nonneg (Int.le_of_lt hk)]
theorem digs_one (k : Nat) {x : Int} (h0 : 0 ≤ x) (h1 : x < 2 ^ k) : digs k 1 x = [x] := by
  rw [digs, digs, Int.emod_eq_of_lt h0 h1]
theorem digs_digs (k : Nat) : ∀ m x, Digs k (digs k m x)
  | 0, _ => fun d hd => nomatch hd
  | m + 1, x => fun d hd => by
    have hk : (0 : Int) < 2 ^ k := Int.pow_pos (by decide)
    rcases List.mem_cons.mp hd with rfl | hd
    · exact ⟨Int.emod_nonneg _ (by omega), Int.emod_lt_of_pos _ hk⟩
    · exact digs_digs k m _ d hd
def put (zs : List Int) (a : Int) (ds : List Int) : List Int := zs.take a.toNat ++ ds ++ zs.drop (a.toNat + ds.length)
theorem put_len (zs : List Int) {a : Int} {ds : List Int} (h0 : 0 ≤ a) (h : a + ds.length ≤ zs.length) : (put zs a ds).length = zs.length := by
  unfold put
  simp only [List.length_append, List.length_take, List.length_drop]; omega
theorem put_one (zs : List Int) {a : Int} {x : Int} (h0 : 0 ≤ a) (h : a < zs.length) : zs.set a.toNat x = put zs a [x] := by
  unfold put
  rw [List.set_eq_take_append_cons_drop, if_pos (by omega)]
  simp
theorem put_put (zs : List Int) {a m : Int} {ds es : List Int} (h0 : 0 ≤ a) (h1 : a + ds.length = m) (h2 : m + es.length ≤ zs.length) : put (put zs a ds) m es = put zs a (ds ++ es) := by
  have hl : (zs.take a.toNat).length = a.toNat := by rw [List.length_take]; omega
  have e1 : (zs.take a.toNat ++ ds).length = m.toNat := by rw [List.length_append, hl]; omega
  unfold put
  rw [show m.toNat = (zs.take a.toNat ++ ds).length from e1.symm, List.take_left, List.append_assoc (zs.take a.toNat ++ ds), ← List.drop_drop, List.drop_left, List.drop_drop]
  simp only [List.append_assoc, List.length_append, hl]
  congr 4
  omega
theorem put_all (zs : List Int) {ds : List Int} (h : ds.length = zs.length) : put zs 0 ds = ds := by
  unfold put; simp [h]
end

section
theorem off_B9 : True ∧ True := by
  w_top off
  walk1
  all_goals trivial

def In2 (w : World) (f : Addr) (k : Nat) (D : Addr) (n : Nat) (rest : List (Addr × Obj)) (e : Nat) : Prop := ∀ (x a b : Int) (tx ta tb : Tok) (vs : List Value) (zs : List Int), IntsAre vs zs → 0 ≤ a → a < b → b ≤ zs.length → b - a ≤ 2 ^ e → zs.length < 1000 → 0 ≤ x → x < 2 ^ (k * (b - a).toNat) →
  Ctr w f [.int x tx, .int a ta, .int b tb] [] (e + 1) ((D, listOf vs.toArray n) :: rest) (fun r n' => r = .none ∧ ∃ vs', IntsAre vs' (put zs a (digs k (b - a).toNat x)) ∧ n' = (D, listOf vs'.toArray n) :: rest)
theorem toNat_shift {y : Int} (k : Nat) (h0 : 0 ≤ y) : (y * (k : Int)).toNat = k * y.toNat := by
  rw [Int.toNat_mul h0 (by omega), Int.toNat_natCast, Nat.mul_comm]
theorem bits_div {x : Int} {k j p : Nat} {n : Int} (h0 : 0 ≤ x) (h1 : x < 2 ^ (k * p)) (hk : k < 9) (hp : p ≤ 1000) (hn : n ≤ 10000) : (PySem.Builtin.Int.intBits (x / 2 ^ j) : Int) + n ≤ 2 ^ 27 := by
  obtain ⟨M, hM⟩ : ∃ M : Nat, M = 10000 := ⟨_, rfl⟩
  have hle : k * p ≤ M := by
    rw [hM]; exact Nat.le_trans (Nat.mul_le_mul (Nat.le_of_lt hk) hp) (by decide)
  have h2 : x / 2 ^ j ≤ x := Int.ediv_le_self _ h0
  have h3 : 0 ≤ x / 2 ^ j := Int.ediv_nonneg h0 (Int.le_of_lt (Int.pow_pos (by decide)))
  have hnat : (x / 2 ^ j).natAbs < 2 ^ M := by
    have h4 : (2 : Int) ^ (k * p) ≤ 2 ^ M := pow2_le hle
    generalize x / 2 ^ j = v at *
    generalize (2 : Int) ^ (k * p) = q at *
    have h5 : ((v.natAbs : Nat) : Int) < ((2 ^ M : Nat) : Int) := by
      rw [Int.natCast_pow, Int.natAbs_of_nonneg h3]
      exact Int.lt_of_le_of_lt h2 (Int.lt_of_lt_of_le h1 h4)
    exact Int.ofNat_lt.mp h5
  have := (PySem.intBits_le_iff (m := M)).mpr hnat
  omega
theorem low_bnd {x y : Int} (k : Nat) (hy : 0 ≤ y) : 0 ≤ x % 2 ^ (y * (k : Int)).toNat ∧ x % 2 ^ (y * (k : Int)).toNat < 2 ^ (k * y.toNat) := by
  have hq : (0 : Int) < 2 ^ (k * y.toNat) := Int.pow_pos (by decide)
  rw [toNat_shift k hy]
  exact ⟨Int.emod_nonneg _ (by omega), Int.emod_lt_of_pos _ hq⟩
theorem up_bnd {x a m b : Int} (k : Nat) (h0 : 0 ≤ x) (ha : a ≤ m) (hb : m ≤ b) (h1 : x < 2 ^ (k * (b - a).toNat)) : 0 ≤ x / 2 ^ ((m - a) * (k : Int)).toNat ∧ x / 2 ^ ((m - a) * (k : Int)).toNat < 2 ^ (k * (b - m).toNat) := by
  have hq : (0 : Int) < 2 ^ (k * (m - a).toNat) := Int.pow_pos (by decide)
  rw [toNat_shift k (by omega)]
  refine ⟨Int.ediv_nonneg h0 (Int.le_of_lt hq), Int.ediv_lt_of_lt_mul hq ?_⟩
  rw [← Int.pow_add, ← Nat.mul_add, show (b - m).toNat + (m - a).toNat = (b - a).toNat by omega]
  exact h1
theorem low0 {x y : Int} {k : Nat} (hy : 0 ≤ y) : 0 ≤ x % 2 ^ (y * (k : Int)).toNat := (low_bnd k hy).1
theorem low1 {x y : Int} {k : Nat} (hy : 0 ≤ y) : x % 2 ^ (y * (k : Int)).toNat < 2 ^ (k * y.toNat) := (low_bnd k hy).2
theorem up0 {x a m b : Int} {k : Nat} (h0 : 0 ≤ x) (h1 : x < 2 ^ (k * (b - a).toNat)) (ha : a ≤ m) (hb : m ≤ b) : 0 ≤ x / 2 ^ ((m - a) * (k : Int)).toNat := (up_bnd k h0 ha hb h1).1
theorem up1 {x a m b : Int} {k : Nat} (h0 : 0 ≤ x) (h1 : x < 2 ^ (k * (b - a).toNat)) (ha : a ≤ m) (hb : m ≤ b) : x / 2 ^ ((m - a) * (k : Int)).toNat < 2 ^ (k * (b - m).toNat) := (up_bnd k h0 ha hb h1).2
theorem In2.use {w : World} {f : Addr} {k : Nat} {D : Addr} {n : Nat} {rest : List (Addr × Obj)} {e : Nat} (h : In2 w f k D n rest e := by assumption) {x a b : Int} {tx ta tb : Tok} {vs : List Value} {zs : List Int} (hv : IntsAre vs zs := by assumption) (h0 : 0 ≤ a := by omega) (h1 : a < b := by omega) (h2 : b ≤ zs.length := by first | omega | (rw [put_len _ (by omega) (by rw [digs_len]; omega)]; omega)) (h3 : b - a ≤ 2 ^ e := by omega) (h4 : zs.length < 1000 := by first | omega | (rw [put_len _ (by omega) (by rw [digs_len]; omega)]; omega)) (h5 : 0 ≤ x := by first | exact low0 (by omega) | exact up0 (by assumption) (by assumption) (by omega) (by omega)) (h6 : x < 2 ^ (k * (b - a).toNat) := by first | exact low1 (by omega) | exact up1 (by assumption) (by assumption) (by omega) (by omega)) :
  Ctr w f [.int x tx, .int a ta, .int b tb] [] (e + 1) ((D, listOf vs.toArray n) :: rest) (fun r n' => r = .none ∧ ∃ vs', IntsAre vs' (put zs a (digs k (b - a).toNat x)) ∧ n' = (D, listOf vs'.toArray n) :: rest) := h x a b tx ta tb vs zs hv h0 h1 h2 h3 h4 h5 h6
theorem put_halves {zs : List Int} {x a m b : Int} (k : Nat) (h0 : 0 ≤ a) (ha : a ≤ m) (hb : m ≤ b) (hl : b ≤ zs.length) :
    put (put zs a (digs k (m - a).toNat (x % 2 ^ ((m - a) * (k : Int)).toNat))) m (digs k (b - m).toNat (x / 2 ^ ((m - a) * (k : Int)).toNat)) = put zs a (digs k (b - a).toNat x) := by
  rw [put_put zs h0 (by rw [digs_len]; omega) (by rw [digs_len]; omega), toNat_shift k (by omega), ← digs_add, show (m - a).toNat + (b - m).toNat = (b - a).toNat by omega]
theorem end1 {vs' : List Value} {zs : List Int} {x a b : Int} {k : Nat} (h : IntsAre vs' (zs.set a.toNat x)) (h0 : 0 ≤ a) (hab : a + 1 = b) (hl : b ≤ zs.length) (h5 : 0 ≤ x) (h6 : x < 2 ^ (k * (b - a).toNat)) : IntsAre vs' (put zs a (digs k (b - a).toNat x)) := by
  have e : (b - a).toNat = 1 := by omega
  rw [e, Nat.mul_one] at h6
  rw [e, digs_one k h5 h6, ← put_one zs h0 (by omega)]
  exact h
theorem end2 {vs' : List Value} {zs : List Int} {x a m b : Int} {k : Nat} (h : IntsAre vs' (put (put zs a (digs k (m - a).toNat (x % 2 ^ ((m - a) * (k : Int)).toNat))) m (digs k (b - m).toNat (x / 2 ^ ((m - a) * (k : Int)).toNat)))) (h0 : 0 ≤ a) (ha : a ≤ m) (hb : m ≤ b) (hl : b ≤ zs.length) : IntsAre vs' (put zs a (digs k (b - a).toNat x)) := by
  rw [put_halves k h0 ha hb hl] at h
  exact h
theorem lsh9 {prog : Program} {w : World} {A : Around} {E : Value → Shared → Prop} {s : Shared} {x y : Int} {k j p : Nat} {t u : Tok} {Q : Value → Shared → Prop} (h : Q (.int (x / 2 ^ j * 2 ^ (y * (k : Int)).toNat) s.toks) { s with toks := s.toks + 1 }) (hk : k < 9 := by assumption) (h0 : 0 ≤ y := by omega) (h1 : y ≤ 1000 := by omega) (hx : 0 ≤ x := by assumption) (hx1 : x < 2 ^ (k * p) := by assumption) (hp : p ≤ 1000 := by omega) :
    wpAny (model prog w) A (binaryOp .LShift (.int (x / 2 ^ j) t) (.int (y * (k : Int)) u)) Q E s := lshift_int (shift_bnd hk h0 h1 (by decide)).1 (bits_div hx hx1 hk hp (shift_bnd hk h0 h1 (by decide)).2) h
theorem rsh9 {prog : Program} {w : World} {A : Around} {E : Value → Shared → Prop} {s : Shared} {a y : Int} {k : Nat} {t u : Tok} {Q : Value → Shared → Prop} (h : Q (.int (a / 2 ^ (y * (k : Int)).toNat) s.toks) { s with toks := s.toks + 1 }) (hk : k < 9 := by assumption) (h0 : 0 ≤ y := by omega) (h1 : y ≤ 1000 := by omega) :
    wpAny (model prog w) A (binaryOp .RShift (.int a t) (.int (y * (k : Int)) u)) Q E s := rshiftN (shift_bnd hk h0 h1 (by decide)).1 h
local macro_rules | `(tactic| walk_at "z") => `(tactic| ((try dsimp only); (try k_sweep); (try k_fold)))
local macro_rules | `(tactic| k_all) => `(tactic| first | assumption | exact allLt_ne (by assumption) (by first | exact Nat.le_refl _ | omega))
local macro_rules | `(tactic| k_mem) => `(tactic| assumption)
local macro_rules | `(tactic| walk_at "binaryOp Mult int int") => `(tactic| k_dflt refine mulA ?_)

local macro_rules | `(tactic| walk_at "binaryOp RShift int int") => `(tactic| k_dflt (first | with_reducible refine rshift1 ?_ | refine rsh9 ?_))
local macro_rules | `(tactic| walk_at "binaryOp LShift int int") => `(tactic| k_dflt refine lsh9 ?_)
local macro_rules | `(tactic| walk_at "binaryOp BitXor int int") => `(tactic| k_dflt refine xor_low (by assumption) ?_)
local macro_rules | `(tactic| walk_at "call ref") => `(tactic| k_dflt (refine' Ctr.useN ?_ (C := In2.use); intros; walk_at "z"))

set_option maxHeartbeats 8000000 in
theorem inner2_C {w : World} {o : Obj} {nm qual : Str} {params : Arguments} {body : List Stmt} {scope : Scope} {pos : Pos} (ho : (hd.heap_1 w.params).lookup 62 = some o) (hnst : nestAt o = some (nm, params, body, scope, pos))
    {f c cn ci cd D : Addr} {doc pm ctv : Value} {oc on oi od : Obj} {cvs : Array Value} {tq tk0 : Tok} {rest : List (Addr × Obj)} {k : Nat} {n : Nat}
    (hf : (f, fnMade nm qual params body scope [(Str.ofString "n", cn), (Str.ofString "inner", ci), (Str.ofString "a_digits", cd)] doc pm c ctv) ∈ rest)
    (hc : (c, oc) ∈ rest) (hc1 : oc.data = .fields cvs) (hc2 : cvs[1]? = some (.str qual tq))
    (hcn : (cn, on) ∈ rest) (hcn1 : on.data = .cell (some (.int (k : Int) tk0))) (hci : (ci, oi) ∈ rest) (hci1 : oi.data = .cell (some (.ref f))) (hcd : (cd, od) ∈ rest) (hcd1 : od.data = .cell (some (.ref D)))
    (hD : ∀ p ∈ rest, p.1 ≠ D) (hk : k < 9) : ∀ e, In2 w f k D n rest e := by
  have eo := lk_inj ho (by k_is)
  subst eo
  dsimp only [nestAt, nestFn] at hnst
  cases hnst
  intro e
  induction e
  case' zero =>
    intro x a b tx ta tb vs zs hvs h0 h1 h2 h3 h4 h5 h6
  case' succ e ih =>
    intro x a b tx ta tb vs zs hvs h0 h1 h2 h3 h4 h5 h6
    have h7 : (2 : Int) ^ (e + 1) = 2 * 2 ^ e := by rw [Int.pow_succ, Int.mul_comm]
    rw [h7] at h3
  all_goals (
    unfold Ctr
    intro p loose mean mg mb dp un gd cn cs ai ccd cl outer A₀ base h₀ L m s Q E B F X N T hk hd hu hret
    dsimp only at hret
    refine wpAny_call ?_
    refine' code_nest ?k1 ?k2 ?k3 ?k4 ?k5 ?kA ?kF ?kK ?k6 ?k7 ?k8 ?k9 ?kB ?_ ?c2 ?c3 ?c4 ?c5
    case kA => exact rfl
    case kF => exact rfl
    case kK => assumption
    case k1 => k_asm
    case k2 => k_asm
    case k3 => k_asm
    case k4 => k_asm
    case k5 => k_asm
    case k6 => exact .tail _ hf
    case k7 => exact codeRec_news N (.tail _ hc) hc1 hc2
    case k8 => ktr_room
    case k9 => exact BindsTo.of_eq (binds := [(Str.ofString "x", .int x tx), (Str.ofString "L", .int a ta), (Str.ofString "R", .int b tb)]) rfl
    case c5 => decide
    case kB => exact locs rfl
    case c2 => exact rfl
    case c3 => exact rfl
    case c4 => exact rfl
    k_whole
    intro g' L' h' FG' F' N' B' X' T'
    try dsimp only
    try k_fold
    have codeHd' : CodeHd g' 61 57 := codeHd_of_K X' (by kernel_rfl)
    k_steps
    all_goals try (exfalso; omega)
    all_goals first | exact hret _ _ _ _ (by assumption) (by assumption) ⟨rfl, _, end1 (by assumption) h0 (by omega) h2 h5 h6, rfl⟩ | exact hret _ _ _ _ (by assumption) (by assumption) ⟨rfl, _, end2 (by assumption) h0 (by omega) (by omega) h2, rfl⟩)
end

section
theorem off_B10 : True ∧ True := by
  w_top off
  walk1
  all_goals trivial

abbrev q57 : Str := Str.ofString "_int2digits.<locals>.inner"
theorem Ctr.sub {w : World} {f : Addr} {vs : List Value} {kw : List (Str × Value)} {sz : Nat} {news news₂ : List (Addr × Obj)} {Post : Value → List (Addr × Obj) → Prop} (C : Ctr w f vs kw sz news Post) (h : ∀ p ∈ news, p ∈ news₂) : Ctr w f vs kw sz news₂ Post :=
  fun _ _ _ _ _ _ _ _ _ _ _ _ _ _ _ _ _ _ _ _ _ _ B F X N T hk hd hu hret => C _ _ _ _ _ _ _ _ _ _ _ _ _ _ _ _ _ _ _ _ _ _ B F X (cb_drop N h) T hk hd hu hret
theorem foldl_rep (v : Value) : ∀ (n : Nat) (acc : Array Value), List.foldl (fun x1 x2 => x1 ++ x2) acc (List.replicate n #[v]) = acc ++ (List.replicate n v).toArray
  | 0, acc => by simp
  | n + 1, acc => by
    rw [List.replicate_succ, List.foldl_cons, foldl_rep v n, List.replicate_succ, Array.append_assoc]
    congr 1
    apply Array.toList_inj.mp
    simp
theorem mul1_K {prog : Program} {w : World} {A : Around} {E : Value → Shared → Prop} {s : Shared} {h₀ : Heap} {L : Addr} {m : Str → Option Value} {news : List (Addr × Obj)} {l : Addr} {v : Value} {k : Nat} {x : Int} {u : Tok} {Q : Value → Shared → Prop}
    (F : Fr h₀ L s.heap m) (N : News h₀ L s.heap news) (hm : (l, listOf [v].toArray k) ∈ news) (h0 : 0 ≤ x) (h1 : x ≤ 1000)
    (h : ∀ D h', Fr h₀ L h' m → News h₀ L h' ((D, listOf (List.replicate x.toNat v).toArray 0) :: news) → (∀ p ∈ news, p.1 < D) → Q (.ref D) { s with heap := h' }) : wpAny (model prog w) A (binaryOp .Mult (.ref l) (.int x u)) Q E s := by
  refine mul_list F N (N _ hm).1 (by omega) (by omega) ?_ fun h' F' N' => h _ h' F' ?_ fun p hp => Heap.lt_size (N p hp).1
  · show 1 * x.toNat ≤ 2 ^ 24
    omega
  · have e : List.foldl (fun x1 x2 => x1 ++ x2) #[] (List.replicate (if [v].toArray.isEmpty = true then 0 else x.toNat) [v].toArray) = (List.replicate x.toNat v).toArray := by
      have := foldl_rep v x.toNat #[]
      simpa using this
    rw [e] at N'
    exact N'
theorem mul1_N {prog : Program} {w : World} {A : Around} {E : Value → Shared → Prop} {s : Shared} {h₀ : Heap} {L : Addr} {m : Str → Option Value} {news : List (Addr × Obj)} {l : Addr} {v : Value} {k : Nat} {n : Nat} {u : Tok} {Q : Value → Shared → Prop}
    (F : Fr h₀ L s.heap m) (N : News h₀ L s.heap news) (hm : (l, listOf [v].toArray k) ∈ news) (h1 : n ≤ 1000)
    (h : ∀ D h', Fr h₀ L h' m → News h₀ L h' ((D, listOf (List.replicate n v).toArray 0) :: news) → (∀ p ∈ news, p.1 < D) → Q (.ref D) { s with heap := h' }) : wpAny (model prog w) A (binaryOp .Mult (.ref l) (.int (n : Int) u)) Q E s :=
  mul1_K F N hm (by omega) (by omega) h
theorem len_rep {prog : Program} {w : World} {A : Around} {E : Value → Shared → Prop} {s : Shared} {h₀ : Heap} {L : Addr} {news : List (Addr × Obj)} {a : Addr} {v : Value} {n j : Nat} {Q : Value → Shared → Prop} (N : News h₀ L s.heap news) (hm : (a, listOf (List.replicate j v).toArray n) ∈ news) (hj : j ≤ 1000) (h : Q (.int (j : Int) (s.toks + 1)) { s with toks := s.toks + 1 + 1 }) :
    wpAny (model prog w) A (call (.builtin "len") [.ref a]) Q E s := by
  have e : (List.replicate j v).toArray.size = j := by simp
  refine call_len_list (N.isList hm) (by rw [e]; omega) ?_
  rw [e]; exact h
theorem sub_swap1 {d x0 : Addr × Obj} {r : List (Addr × Obj)} : ∀ p ∈ d :: x0 :: r, p ∈ x0 :: d :: r := by
  skip
  repeat (refine List.forall_mem_cons.mpr ⟨by (repeat (first | exact List.Mem.head _ | refine List.Mem.tail _ ?_)), ?_⟩)
  first | exact List.forall_mem_nil _ | exact fun p hp => by (repeat (first | exact hp | refine List.Mem.tail _ ?_))
theorem sub_swap2 {d x0 x1 : Addr × Obj} {r : List (Addr × Obj)} : ∀ p ∈ d :: x0 :: x1 :: r, p ∈ x0 :: x1 :: d :: r := by
  skip
  repeat (refine List.forall_mem_cons.mpr ⟨by (repeat (first | exact List.Mem.head _ | refine List.Mem.tail _ ?_)), ?_⟩)
  first | exact List.forall_mem_nil _ | exact fun p hp => by (repeat (first | exact hp | refine List.Mem.tail _ ?_))
theorem te1 {h₀ h : Heap} {L P c : Addr} {d x0 x1 x2 x3 x4 : Addr × Obj} {o oc : Obj} {rest : List (Addr × Obj)} (N : News h₀ L h (d :: x0 :: (c, oc) :: x1 :: x2 :: x3 :: x4 :: (P, o) :: rest)) : News h₀ L h (d :: ([(P, o), (c, oc)] ++ rest)) := by
  refine cb_drop N ?_
  dsimp only [List.cons_append, List.nil_append]
  repeat (refine List.forall_mem_cons.mpr ⟨by (repeat (first | exact List.Mem.head _ | refine List.Mem.tail _ ?_)), ?_⟩)
  first | exact List.forall_mem_nil _ | exact fun p hp => by (repeat (first | exact hp | refine List.Mem.tail _ ?_))
theorem te2 {h₀ h : Heap} {L P c : Addr} {d x0 x1 x2 x3 x4 : Addr × Obj} {o oc : Obj} {rest : List (Addr × Obj)} (N : News h₀ L h (d :: x0 :: x1 :: x2 :: x3 :: x4 :: (P, o) :: (c, oc) :: rest)) : News h₀ L h (d :: ([(P, o), (c, oc)] ++ rest)) := by
  refine cb_drop N ?_
  dsimp only [List.cons_append, List.nil_append]
  repeat (refine List.forall_mem_cons.mpr ⟨by (repeat (first | exact List.Mem.head _ | refine List.Mem.tail _ ?_)), ?_⟩)
  first | exact List.forall_mem_nil _ | exact fun p hp => by (repeat (first | exact hp | refine List.Mem.tail _ ?_))
theorem te3 {h₀ h : Heap} {L P c : Addr} {d x0 x1 x2 x3 x4 : Addr × Obj} {o oc : Obj} {rest : List (Addr × Obj)} (N : News h₀ L h (x0 :: (c, oc) :: d :: x1 :: x2 :: x3 :: x4 :: (P, o) :: rest)) : News h₀ L h (d :: ([(P, o), (c, oc)] ++ rest)) := by
  refine cb_drop N ?_
  dsimp only [List.cons_append, List.nil_append]
  repeat (refine List.forall_mem_cons.mpr ⟨by (repeat (first | exact List.Mem.head _ | refine List.Mem.tail _ ?_)), ?_⟩)
  first | exact List.forall_mem_nil _ | exact fun p hp => by (repeat (first | exact hp | refine List.Mem.tail _ ?_))
theorem te4 {h₀ h : Heap} {L P c : Addr} {d x0 x1 x2 x3 x4 : Addr × Obj} {o oc : Obj} {rest : List (Addr × Obj)} (N : News h₀ L h (x0 :: d :: x1 :: x2 :: x3 :: x4 :: (P, o) :: (c, oc) :: rest)) : News h₀ L h (d :: ([(P, o), (c, oc)] ++ rest)) := by
  refine cb_drop N ?_
  dsimp only [List.cons_append, List.nil_append]
  repeat (refine List.forall_mem_cons.mpr ⟨by (repeat (first | exact List.Mem.head _ | refine List.Mem.tail _ ?_)), ?_⟩)
  first | exact List.forall_mem_nil _ | exact fun p hp => by (repeat (first | exact hp | refine List.Mem.tail _ ?_))
theorem hne_mk {P c D : Nat} {o oc : Obj} {rest : List (Addr × Obj)} (h1 : P ≠ D) (h2 : c ≠ D) (h3 : ∀ p ∈ rest, p.1 ≠ D) : ∀ p ∈ [((P : Addr), o), ((c : Addr), oc)] ++ rest, p.1 ≠ D := by
  intro p hp
  simp only [List.cons_append, List.nil_append, List.mem_cons] at hp
  rcases hp with rfl | rfl | h
  · exact h1
  · exact h2
  · exact h3 p h
theorem put_rep {k m : Nat} {a z : Int} {vs : List Value} (h : IntsAre vs (put (List.replicate m z) 0 (digs k ((m : Int) - 0).toNat a))) : IntsAre vs (digs k m a) := by
  rw [show ((m : Int) - 0).toNat = m by omega, put_all _ (by rw [digs_len, List.length_replicate])] at h
  exact h
theorem ints_rep (z : Int) (t : Tok) : ∀ n, IntsAre (List.replicate n (.int z t)) (List.replicate n z)
  | 0 => .nil
  | n + 1 => .cons z t (ints_rep z t n)
def nd (k : Nat) (a : Int) : Nat := (PySem.Builtin.Int.intBits a + k - 1) / k
theorem nd_pos {k : Nat} {a : Int} (hk : 0 < k) (h : 0 < a) : 0 < nd k a := by
  have : 1 ≤ PySem.Builtin.Int.intBits a := by
    by_cases h1 : PySem.Builtin.Int.intBits a ≤ 0
    · have := PySem.intBits_le_iff.mp h1
      omega
    · omega
  unfold nd
  exact Nat.div_pos (by omega) hk
theorem nd_zero {k : Nat} (hk : 0 < k) : nd k 0 = 0 := by
  have : PySem.Builtin.Int.intBits 0 = 0 := rfl
  unfold nd
  rw [this]
  exact Nat.div_eq_of_lt (by omega)
theorem rep_zero {k : Nat} {a : Int} {t : Tok} (hk : 0 < k) (h : a = 0) : IntsAre (List.replicate (nd k a) (.int 0 t)) (digs k (nd k a) a) := by
  subst h
  rw [nd_zero hk]
  exact .nil
theorem nd_bnd {k : Nat} {a : Int} (hk : 0 < k) (h : 0 ≤ a) : a < 2 ^ (k * nd k a) := by
  have h1 : PySem.Builtin.Int.intBits a ≤ k * nd k a := by
    unfold nd
    have := Nat.div_add_mod (PySem.Builtin.Int.intBits a + k - 1) k
    have h2 := Nat.mod_lt (PySem.Builtin.Int.intBits a + k - 1) hk
    omega
  have := PySem.intBits_le_iff.mp h1
  have h3 : ((a.natAbs : Nat) : Int) < ((2 ^ (k * nd k a) : Nat) : Int) := by exact_mod_cast this
  rw [Int.natCast_pow, Int.natAbs_of_nonneg h] at h3
  exact h3
theorem nd_le {k : Nat} {a : Int} (hk : 0 < k) (h : PySem.Builtin.Int.intBits a ≤ 900) : nd k a ≤ 900 := by
  unfold nd
  rw [Nat.div_le_iff_le_mul hk]
  have : 900 ≤ 900 * k := Nat.le_mul_of_pos_right _ hk
  omega
theorem nd_int {k : Nat} {a : Int} (hk : 0 < k) : ((PySem.Builtin.Int.intBits a : Int) + (k : Int) - 1).fdiv (k : Int) = (nd k a : Int) := by
  rw [Int.fdiv_eq_ediv_of_nonneg _ (by omega)]
  unfold nd
  rw [Int.natCast_ediv, show ((PySem.Builtin.Int.intBits a + k - 1 : Nat) : Int) = (PySem.Builtin.Int.intBits a : Int) + (k : Int) - 1 by omega]
theorem fdiv_nd {prog : Program} {w : World} {A : Around} {E : Value → Shared → Prop} {s : Shared} {k : Nat} {a : Int} {t u : Tok} {Q : Value → Shared → Prop} (h : ∀ t, Q (.int (nd k a) t) { s with toks := s.toks + 1 }) (hk : 0 < k := by assumption) (hk9 : k < 9 := by assumption) :
    wpAny (model prog w) A (binaryOp .FloorDiv (.int ((PySem.Builtin.Int.intBits a : Int) + (k : Int) - 1) t) (.int (k : Int) u)) Q E s := by
  refine floordiv_int (by omega) ?_ (.inl (PyProof.noPylong_small (by omega)))
  rw [nd_int hk]
  exact h _
theorem len_repA {prog : Program} {w : World} {A : Around} {E : Value → Shared → Prop} {s : Shared} {h₀ : Heap} {L : Addr} {news : List (Addr × Obj)} {a : Addr} {v : Value} {n j : Nat} {Q : Value → Shared → Prop} (h : Q (.int (j : Int) (s.toks + 1)) { s with toks := s.toks + 1 + 1 }) (N : News h₀ L s.heap news := by k_asm) (hm : (a, listOf (List.replicate j v).toArray n) ∈ news := by k_mem) (hj : j ≤ 1000 := by omega) :
    wpAny (model prog w) A (call (.builtin "len") [.ref a]) Q E s := len_rep N hm hj h
theorem mul1_NA {prog : Program} {w : World} {A : Around} {E : Value → Shared → Prop} {s : Shared} {h₀ : Heap} {L : Addr} {m : Str → Option Value} {news : List (Addr × Obj)} {l : Addr} {v : Value} {k : Nat} {n : Nat} {u : Tok} {Q : Value → Shared → Prop}
    (h : ∀ D h', Fr h₀ L h' m → News h₀ L h' ((D, listOf (List.replicate n v).toArray 0) :: news) → (∀ p ∈ news, p.1 < D) → Q (.ref D) { s with heap := h' }) (F : Fr h₀ L s.heap m := by k_asm) (N : News h₀ L s.heap news := by k_asm) (hm : (l, listOf [v].toArray k) ∈ news := by k_mem) (h1 : n ≤ 1000 := by omega) : wpAny (model prog w) A (binaryOp .Mult (.ref l) (.int (n : Int) u)) Q E s := mul1_N F N hm h1 h
local macro_rules | `(tactic| k_all) => `(tactic| first | assumption | exact allLt_ne (by assumption) (by first | exact Nat.le_refl _ | omega))
local macro_rules | `(tactic| k_mem) => `(tactic| assumption)
local macro_rules | `(tactic| walk_at "call builtin:len") => `(tactic| k_dflt refine' len_repA ?_)
local macro_rules | `(tactic| walk_at "binaryOp FloorDiv int int") => `(tactic| k_dflt (refine fdiv_nd ?_; intro _))
local macro_rules | `(tactic| walk_at "binaryOp Mult") => `(tactic| (k_dflt refine' mul1_NA ?_; intro l' h' F' N' l1; (try k_lt l1); (try k_sweep)))
local macro_rules | `(tactic| walk_at "binaryOp Mult ref int") => `(tactic| (k_dflt refine' mul1_NA ?_; intro l' h' F' N' l1; (try k_lt l1); (try k_sweep)))

set_option maxHeartbeats 8000000 in
theorem i2d_C {w : World} {a : Int} {k : Nat} {ta tk0 : Tok} {tb rest : List (Addr × Obj)} (hT : TabSt 57 79 4 q57 tb := by assumption) (h57 : ∀ p ∈ rest, p.1 ≠ 57 := by assumption) (hk0 : 0 < k := by omega) (hk9 : k < 9 := by omega) (ha : 0 ≤ a := by assumption) (hab : PySem.Builtin.Int.intBits a ≤ 900 := by assumption) :
    Ctr w 62 [.int a ta, .int (k : Int) tk0] [] 13 (tb ++ rest) (fun r n' => ∃ D vs n tb', r = .ref D ∧ TabSt 57 79 4 q57 tb' ∧ IntsAre vs (digs k (nd k a) a) ∧ n' = (D, listOf vs.toArray n) :: (tb' ++ rest) ∧ ∀ p ∈ tb' ++ rest, p.1 ≠ D) := by
  have hnd : nd k a ≤ 900 := nd_le hk0 hab
  cases hT
  · unfold Ctr
    intro p loose mean mg mb dp un gd cn cs ai ccd cl outer A₀ base h₀ L m s Q E B F X N T hk hd hu hret
    dsimp only at hret
    simp only [List.cons_append, List.nil_append] at N
    refine wpAny_call ?_
    refine' code_defC ?k1 ?k2 ?k3 ?k4 ?k5 ?kA ?kF ?kK ?k6 ?k7 ?k8 ?k9 ?kB ?kD ?_ ?c2 ?c3 ?c4
    case kA => exact rfl
    case kF => exact rfl
    case kK => assumption
    case k1 => k_asm
    case k2 => k_asm
    case k3 => k_asm
    case k4 => k_asm
    case k5 => k_asm
    case k6 => k_is
    case k7 => k_is
    case k8 => ktr_room
    case k9 => exact BindsTo.of_eq (binds := [(Str.ofString "a", .int a ta), (Str.ofString "n", .int (k : Int) tk0)]) rfl
    case kB => exact rfl
    case kD => decide +kernel
    case c2 => exact rfl
    case c3 => exact rfl
    case c4 => exact rfl
    k_whole
    intro g' L' h' tk' cells' FG' F' N' Y' B' X' T' l1
    (try k_lt l1)
    have hrest : AllLt L' rest := by first | exact l1.2 | exact l1.2.2
    k_cells Y'
    (try simp only [List.cons_append, List.nil_append] at N')
    (try dsimp only)
    (try k_fold)
    have codeHd' : CodeHd g' 61 57 := codeHd_of_K X' (by kernel_rfl)
    have hL143 := low_L X' F'
    k_steps
    · refine' Ctr.use (Ctr.sub (In2.use (e := 10) (inner2_C ?ho ?hnst ?hf ?hc ?hc1 ?hc2 ?hcn ?hcn1 ?hci ?hci1 ?hcd ?hcd1 ?hDD hk9 10) (ints_rep _ _ _) ?h0 ?h1 ?h2 ?h3 ?h4 ?h5 ?h6) sub_swap2) ?B ?F ?X ?N ?T ?hk ?hd ?hu ?_
      case F => k_asm
      case N => k_asm
      case ho => k_is
      case hnst => exact rfl
      case hf => k_mem
      case hc => k_mem
      case hc1 => assumption
      case hc2 => assumption
      case hcn => k_mem
      case hcn1 => assumption
      case hci => k_mem
      case hci1 => assumption
      case hcd => k_mem
      case hcd1 => assumption
      case hDD =>
        refine List.forall_mem_cons.mpr ⟨?_, ?_⟩
        · k_ne
        refine List.forall_mem_cons.mpr ⟨?_, ?_⟩
        · k_ne
        repeat (refine List.forall_mem_cons.mpr ⟨by k_ne, ?_⟩)
        k_all
      case h0 => omega
      case h1 => (have := nd_pos hk0 (a := a) (by omega); omega)
      case h2 => (rw [List.length_replicate]; omega)
      case h3 => (refine Int.le_trans (show _ ≤ (1000 : Int) by omega) (by decide))
      case h4 => (rw [List.length_replicate]; omega)
      case h5 => assumption
      case h6 => (rw [show ((nd k a : Int) - 0).toNat = nd k a by omega]; exact nd_bnd hk0 ha)
      case B => k_asm
      case X => k_asm
      case T => k_asm
      case hk => first | exact rfl | assumption
      case hd => ktr_room
      case hu => ktr_units
      intro r9 n9 h9 t9 F9 N9 P9
      obtain ⟨e9, vs9, hv9, f9⟩ := P9
      subst e9
      subst f9
      (try dsimp only)
      (try k_sweep)
      (try k_fold)
      k_steps
      rename News h₀ _ _ _ => Nq
      rename Fr h₀ _ _ _ => Fq
      simp only [Array.empty_append] at Nq
      first
      | exact hret _ _ _ _ Fq (te1 Nq) ⟨_, _, _, _, rfl, .used (by assumption) (by assumption) (by omega), put_rep hv9, rfl, hne_mk (by omega) (by omega) (by k_all)⟩
      | exact hret _ _ _ _ Fq (te2 Nq) ⟨_, _, _, _, rfl, .used (by assumption) (by assumption) (by omega), put_rep hv9, rfl, hne_mk (by omega) (by omega) (by k_all)⟩
    · rename News h₀ _ _ _ => Nq
      rename Fr h₀ _ _ _ => Fq
      simp only [Array.empty_append] at Nq
      have hz : a = 0 := by omega
      first
      | exact hret _ _ _ _ Fq (te3 Nq) ⟨_, _, _, _, rfl, .used (by assumption) (by assumption) (by omega), rep_zero hk0 hz, rfl, hne_mk (by omega) (by omega) (by k_all)⟩
      | exact hret _ _ _ _ Fq (te4 Nq) ⟨_, _, _, _, rfl, .used (by assumption) (by assumption) (by omega), rep_zero hk0 hz, rfl, hne_mk (by omega) (by omega) (by k_all)⟩
  · unfold Ctr
    intro p loose mean mg mb dp un gd cn cs ai ccd cl outer A₀ base h₀ L m s Q E B F X N T hk hd hu hret
    dsimp only at hret
    simp only [List.cons_append, List.nil_append] at N
    refine wpAny_call ?_
    refine' code_defC ?k1 ?k2 ?k3 ?k4 ?k5 ?kA ?kF ?kK ?k6 ?k7 ?k8 ?k9 ?kB ?kD ?_ ?c2 ?c3 ?c4
    case kA => exact rfl
    case kF => exact rfl
    case kK => assumption
    case k1 => k_asm
    case k2 => k_asm
    case k3 => k_asm
    case k4 => k_asm
    case k5 => k_asm
    case k6 => k_is
    case k7 => k_is
    case k8 => ktr_room
    case k9 => exact BindsTo.of_eq (binds := [(Str.ofString "a", .int a ta), (Str.ofString "n", .int (k : Int) tk0)]) rfl
    case kB => exact rfl
    case kD => decide +kernel
    case c2 => exact rfl
    case c3 => exact rfl
    case c4 => exact rfl
    k_whole
    intro g' L' h' tk' cells' FG' F' N' Y' B' X' T' l1
    (try k_lt l1)
    have hrest : AllLt L' rest := by first | exact l1.2 | exact l1.2.2
    k_cells Y'
    (try simp only [List.cons_append, List.nil_append] at N')
    (try dsimp only)
    (try k_fold)
    have codeHd' : CodeHd g' 61 57 := codeHd_of_K X' (by kernel_rfl)
    have hL143 := low_L X' F'
    k_steps
    · refine' Ctr.use (Ctr.sub (In2.use (e := 10) (inner2_C ?ho ?hnst ?hf ?hc ?hc1 ?hc2 ?hcn ?hcn1 ?hci ?hci1 ?hcd ?hcd1 ?hDD hk9 10) (ints_rep _ _ _) ?h0 ?h1 ?h2 ?h3 ?h4 ?h5 ?h6) sub_swap1) ?B ?F ?X ?N ?T ?hk ?hd ?hu ?_
      case F => k_asm
      case N => k_asm
      case ho => k_is
      case hnst => exact rfl
      case hf => k_mem
      case hc => k_mem
      case hc1 => assumption
      case hc2 => assumption
      case hcn => k_mem
      case hcn1 => assumption
      case hci => k_mem
      case hci1 => assumption
      case hcd => k_mem
      case hcd1 => assumption
      case hDD =>
        refine List.forall_mem_cons.mpr ⟨?_, ?_⟩
        · k_ne
        refine List.forall_mem_cons.mpr ⟨?_, ?_⟩
        · k_ne
        repeat (refine List.forall_mem_cons.mpr ⟨by k_ne, ?_⟩)
        k_all
      case h0 => omega
      case h1 => (have := nd_pos hk0 (a := a) (by omega); omega)
      case h2 => (rw [List.length_replicate]; omega)
      case h3 => (refine Int.le_trans (show _ ≤ (1000 : Int) by omega) (by decide))
      case h4 => (rw [List.length_replicate]; omega)
      case h5 => assumption
      case h6 => (rw [show ((nd k a : Int) - 0).toNat = nd k a by omega]; exact nd_bnd hk0 ha)
      case B => k_asm
      case X => k_asm
      case T => k_asm
      case hk => first | exact rfl | assumption
      case hd => ktr_room
      case hu => ktr_units
      intro r9 n9 h9 t9 F9 N9 P9
      obtain ⟨e9, vs9, hv9, f9⟩ := P9
      subst e9
      subst f9
      (try dsimp only)
      (try k_sweep)
      (try k_fold)
      k_steps
      rename News h₀ _ _ _ => Nq
      rename Fr h₀ _ _ _ => Fq
      simp only [Array.empty_append] at Nq
      first
      | exact hret _ _ _ _ Fq (te1 Nq) ⟨_, _, _, _, rfl, .used (by assumption) (by assumption) (by omega), put_rep hv9, rfl, hne_mk (by omega) (by omega) (by k_all)⟩
      | exact hret _ _ _ _ Fq (te2 Nq) ⟨_, _, _, _, rfl, .used (by assumption) (by assumption) (by omega), put_rep hv9, rfl, hne_mk (by omega) (by omega) (by k_all)⟩
    · rename News h₀ _ _ _ => Nq
      rename Fr h₀ _ _ _ => Fq
      simp only [Array.empty_append] at Nq
      have hz : a = 0 := by omega
      first
      | exact hret _ _ _ _ Fq (te3 Nq) ⟨_, _, _, _, rfl, .used (by assumption) (by assumption) (by omega), rep_zero hk0 hz, rfl, hne_mk (by omega) (by omega) (by k_all)⟩
      | exact hret _ _ _ _ Fq (te4 Nq) ⟨_, _, _, _, rfl, .used (by assumption) (by assumption) (by omega), rep_zero hk0 hz, rfl, hne_mk (by omega) (by omega) (by k_all)⟩
end

section
theorem off_B11 : True ∧ True := by
  w_top off
  walk1
  all_goals trivial

section
variable {prog : Program} {w : World} {A : Around} {E : Value → Shared → Prop} {s : Shared} {env : Env} {h₀ : Heap} {x : Str} {body : List Stmt} {Q : Flow → Shared → Prop} {I : Addr} {lp : Addr × Obj}
/-- what a turn must give -/
def Turn (h₀ : Heap) (L : Addr) (s₁ : Shared) (I : Addr) (it : Obj) (rest : (Str → Option Value) → List (Addr × Obj) → Prop) (Q : Flow → Shared → Prop) (f : Flow) (s₂ : Shared) : Prop :=
  match f with
  | .ret v => Q (.ret v) s₂
  | .brk => Q .next s₂
  | .next => Stop (UnrEnd h₀ L s₁ I it rest s₂)
  | .cont => Stop (UnrEnd h₀ L s₁ I it rest s₂)
theorem Turn.post {L : Addr} {s₁ : Shared} {it : Obj} {R R' : (Str → Option Value) → List (Addr × Obj) → Prop} {f : Flow} {s₂ : Shared} (h : Turn h₀ L s₁ I it R Q f s₂) (hR : ∀ m n, R m n → R' m n) : UnrPost h₀ L s₁ I it R' Q f s₂ := by
  cases f with
  | ret v => exact h
  | brk => exact h
  | next =>
    obtain ⟨h', tk, m', n', e, F, N, o, r⟩ := h
    exact ⟨h', tk, m', n', e, F, N, o, hR _ _ r⟩
  | cont =>
    obtain ⟨h', tk, m', n', e, F, N, o, r⟩ := h
    exact ⟨h', tk, m', n', e, F, N, o, hR _ _ r⟩
theorem rev_ind (J : List Value → (Str → Option Value) → List (Addr × Obj) → Prop)
    (turn : ∀ v r m news (it : Obj) h tk, J (v :: r) m news → it.cls = .type "list_reverseiterator" → Fr h₀ env.locals h (fun y => if y = x then some v else m y) → News h₀ env.locals h ((I, it) :: news) →
      wpAny (model prog w) A (execs body env) (Turn h₀ env.locals { s with heap := h, toks := tk } I it (fun m' n' => lp ∈ n' ∧ J r m' n') Q) E { s with heap := h, toks := tk })
    (done : ∀ m news h tk, J [] m news → Fr h₀ env.locals h m → News h₀ env.locals h news → Q .next { s with heap := h, toks := tk }) :
    ∀ r m news, J r m news → RevRest prog w A E h₀ env x body Q s I lp r m news
  | [], m, news, hJ => .zero fun h tk F N => done m news h tk hJ F N
  | v :: r, m, news, hJ => .succ fun it h tk hc F N => wpAny_mono (turn v r m news it h tk hJ hc F N) (fun f s₂ hp => hp.post fun m' n' hr => ⟨hr.1, rev_ind J turn done r m' n' hr.2⟩) fun _ _ e => e
theorem list_ind (J : List Value → (Str → Option Value) → List (Addr × Obj) → Prop)
    (turn : ∀ v r m news (it : Obj) h tk, J (v :: r) m news → it.cls = .type "list_iterator" → Fr h₀ env.locals h (fun y => if y = x then some v else m y) → News h₀ env.locals h ((I, it) :: news) →
      wpAny (model prog w) A (execs body env) (Turn h₀ env.locals { s with heap := h, toks := tk } I it (fun m' n' => lp ∈ n' ∧ J r m' n') Q) E { s with heap := h, toks := tk })
    (done : ∀ m news h tk, J [] m news → Fr h₀ env.locals h m → News h₀ env.locals h news → Q .next { s with heap := h, toks := tk }) :
    ∀ r m news, J r m news → ListRest prog w A E h₀ env x body Q s I lp r m news
  | [], m, news, hJ => .zero fun h tk F N => done m news h tk hJ F N
  | v :: r, m, news, hJ => .succ fun it h tk hc F N => wpAny_mono (turn v r m news it h tk hJ hc F N) (fun f s₂ hp => hp.post fun m' n' hr => ⟨hr.1, list_ind J turn done r m' n' hr.2⟩) fun _ _ e => e
theorem range_ind {a : Int} {n : Nat} (J : Nat → (Str → Option Value) → List (Addr × Obj) → Prop)
    (turn : ∀ i m news t h tk (it : Obj), i < n → J i m news → it.cls = .type "range_iterator" → Fr h₀ env.locals h (fun y => if y = x then some (.int (a + (i : Int)) t) else m y) → News h₀ env.locals h ((I, it) :: news) →
      wpAny (model prog w) A (execs body env) (Turn h₀ env.locals { s with heap := h, toks := tk } I it (fun m' n' => J (i + 1) m' n') Q) E { s with heap := h, toks := tk })
    (done : ∀ m news h tk, J n m news → Fr h₀ env.locals h m → News h₀ env.locals h news → Q .next { s with heap := h, toks := tk }) :
    ∀ k i m news, i + k = n → J i m news → RangeRest prog w A E h₀ env x body Q s I a n k i m news
  | 0, i, m, news, e, hJ => .zero fun h tk F N => done m news h tk (by rw [← e]; exact hJ) F N
  | k + 1, i, m, news, e, hJ => .succ fun t h tk F N => wpAny_mono (turn i m news t h tk _ (by omega) hJ rfl F N) (fun f s₂ hp => hp.post fun m' n' hr => range_ind J turn done k (i + 1) m' n' (by omega) hr) fun _ _ e => e
end
end

section
theorem off_B12 : True ∧ True := by
  w_top off
  walk1
  all_goals trivial

abbrev T57 (tb : List (Addr × Obj)) : Prop := TabSt 57 79 4 q57 tb
abbrev T64 (tb : List (Addr × Obj)) : Prop := TabSt 64 94 4 q64 tb
theorem ne_app {q : Nat} {a b : List (Addr × Obj)} (h1 : ∀ p ∈ a, p.1 ≠ q) (h2 : ∀ p ∈ b, p.1 ≠ q) : ∀ p ∈ a ++ b, p.1 ≠ q := fun p hp => (List.mem_append.mp hp).elim (h1 p) (h2 p)
theorem lshiftK {prog : Program} {w : World} {A : Around} {E : Value → Shared → Prop} {s : Shared} {a : Int} {k : Nat} {t u : Tok} {Q : Value → Shared → Prop} (h : Q (.int (a * 2 ^ k) s.toks) { s with toks := s.toks + 1 }) (ha : a.natAbs < 1000 := by omega) (hk : k < 100 := by omega) : wpAny (model prog w) A (binaryOp .LShift (.int a t) (.int (k : Int) u)) Q E s := by
  have := PySem.intBits_le_iff.mpr (show a.natAbs < 2 ^ 10 by omega)
  exact lshift_int (by omega) (by omega) h
theorem dm_step {H b P d rr : Int} (hb : 0 < b) (hr : rr = H % b) : (rr * P + d) / b + P * (H / b) = (d + P * H) / b ∧ (rr * P + d) % b = (d + P * H) % b := by
  have e : d + P * H = (rr * P + d) + b * (P * (H / b)) := by
    have h1 := Int.mul_ediv_add_emod H b
    rw [← hr] at h1
    have h2 : P * H = P * (b * (H / b) + rr) := by rw [h1]
    rw [h2, Int.mul_add, Int.mul_comm P rr, ← Int.mul_assoc, ← Int.mul_assoc, Int.mul_comm P b]
    omega
  rw [e, Int.add_mul_ediv_left _ _ (by omega), Int.add_mul_emod_self_left]
  exact ⟨rfl, rfl⟩
theorem dm_q {b P d rr : Int} (hb : 0 < b) (h0 : 0 ≤ rr) (h1 : rr < b) (hd : 0 ≤ d) (hd2 : d < P) (hP : 0 < P) : 0 ≤ (rr * P + d) / b ∧ (rr * P + d) / b < P := by
  have h2 := Int.mul_nonneg h0 (Int.le_of_lt hP)
  refine ⟨Int.ediv_nonneg (by omega) (by omega), Int.ediv_lt_of_lt_mul hb ?_⟩
  have h3 : rr * P ≤ (b - 1) * P := Int.mul_le_mul_of_nonneg_right (by omega) (by omega)
  rw [Int.sub_mul, Int.one_mul] at h3
  rw [Int.mul_comm P b]
  omega
theorem TabSt.has {P ln col : Nat} {qual : Str} {tb : List (Addr × Obj)} (h : TabSt P ln col qual tb) : ∃ o, ((P : Addr), o) ∈ tb := by
  cases h with
  | fresh => exact ⟨_, .head _⟩
  | used a b c => exact ⟨_, .head _⟩
theorem sub_mid {a b : Addr × Obj} {t c r : List (Addr × Obj)} : ∀ p ∈ t ++ (a :: b :: (c ++ r)), p ∈ a :: b :: (c ++ (t ++ r)) := by
  intro p hp
  simp only [List.mem_append, List.mem_cons] at hp ⊢
  rcases hp with h | h | h | h | h <;> simp [h]
theorem dm_end {h₀ h : Heap} {L : Addr} {d x y : Addr × Obj} {t c r : List (Addr × Obj)} (N : News h₀ L h (d :: (t ++ (x :: y :: (c ++ r))))) : News h₀ L h (d :: (c ++ (t ++ r))) := by
  refine cb_drop N ?_
  intro p hp
  simp only [List.mem_append, List.mem_cons] at hp ⊢
  rcases hp with h | h | h | h <;> simp [h]
theorem rev_K {prog : Program} {w : World} {A : Around} {E : Value → Shared → Prop} {s : Shared} {h₀ : Heap} {L D : Addr} {m : Str → Option Value} {news news' : List (Addr × Obj)} {vs : List Value} {n : Nat} {Q : Value → Shared → Prop} (h : ∀ h', Fr h₀ L h' m → News h₀ L h' news' → Q .none { s with heap := h' }) (F : Fr h₀ L s.heap m := by k_asm) (N : News h₀ L s.heap news := by k_asm) (U : Upd D (listOf vs.toArray n) (listOf vs.reverse.toArray n) news news' := by k_upd) (hz : vs.length ≤ 1000 := by omega) : wpAny (model prog w) A (call (.builtin "list.reverse") [.ref D]) Q E s :=
  kl_reverse F N rfl U (by rw [sizeLine_eq]; show vs.length ≤ _; omega) h
theorem dval_digs (k : Nat) : ∀ (m : Nat) (a : Int), 0 ≤ a → a < 2 ^ (k * m) → dval k (digs k m a) = a
  | 0, a, h0, h1 => by
    rw [Nat.mul_zero, Int.pow_zero] at h1
    rw [digs, dval]; omega
  | m + 1, a, h0, h1 => by
    have hk : (0 : Int) < 2 ^ k := Int.pow_pos (by decide)
    rw [digs, dval, dval_digs k m (a / 2 ^ k) (Int.ediv_nonneg h0 (Int.le_of_lt hk)) (Int.ediv_lt_of_lt_mul hk (by rw [← Int.pow_add, ← Nat.mul_succ]; exact h1))]
    exact Int.emod_add_mul_ediv a (2 ^ k)
theorem dm_lt {D : Nat} {x y : Addr × Obj} {t c r : List (Addr × Obj)} (h : ∀ p ∈ t ++ (x :: y :: (c ++ r)), p.1 < D) : ∀ p ∈ c ++ (t ++ r), p.1 < D := by
  intro p hp
  refine h p ?_
  simp only [List.mem_append, List.mem_cons] at hp ⊢
  rcases hp with h | h | h <;> simp [h]
theorem offI_of {d : Nat} {it : Obj} : ∀ {l : List (Addr × Obj)}, AllLt d l → OffI d it l
  | [], _ => trivial
  | _ :: _, h => ⟨.inl (Nat.ne_of_lt h.1), offI_of h.2⟩
local macro_rules | `(tactic| walk_at "z") => `(tactic| ((try dsimp only); (try k_sweep); (try k_fold)))
local macro_rules | `(tactic| k_all) => `(tactic| first | assumption | exact allLt_ne (by assumption) (by first | exact Nat.le_refl _ | omega))
local macro_rules | `(tactic| k_mem) => `(tactic| assumption)

local macro_rules | `(tactic| walk_at "pyIter ref") => `(tactic| with_reducible refine stIt ?_)
local macro_rules | `(tactic| walk_at "binaryOp LShift int int") => `(tactic| k_dflt refine lshiftK ?_)
local macro_rules | `(tactic| walk_at "call builtin:list.append") => `(tactic| (k_dflt refine' appendA ?_; intros; (try k_sweep)))
local macro_rules | `(tactic| walk_at "call builtin:list.reverse") => `(tactic| (k_dflt refine' rev_K ?_; intros; (try k_sweep)))
local macro_rules | `(tactic| walk_at "call ref") => `(tactic| k_dflt ((first | refine' Ctr.useL ?_ (C := i2d_C) | refine' Ctr.useD ?_ (C := div2_C) | refine' Ctr.useJ ?_ (C := Ctr.sub d2i_C sub_mid)); intros; (try (rename_i l9 _; k_lt l9)); walk_at "z"))

set_option maxHeartbeats 8000000 in
theorem dmp_C {w : World} {a b : Int} {ta tb : Tok} {t57 t64 rest : List (Addr × Obj)} (h1 : T57 t57 := by assumption) (h2 : T64 t64 := by assumption) (h57 : ∀ p ∈ rest, p.1 ≠ 57 := by assumption) (h64 : ∀ p ∈ rest, p.1 ≠ 64 := by assumption) (ha : 0 ≤ a := by omega) (hab : PySem.Builtin.Int.intBits a ≤ 900 := by assumption) (hb : 0 < b := by assumption) (hb2 : b < 256 := by assumption) :
    Ctr w 76 [.int a ta, .int b tb] [] 14 (t57 ++ (t64 ++ rest)) (fun r n' => ∃ D u v t57' t64', r = .ref D ∧ T57 t57' ∧ T64 t64' ∧ n' = (D, tupOf #[.int (a / b) u, .int (a % b) v]) :: (t57' ++ (t64' ++ rest)) ∧ ∀ p ∈ t57' ++ (t64' ++ rest), p.1 < D) := by
  have hk0 : 0 < PySem.Builtin.Int.intBits b := by
    by_cases h : PySem.Builtin.Int.intBits b ≤ 0
    · have := PySem.intBits_le_iff.mp h
      omega
    · omega
  have hk9 : PySem.Builtin.Int.intBits b ≤ 8 := PySem.intBits_le_iff.mpr (by omega)
  have hq57 : ∀ p ∈ t64 ++ rest, p.1 ≠ 57 := ne_app (h2.ne (by decide) (by decide)) h57
  unfold Ctr
  intro p loose mean mg mb dp un gd cn cs ai ccd cl outer A₀ base h₀ L m s Q E B F X N T hk hd hu hret
  dsimp only at hret
  refine wpAny_call ?_
  refine' code_def ?k1 ?k2 ?k3 ?k4 ?k5 ?kA ?kF ?kK ?k6 ?k7 ?k8 ?k9 ?kB ?_ ?c2 ?c3 ?c4 ?c5
  case kA => exact rfl
  case kF => exact rfl
  case kK => assumption
  case k1 => k_asm
  case k2 => k_asm
  case k3 => k_asm
  case k4 => k_asm
  case k5 => k_asm
  case k6 => k_is
  case k7 => k_is
  case k8 => ktr_room
  case k9 => exact BindsTo.of_eq (binds := [(Str.ofString "a", .int a ta), (Str.ofString "b", .int b tb)]) rfl
  case c5 => decide
  case kB => exact locs rfl
  case c2 => exact rfl
  case c3 => exact rfl
  case c4 => exact rfl
  k_whole
  intro g' L' h' FG' F' N' B' X' T'
  try dsimp only
  try k_fold
  k_steps
  unfold Stop
  rename_i ad vs9 k9 tb9 hT9 hv9 hne9 hh4 tk4 hh3 qd hh2 lq hh1 rv hh0 Fz Nz lz
  have hqd : ∀ p ∈ tb9 ++ (t64 ++ rest), p.1 ≠ qd := allLt_ne lq.2 (Nat.le_refl _)
  have hof : OffI rv (revObj ad ((vs9.length : Int) - 1)) ((qd, W.listOf #[] 0) :: (ad, W.listOf vs9.toArray k9) :: (tb9 ++ (t64 ++ rest))) := offI_of lz
  have hnd : nd (PySem.Builtin.Int.intBits b) a ≤ 900 := nd_le hk0 hab
  have hp1 : (2 : Int) ^ (PySem.Builtin.Int.intBits b) ≤ 256 := Int.le_trans (pow2_le hk9) (by decide)
  have hp0 : (0 : Int) < 2 ^ (PySem.Builtin.Int.intBits b) := Int.pow_pos (by decide)
  refine iter_revUnr (lo := W.listOf vs9.toArray k9) (vs := vs9) (by rfl) Fz Nz hof (by k_mem) rfl rfl ?_
  refine rev_ind (fun r m n' => ∀ K : (Str → Option Value) → List (Addr × Obj) → Prop, (∀ (lo hi qs : List Int) (vq : List Value) (nq : Nat) (rr : Int) (u1 u2 : Option Value) (tr tn : Tok), IntsAre r lo.reverse → lo ++ hi = digs (PySem.Builtin.Int.intBits b) (nd (PySem.Builtin.Int.intBits b) a) a → IntsAre vq qs → qs.length = hi.length → Digs (PySem.Builtin.Int.intBits b) qs → dval (PySem.Builtin.Int.intBits b) qs.reverse = dval (PySem.Builtin.Int.intBits b) hi / b → rr = dval (PySem.Builtin.Int.intBits b) hi % b → K (fun y => if y = Str.ofString "a_digit" then u2 else if y = Str.ofString "q_digit" then u1 else if y = Str.ofString "r" then some (.int rr tr) else if y = Str.ofString "q_digits" then some (.ref qd) else if y = Str.ofString "a_digits" then some (.ref ad) else if y = Str.ofString "n" then some (.int (PySem.Builtin.Int.intBits b : Int) tn) else List.lookup y [(Str.ofString "a", .int a ta), (Str.ofString "b", .int b tb)].reverse) ((qd, W.listOf vq.toArray nq) :: (ad, W.listOf vs9.toArray k9) :: (tb9 ++ (t64 ++ rest)))) → K m n') ?turn ?done _ _ _ ?start
  case start =>
    intro K k9
    refine' k_eq ?fe (k9 _ [] [] [] 0 0 none none _ _ hv9.reverse (by rw [List.append_nil]) .nil rfl (fun _ h => nomatch h) (by simp [dval]) (by simp [dval]))
    case' fe => funext y
    revert y
    intro y
    by_cases h0q : y = Str.ofString "a_digit"
    · subst h0q; rfl
    by_cases h1q : y = Str.ofString "q_digit"
    · subst h1q; rfl
    by_cases h2q : y = Str.ofString "r"
    · subst h2q; rfl
    by_cases h3q : y = Str.ofString "q_digits"
    · subst h3q; rfl
    by_cases h4q : y = Str.ofString "a_digits"
    · subst h4q; rfl
    by_cases h5q : y = Str.ofString "n"
    · subst h5q; rfl
    simp only [if_neg h0q, if_neg h1q, if_neg h2q, if_neg h3q, if_neg h4q, if_neg h5q]
  case done =>
    intro m n' h tk P9
    apply P9
    intro lo hi qs vq nq rr u1 u2 tr tn hr hlo hvq hql hqds hq hrr
    clear P9 m n'
    intro F1 N1
    have hlo0 : lo = [] := by
      have hl0 := hr.length
      rw [List.length_reverse] at hl0
      exact List.length_eq_zero_iff.mp hl0.symm
    subst hlo0
    rw [List.nil_append] at hlo
    have hvl := hvq.length
    have hlen := digs_len (PySem.Builtin.Int.intBits b) (nd (PySem.Builtin.Int.intBits b) a) a
    rw [← hlo] at hlen
    have hvr := hvq.reverse
    have hrl : qs.reverse.length = qs.length := List.length_reverse
    have hdr : Digs (PySem.Builtin.Int.intBits b) qs.reverse := fun z hz => hqds z (List.mem_reverse.mp hz)
    have hR64 : ∀ (o : Obj), ∀ p ∈ (qd, o) :: (ad, W.listOf vs9.toArray k9) :: (tb9 ++ rest), p.1 ≠ 64 := by
      obtain ⟨o64, hm64⟩ := h2.has
      have hm64' : ((64 : Addr), o64) ∈ tb9 ++ (t64 ++ rest) := List.mem_append.mpr (.inr (List.mem_append.mpr (.inl hm64)))
      intro o p hp
      rcases List.mem_cons.mp hp with rfl | hp
      · exact fun e => hqd _ hm64' e.symm
      rcases List.mem_cons.mp hp with rfl | hp
      · exact fun e => hne9 _ hm64' e.symm
      · exact ne_app (hT9.ne (by decide) (by decide)) h64 p hp
    have hR := hR64 (W.listOf vq.reverse.toArray nq)
    have hda : dval (PySem.Builtin.Int.intBits b) hi = a := by rw [hlo]; exact dval_digs _ _ _ ha (nd_bnd hk0 ha)
    rw [hda] at hq hrr
    subst hrr
    dsimp only
    k_steps
    rename News h₀ _ _ _ => Nq
    rename Fr h₀ _ _ _ => Fq
    rw [hq] at Nq
    refine hret _ _ _ _ Fq (dm_end Nq) ⟨_, _, _, _, _, rfl, hT9, by assumption, rfl, dm_lt (by assumption)⟩
  case turn =>
    intro v r m n' it h tk P9
    apply P9
    intro lo hi qs vq nq rr u1 u2 tr tn hr hlo hvq hql hqds hq hrr
    clear P9 m n'
    intro hc F1 N1
    generalize hlr : lo.reverse = ls at hr
    cases hr with
    | cons d td hr' =>
      rename_i r' ls'
      have hlo2 : lo = ls'.reverse ++ [d] := by
        have := congrArg List.reverse hlr
        simpa using this
      have hdd := digs_digs (PySem.Builtin.Int.intBits b) (nd (PySem.Builtin.Int.intBits b) a) a d (by rw [← hlo, hlo2]; simp)
      have hlen := digs_len (PySem.Builtin.Int.intBits b) (nd (PySem.Builtin.Int.intBits b) a) a
      rw [← hlo, hlo2] at hlen
      simp only [List.length_append, List.length_reverse, List.length_singleton] at hlen
      have hvl := hvq.length
      have hr0 : 0 ≤ rr ∧ rr < b := by rw [hrr]; exact ⟨Int.emod_nonneg _ (by omega), Int.emod_lt_of_pos _ hb⟩
      have hpr : 0 ≤ rr * 2 ^ (PySem.Builtin.Int.intBits b) ∧ rr * 2 ^ (PySem.Builtin.Int.intBits b) ≤ 255 * 256 := ⟨Int.mul_nonneg hr0.1 (by omega), Int.mul_le_mul (by omega) hp1 (by omega) (by omega)⟩
      have lzz := lz
      k_steps
      rename Fr g' _ _ _ => Fe
      rename News g' _ _ _ => Ne
      simp only [List.push_toArray] at Ne
      rename_i D9 u9 v9 l9 hx3 hx2 hx1 tk9 hx0
      have hst := dm_step (H := dval (PySem.Builtin.Int.intBits b) hi) (P := 2 ^ (PySem.Builtin.Int.intBits b)) (d := d) hb hrr
      have hqq := dm_q hb hr0.1 hr0.2 hdd.1 hdd.2 hp0
      refine' ⟨_, _, _, _, rfl, frc Fe ?FF, fun p hp => Ne p (.tail _ hp), ?off, ?mem, fun K k9 => k9 ls'.reverse (d :: hi) (qs ++ [(rr * 2 ^ (PySem.Builtin.Int.intBits b) + d) / b]) (vq ++ [.int ((rr * 2 ^ (PySem.Builtin.Int.intBits b) + d) / b) u9]) (nq + 1) ((rr * 2 ^ (PySem.Builtin.Int.intBits b) + d) % b) (some (.int ((rr * 2 ^ (PySem.Builtin.Int.intBits b) + d) / b) u9)) (some (.int d td)) v9 tn ?a1 ?a2 ?a3 ?a4 ?a5 ?a6 ?a7⟩
      case FF =>
        intro y
        by_cases h0q : y = Str.ofString "a_digit"
        · subst h0q; rfl
        by_cases h1q : y = Str.ofString "q_digit"
        · subst h1q; rfl
        by_cases h2q : y = Str.ofString "r"
        · subst h2q; rfl
        simp only [if_neg h0q, if_neg h1q, if_neg h2q]
      case mem => k_mem
      case off =>
        refine List.forall_mem_cons.mpr ⟨by k_ne, List.forall_mem_cons.mpr ⟨by k_ne, ?_⟩⟩
        exact allLt_ne lzz.2.2 (Nat.le_refl _)
      case a1 => rw [List.reverse_reverse]; exact hr'
      case a2 => rw [← hlo, hlo2]; simp
      case a3 => exact hvq.append (.cons _ _ .nil)
      case a4 => simp [hql]
      case a5 =>
        intro z hz
        rcases List.mem_append.mp hz with hz | hz
        · exact hqds z hz
        · rw [List.mem_singleton.mp hz]; exact hqq
      case a6 =>
        rw [List.reverse_append, List.reverse_singleton, List.singleton_append, dval, hq, dval]
        exact hst.1
      case a7 => rw [dval]; exact hst.2
end

section
theorem off_B13 : True ∧ True := by
  w_top off
  walk1
  all_goals trivial
local macro_rules | `(tactic| walk_at "z") => `(tactic| ((try dsimp only); (try k_sweep); (try k_fold)))
local macro_rules | `(tactic| walk_at "call ref") => `(tactic| k_dflt (refine' Ctr.useT1 ?_ (C := dmp_C); intros; walk_at "z"))

set_option maxHeartbeats 8000000 in
theorem idp_C {w : World} {a b : Int} {ta tb : Tok} {t57 t64 rest : List (Addr × Obj)} (h1 : T57 t57 := by assumption) (h2 : T64 t64 := by assumption) (h57 : ∀ p ∈ rest, p.1 ≠ 57 := by assumption) (h64 : ∀ p ∈ rest, p.1 ≠ 64 := by assumption) (ha : 0 ≤ a := by omega) (hab : PySem.Builtin.Int.intBits a ≤ 900 := by assumption) (hb : 0 < b := by assumption) (hb2 : b < 256 := by assumption) :
    Ctr w 83 [.int a ta, .int b tb] [] 15 (t57 ++ (t64 ++ rest)) (fun r n' => ∃ D u v t57' t64', r = .ref D ∧ T57 t57' ∧ T64 t64' ∧ n' = (D, tupOf #[.int (a / b) u, .int (a % b) v]) :: (t57' ++ (t64' ++ rest)) ∧ ∀ p ∈ t57' ++ (t64' ++ rest), p.1 < D) := by
  unfold Ctr
  intro p loose mean mg mb dp un gd cn cs ai ccd cl outer A₀ base h₀ L m s Q E B F X N T hk hd hu hret
  dsimp only at hret
  refine wpAny_call ?_
  refine' code_def ?k1 ?k2 ?k3 ?k4 ?k5 ?kA ?kF ?kK ?k6 ?k7 ?k8 ?k9 ?kB ?_ ?c2 ?c3 ?c4 ?c5
  case kA => exact rfl
  case kF => exact rfl
  case kK => assumption
  case k1 => k_asm
  case k2 => k_asm
  case k3 => k_asm
  case k4 => k_asm
  case k5 => k_asm
  case k6 => k_is
  case k7 => k_is
  case k8 => ktr_room
  case k9 => exact BindsTo.of_eq (binds := [(Str.ofString "a", .int a ta), (Str.ofString "b", .int b tb)]) rfl
  case c5 => decide
  case kB => exact locs rfl
  case c2 => exact rfl
  case c3 => exact rfl
  case c4 => exact rfl
  k_whole
  intro g' L' h' FG' F' N' B' X' T'
  try dsimp only
  try k_fold
  k_steps
  all_goals try (exfalso; omega)
  exact hret _ _ _ _ (by assumption) (by assumption) ⟨_, _, _, _, _, rfl, by assumption, by assumption, rfl, by assumption⟩
theorem drop2 {h₀ h : Heap} {L : Addr} {d x : Addr × Obj} {r : List (Addr × Obj)} (N : News h₀ L h (d :: x :: r)) : News h₀ L h (d :: r) := by
  refine cb_drop N ?_
  skip
  repeat (refine List.forall_mem_cons.mpr ⟨by (repeat (first | exact List.Mem.head _ | refine List.Mem.tail _ ?_)), ?_⟩)
  first | exact List.forall_mem_nil _ | exact fun p hp => by (repeat (first | exact hp | refine List.Mem.tail _ ?_))
theorem neg_div {a b : Int} (hb : 0 < b) : -((-a - 1) / b) - 1 = a / b ∧ b + (-((-a - 1) % b) - 1) = a % b := by
  have h1 := Int.mul_ediv_add_emod (-a - 1) b
  have h2 := Int.emod_nonneg (-a - 1) (show b ≠ 0 by omega)
  have h3 := Int.emod_lt_of_pos (-a - 1) hb
  generalize (-a - 1) / b = q at *
  generalize (-a - 1) % b = r at *
  have e : a = (b + (-r - 1)) + b * (-q - 1) := by rw [Int.mul_sub, Int.mul_neg, Int.mul_one]; omega
  constructor
  · rw [e, Int.add_mul_ediv_left _ _ (by omega), Int.ediv_eq_zero_of_lt (by omega) (by omega)]; omega
  · rw [e, Int.add_mul_emod_self_left, Int.emod_eq_of_lt (by omega) (by omega)]
theorem inv_int {prog : Program} {w : World} {A : Around} {E : Value → Shared → Prop} {s : Shared} {a : Int} {t : Tok} {Q : Value → Shared → Prop} (h : Q (.int (-a - 1) s.toks) { s with toks := s.toks + 1 }) : wpAny (model prog w) A (unaryOp .Invert (.int a t)) Q E s := invert_int h
local macro_rules | `(tactic| walk_at "unaryOp Invert int") => `(tactic| k_dflt refine inv_int ?_)
local macro_rules | `(tactic| walk_at "call ref") => `(tactic| k_dflt ((first | refine' Ctr.useT1 ?_ (C := dmp_C) | refine' Ctr.useT1 ?_ (C := idp_C)); intros; walk_at "z"))

set_option maxHeartbeats 8000000 in
theorem idm_C {w : World} {a b : Int} {ta tb : Tok} {t57 t64 rest : List (Addr × Obj)} (h1 : T57 t57 := by assumption) (h2 : T64 t64 := by assumption) (h57 : ∀ p ∈ rest, p.1 ≠ 57 := by assumption) (h64 : ∀ p ∈ rest, p.1 ≠ 64 := by assumption) (hab : a.natAbs < 2 ^ 60 := by first | assumption | omega) (hb : 0 < b := by omega) (hb2 : b < 256 := by omega) :
    Ctr w 83 [.int a ta, .int b tb] [] 16 (t57 ++ (t64 ++ rest)) (fun r n' => ∃ D u v t57' t64', r = .ref D ∧ T57 t57' ∧ T64 t64' ∧ n' = (D, tupOf #[.int (a / b) u, .int (a % b) v]) :: (t57' ++ (t64' ++ rest)) ∧ ∀ p ∈ t57' ++ (t64' ++ rest), p.1 < D) := by
  by_cases ha : 0 ≤ a
  · refine fun _ _ _ _ _ _ _ _ _ _ _ _ _ _ _ _ _ _ _ _ _ _ B F X N T hk hd hu hret => idp_C h1 h2 h57 h64 ha (Nat.le_trans (PySem.intBits_le_iff.mpr hab) (by decide)) hb hb2 _ _ _ _ _ _ _ _ _ _ _ _ _ _ _ _ _ _ _ _ _ _ B F X N T hk (by omega) (by omega) hret
  unfold Ctr
  intro p loose mean mg mb dp un gd cn cs ai ccd cl outer A₀ base h₀ L m s Q E B F X N T hk hd hu hret
  dsimp only at hret
  refine wpAny_call ?_
  refine' code_def ?k1 ?k2 ?k3 ?k4 ?k5 ?kA ?kF ?kK ?k6 ?k7 ?k8 ?k9 ?kB ?_ ?c2 ?c3 ?c4 ?c5
  case kA => exact rfl
  case kF => exact rfl
  case kK => assumption
  case k1 => k_asm
  case k2 => k_asm
  case k3 => k_asm
  case k4 => k_asm
  case k5 => k_asm
  case k6 => k_is
  case k7 => k_is
  case k8 => ktr_room
  case k9 => exact BindsTo.of_eq (binds := [(Str.ofString "a", .int a ta), (Str.ofString "b", .int b tb)]) rfl
  case c5 => decide
  case kB => exact locs rfl
  case c2 => exact rfl
  case c3 => exact rfl
  case c4 => exact rfl
  k_whole
  intro g' L' h' FG' F' N' B' X' T'
  try dsimp only
  try k_fold
  have hab2 : PySem.Builtin.Int.intBits (-a - 1) ≤ 900 := Nat.le_trans (PySem.intBits_le_iff.mpr (show (-a - 1).natAbs < 2 ^ 60 by omega)) (by decide)
  have hnd := neg_div (a := a) hb
  k_steps
  all_goals try (exfalso; omega)
  rename News h₀ _ _ _ => Nq
  rename Fr h₀ _ _ _ => Fq
  rw [hnd.1, hnd.2] at Nq
  rename _ ∧ AllLt _ (_ ++ _) => lq
  exact hret _ _ _ _ Fq (drop2 Nq) ⟨_, _, _, _, _, rfl, by assumption, by assumption, rfl, ktn_ltOf lq.2⟩
end

section
theorem off_B14 : True ∧ True := by
  w_top off
  walk1
  all_goals trivial

theorem dm16 {prog : Program} {w : World} {A : Around} {E : Value → Shared → Prop} {s : Shared} {h₀ : Heap} {L : Addr} {m : Str → Option Value} {news : List (Addr × Obj)} {a : Int} {t u : Tok} {Q : Value → Shared → Prop} (h : ∀ D t u h' tk, Fr h₀ L h' m → News h₀ L h' ((D, { cls := .type "tuple", data := .seq #[.int (a / 16) t, .int (a % 16) u] }) :: news) → Q (.ref D) { s with heap := h', toks := tk }) (F : Fr h₀ L s.heap m := by k_asm) (N : News h₀ L s.heap news := by k_asm) (_ha : 0 ≤ a := by assumption) :
    wpAny (model prog w) A (call (.builtin "divmod") [.int a t, .int 16 u]) Q E s := by
  refine divmod_N F N (by decide) (fun h' F' N' => ?_) (.inl (PyProof.noPylong_small (by decide)))
  rw [Int.fdiv_eq_ediv_of_nonneg _ (by decide), Int.fmod_eq_emod_of_nonneg _ (by decide)] at N'
  exact h _ _ _ h' _ F' N'
def apL (ds : List Int) : Array UInt8 := (ds.reverse.map fun d => UInt8.ofNat (65 + d.toNat)).toArray
theorem digs_snoc (k : Nat) : ∀ j (x : Int), digs k (j + 1) x = digs k j x ++ [x / 2 ^ (k * j) % 2 ^ k]
  | 0, x => by simp [digs]
  | j + 1, x => by
    rw [digs, digs_snoc k j (x / 2 ^ k), digs, List.cons_append, Int.ediv_ediv_of_nonneg (Int.le_of_lt (Int.pow_pos (by decide))), ← Int.pow_add, Nat.mul_succ, Nat.add_comm k]
theorem p16 (j : Nat) : (2 : Int) ^ (4 * j) = 16 ^ j := by rw [Int.pow_mul]; rfl
theorem apL_snoc (X : Int) (j : Nat) : apL (digs 4 (j + 1) X) = #[UInt8.ofNat (65 + (X / 16 ^ j % 16).toNat)] ++ apL (digs 4 j X) := by
  unfold apL
  rw [digs_snoc, p16, List.reverse_append, List.map_append, List.reverse_singleton, List.map_singleton, ← List.toArray_appendList]
  simp
theorem apL_size (X : Int) (j : Nat) : (apL (digs 4 j X)).size = j := by
  unfold apL
  rw [List.size_toArray, List.length_map, List.length_reverse, digs_len]
theorem div16 (X : Int) (j : Nat) : X / 16 ^ j / 16 = X / 16 ^ (j + 1) := by
  rw [Int.ediv_ediv_of_nonneg (Int.le_of_lt (Int.pow_pos (by decide))), Int.pow_succ]
theorem nd4_stop {X : Int} (h0 : 0 ≤ X) {j : Nat} (hj : j ≤ nd 4 X) : X / 16 ^ j = 0 ↔ j = nd 4 X := by
  have hp : (0 : Int) < 16 ^ j := Int.pow_pos (by decide)
  constructor
  · intro h
    refine Nat.le_antisymm hj (Nat.le_of_not_lt fun hlt => ?_)
    have h1 : PySem.Builtin.Int.intBits X ≤ 4 * j := by
      refine PySem.intBits_le_iff.mpr ?_
      have : X < 16 ^ j := by
        have := Int.lt_mul_ediv_self_add (x := X) hp
        rw [h] at this
        omega
      rw [← p16] at this
      have h3 : ((2 ^ (4 * j) : Nat) : Int) = (2 : Int) ^ (4 * j) := by push_cast; rfl
      omega
    unfold nd at hlt
    omega
  · rintro rfl
    have h1 := nd_bnd (k := 4) (by decide) h0
    rw [p16] at h1
    exact Int.ediv_eq_zero_of_lt h0 h1
theorem cut16 {m : Int} (h0 : 0 ≤ m) (h1 : m < 16) : PySem.W.KBy.picked #[65, 66, 67, 68, 69, 70, 71, 72, 73, 74, 75, 76, 77, 78, 79, 80] (some m) (some (m + 1)) = #[UInt8.ofNat (65 + m.toNat)] := by
  obtain ⟨k, rfl⟩ := Int.eq_ofNat_of_zero_le h0
  have hk : k < 16 := by omega
  have hall : ∀ k : Nat, k < 16 → PySem.W.KBy.picked #[65, 66, 67, 68, 69, 70, 71, 72, 73, 74, 75, 76, 77, 78, 79, 80] (some (k : Int)) (some ((k : Int) + 1)) = #[UInt8.ofNat (65 + (k : Int).toNat)] := by
    decide +kernel
  exact hall k hk
theorem cut_C {prog : Program} {w : World} {A : Around} {E : Value → Shared → Prop} {s : Shared} {value slice : PySem.Expr} {t u v : Tok} {h₀ : Heap} {L : Addr} {mm : PySem.Str → Option Value} {news : List (Addr × Obj)} {m : Int} {Q : Value → Shared → Prop} (h : ∀ h' t' k, Fr h₀ L h' mm → News h₀ L h' news → Q (.bytes #[UInt8.ofNat (65 + m.toNat)] t') { s with heap := h', toks := k }) (F : Fr h₀ L s.heap mm := by k_asm) (N : News h₀ L s.heap news := by k_asm) (h0 : 0 ≤ m := by assumption) (h1 : m < 16 := by assumption)
    (hs : subscripted slice false (.bytes #[65, 66, 67, 68, 69, 70, 71, 72, 73, 74, 75, 76, 77, 78, 79, 80] t) (.ref s.heap.objs.size) = operate [.ref s.heap.objs.size, .bytes #[65, 66, 67, 68, 69, 70, 71, 72, 73, 74, 75, 76, 77, 78, 79, 80] t] (getItem (.bytes #[65, 66, 67, 68, 69, 70, 71, 72, 73, 74, 75, 76, 77, 78, 79, 80] t) (.ref s.heap.objs.size)) := by with_unfolding_all rfl)
    (ht : ∀ r, letTemporaryGo value (.bytes #[65, 66, 67, 68, 69, 70, 71, 72, 73, 74, 75, 76, 77, 78, 79, 80] t) r = pure () := by intro _; with_unfolding_all rfl) :
    wpAny (model prog w) A (subscriptTail value slice (.bytes #[65, 66, 67, 68, 69, 70, 71, 72, 73, 74, 75, 76, 77, 78, 79, 80] t) (.ref s.heap.objs.size)) Q E { s with heap := s.heap.push { cls := .type "slice", data := .fields #[.int m u, .int (m + 1) v, .none] } } := by
  refine KBc.slice_K F N rfl (.int _ _) (.int _ _) (by decide) (fun h' t' k F' N' _ => ?_) hs ht
  rw [cut16 h0 h1]
  exact h h' t' k F' N'
local macro_rules | `(tactic| walk_at "exec While Name cons nil") => `(tactic| k_dflt refine whl_start 0 (Stop.of ?_))
local macro_rules | `(tactic| walk_at "exec While Name") => `(tactic| k_dflt refine whl_start 0 (Stop.of ?_))
local macro_rules | `(tactic| walk_at "exec While") => `(tactic| k_dflt refine whl_start 0 (Stop.of ?_))
local macro_rules | `(tactic| walk_at "call builtin:divmod") => `(tactic| (k_dflt refine' dm16 ?_; intros; (try k_sweep)))
local macro_rules | `(tactic| walk_at "subscriptTail") => `(tactic| (k_dflt refine' cut_C ?_ (s := ⟨_, _, _, _, _⟩); intros; (try k_sweep)))
local macro_rules | `(tactic| walk_at "binaryOp Add bytes bytes") => `(tactic| (k_here; (refine KBy.add_bytes (by rw [apL_size]; show 1 + _ ≤ _; omega) ?_); intro _ _; (try k_sweep)))
set_option maxHeartbeats 8000000 in
theorem ap_C {w : World} {x : Int} {tx : Tok} {news : List (Addr × Obj)} (hx : x.natAbs < 2 ^ 800 := by assumption) :
    Ctr w 90 [.int x tx] [] 2 news (fun r n' => ∃ t, r = .bytes (apL (digs 4 (nd 4 (x.natAbs : Int)) (x.natAbs : Int))) t ∧ n' = news) := by
  unfold Ctr
  intro p loose mean mg mb dp un gd cn cs a ccd cl outer A₀ base h₀ L m s Q E B F X N T hk hd hu hret
  dsimp only at hret
  refine wpAny_call ?_
  refine' code_def ?k1 ?k2 ?k3 ?k4 ?k5 ?kA ?kF ?kK ?k6 ?k7 ?k8 ?k9 ?kB ?_ ?c2 ?c3 ?c4 ?c5
  case kA => exact rfl
  case kF => exact rfl
  case kK => assumption
  case k1 => k_asm
  case k2 => k_asm
  case k3 => k_asm
  case k4 => k_asm
  case k5 => k_asm
  case k6 => k_is
  case k7 => k_is
  case k8 => ktr_room
  case k9 => exact BindsTo.of_eq (binds := [(Str.ofString "num", .int x tx)]) rfl
  case c5 => decide
  case kB => exact locs rfl
  case c2 => exact rfl
  case c3 => exact rfl
  case c4 => exact rfl
  k_whole
  intro g' L' h' FG' F' N' B' X' T'
  try dsimp only
  try k_fold
  k_steps
  unfold Stop
  rename Fr g' _ _ _ => Fw
  rename News g' _ _ _ => Nw
  refine while_ind (α := Nat) (fun j s' => ∃ h tk u t1 t2 t3, s' = { s with heap := h, toks := tk } ∧ Fr g' L' h (fun y => if y = Str.ofString "mod" then u else if y = Str.ofString "val" then some (.bytes (apL (digs 4 j (x.natAbs : Int))) t1) else if y = Str.ofString "num" then some (.int ((x.natAbs : Int) / 16 ^ j) t2) else if y = Str.ofString "AP" then some (.bytes #[65, 66, 67, 68, 69, 70, 71, 72, 73, 74, 75, 76, 77, 78, 79, 80] t3) else none) ∧ News g' L' h news ∧ j ≤ nd 4 (x.natAbs : Int)) (fun j => nd 4 (x.natAbs : Int) - j) ?hE ?step 0 ?h0
  case hE => first | passes_own | with_unfolding_all passes_own
  case h0 =>
    refine' ⟨_, _, none, _, _, _, rfl, ?F, Nw, Nat.zero_le _⟩
    case F =>
      refine frc Fw ?_
      intro y
      by_cases h1 : y = Str.ofString "mod"
      · subst h1; rfl
      by_cases h2 : y = Str.ofString "val"
      · subst h2; rfl
      by_cases h3 : y = Str.ofString "num"
      · subst h3
        have e : (if x < 0 then -x else x) = (x.natAbs : Int) / 16 ^ 0 := by rw [Int.pow_zero, Int.ediv_one]; split <;> omega
        exact congrArg (fun z => some (Value.int z _)) e
      by_cases h4 : y = Str.ofString "AP"
      · subst h4; rfl
      have b3 : (y == Str.ofString "num") = false := beq_false_of_ne h3
      simp only [if_neg h1, if_neg h2, if_neg h3, if_neg h4, List.reverse_cons, List.reverse_nil, List.nil_append, List.cons_append, List.lookup_cons, List.lookup_nil, b3]
  case step =>
    rintro j s' ⟨h, tk, u, t1, t2, t3, rfl, F9, N9, hj⟩
    dsimp only
    have hst := nd4_stop (X := (x.natAbs : Int)) (by omega) hj
    have hndX := nd_le (k := 4) (a := (x.natAbs : Int)) (by decide) (Nat.le_trans (PySem.intBits_le_iff.mpr (by omega : ((x.natAbs : Int)).natAbs < 2 ^ 800)) (by decide))
    k_steps
    by_cases hz : (x.natAbs : Int) / 16 ^ j = 0
    · refine WhlIf.no (by simp [hz]) ?_
      k_steps
      rename Fr g' _ _ _ => Fe
      rename Fr h₀ _ _ _ => Fq
      rename News h₀ _ _ _ => Nq
      exact hret _ _ _ _ Fq Nq ⟨_, by rw [← hst.1 hz], rfl⟩
    · refine WhlIf.yes (by simp [hz]) ?_
      have hX0 : 0 ≤ (x.natAbs : Int) / 16 ^ j := Int.ediv_nonneg (by omega) (Int.le_of_lt (Int.pow_pos (by decide)))
      have hm0 := Int.emod_nonneg ((x.natAbs : Int) / 16 ^ j) (show (16 : Int) ≠ 0 by decide)
      have hm1 := Int.emod_lt_of_pos ((x.natAbs : Int) / 16 ^ j) (show (0 : Int) < 16 by decide)
      have hjl : j < nd 4 (x.natAbs : Int) := Nat.lt_of_le_of_ne hj fun e => hz (hst.2 e)
      k_steps
      unfold Stop
      rename Fr g' _ _ _ => Fz
      rename News g' _ _ _ => Nz
      refine' ⟨j + 1, ⟨_, _, some (.int ((x.natAbs : Int) / 16 ^ j % 16) _), _, _, _, rfl, frc Fz ?FF, fun p hp => Nz p (.tail _ hp), hjl⟩, by omega⟩
      case FF =>
        intro y
        by_cases h1 : y = Str.ofString "mod"
        · subst h1; rfl
        by_cases h2 : y = Str.ofString "val"
        · subst h2
          exact congrArg (fun z => some (Value.bytes z _)) (apL_snoc _ j).symm
        by_cases h3 : y = Str.ofString "num"
        · subst h3
          exact congrArg (fun z => some (Value.int z _)) (div16 _ j)
        by_cases h4 : y = Str.ofString "AP"
        · subst h4; rfl
        simp only [if_neg h1, if_neg h2, if_neg h3, if_neg h4]
end

section
theorem off_B15 : True ∧ True := by
  w_top off
  walk1
  all_goals trivial

theorem memR {p : Addr × Obj} {a b rest : List (Addr × Obj)} (h : p ∈ rest) : p ∈ a ++ (b ++ rest) := List.mem_append_right _ (List.mem_append_right _ h)
def placeV (ns : List Int) (x t : Int) : Int := ns.length * (t / Wt ns x) + cL ns x + t % Wt ns x
def atV (ns : List Int) (n : Int) : Int := ns.getD (n % ns.length).toNat 0
def stepR (ns : List Int) (n : Int) : Int := Wt ns (atV ns n) * (n / ns.length) + n % ns.length - cL ns (atV ns n)
def rk0 (ns : List Int) (x p : Int) : Int := Wt ns x * (p / ns.length) + (max 0 (min (cR ns x) (p % ns.length)) - max 0 (min (cL ns x) (p % ns.length)))
def rk1 (ns : List Int) (x p : Int) : Int := Wt ns x * (p / ns.length + 1) - (max (p % ns.length) (cR ns x) - max (p % ns.length) (cL ns x))
theorem Wt_le (ns : List Int) (x : Int) : 0 ≤ Wt ns x ∧ Wt ns x ≤ ns.length := by
  have := cL_le ns x
  unfold Wt
  omega
local macro_rules | `(tactic| walk_at "z") => `(tactic| ((try dsimp only); (try k_sweep); (try k_fold)))
local macro_rules | `(tactic| k_mem) => `(tactic| first | assumption | exact memR (by assumption) | exact List.mem_cons_of_mem _ (memR (by assumption)) | exact List.mem_cons_of_mem _ (List.mem_cons_of_mem _ (memR (by assumption))) | exact List.mem_cons_of_mem _ (by assumption))
local macro_rules | `(tactic| walk_at "call builtin:len") => `(tactic| k_dflt refine' len_intsA ?_)
local macro_rules | `(tactic| walk_at "subscriptTail") => `(tactic| k_dflt refine' item_intsA ?_)
local macro_rules | `(tactic| walk_at "binaryOp Mult int int") => `(tactic| k_dflt refine mulA ?_)
local macro_rules | `(tactic| walk_at "call ref") => `(tactic| k_dflt ((first | refine' useB6 ?_ | refine' Ctr.useI ?_ (C := weight_C) | refine' Ctr.useT1 ?_ (C := idm_C)); intros; walk_at "z"))

set_option maxHeartbeats 8000000 in
theorem place_C {w : World} {l : Addr} {vs : List Value} {ns : List Int} {n : Nat} {t57 t64 rest : List (Addr × Obj)} (h1 : T57 t57) (h2 : T64 t64) (h57 : ∀ p ∈ rest, p.1 ≠ 57) (h64 : ∀ p ∈ rest, p.1 ≠ 64) (hl : (l, listOf vs.toArray n) ∈ rest) (hvs : IntsAre vs ns) (hn : ns.length < 256) (hs : Srt ns) {x y : Int} {tx ty : Tok} (hy : y.natAbs < 2 ^ 60) (hW : 0 < Wt ns x) :
    Ctr w 123 [.ref l, .int x tx, .int y ty] [] 18 (t57 ++ (t64 ++ rest)) (fun r n' => ∃ t t57' t64', r = .int (placeV ns x y) t ∧ T57 t57' ∧ T64 t64' ∧ n' = t57' ++ (t64' ++ rest)) := by
  unfold Ctr
  intro p loose mean mg mb dp un gd cn cs a ccd cl outer A₀ base h₀ L m s Q E B F X N T hk hd hu hret
  dsimp only at hret
  refine wpAny_call ?_
  refine' code_def ?k1 ?k2 ?k3 ?k4 ?k5 ?kA ?kF ?kK ?k6 ?k7 ?k8 ?k9 ?kB ?_ ?c2 ?c3 ?c4 ?c5
  case kA => exact rfl
  case kF => exact rfl
  case kK => assumption
  case k1 => k_asm
  case k2 => k_asm
  case k3 => k_asm
  case k4 => k_asm
  case k5 => k_asm
  case k6 => k_is
  case k7 => k_is
  case k8 => ktr_room
  case k9 => exact BindsTo.of_eq (binds := [(Str.ofString "line", .ref l), (Str.ofString "s", .int x tx), (Str.ofString "turn", .int y ty)]) rfl
  case c5 => decide
  case kB => exact locs rfl
  case c2 => exact rfl
  case c3 => exact rfl
  case c4 => exact rfl
  k_whole
  intro g' L' h' FG' F' N' B' X' T'
  try dsimp only
  try k_fold
  have hwl := Wt_le ns x
  k_steps
  rename News h₀ _ _ _ => Nq
  rename Fr h₀ _ _ _ => Fq
  exact hret _ _ _ _ Fq (fun p hp => Nq p (.tail _ hp)) ⟨_, _, _, rfl, by assumption, by assumption, rfl⟩
set_option maxHeartbeats 8000000 in
theorem step_C {w : World} {l : Addr} {vs : List Value} {ns : List Int} {n : Nat} {t57 t64 rest : List (Addr × Obj)} (h1 : T57 t57) (h2 : T64 t64) (h57 : ∀ p ∈ rest, p.1 ≠ 57) (h64 : ∀ p ∈ rest, p.1 ≠ 64) (hl : (l, listOf vs.toArray n) ∈ rest) (hvs : IntsAre vs ns) (hn : ns.length < 256) (hs : Srt ns) {y : Int} {ty : Tok} (hy : y.natAbs < 2 ^ 60) (hn0 : 0 < ns.length) :
    Ctr w 130 [.ref l, .int y ty] [] 18 (t57 ++ (t64 ++ rest)) (fun r n' => ∃ D u v t57' t64', r = .ref D ∧ T57 t57' ∧ T64 t64' ∧ n' = (D, tupOf #[.int (atV ns y) u, .int (stepR ns y) v]) :: (t57' ++ (t64' ++ rest)) ∧ ∀ p ∈ t57' ++ (t64' ++ rest), p.1 < D) := by
  unfold Ctr
  intro p loose mean mg mb dp un gd cn cs a ccd cl outer A₀ base h₀ L m s Q E B F X N T hk hd hu hret
  dsimp only at hret
  refine wpAny_call ?_
  refine' code_def ?k1 ?k2 ?k3 ?k4 ?k5 ?kA ?kF ?kK ?k6 ?k7 ?k8 ?k9 ?kB ?_ ?c2 ?c3 ?c4 ?c5
  case kA => exact rfl
  case kF => exact rfl
  case kK => assumption
  case k1 => k_asm
  case k2 => k_asm
  case k3 => k_asm
  case k4 => k_asm
  case k5 => k_asm
  case k6 => k_is
  case k7 => k_is
  case k8 => ktr_room
  case k9 => exact BindsTo.of_eq (binds := [(Str.ofString "line", .ref l), (Str.ofString "number", .int y ty)]) rfl
  case c5 => decide
  case kB => exact locs rfl
  case c2 => exact rfl
  case c3 => exact rfl
  case c4 => exact rfl
  k_whole
  intro g' L' h' FG' F' N' B' X' T'
  try dsimp only
  try k_fold
  have hm0 := Int.emod_nonneg y (show (ns.length : Int) ≠ 0 by omega)
  have hm1 := Int.emod_lt_of_pos y (show (0 : Int) < ns.length by omega)
  have hwl := Wt_le ns (atV ns y)
  unfold atV at hwl
  k_steps
  rename News h₀ _ _ _ => Nq
  rename Fr h₀ _ _ _ => Fq
  rename _ ∧ AllLt _ (_ ++ _) => lq
  exact hret _ _ _ _ Fq (drop2 Nq) ⟨_, _, _, _, _, rfl, by assumption, by assumption, rfl, ktn_ltOf lq.2⟩
set_option maxHeartbeats 8000000 in
theorem ranks_C {w : World} {l : Addr} {vs : List Value} {ns : List Int} {n : Nat} {t57 t64 rest : List (Addr × Obj)} (h1 : T57 t57) (h2 : T64 t64) (h57 : ∀ p ∈ rest, p.1 ≠ 57) (h64 : ∀ p ∈ rest, p.1 ≠ 64) (hl : (l, listOf vs.toArray n) ∈ rest) (hvs : IntsAre vs ns) (hn : ns.length < 256) (hs : Srt ns) {x y : Int} {tx ty : Tok} (hy : y.natAbs < 2 ^ 60) (hn0 : 0 < ns.length) :
    Ctr w 116 [.ref l, .int x tx, .int y ty] [] 18 (t57 ++ (t64 ++ rest)) (fun r n' => ∃ D u v t57' t64', r = .ref D ∧ T57 t57' ∧ T64 t64' ∧ n' = (D, tupOf #[.int (rk0 ns x y) u, .int (rk1 ns x y) v]) :: (t57' ++ (t64' ++ rest)) ∧ ∀ p ∈ t57' ++ (t64' ++ rest), p.1 < D) := by
  unfold Ctr
  intro p loose mean mg mb dp un gd cn cs a ccd cl outer A₀ base h₀ L m s Q E B F X N T hk hd hu hret
  dsimp only at hret
  refine wpAny_call ?_
  refine' code_def ?k1 ?k2 ?k3 ?k4 ?k5 ?kA ?kF ?kK ?k6 ?k7 ?k8 ?k9 ?kB ?_ ?c2 ?c3 ?c4 ?c5
  case kA => exact rfl
  case kF => exact rfl
  case kK => assumption
  case k1 => k_asm
  case k2 => k_asm
  case k3 => k_asm
  case k4 => k_asm
  case k5 => k_asm
  case k6 => k_is
  case k7 => k_is
  case k8 => ktr_room
  case k9 => exact BindsTo.of_eq (binds := [(Str.ofString "line", .ref l), (Str.ofString "s", .int x tx), (Str.ofString "place", .int y ty)]) rfl
  case c5 => decide
  case kB => exact locs rfl
  case c2 => exact rfl
  case c3 => exact rfl
  case c4 => exact rfl
  k_whole
  intro g' L' h' FG' F' N' B' X' T'
  try dsimp only
  try k_fold
  have hm0 := Int.emod_nonneg y (show (ns.length : Int) ≠ 0 by omega)
  have hm1 := Int.emod_lt_of_pos y (show (0 : Int) < ns.length by omega)
  have hwl := Wt_le ns x
  have hcl := cL_le ns x
  k_steps
  rename News h₀ _ _ _ => Nq
  rename Fr h₀ _ _ _ => Fq
  rename _ ∧ AllLt _ (_ ++ _) => lq
  exact hret _ _ _ _ Fq (drop2 Nq) ⟨_, _, _, _, _, rfl, by assumption, by assumption, rfl, ktn_ltOf lq.2⟩
end

section
theorem off_B16 : True ∧ True := by
  w_top off
  walk1
  all_goals trivial

def readL (ns : List Int) : Nat → Int → List Int
  | 0, _ => []
  | f + 1, n => if n < Wt ns 0 then [] else atV ns n :: readL ns f (stepR ns n)
def readE (ns : List Int) : Nat → Int → Int
  | 0, n => n
  | f + 1, n => if n < Wt ns 0 then n else readE ns f (stepR ns n)
def NoCode (o : Obj) : Prop := ∀ vs, o.data = .fields vs → ∀ u t, vs[1]? ≠ some (.str u t)
theorem Ctr.conv {w : World} {f : Addr} {vs : List Value} {kw : List (Str × Value)} {sz : Nat} {news news₂ : List (Addr × Obj)} {Post Post' : Value → List (Addr × Obj) → Prop} (C : Ctr w f vs kw sz news Post) (h : ∀ p ∈ news, p ∈ news₂)
    (hP : ∀ r n', Post r n' → (∀ p ∈ n', ∀ q ∈ n', p.1 = q.1 → p.2 = q.2) → ∃ n'', (∀ p ∈ n'', p ∈ n') ∧ Post' r n'') : Ctr w f vs kw sz news₂ Post' :=
  fun _ _ _ _ _ _ _ _ _ _ _ _ _ _ _ _ _ _ _ _ _ _ B F X N T hk hd hu hret => C _ _ _ _ _ _ _ _ _ _ _ _ _ _ _ _ _ _ _ _ _ _ B F X (cb_drop N h) T hk hd hu
    (fun r n' h' tk' F' N' hp => by
      obtain ⟨n'', hs, hp'⟩ := hP r n' hp (fun p hp q hq e => by
        have h1 := (N' p hp).1
        have h2 := (N' q hq).1
        rw [e, h2] at h1
        exact (Option.some.inj h1).symm)
      exact hret r n'' h' tk' F' (cb_drop N' hs) hp')
theorem tab_off {P ln col : Nat} {qual : Str} {tb news : List (Addr × Obj)} {q : Addr × Obj} (hT : TabSt P ln col qual tb) (hc : ∀ p ∈ news, ∀ q ∈ news, p.1 = q.1 → p.2 = q.2) (hs : ∀ p ∈ tb, p ∈ news) (hq : q ∈ news) (hn : NoCode q.2) (hP : q.1 ≠ P) : ∀ p ∈ tb, p.1 ≠ q.1 := by
  intro p hp e
  have hpo := hc p (hs p hp) q hq e
  cases hT with
  | fresh =>
    rw [List.mem_singleton.mp hp] at e
    exact hP e.symm
  | used a b c =>
    rcases List.mem_cons.mp hp with rfl | hp
    · exact hP e.symm
    · rw [List.mem_singleton.mp hp] at hpo
      exact hn _ (by rw [← hpo]; exact a) _ _ b
section
variable {prog : Program} {w : World} {A : Around} {E : Value → Shared → Prop} {s : Shared} {env : Env} {h₀ : Heap} {x : Str} {body : List Stmt} {Q : Flow → Shared → Prop} {I : Addr}
theorem range_ind2 {a : Int} {n : Nat} (J : Nat → (Str → Option Value) → List (Addr × Obj) → Prop)
    (turn : ∀ i m news t h tk (it : Obj), i < n → J i m news → NoCode it → Fr h₀ env.locals h (fun y => if y = x then some (.int (a + (i : Int)) t) else m y) → News h₀ env.locals h ((I, it) :: news) →
      wpAny (model prog w) A (execs body env) (Turn h₀ env.locals { s with heap := h, toks := tk } I it (fun m' n' => J (i + 1) m' n') Q) E { s with heap := h, toks := tk })
    (done : ∀ m news h tk, J n m news → Fr h₀ env.locals h m → News h₀ env.locals h news → Q .next { s with heap := h, toks := tk }) :
    ∀ k i m news, i + k = n → J i m news → RangeRest prog w A E h₀ env x body Q s I a n k i m news
  | 0, i, m, news, e, hJ => .zero fun h tk F N => done m news h tk (by rw [← e]; exact hJ) F N
  | k + 1, i, m, news, e, hJ => .succ fun t h tk F N => wpAny_mono (turn i m news t h tk _ (by omega) hJ (by
      intro vs hv u t hvt
      have hv' := Data.fields.inj hv
      subst hv'
      exact absurd hvt (by simp [rawInt])) F N) (fun f s₂ hp => hp.post fun m' n' hr => range_ind2 J turn done k (i + 1) m' n' (by omega) hr) fun _ _ e => e
end
theorem in2 {x y : Addr × Obj} {a b rest : List (Addr × Obj)} : ∀ p ∈ a ++ (b ++ (x :: y :: rest)), p ∈ x :: y :: (a ++ (b ++ rest)) := by
  intro p hp
  simp only [List.mem_append, List.mem_cons] at hp ⊢
  rcases hp with h | h | h | h | h <;> simp [h]
theorem out2 {d x y : Addr × Obj} {a b rest : List (Addr × Obj)} : ∀ p ∈ d :: x :: y :: (a ++ (b ++ rest)), p ∈ d :: (a ++ (b ++ (x :: y :: rest))) := by
  intro p hp
  simp only [List.mem_append, List.mem_cons] at hp ⊢
  rcases hp with h | h | h | h | h | h <;> simp [h]
theorem out2' {x y : Addr × Obj} {a b rest : List (Addr × Obj)} : ∀ p ∈ x :: y :: (a ++ (b ++ rest)), p ∈ a ++ (b ++ (x :: y :: rest)) := by
  intro p hp
  simp only [List.mem_append, List.mem_cons] at hp ⊢
  rcases hp with h | h | h | h | h <;> simp [h]

theorem step2_C {w : World} {l : Addr} {vs : List Value} {ns : List Int} {n : Nat} {t57 t64 rest : List (Addr × Obj)} (h1 : T57 t57 := by assumption) (h2 : T64 t64 := by assumption) (h57 : ∀ p ∈ rest, p.1 ≠ 57 := by assumption) (h64 : ∀ p ∈ rest, p.1 ≠ 64 := by assumption) (hl : (l, listOf vs.toArray n) ∈ rest := by assumption) (hvs : IntsAre vs ns := by assumption) (hn : ns.length < 256 := by omega) (hs : Srt ns := by assumption) {y : Int} {ty : Tok} (hy : y.natAbs < 2 ^ 60 := by omega) (hn0 : 0 < ns.length := by omega) {I lt : Addr} {it lo : Obj} (hI : ∀ p ∈ rest, p.1 ≠ I := by assumption) (ht : ∀ p ∈ rest, p.1 ≠ lt := by assumption) (hI9 : @LT.lt Nat _ 64 I := by assumption) (ht9 : @LT.lt Nat _ 64 lt := by assumption) (hIt : NoCode it := by assumption) (hLo : NoCode lo := by first | assumption | (intro _ h9; exact nomatch h9)) :
    Ctr w 130 [.ref l, .int y ty] [] 18 ((I, it) :: (lt, lo) :: (t57 ++ (t64 ++ rest))) (fun r n' => ∃ D u v t57' t64', r = .ref D ∧ T57 t57' ∧ T64 t64' ∧ n' = (D, tupOf #[.int (atV ns y) u, .int (stepR ns y) v]) :: (I, it) :: (lt, lo) :: (t57' ++ (t64' ++ rest)) ∧ (∀ p ∈ (I, it) :: (lt, lo) :: (t57' ++ (t64' ++ rest)), p.1 < D) ∧ (∀ p ∈ t57' ++ (t64' ++ rest), p.1 ≠ I) ∧ ∀ p ∈ t57' ++ (t64' ++ rest), p.1 ≠ lt) := by
  have n1 : ∀ q : Nat, q ≤ 64 → ∀ p ∈ [(I, it), (lt, lo)], p.1 ≠ q := by
    intro q hq p hp
    simp only [List.mem_cons, List.not_mem_nil, or_false] at hp
    rcases hp with rfl | rfl
    · exact fun e => absurd hI9 (by show ¬ @LT.lt Nat _ 64 I; rw [show I = q from e]; omega)
    · exact fun e => absurd ht9 (by show ¬ @LT.lt Nat _ 64 lt; rw [show lt = q from e]; omega)
  refine Ctr.conv (step_C h1 h2 (rest := (I, it) :: (lt, lo) :: rest) (ne_app (a := [(I, it), (lt, lo)]) (n1 57 (by decide)) h57) (ne_app (a := [(I, it), (lt, lo)]) (n1 64 (by decide)) h64) (.tail _ (.tail _ hl)) hvs hn hs hy hn0) in2 ?_
  rintro r n' ⟨D, u, v, a9, b9, e, hA, hB, rfl, hlt⟩ hc
  refine ⟨_, out2, D, u, v, a9, b9, e, hA, hB, rfl, fun p hp => hlt p (out2' p hp), ?_, ?_⟩
  · refine ne_app ?_ (ne_app ?_ hI)
    · exact tab_off hA hc (fun p hp => .tail _ (List.mem_append_left _ hp)) (q := (I, it)) (by simp) hIt (fun e => n1 57 (by decide) (I, it) (.head _) e)
    · exact tab_off hB hc (fun p hp => .tail _ (List.mem_append_right _ (List.mem_append_left _ hp))) (q := (I, it)) (by simp) hIt (fun e => n1 64 (by decide) (I, it) (.head _) e)
  · refine ne_app ?_ (ne_app ?_ ht)
    · exact tab_off hA hc (fun p hp => .tail _ (List.mem_append_left _ hp)) (q := (lt, lo)) (by simp) hLo (fun e => n1 57 (by decide) (lt, lo) (.tail _ (.head _)) e)
    · exact tab_off hB hc (fun p hp => .tail _ (List.mem_append_right _ (List.mem_append_left _ hp))) (q := (lt, lo)) (by simp) hLo (fun e => n1 64 (by decide) (lt, lo) (.tail _ (.head _)) e)
end

section
theorem off_B17 : True ∧ True := by
  w_top off
  walk1
  all_goals trivial
local macro_rules | `(tactic| walk_at "z") => `(tactic| ((try dsimp only); (try k_sweep); (try k_fold)))
local macro_rules | `(tactic| k_mem) => `(tactic| first | assumption | exact memR (by assumption) | exact List.mem_cons_of_mem _ (memR (by assumption)) | exact List.mem_cons_of_mem _ (List.mem_cons_of_mem _ (memR (by assumption))) | exact List.mem_cons_of_mem _ (by assumption))
local macro_rules | `(tactic| k_all) => `(tactic| first | assumption | exact allLt_ne (by assumption) (by first | exact Nat.le_refl _ | omega))
local macro_rules | `(tactic| walk_at "pyIter ref") => `(tactic| with_reducible refine stIt ?_)
local macro_rules | `(tactic| walk_at "call builtin:list.append") => `(tactic| (k_dflt refine' appendA ?_; intros; (try k_sweep)))
local macro_rules | `(tactic| walk_at "call ref") => `(tactic| k_dflt ((first | refine' Ctr.useI ?_ (C := weight_C) | refine' Ctr.useT3 ?_ (C := step2_C)); intros; (try (rename_i l9 _ _ _; k_lt l9)); walk_at "z"))

theorem stepR_bnd {ns : List Int} (hs : Srt ns) (h0 : 0 < ns.length) {n : Int} (hn : 0 ≤ n) : 0 ≤ stepR ns n ∧ stepR ns n ≤ n := by
  have hm0 := Int.emod_nonneg n (show (ns.length : Int) ≠ 0 by omega)
  have hm1 := Int.emod_lt_of_pos n (show (0 : Int) < ns.length by omega)
  have hwl := Wt_le ns (atV ns n)
  have hcl := cL_le ns (atV ns n)
  have hsp := cL_spec hs (atV ns n) (n % ns.length).toNat (by omega)
  have hc : cL ns (atV ns n) ≤ n % ns.length := by
    have : ¬ (((n % ns.length).toNat : Int) < cL ns (atV ns n)) := fun h => absurd (hsp.2 h) (Int.lt_irrefl _)
    omega
  have hq := Int.ediv_nonneg hn (show (0 : Int) ≤ ns.length by omega)
  have hp := Int.mul_nonneg hwl.1 hq
  have hp2 := Int.mul_le_mul_of_nonneg_right hwl.2 hq
  have he := Int.mul_ediv_add_emod n ns.length
  unfold stepR
  omega
set_option maxHeartbeats 8000000 in
theorem read_C {w : World} {l : Addr} {vs : List Value} {ns : List Int} {n : Nat} {t57 t64 rest : List (Addr × Obj)} (h1 : T57 t57) (h2 : T64 t64) (h57 : ∀ p ∈ rest, p.1 ≠ 57) (h64 : ∀ p ∈ rest, p.1 ≠ 64) (hl : (l, listOf vs.toArray n) ∈ rest) (hvs : IntsAre vs ns) (hn : ns.length < 256) (hs : Srt ns) {y : Int} {ty : Tok} (hy0 : 0 ≤ y) (hy : y < 1000) (hn0 : 0 < ns.length) (hend : readE ns 59 y < Wt ns 0) :
    Ctr w 137 [.ref l, .int y ty] [] 20 (t57 ++ (t64 ++ rest)) (fun r n' => ∃ D lt ws k v t57' t64', r = .ref D ∧ T57 t57' ∧ T64 t64' ∧ IntsAre ws (readL ns 60 y) ∧ n' = (D, tupOf #[.ref lt, .int (readE ns 60 y) v]) :: (lt, listOf ws.toArray k) :: (t57' ++ (t64' ++ rest)) ∧ (∀ p ∈ (lt, listOf ws.toArray k) :: (t57' ++ (t64' ++ rest)), p.1 < D) ∧ @LT.lt Nat _ 64 lt ∧ ∀ p ∈ t57' ++ (t64' ++ rest), p.1 ≠ lt) := by
  unfold Ctr
  intro p loose mean mg mb dp un gd cn cs a ccd cl outer A₀ base h₀ L m s Q E B F X N T hk hd hu hret
  dsimp only at hret
  refine wpAny_call ?_
  refine' code_def ?k1 ?k2 ?k3 ?k4 ?k5 ?kA ?kF ?kK ?k6 ?k7 ?k8 ?k9 ?kB ?_ ?c2 ?c3 ?c4 ?c5
  case kA => exact rfl
  case kF => exact rfl
  case kK => assumption
  case k1 => k_asm
  case k2 => k_asm
  case k3 => k_asm
  case k4 => k_asm
  case k5 => k_asm
  case k6 => k_is
  case k7 => k_is
  case k8 => ktr_room
  case k9 => exact BindsTo.of_eq (binds := [(Str.ofString "line", .ref l), (Str.ofString "number", .int y ty)]) rfl
  case c5 => decide
  case kB => exact locs rfl
  case c2 => exact rfl
  case c3 => exact rfl
  case c4 => exact rfl
  k_whole
  intro g' L' h' FG' F' N' B' X' T'
  try dsimp only
  try k_fold
  k_steps
  unfold Stop
  rename_i lt hh5 lA D hh4 lB hh3 hh2 hh1 Fq0 Nq0 hz tk2 t1 u1 v1 hR Fz Nz hG

  have ht : ∀ p ∈ rest, p.1 ≠ lt := fun p hp => Nat.ne_of_lt (lA p (memR hp))
  have ht57 : ∀ p ∈ t57 ++ (t64 ++ rest), p.1 ≠ lt := fun p hp => Nat.ne_of_lt (lA p hp)
  have ht9 : @LT.lt Nat _ 64 lt := by
    obtain ⟨o64, hm64⟩ := h2.has
    exact lA _ (List.mem_append_right _ (List.mem_append_left _ hm64))
  refine iter_rangeUnr (n := 60) (by rfl) hR (by rfl) (by rfl) Fz (fun p hp => Nz p (.tail _ hp)) ?_
  intro I lI
  have hI9 : @LT.lt Nat _ 64 I := Nat.lt_trans ht9 (lI _ (.head _))
  have hI : ∀ p ∈ rest, p.1 ≠ I := fun p hp => Nat.ne_of_lt (lI _ (.tail _ (memR hp)))
  have hI57 : ∀ p ∈ t57 ++ (t64 ++ rest), p.1 ≠ I := fun p hp => Nat.ne_of_lt (lI _ (.tail _ hp))
  have hIl : lt ≠ I := Nat.ne_of_lt (lI _ (.head _))
  have hIl' : I ≠ lt := hIl.symm
  refine range_ind2 (fun i m n' => ∀ K : (Str → Option Value) → List (Addr × Obj) → Prop, (∀ (acc : List Int) (ws : List Value) (k : Nat) (z : Int) (t2 : Tok) (uS uK : Option Value) (t57' t64' : List (Addr × Obj)), T57 t57' → T64 t64' → (∀ p ∈ t57' ++ (t64' ++ rest), p.1 ≠ I) → (∀ p ∈ t57' ++ (t64' ++ rest), p.1 ≠ lt) → IntsAre ws acc → i ≤ 59 → acc.length = i → 0 ≤ z → z < 1000 → acc ++ readL ns (60 - i) z = readL ns 60 y → readE ns (60 - i) z = readE ns 60 y → readE ns (59 - i) z < Wt ns 0 → K (fun y_1 => if y_1 = Str.ofString "s" then uS else if y_1 = Str.ofString "k" then uK else if y_1 = Str.ofString "letters" then some (.ref lt) else if y_1 = Str.ofString "left" then some (.int z t2) else List.lookup y_1 [(Str.ofString "line", .ref l), (Str.ofString "number", .int y ty)].reverse) ((lt, W.listOf ws.toArray k) :: (t57' ++ (t64' ++ rest)))) → K m n') ?turn ?done _ _ _ _ rfl ?start
  case start =>
    intro K k9
    refine' k_eq ?fe (k9 [] [] 0 y _ none none _ _ h1 h2 hI57 ht57 .nil (by decide) rfl hy0 hy rfl rfl hend)
    case' fe => funext y
    revert y
    intro y
    by_cases h0q : y = Str.ofString "s"
    · subst h0q; rfl
    by_cases h1q : y = Str.ofString "k"
    · subst h1q; rfl
    by_cases h2q : y = Str.ofString "letters"
    · subst h2q; rfl
    by_cases h3q : y = Str.ofString "left"
    · subst h3q; rfl
    simp only [if_neg h0q, if_neg h1q, if_neg h2q, if_neg h3q]
  case done =>
    intro m n' h tk P9
    apply P9
    intro acc ws k z t2 uS uK a7 b7 hA7 hB7 hI7 hl7 hw7 hi7
    exact absurd hi7 (by decide)
  case turn =>
    intro i m n' t h tk it hi P9
    apply P9
    intro acc ws k z t2 uS uK a7 b7 hA7 hB7 hI7 hl7 hw7 hi7 hai hz0 hz1 hrl hre hen
    clear P9 m n'
    intro hIt F1 N1
    have hwl := Wt_le ns 0
    by_cases hlt : z < Wt ns 0
    · have e60 : 60 - i = (59 - i) + 1 := by omega
      rw [e60, readL, if_pos hlt, List.append_nil] at hrl
      rw [e60, readE, if_pos hlt] at hre
      subst hrl
      k_steps
      rename _ < _ ∧ _ < _ ∧ AllLt _ _ => lq
      dsimp only [Turn]
      k_steps
      rename Fr h₀ _ _ _ => Fq
      rename News h₀ _ _ _ => Nq
      rw [hre] at Nq
      refine hret _ _ _ _ Fq (drop2 Nq) ⟨_, _, _, _, _, _, _, rfl, hA7, hB7, hw7, rfl, ?_, ht9, hl7⟩
      exact List.forall_mem_cons.mpr ⟨lq.2.1, ktn_ltOf lq.2.2⟩
    · have hi59 : i < 59 := by
        rcases Nat.lt_or_ge i 59 with h | h
        · exact h
        · have e : i = 59 := by omega
          subst e
          exact absurd hen hlt
      have e60 : 60 - i = (59 - i) + 1 := by omega
      have e59 : 59 - i = (59 - (i + 1)) + 1 := by omega
      have e60' : 60 - (i + 1) = 59 - i := by omega
      rw [e60, readL, if_neg hlt] at hrl
      rw [e60, readE, if_neg hlt] at hre
      rw [e59, readE, if_neg hlt] at hen
      have hwl2 := hw7.length
      have hsb := stepR_bnd hs hn0 hz0
      k_steps
      rename Fr g' _ _ _ => Fe
      rename News g' _ _ _ => Ne
      simp only [List.push_toArray] at Ne
      rename_i D9 u9 v9 a9 b9 hA9 hB9 o9 q9 l9 hx3 hx2 hx1 tk9 hx0
      refine' ⟨_, _, _, _, rfl, frc Fe ?FF, fun p hp => Ne p (.tail _ hp), ?off, fun K k9 => k9 (acc ++ [atV ns z]) (ws ++ [.int (atV ns z) u9]) (k + 1) (stepR ns z) v9 (some (.int (atV ns z) u9)) (some (.int (0 + (i : Int)) t)) a9 b9 hA9 hB9 o9 q9 (hw7.append (.cons _ _ .nil)) (by omega) (by simp [hai]) hsb.1 (by omega) (by rw [e60', List.append_assoc]; exact hrl) (by rw [e60']; exact hre) hen⟩
      case FF =>
        intro y
        by_cases h0q : y = Str.ofString "s"
        · subst h0q; rfl
        by_cases h1q : y = Str.ofString "k"
        · subst h1q; rfl
        by_cases h2q : y = Str.ofString "letters"
        · subst h2q; rfl
        by_cases h3q : y = Str.ofString "left"
        · subst h3q; rfl
        simp only [if_neg h0q, if_neg h1q, if_neg h2q, if_neg h3q]
      case off =>
        exact List.forall_mem_cons.mpr ⟨hIl, by assumption⟩
end

section
theorem off_B18 : True ∧ True := by
  w_top off
  walk1
  all_goals trivial

inductive PairsAre (news : List (Addr × Obj)) : List Value → List (Int × Int) → Prop
  | nil : PairsAre news [] []
  | cons {D : Addr} {t u : Tok} {ws : List Value} {p : Int × Int} {ps : List (Int × Int)} : (D, tupOf #[.int p.1 t, .int p.2 u]) ∈ news → PairsAre news ws ps → PairsAre news (.ref D :: ws) (p :: ps)
theorem PairsAre.length {news : List (Addr × Obj)} {ws : List Value} {ps : List (Int × Int)} (h : PairsAre news ws ps) : ws.length = ps.length := by
  induction h with
  | nil => rfl
  | cons _ _ ih => simp [ih]
theorem PairsAre.mono {news news' : List (Addr × Obj)} {ws : List Value} {ps : List (Int × Int)} (h : PairsAre news ws ps) (hs : ∀ p ∈ news, p ∈ news') : PairsAre news' ws ps := by
  induction h with
  | nil => exact .nil
  | cons a _ ih => exact .cons (hs _ a) ih
theorem PairsAre.append {news : List (Addr × Obj)} {ws ws' : List Value} {ps ps' : List (Int × Int)} (h : PairsAre news ws ps) (h' : PairsAre news ws' ps') : PairsAre news (ws ++ ws') (ps ++ ps') := by
  induction h with
  | nil => exact h'
  | cons a _ ih => exact .cons a ih
theorem PairsAre.take {news : List (Addr × Obj)} {ws : List Value} {ps : List (Int × Int)} (h : PairsAre news ws ps) : ∀ k, PairsAre news (ws.take k) (ps.take k) := by
  induction h with
  | nil => intro k; simp; exact .nil
  | cons a _ ih =>
    intro k
    cases k with
    | zero => exact .nil
    | succ k => exact .cons a (ih k)
theorem PairsAre.drop {news : List (Addr × Obj)} {ws : List Value} {ps : List (Int × Int)} (h : PairsAre news ws ps) : ∀ k, PairsAre news (ws.drop k) (ps.drop k) := by
  induction h with
  | nil => intro k; simp; exact .nil
  | cons a h ih =>
    intro k
    cases k with
    | zero => exact .cons a h
    | succ k => exact ih k
theorem PairsAre.get {news : List (Addr × Obj)} {ws : List Value} {ps : List (Int × Int)} (h : PairsAre news ws ps) : ∀ i, i < ps.length → ∃ D t u, ws[i]? = some (.ref D) ∧ (D, tupOf #[.int (ps.getD i (0, 0)).1 t, .int (ps.getD i (0, 0)).2 u]) ∈ news := by
  induction h with
  | nil => intro i hi; exact absurd hi (by simp)
  | cons a h ih =>
    intro i hi
    cases i with
    | zero => exact ⟨_, _, _, rfl, a⟩
    | succ i => exact ih i (by simpa using hi)
theorem item_pairs {prog : Program} {w : World} {A : Around} {E : Value → Shared → Prop} {s : Shared} {h₀ : Heap} {L : Addr} {news : List (Addr × Obj)} {value slice : Expr} {a : Addr} {ws : List Value} {ps : List (Int × Int)} {n : Nat} {k : Int} {u : Tok} {Q : Value → Shared → Prop}
    (N : News h₀ L s.heap news) (hm : (a, listOf ws.toArray n) ∈ news) (hi : PairsAre news ws ps) (h0 : 0 ≤ k) (h1 : k < ps.length) (hfit : ps.length < 2 ^ 62) (h : ∀ D t u, (D, tupOf #[.int (ps.getD k.toNat (0, 0)).1 t, .int (ps.getD k.toNat (0, 0)).2 u]) ∈ news → Q (.ref D) s)
    (hs : subscripted slice false (.ref a) (.int k u) = operate [.ref a, .int k u] (getItem (.ref a) (.int k u)) := by with_unfolding_all rfl) (hg : ∀ r, letTemporaryGo value (.ref a) r = pure () := by intro _; with_unfolding_all rfl) :
    wpAny (model prog w) A (subscriptTail value slice (.ref a) (.int k u)) Q E s := by
  obtain ⟨D, t, u, hx, hD⟩ := hi.get k.toNat (by omega)
  exact kim_list N hm rfl rfl h0 (by omega) hx (h D t u hD) hs hg
def KeyC (w : World) (f : Addr) (news : List (Addr × Obj)) : Prop := ∀ (D : Addr) (x y : Int) (t u : Tok), (D, tupOf #[.int x t, .int y u]) ∈ news → Ctr w f [.ref D] [] 2 news (fun r n' => (∃ t, r = .int x t) ∧ n' = news)
theorem KeyC.use {w : World} {f : Addr} {news : List (Addr × Obj)} (h : KeyC w f news := by assumption) {D : Addr} {x y : Int} {t u : Tok} (hm : (D, tupOf #[.int x t, .int y u]) ∈ news := by k_mem) : Ctr w f [.ref D] [] 2 news (fun r n' => (∃ t, r = .int x t) ∧ n' = news) := h D x y t u hm
theorem ins_eq {l : List Value} {x : Int} {y : Value} (h0 : 0 ≤ x) (h1 : x ≤ l.length) : kl_ins l x y = l.take x.toNat ++ y :: l.drop x.toNat := by
  rw [kl_ins, if_neg (by omega), Nat.min_eq_left (by omega)]

theorem len_pairs {prog : Program} {w : World} {A : Around} {E : Value → Shared → Prop} {s : Shared} {h₀ : Heap} {L : Addr} {news news' : List (Addr × Obj)} {a : Addr} {ws : List Value} {ps : List (Int × Int)} {n : Nat} {Q : Value → Shared → Prop} (N : News h₀ L s.heap news) (hm : (a, listOf ws.toArray n) ∈ news) (hi : PairsAre news' ws ps) (hfit : ps.length < 2 ^ 62) (h : Q (.int ps.length (s.toks + 1)) { s with toks := s.toks + 1 + 1 }) :
    wpAny (model prog w) A (call (.builtin "len") [.ref a]) Q E s := by
  have e : ws.toArray.size = ps.length := by rw [List.size_toArray]; exact hi.length
  refine call_len_list (N.isList hm) (by rw [e]; omega) ?_
  rw [e]; exact h
theorem binds_DF {K : Frag} {s : Shared} {fd : FuncData} {args : Args} {binds : List (Str × Value)} {T : Addr} {o : Obj} {items : Array Value} {n : Nat} {k : Option (Array Value) → Sem (List (Str × Value))} (X : K.In s.heap) (hd : fd.defaults = .ref T) (ho : K.lookup T = some o) (hs : o.data = .seq items n)
    (h₁ : bindArgs fd args = seqItems? fd.defaults >>= k) (h₂ : k (some items) = pure binds) : BindsTo s fd args binds := by
  intro M A E Q hq
  rw [h₁, hd]
  refine wpAny_bind (wpAny_seqItems (X _ _ ho) hs ?_)
  rw [h₂]
  exact wpAny_pure hq
theorem len_pairsA {prog : Program} {w : World} {A : Around} {E : Value → Shared → Prop} {s : Shared} {h₀ : Heap} {L : Addr} {news news' : List (Addr × Obj)} {a : Addr} {ws : List Value} {ps : List (Int × Int)} {n : Nat} {Q : Value → Shared → Prop} (h : Q (.int ps.length (s.toks + 1)) { s with toks := s.toks + 1 + 1 }) (N : News h₀ L s.heap news := by k_asm) (hm : (a, listOf ws.toArray n) ∈ news := by k_mem) (hi : PairsAre news' ws ps := by assumption) (hfit : ps.length < 2 ^ 62 := by first | assumption | omega) :
    wpAny (model prog w) A (call (.builtin "len") [.ref a]) Q E s := len_pairs N hm hi hfit h
theorem item_pairsA {prog : Program} {w : World} {A : Around} {E : Value → Shared → Prop} {s : Shared} {h₀ : Heap} {L : Addr} {news : List (Addr × Obj)} {value slice : Expr} {a : Addr} {ws : List Value} {ps : List (Int × Int)} {n : Nat} {k : Int} {u : Tok} {Q : Value → Shared → Prop}
    (h : ∀ D t u, (D, tupOf #[.int (ps.getD k.toNat (0, 0)).1 t, .int (ps.getD k.toNat (0, 0)).2 u]) ∈ news → Q (.ref D) s) (N : News h₀ L s.heap news := by k_asm) (hm : (a, listOf ws.toArray n) ∈ news := by k_mem) (hi : PairsAre news ws ps := by assumption) (h0 : 0 ≤ k := by first | assumption | omega) (h1 : k < ps.length := by first | assumption | omega) (hfit : ps.length < 2 ^ 62 := by first | assumption | omega)
    (hs : subscripted slice false (.ref a) (.int k u) = operate [.ref a, .int k u] (getItem (.ref a) (.int k u)) := by with_unfolding_all rfl) (hg : ∀ r, letTemporaryGo value (.ref a) r = pure () := by intro _; with_unfolding_all rfl) :
    wpAny (model prog w) A (subscriptTail value slice (.ref a) (.int k u)) Q E s := item_pairs N hm hi h0 h1 hfit h hs hg
local macro_rules | `(tactic| walk_at "z") => `(tactic| ((try dsimp only); (try k_sweep); (try k_fold)))
local macro_rules | `(tactic| k_mem) => `(tactic| assumption)
local macro_rules | `(tactic| walk_at "callWith ref") => `(tactic| k_dflt (first | refine' callWith_F (FnAt.of (by k_asm) (by k_mem)) ?_ | (refine' callWith_F0 (FnAt.of (by k_asm) (by k_mem)) ?_; try dsimp only [List.nil_append, List.cons_append])))
local macro_rules | `(tactic| walk_at "call builtin:len") => `(tactic| k_dflt refine' len_pairsA ?_)
local macro_rules | `(tactic| walk_at "subscriptTail") => `(tactic| k_dflt (refine' item_pairsA ?_; intros))
local macro_rules | `(tactic| walk_at "exec While Compare cons nil") => `(tactic| k_dflt refine whl_start 0 (Stop.of ?_))
local macro_rules | `(tactic| walk_at "call ref") => `(tactic| k_dflt (refine' Ctr.useI ?_ (C := KeyC.use); intros; walk_at "z"))

set_option maxHeartbeats 8000000 in
theorem brk_C {w : World} {l f : Addr} {ws : List Value} {ps : List (Int × Int)} {n : Nat} {x C : Int} {tx tlo : Tok} {news : List (Addr × Obj)} (hl : (l, listOf ws.toArray n) ∈ news := by k_mem) (hws : PairsAre news ws ps := by assumption) (hkey : KeyC w f news := by assumption) {foc : Value} {fod : Option Addr} {ffd : FuncData} {fsl : Array (Option Value)} (hfn : (f, (⟨foc, fod, .func ffd, fsl⟩ : Obj)) ∈ news := by k_mem)
   (hn : ps.length < 1000 := by assumption) (hC : ∀ i : Nat, i < ps.length → (x < (ps.getD i (0, 0)).1 ↔ C ≤ (i : Int)) := by assumption) (hC0 : 0 ≤ C := by assumption) (hC1 : C ≤ ps.length := by assumption) :
    Ctr w 32 [.ref l, .int x tx, .int 0 tlo, .none] [(Str.ofString "key", .ref f)] 4 news (fun r news' => (∃ t, r = .int C t) ∧ news' = news) := by
  unfold Ctr
  intro p loose mean mg mb dp un gd cn cs a ccd cl outer A₀ base h₀ L m s Q E B F X N T hk hd hu hret
  dsimp only at hret
  refine wpAny_call ?_
  refine' code_def ?k1 ?k2 ?k3 ?k4 ?k5 ?kA ?kF ?kK ?k6 ?k7 ?k8 ?k9 ?kB ?_ ?c2 ?c3 ?c4 ?c5
  case kA => exact rfl
  case kF => exact rfl
  case kK => assumption
  case k1 => k_asm
  case k2 => k_asm
  case k3 => k_asm
  case k4 => k_asm
  case k5 => k_asm
  case k6 => k_is
  case k7 => k_is
  case k8 => ktr_room
  case k9 => (refine' binds_DF (binds := [(Str.ofString "a", .ref l), (Str.ofString "x", .int x tx), (Str.ofString "lo", .int 0 tlo), (Str.ofString "hi", .none), (Str.ofString "key", .ref f)]) ?X ?d ?o ?s ?h1 ?h2; (case X => k_in); (case d => exact rfl); (case o => k_is); (case s => exact rfl); (case h1 => exact rfl); (case h2 => exact rfl))
  case c5 => decide
  case kB => exact locs rfl
  case c2 => exact rfl
  case c3 => exact rfl
  case c4 => exact rfl
  k_whole
  intro g' L' h' FG' F' N' B' X' T'
  try dsimp only
  try k_fold
  have hn62 : ps.length < 2 ^ 62 := Nat.lt_trans hn (by decide)
  k_steps
  unfold Stop
  rename Fr g' _ _ _ => Fw
  rename News g' _ _ _ => Nw
  refine while_ind (α := Int × Int) (fun p s' => ∀ K : Shared → Prop, (∀ h tk u t1 t2, Fr g' L' h (fun y => if y = Str.ofString "mid" then u else if y = Str.ofString "lo" then some (.int p.1 t1) else if y = Str.ofString "hi" then some (.int p.2 t2) else
      List.lookup y [(Str.ofString "key", .ref f), (Str.ofString "x", .int x tx), (Str.ofString "a", .ref l)]) → News g' L' h news → 0 ≤ p.1 → p.2 ≤ ps.length → max p.1 (min C p.2) = C → K { s with heap := h, toks := tk }) → K s') (fun p => (p.2 - p.1).toNat) ?hE ?step (0, (ps.length : Int)) ?h0
  case hE => first | passes_own | with_unfolding_all passes_own
  case h0 =>
    intro K k9
    refine' k9 _ _ none tlo _ ?F Nw (Int.le_refl _) (Int.le_refl _) ((Int.max_eq_right (Int.le_min.mpr ⟨hC0, Int.le_trans hC0 hC1⟩)).trans (Int.min_eq_left hC1))
    case F =>
      refine frc Fw ?_
      intro y
      by_cases h1 : y = Str.ofString "mid"
      · subst h1; rfl
      by_cases h2 : y = Str.ofString "lo"
      · subst h2; rfl
      by_cases h3 : y = Str.ofString "hi"
      · subst h3; rfl
      have b2 : (y == Str.ofString "lo") = false := beq_false_of_ne h2
      have b3 : (y == Str.ofString "hi") = false := beq_false_of_ne h3
      simp only [if_neg h1, if_neg h2, if_neg h3, List.reverse_cons, List.reverse_nil, List.nil_append, List.cons_append, List.lookup_cons, b2, b3]
  case step =>
    rintro ⟨p1, p2⟩ s' P9
    refine P9 _ fun h tk u t1 t2 F9 N9 hp1 hp2 hp3 => ?_
    clear P9
    dsimp only at hp1 hp2 hp3 F9 ⊢
    k_steps
    by_cases hlt : p1 < p2
    · refine WhlIf.yes (by simpa using hlt) ?_
      obtain ⟨hm0, hm1⟩ := bs_mid hlt hp1 hp2
      have hcm := hC ((p1 + p2).fdiv 2).toNat (Int.toNat_lt hm0 |>.mpr hm1)
      rw [Int.toNat_of_nonneg hm0] at hcm
      k_steps
      all_goals (
        try dsimp only
        unfold Stop
        rename Fr g' _ _ _ => Fz
        rename News g' _ _ _ => Nz
        first
        | (rename x < (ps.getD _ (0, 0)).1 => ha; have q := bs_hi hlt hp2 hp3 (hcm.1 ha); exact ⟨(p1, (p1 + p2).fdiv 2), fun K k9 => k9 _ _ _ _ _ (frc Fz upd_hi) Nz hp1 q.1 q.2.1, q.2.2⟩)
        | (rename ¬ (x < (ps.getD _ (0, 0)).1) => ha; have q := bs_lo hlt hp1 hp3 (Int.not_le.mp (mt hcm.2 ha)); exact ⟨((p1 + p2).fdiv 2 + 1, p2), fun K k9 => k9 _ _ _ _ _ (frc Fz upd_lo) Nz q.1 hp2 q.2.1, q.2.2⟩)
        )
    · refine WhlIf.no (by simpa using hlt) ?_
      k_steps
      exact hret _ _ _ _ (by assumption) (by assumption) ⟨⟨t1, by rw [bs_end hlt hp3]⟩, rfl⟩
end

section
theorem off_B19 : True ∧ True := by
  w_top off
  walk1
  all_goals trivial
local macro_rules | `(tactic| walk_at "z") => `(tactic| ((try dsimp only); (try k_sweep); (try k_fold)))
local macro_rules | `(tactic| k_mem) => `(tactic| first | assumption | exact List.Mem.head _ | exact List.mem_cons_of_mem _ (by assumption))
local macro_rules | `(tactic| k_all) => `(tactic| first | assumption | exact allLt_ne (by assumption) (by first | exact Nat.le_refl _ | omega))
local macro_rules | `(tactic| walk_at "callWith ref") => `(tactic| k_dflt (first | refine' callWith_F (FnAt.of (by k_asm) (by k_mem)) ?_ | (refine' callWith_F0 (FnAt.of (by k_asm) (by k_mem)) ?_; try dsimp only [List.nil_append, List.cons_append])))
local macro_rules | `(tactic| walk_at "call ref") => `(tactic| k_dflt ((first | refine' Ctr.useI ?_ (C := KeyC.use) | refine' Ctr.useI ?_ (C := brk_C)); intros; walk_at "z"))
theorem fits_ins {C : Int} (h0 : 0 ≤ C) (h1 : C < 1000) : PySem.Builtin.List.listFitsIndex C = true := by
  simp only [PySem.Builtin.List.listFitsIndex, Bool.and_eq_true, decide_eq_true_eq]; omega
theorem insK {prog : Program} {w : World} {A : Around} {E : Value → Shared → Prop} {s : Shared} {h₀ : Heap} {L D : Addr} {m : Str → Option Value} {news news' : List (Addr × Obj)} {vs : List Value} {n : Nat} {x : Int} {u : Tok} {y : Value} {Q : Value → Shared → Prop} (h : ∀ h', Fr h₀ L h' m → News h₀ L h' news' → Q .none { s with heap := h' }) (F : Fr h₀ L s.heap m := by k_asm) (N : News h₀ L s.heap news := by k_asm) (U : Upd D (listOf vs.toArray n) (listOf (vs.take x.toNat ++ y :: vs.drop x.toNat).toArray (n + 1)) news news' := by k_upd) (h0 : 0 ≤ x := by omega) (h1 : x ≤ vs.length := by omega) (hz : vs.length < 1000 := by omega) : wpAny (model prog w) A (call (.builtin "list.insert") [.ref D, .int x u, y]) Q E s :=
  kl_insert F N (fits_ins h0 (by omega)) (ins_eq h0 h1) U (by rw [sizeLine_eq]; show vs.length ≤ _; omega) h
local macro_rules | `(tactic| walk_at "call builtin:list.insert") => `(tactic| (k_dflt refine' insK ?_; intros; (try k_sweep)))
set_option maxHeartbeats 8000000 in
theorem insort_C {w : World} {l f D : Addr} {ws : List Value} {ps : List (Int × Int)} {n : Nat} {x y C : Int} {tx ty : Tok} {news : List (Addr × Obj)} (hne : ∀ p ∈ news, p.1 ≠ l) (hD : (D, tupOf #[.int x tx, .int y ty]) ∈ news) (hws : PairsAre news ws ps) (hkey : KeyC w f ((l, listOf ws.toArray n) :: news)) {foc : Value} {fod : Option Addr} {ffd : FuncData} {fsl : Array (Option Value)} (hfn : (f, (⟨foc, fod, .func ffd, fsl⟩ : Obj)) ∈ news)
   (hn : ps.length < 999) (hC : ∀ i : Nat, i < ps.length → (x < (ps.getD i (0, 0)).1 ↔ C ≤ (i : Int))) (hC0 : 0 ≤ C) (hC1 : C ≤ ps.length) :
    Ctr w 23 [.ref l, .ref D] [(Str.ofString "key", .ref f)] 7 ((l, listOf ws.toArray n) :: news) (fun _ n' => n' = (l, listOf (ws.take C.toNat ++ .ref D :: ws.drop C.toNat).toArray (n + 1)) :: news) := by
  have hws' : PairsAre ((l, listOf ws.toArray n) :: news) ws ps := hws.mono fun p hp => .tail _ hp
  have hwl := hws.length
  have hn' : ps.length < 1000 := by omega
  unfold Ctr
  intro p loose mean mg mb dp un gd cn cs a ccd cl outer A₀ base h₀ L m s Q E B F X N T hk hd hu hret
  dsimp only at hret
  refine wpAny_call ?_
  refine' code_def ?k1 ?k2 ?k3 ?k4 ?k5 ?kA ?kF ?kK ?k6 ?k7 ?k8 ?k9 ?kB ?_ ?c2 ?c3 ?c4 ?c5
  case kA => exact rfl
  case kF => exact rfl
  case kK => assumption
  case k1 => k_asm
  case k2 => k_asm
  case k3 => k_asm
  case k4 => k_asm
  case k5 => k_asm
  case k6 => k_is
  case k7 => k_is
  case k8 => ktr_room
  case k9 => (refine' binds_DF (binds := [(Str.ofString "a", .ref l), (Str.ofString "x", .ref D), (Str.ofString "lo", .int 0 _), (Str.ofString "hi", .none), (Str.ofString "key", .ref f)]) ?X ?d ?o ?s ?h1 ?h2; (case X => k_in); (case d => exact rfl); (case o => k_is); (case s => exact rfl); (case h1 => exact rfl); (case h2 => exact rfl))
  case c5 => decide
  case kB => exact locs rfl
  case c2 => exact rfl
  case c3 => exact rfl
  case c4 => exact rfl
  k_whole
  intro g' L' h' FG' F' N' B' X' T'
  try dsimp only
  try k_fold
  k_steps
  rename News h₀ _ _ _ => Nq
  rename Fr h₀ _ _ _ => Fq

  exact hret _ _ _ _ Fq Nq rfl
end

section
theorem off_B20 : True ∧ True := by
  w_top off
  walk1
  all_goals trivial

def lamPos (P : Addr) (ln col : Nat) (tb : List (Addr × Obj)) : Prop := TabSt P ln col (Str.ofString "x") tb
def blk (c : Nat → Nat) (s : Nat) : List (Int × Int) := (List.range (c s)).map fun k : Nat => ((s : Int), (k : Int))
def lineP (c : Nat → Nat) (count : Nat) : List (Int × Int) := (List.range count).flatMap (blk c)
def Bnd4 (n : Nat) : Prop := n ≤ 4
def wn (cell : Int) (s : Nat) : Nat := (cell / 3 / 3 ^ s % 3).toNat
def cnt (cell : Int) (k s : Nat) (s' : Nat) : Nat := min (1 + wn cell s') (k + if s' < s then 1 else 0)
abbrev q97 : Str := Str.ofString "_law_line.<locals>.<lambda>"
inductive T97 : List (Addr × Obj) → Prop where
  | fresh : T97 [(97, tabObj #[])]
  | used {cc : Addr} {oc : Obj} {vs : Array Value} {t : Tok} : oc.data = .fields vs → vs[1]? = some (.str q97 t) → T97 [(97, tabObj #[rawInt ((141 : Nat) : Int), rawInt ((47 : Nat) : Int), .ref cc]), (cc, oc)]
theorem lineP_zero {cell : Int} {count : Nat} : lineP (cnt cell 0 0) count = [] := by
  unfold lineP
  rw [List.flatMap_eq_nil_iff]
  intro s _
  simp [blk, cnt]
theorem lineP_congr {c c' : Nat → Nat} {count : Nat} (h : ∀ s, s < count → c s = c' s) : lineP c count = lineP c' count := by
  unfold lineP
  rw [List.flatMap_def, List.flatMap_def, List.map_congr_left fun s hs => ?_]
  rw [blk, blk, h s (List.mem_range.mp hs)]
theorem wn_le (cell : Int) (s : Nat) : wn cell s ≤ 2 := by
  have h0 := Int.emod_nonneg (cell / 3 / 3 ^ s) (show (3 : Int) ≠ 0 by decide)
  have h1 := Int.emod_lt_of_pos (cell / 3 / 3 ^ s) (show (0 : Int) < 3 by decide)
  unfold wn
  omega
theorem lineP_done {cell : Int} {count : Nat} : lineP (cnt cell 3 0) count = lineP (fun s => 1 + wn cell s) count := lineP_congr fun s _ => by
  have := wn_le cell s
  unfold cnt
  simp only [Nat.not_lt_zero, if_false]
  omega
theorem lineP_next {cell : Int} {count i : Nat} : lineP (cnt cell i count) count = lineP (cnt cell (i + 1) 0) count := lineP_congr fun s hs => by
  unfold cnt
  rw [if_pos hs, if_neg (Nat.not_lt_zero s)]
theorem sub97 {x : Addr × Obj} {a b : List (Addr × Obj)} : ∀ p ∈ x :: b, p ∈ x :: (a ++ b) := by
  exact List.forall_mem_cons.mpr ⟨List.Mem.head _, fun p hp => List.Mem.tail _ (List.mem_append_right _ hp)⟩
theorem small_cnt {count : Nat} (h : Bnd4 count) : PySem.Builtin.Range.small 0 (count : Int) 1 = true := by
  unfold Bnd4 at h
  have : count = 0 ∨ count = 1 ∨ count = 2 ∨ count = 3 ∨ count = 4 := by omega
  rcases this with rfl | rfl | rfl | rfl | rfl <;> decide
theorem size_cnt {count : Nat} (h : Bnd4 count) : PySem.Builtin.Range.rangeSize 0 (count : Int) 1 = (count : Int) := by
  unfold Bnd4 at h
  have : count = 0 ∨ count = 1 ∨ count = 2 ∨ count = 3 ∨ count = 4 := by omega
  rcases this with rfl | rfl | rfl | rfl | rfl <;> decide
theorem wn_eq {cell : Int} (h0 : 0 ≤ cell) (j : Nat) : ((cell.fdiv 3).fdiv (3 ^ j)).fmod 3 = (wn cell j : Int) := by
  have h3j : (0 : Int) < 3 ^ j := Int.pow_pos (by decide)
  rw [Int.fdiv_eq_ediv_of_nonneg (b := 3) cell (by decide), Int.fdiv_eq_ediv_of_nonneg (b := 3 ^ j) _ (Int.le_of_lt h3j), Int.fmod_eq_emod_of_nonneg (b := 3) _ (by decide)]
  have := Int.emod_nonneg (cell / 3 / 3 ^ j) (show (3 : Int) ≠ 0 by decide)
  unfold wn
  omega
theorem powK {prog : Program} {w : World} {A : Around} {E : Value → Shared → Prop} {s : Shared} {a : Int} {j : Nat} {t u : Tok} {Q : Value → Shared → Prop} (h : Q (.int (a ^ j) s.toks) { s with toks := s.toks + 1 }) (hj : j < 5 ∧ a.natAbs < 1000 := by omega) : wpAny (model prog w) A (binaryOp .Pow (.int a t) (.int (0 + (j : Int)) u)) Q E s := by
  refine pow_int_small (by omega) (by omega) (by omega) ?_
  rw [show (0 + (j : Int)).toNat = j by omega]
  exact h
theorem fdiv3 {prog : Program} {w : World} {A : Around} {E : Value → Shared → Prop} {s : Shared} {a : Int} {j : Nat} {t u : Tok} {Q : Value → Shared → Prop} (h : ∀ t, Q (.int (a.fdiv (3 ^ j)) t) { s with toks := s.toks + 1 }) (hj : j < 5 := by assumption) : wpAny (model prog w) A (binaryOp .FloorDiv (.int a t) (.int (3 ^ j) u)) Q E s := by
  have h3j : (0 : Int) < 3 ^ j := Int.pow_pos (by decide)
  have h3k : (3 : Int) ^ j ≤ 81 := by
    have : j = 0 ∨ j = 1 ∨ j = 2 ∨ j = 3 ∨ j = 4 := by omega
    rcases this with rfl | rfl | rfl | rfl | rfl <;> decide
  exact floordiv_int (by omega) (h _) (.inl (PyProof.noPylong_small (by omega)))
theorem lineP_skip {cell : Int} {count i j : Nat} (h : ¬ i ≤ wn cell j) : lineP (cnt cell i j) count = lineP (cnt cell i (j + 1)) count := lineP_congr fun s _ => by
  unfold cnt
  by_cases h1 : s < j
  · rw [if_pos h1, if_pos (by omega)]
  · by_cases h2 : s = j
    · subst h2
      rw [if_neg h1, if_pos (by omega)]
      omega
    · rw [if_neg h1, if_neg (by omega)]
def tailP (c : Nat → Nat) (s count : Nat) : List (Int × Int) := (List.range' s (count - s)).flatMap (blk c)
theorem mem_blk {c : Nat → Nat} {s : Nat} {p : Int × Int} (h : p ∈ blk c s) : p.1 = s := by
  unfold blk at h
  obtain ⟨k, _, rfl⟩ := List.mem_map.mp h
  rfl
theorem mem_lineP {c : Nat → Nat} {n : Nat} {p : Int × Int} (h : p ∈ lineP c n) : 0 ≤ p.1 ∧ p.1 < n := by
  unfold lineP at h
  obtain ⟨s, hs, hp⟩ := List.mem_flatMap.mp h
  have := List.mem_range.mp hs
  rw [mem_blk hp]
  omega
theorem mem_tailP {c : Nat → Nat} {s n : Nat} {p : Int × Int} (h : p ∈ tailP c s n) : (s : Int) ≤ p.1 := by
  unfold tailP at h
  obtain ⟨s', hs, hp⟩ := List.mem_flatMap.mp h
  have := List.mem_range'.mp hs
  rw [mem_blk hp]
  omega
theorem lineP_succ (c : Nat → Nat) (s : Nat) : lineP c (s + 1) = lineP c s ++ blk c s := by
  unfold lineP
  rw [List.range_succ, List.flatMap_append]
  simp
theorem lineP_split (c : Nat → Nat) {s count : Nat} (h : s ≤ count) : lineP c count = lineP c s ++ tailP c s count := by
  unfold lineP tailP
  rw [← List.flatMap_append, List.range_eq_range', List.range_eq_range']
  congr 1
  have := List.range'_append (s := 0) (m := s) (n := count - s) (step := 1)
  simp only [Nat.one_mul, Nat.zero_add] at this
  rw [this]
  congr 1
  omega
theorem lineP_len3 {c : Nat → Nat} (hc : ∀ s, c s ≤ 3) : ∀ n, (lineP c n).length ≤ 3 * n
  | 0 => by simp [lineP]
  | n + 1 => by
    have := lineP_len3 hc n
    have := hc n
    rw [lineP_succ, List.length_append, blk, List.length_map, List.length_range]
    omega
theorem lineP_le {c : Nat → Nat} {count s : Nat} (hs : s < count) : (lineP c (s + 1)).length ≤ (lineP c count).length := by
  rw [lineP_split c (show s + 1 ≤ count by omega), List.length_append]
  omega
theorem lineP_pos {c : Nat → Nat} {count s : Nat} (hs : s < count) : ∀ k : Nat, k < (lineP c count).length → ((s : Int) < ((lineP c count).getD k (0, 0)).1 ↔ ((lineP c (s + 1)).length : Int) ≤ (k : Int)) := by
  intro k hk
  rw [lineP_split c (show s + 1 ≤ count by omega)] at hk ⊢
  rw [List.getD_eq_getElem?_getD]
  by_cases h : k < (lineP c (s + 1)).length
  · rw [List.getElem?_append_left h, List.getElem?_eq_getElem h, Option.getD_some]
    have := mem_lineP (List.getElem_mem h)
    omega
  · have h2 : k - (lineP c (s + 1)).length < (tailP c (s + 1) count).length := by
      rw [List.length_append] at hk
      omega
    rw [List.getElem?_append_right (by omega), List.getElem?_eq_getElem h2, Option.getD_some]
    have := mem_tailP (List.getElem_mem h2)
    omega
theorem lineP_len {cell : Int} {count i j : Nat} (h : Bnd4 count) : (lineP (cnt cell i j) count).length ≤ 20 := by
  have := lineP_len3 (c := cnt cell i j) (fun s => by have := wn_le cell s; unfold cnt; omega) count
  unfold Bnd4 at h
  omega
theorem tailP_congr {c c' : Nat → Nat} {s count : Nat} (h : ∀ k, s ≤ k → c k = c' k) : tailP c s count = tailP c' s count := by
  unfold tailP
  rw [List.flatMap_def, List.flatMap_def, List.map_congr_left fun k hk => ?_]
  have := List.mem_range'.mp hk
  rw [blk, blk, h k (by omega)]
theorem lineP_ins {cell : Int} {count i j : Nat} (hle : i ≤ wn cell j) (hj : j < count) : (lineP (cnt cell i j) count).take (lineP (cnt cell i j) (j + 1)).length ++ (0 + (j : Int), 0 + (i : Int)) :: (lineP (cnt cell i j) count).drop (lineP (cnt cell i j) (j + 1)).length = lineP (cnt cell i (j + 1)) count := by
  rw [lineP_split (cnt cell i j) (show j + 1 ≤ count by omega), List.take_left, List.drop_left, lineP_split (cnt cell i (j + 1)) (show j + 1 ≤ count by omega)]
  have e1 : tailP (cnt cell i (j + 1)) (j + 1) count = tailP (cnt cell i j) (j + 1) count := tailP_congr fun k hk => by
    unfold cnt
    rw [if_neg (by omega), if_neg (by omega)]
  have e2 : lineP (cnt cell i (j + 1)) j = lineP (cnt cell i j) j := lineP_congr fun k hk => by
    unfold cnt
    rw [if_pos (by omega), if_pos (by omega)]
  have e3 : blk (cnt cell i (j + 1)) j = blk (cnt cell i j) j ++ [(0 + (j : Int), 0 + (i : Int))] := by
    have c1 : cnt cell i (j + 1) j = i + 1 := by
      unfold cnt
      rw [if_pos (by omega)]
      omega
    have c2 : cnt cell i j j = i := by
      unfold cnt
      rw [if_neg (by omega)]
      omega
    unfold blk
    rw [c1, c2, List.range_succ, List.map_append, List.map_singleton, Int.zero_add, Int.zero_add]
  rw [e1, lineP_succ, lineP_succ, e2, e3]
  simp
theorem insortU_C {w : World} {l f D : Addr} {ws : List Value} {ps : List (Int × Int)} {n : Nat} {x y C : Int} {tx ty : Tok} {news news' : List (Addr × Obj)} (U : Upd l (listOf ws.toArray n) (listOf (ws.take C.toNat ++ .ref D :: ws.drop C.toNat).toArray (n + 1)) news news') (hDl : D ≠ l) (hfl : f ≠ l) (hD : (D, tupOf #[.int x tx, .int y ty]) ∈ news) {tl : List (Addr × Obj)} (hws : PairsAre tl ws ps) (htl : ∀ p ∈ tl, p ∈ news ∧ p.1 ≠ l) (hkey : KeyC w f news) {foc : Value} {fod : Option Addr} {ffd : FuncData} {fsl : Array (Option Value)} (hfn : (f, (⟨foc, fod, .func ffd, fsl⟩ : Obj)) ∈ news)
   (hn : ps.length < 999) (hC : ∀ i : Nat, i < ps.length → (x < (ps.getD i (0, 0)).1 ↔ C ≤ (i : Int))) (hC0 : 0 ≤ C) (hC1 : C ≤ ps.length) :
    Ctr w 23 [.ref l, .ref D] [(Str.ofString "key", .ref f)] 7 news (fun _ n' => n' = news') := by
  obtain ⟨pre, post, rfl, rfl, a, c⟩ := U.split
  have rem : ∀ p, p ∈ pre ++ (l, listOf ws.toArray n) :: post → p.1 ≠ l → p ∈ pre ++ post := by
    intro p hp hne
    rcases List.mem_append.mp hp with hp | hp
    · exact List.mem_append_left _ hp
    · rcases List.mem_cons.mp hp with rfl | hp
      · exact absurd rfl hne
      · exact List.mem_append_right _ hp
  have sub1 : ∀ p, p ∈ (l, listOf ws.toArray n) :: (pre ++ post) → p ∈ pre ++ (l, listOf ws.toArray n) :: post := by
    intro p hp
    simp only [List.mem_cons, List.mem_append] at hp ⊢
    rcases hp with h | h | h <;> simp [h]
  have sub2 : ∀ o : Obj, ∀ p, p ∈ pre ++ (l, o) :: post → p ∈ (l, o) :: (pre ++ post) := by
    intro o p hp
    simp only [List.mem_cons, List.mem_append] at hp ⊢
    rcases hp with h | h | h <;> simp [h]
  have hkey' : KeyC w f ((l, listOf ws.toArray n) :: (pre ++ post)) := fun D x y t u hm => Ctr.conv (hkey D x y t u (sub1 _ hm)) (sub2 _) fun r n' hp _ => ⟨_, by rw [hp.2]; exact sub1, hp.1, rfl⟩
  refine Ctr.conv (insort_C (news := pre ++ post) (fun p hp => (List.mem_append.mp hp).elim (a p) (c p)) (rem _ hD hDl) (hws.mono fun p hp => rem _ (htl p hp).1 (htl p hp).2) hkey' (rem _ hfn hfl) hn hC hC0 hC1) sub1 ?_
  rintro r n' rfl _
  exact ⟨_, sub2 _, rfl⟩
local macro_rules | `(tactic| k_all) => `(tactic| first | assumption | exact allLt_ne (by assumption) (by first | exact Nat.le_refl _ | omega))
local macro_rules | `(tactic| walk_at "pyIter ref") => `(tactic| with_reducible refine stIt ?_)
local macro_rules | `(tactic| walk_at "call ref") => `(tactic| (refine Stop.of ?_))
local macro_rules | `(tactic| walk_at "binaryOp Pow int int") => `(tactic| k_dflt refine powK ?_)
local macro_rules | `(tactic| walk_at "binaryOp FloorDiv int int") => `(tactic| ((with_reducible show wpAny _ _ (binaryOp _ _ (Value.int (HPow.hPow _ _) _)) _ _ _); k_dflt refine fdiv3 ?_; intro _))

set_option maxHeartbeats 8000000 in
theorem key_C {w : World} {nm qual : Str} {P1 P2 P3 P4 : Pos} {k0 : Nat} {mn ct : Value} {c f : Addr} {oc : Obj} {vs : Array Value} {tq : Tok} {news : List (Addr × Obj)} (hd1 : oc.data = .fields vs) (hd2 : vs[1]? = some (.str qual tq)) (hc : (c, oc) ∈ news) :
    KeyC w f ((f, kla_obj nm qual { posonlyargs := [], args := [{ arg := Str.ofString "pair", annotation := none, pos := P1 }], vararg := none, kwonlyargs := [], kw_defaults := [], kwarg := none, defaults := [] } (.Subscript (.Name (Str.ofString "pair") P2) (.Constant (.int 0) k0 P3) P4) { kind := .function, names := [(Str.ofString "pair", .local)], isGenerator := false, isCoroutine := false } [] mn c ct) :: news) := by
  intro D2 x2 y2 tx2 ty2 hm
  unfold Ctr
  intro p2 loose2 mean2 mg2 mb2 dp2 un2 gd2 cn2 cs2 a2 ccd2 cl2 outer2 A₂ base2 h2 L2 m2 s2 Q2 E2 B2 F2 X2 N2 T2 hk2 hd2' hu2 hret2
  dsimp only at hret2
  refine wpAny_call ?_
  refine' kla_code ?k1 ?k2 ?k3 ?k4 ?k5 ?kA ?kF ?kK ?k6 ?k7 ?k8 ?k9 ?kB ?_ ?c2 ?c3 ?c4 ?c5
  case kA => exact rfl
  case kF => exact rfl
  case kK => assumption
  case k1 => exact B2
  case k2 => exact F2
  case k3 => exact X2
  case k4 => exact N2
  case k5 => exact T2
  case k6 => exact List.Mem.head _
  case k7 => exact codeRec_news N2 (.tail _ hc) hd1 hd2
  case k8 => ktr_room
  case k9 => exact rfl
  case c5 => decide
  case kB => exact locs rfl
  case c2 => exact rfl
  case c3 => exact rfl
  case c4 => exact rfl
  k_whole
  intro g3 L3 h3 FG3 F3 N3 B3 X3 T3
  try dsimp only
  try k_fold
  k_steps
  rename Fr h2 _ _ _ => Fq
  rename News h2 _ _ _ => Nq
  exact hret2 _ _ _ _ Fq Nq ⟨⟨tx2, rfl⟩, rfl⟩
set_option maxHeartbeats 8000000 in
theorem line_C {w : World} {cell : Int} {count : Nat} {tc tn : Tok} {rest : List (Addr × Obj)} (h97 : ∀ p ∈ rest, p.1 ≠ 97) (hc0 : 0 ≤ cell) (hc1 : cell < 1000000000) (hn0 : 0 < count) (hn4 : Bnd4 count) :
    Ctr w 102 [.int cell tc, .int (count : Int) tn] [] 12 ((97, tabObj #[]) :: rest) (fun r n' => ∃ lt ws kk tl ps, r = .ref lt ∧ PairsAre tl ws (lineP (fun s => 1 + wn cell s) count) ∧ n' = (lt, listOf ws.toArray kk) :: (97, tabObj ps) :: (tl ++ rest) ∧ @LT.lt Nat _ 97 lt ∧ ∀ p ∈ tl, @LT.lt Nat _ 97 p.1 ∧ ∀ v, p.2.data ≠ .cell v) := by
  unfold Ctr
  intro p loose mean mg mb dp un gd cn cs a ccd cl outer A₀ base h₀ L m s Q E B F X N T hk hd hu hret
  dsimp only at hret
  refine wpAny_call ?_
  refine' code_def ?k1 ?k2 ?k3 ?k4 ?k5 ?kA ?kF ?kK ?k6 ?k7 ?k8 ?k9 ?kB ?_ ?c2 ?c3 ?c4 ?c5
  case kA => exact rfl
  case kF => exact rfl
  case kK => assumption
  case k1 => k_asm
  case k2 => k_asm
  case k3 => k_asm
  case k4 => k_asm
  case k5 => k_asm
  case k6 => k_is
  case k7 => k_is
  case k8 => ktr_room
  case k9 => exact BindsTo.of_eq (binds := [(Str.ofString "cell", .int cell tc), (Str.ofString "count", .int (count : Int) tn)]) rfl
  case c5 => decide
  case kB => exact locs rfl
  case c2 => exact rfl
  case c3 => exact rfl
  case c4 => exact rfl
  k_whole
  intro g' L' h' FG' F' N' B' X' T'
  try dsimp only
  try k_fold
  k_steps
  unfold Stop
  rename_i lt hh2 lA hh1 Fq0 Nq0 hz tk2 t1 u1 v1 hR Fz Nz hG
  have ht9 : @LT.lt Nat _ 97 lt := lA.1
  refine iter_rangeUnr (n := 3) (by rfl) hR (by rfl) (by rfl) Fz Nz ?_
  intro I lI
  have hI9 : @LT.lt Nat _ 97 I := Nat.lt_trans ht9 (lI _ (.head _))
  have hIl : lt ≠ I := Nat.ne_of_lt (lI _ (.head _))
  have hIl' : I ≠ lt := hIl.symm
  have hIln : @LT.lt Nat _ lt I := lI _ (.head _)
  refine range_ind2 (fun i m n' => ∀ K : (Str → Option Value) → List (Addr × Obj) → Prop, (∀ (ws : List Value) (kk : Nat) (tl t97 : List (Addr × Obj)) (uS uK : Option Value), PairsAre tl ws (lineP (cnt cell i 0) count) → T97 t97 → (∀ p ∈ tl ++ rest, p.1 ≠ 97) → (∀ p ∈ t97 ++ (tl ++ rest), p.1 ≠ I) → (∀ p ∈ t97 ++ (tl ++ rest), p.1 ≠ lt) → (∀ p ∈ tl, @LT.lt Nat _ 97 p.1 ∧ ∀ v, p.2.data ≠ .cell v) → K (fun y => if y = Str.ofString "s" then uS else if y = Str.ofString "k" then uK else if y = Str.ofString "line" then some (.ref lt) else List.lookup y [(Str.ofString "cell", .int cell tc), (Str.ofString "count", .int (count : Int) tn)].reverse) ((lt, W.listOf ws.toArray kk) :: (t97 ++ (tl ++ rest)))) → K m n') ?turn ?done _ _ _ _ rfl ?start
  case start =>
    intro K k9
    refine' k_eq ?fe (k9 [] 0 [] [(97, tabObj #[])] none none ?p0 .fresh h97 ?o1 ?o2 (fun p hp => nomatch hp))
    case p0 => rw [lineP_zero]; exact .nil
    case o1 => exact fun p hp => Nat.ne_of_lt (lI _ (.tail _ hp))
    case o2 => exact List.forall_mem_cons.mpr ⟨Nat.ne_of_lt lA.1, allLt_ne lA.2 (Nat.le_refl _)⟩
    case' fe => funext y
    by_cases h0q : y = Str.ofString "s"
    · subst h0q; rfl
    by_cases h1q : y = Str.ofString "k"
    · subst h1q; rfl
    by_cases h2q : y = Str.ofString "line"
    · subst h2q; rfl
    simp only [if_neg h0q, if_neg h1q, if_neg h2q]
  case done =>
    intro m n' h tk P9
    apply P9
    intro ws kk tl t97 uS uK hP hT hq ho1 ho2 ho3
    clear P9 m n'
    intro F1 N1
    rw [lineP_done] at hP
    k_steps
    rename Fr h₀ _ _ _ => Fq
    rename News h₀ _ _ _ => Nq
    cases hT with
    | fresh => exact hret _ _ _ _ Fq Nq ⟨lt, ws, kk, tl, _, rfl, hP, rfl, ht9, ho3⟩
    | @used c oc vs tq a b =>
      refine hret _ _ _ _ Fq (cb_drop Nq ?_) ⟨lt, ws, kk, tl, #[rawInt ((141 : Nat) : Int), rawInt ((47 : Nat) : Int), .ref c], rfl, hP, rfl, ht9, ho3⟩
      dsimp only [List.cons_append, List.nil_append]
      repeat (refine List.forall_mem_cons.mpr ⟨by k_mem, ?_⟩)
      exact fun p hp => by (repeat (first | exact hp | refine List.Mem.tail _ ?_))
  case turn =>
    intro i m n' t h tk it hi P9
    apply P9
    intro ws kk tl t97 uS uK hP hT hq ho1 ho2 ho3
    clear P9 m n'
    intro hIt F1 N1
    k_steps
    unfold Stop
    rename IsRange _ _ _ _ _ _ _ _ => hR2
    rename Fr g' _ _ _ => Fz2
    rename News g' _ _ _ => Nz2
    refine iter_rangeUnr (n := count) (by rfl) hR2 (small_cnt (by assumption)) (size_cnt (by assumption)) Fz2 Nz2 ?_
    intro I2 lI2
    have hIIn : @LT.lt Nat _ I I2 := lI2 _ (.head _)
    have hII : I ≠ I2 := Nat.ne_of_lt (lI2 _ (.head _))
    have hlI2 : lt ≠ I2 := Nat.ne_of_lt (lI2 _ (.tail _ (.head _)))
    have hI29 : @LT.lt Nat _ 97 I2 := Nat.lt_trans hI9 (lI2 _ (.head _))
    refine range_ind2 (fun j m n' => ∀ K : (Str → Option Value) → List (Addr × Obj) → Prop, (∀ (ws : List Value) (kk : Nat) (tl t97 : List (Addr × Obj)) (uS : Option Value), PairsAre tl ws (lineP (cnt cell i j) count) → T97 t97 → (∀ p ∈ tl ++ rest, p.1 ≠ 97) → (∀ p ∈ t97 ++ (tl ++ rest), p.1 ≠ I) → (∀ p ∈ t97 ++ (tl ++ rest), p.1 ≠ lt) → (∀ p ∈ tl, @LT.lt Nat _ 97 p.1 ∧ ∀ v, p.2.data ≠ .cell v) → (∀ p ∈ t97 ++ (tl ++ rest), p.1 ≠ I2) → K (fun y => if y = Str.ofString "s" then uS else if y = Str.ofString "k" then some (.int (0 + (i : Int)) t) else if y = Str.ofString "line" then some (.ref lt) else List.lookup y [(Str.ofString "cell", .int cell tc), (Str.ofString "count", .int (count : Int) tn)].reverse) ((I, it) :: (lt, W.listOf ws.toArray kk) :: (t97 ++ (tl ++ rest)))) → K m n') ?turn2 ?done2 _ _ _ _ (Nat.zero_add _) ?start2
    case start2 =>
      intro K k9
      refine' k_eq ?fe2 (k9 ws kk tl t97 uS hP hT hq ho1 ho2 ho3 (fun p hp => Nat.ne_of_lt (lI2 _ (.tail _ (.tail _ hp)))))
      case' fe2 => funext y
      by_cases h0q : y = Str.ofString "s"
      · subst h0q; rfl
      by_cases h1q : y = Str.ofString "k"
      · subst h1q; rfl
      by_cases h2q : y = Str.ofString "line"
      · subst h2q; rfl
      simp only [if_neg h0q, if_neg h1q, if_neg h2q]
    case done2 =>
      intro m n' h tk P9
      apply P9
      intro ws kk tl t97 uS hP hT hq ho1 ho2 ho3 ho4
      clear P9 m n'
      intro F1 N1
      rw [lineP_next] at hP
      k_steps
      refine' ⟨_, _, _, _, rfl, frc F1 ?FF2, N1, ?off2, fun K k9 => k9 ws kk tl t97 uS (some (.int (0 + (i : Int)) t)) hP hT hq ho1 ho2 ho3⟩
      case FF2 => exact fun y => rfl
      case off2 => exact List.forall_mem_cons.mpr ⟨hIl, ho1⟩
    case turn2 =>
      intro j m n' t' h tk it2 hj P9
      apply P9
      intro ws kk tl t97 uS hP hT hq ho1 ho2 ho3 ho4
      clear P9 m n'
      intro hIt2 F1 N1
      have h3j : (0 : Int) < 3 ^ j := Int.pow_pos (by decide)
      have hwn := wn_eq hc0 j
      have hj5 : j < 5 := by unfold Bnd4 at hn4; omega
      have codeHd' : CodeHd g' 101 97 := codeHd_of_K X' (by kernel_rfl)
      have hci : cnt cell i j j = min (1 + wn cell j) i := by unfold cnt; rw [if_neg (Nat.lt_irrefl j)]; rfl
      by_cases hle : i ≤ wn cell j
      · cases hT with
        | fresh =>
          have hr1 : ∀ p ∈ tl ++ rest, p.1 ≠ I := fun p hp => ho1 p (List.mem_append_right _ hp)
          have hr2 : ∀ p ∈ tl ++ rest, p.1 ≠ lt := fun p hp => ho2 p (List.mem_append_right _ hp)
          have hr4 : ∀ p ∈ tl ++ rest, p.1 ≠ I2 := fun p hp => ho4 p (List.mem_append_right _ hp)
          dsimp only [List.cons_append, List.nil_append] at N1 ho1 ho2 ho4
          k_steps
          all_goals try (exfalso; omega)
          unfold Stop
          rename_i D hD FD ND lD f c oc vs tq ct hf tkf Fe Ne hd1 hd2 lc lf
          try simp only [Array.empty_append] at Ne
          refine' Ctr.use (kw := [(Str.ofString "key", .ref f)]) (insortU_C (l := lt) (f := f) (D := D) (tl := tl) (C := ((lineP (cnt cell i j) (j + 1)).length : Int)) ?U ?hDl ?hfl ?hD hP ?htl ?hkey ?hfn ?hn ?hC ?hC0 ?hC1) ?B ?F ?X ?N ?T ?hk ?hd ?hu ?_
          case F => exact Fe
          case N => exact Ne
          case U => k_upd
          case hDl => exact fun e => absurd lD.2.2.1 (by rw [e]; exact Nat.lt_irrefl _)
          case hfl => exact fun e => absurd (Nat.lt_trans lc.2.2.2.1 lf) (by rw [e]; exact Nat.lt_irrefl _)
          case hD => k_mem
          case htl => exact fun p hp => have hp := List.mem_append_left rest hp; ⟨by (repeat (first | exact hp | refine List.Mem.tail _ ?_)), ho2 p (by (repeat (first | exact hp | refine List.Mem.tail _ ?_)))⟩
          case hfn => exact List.Mem.head _
          case hn => exact Nat.lt_of_le_of_lt (lineP_len hn4) (by decide)
          case hC => rw [Int.zero_add]; exact lineP_pos hj
          case hC0 => omega
          case hC1 => exact Int.ofNat_le.mpr (lineP_le hj)
          case B => k_asm
          case X => k_asm
          case T => k_asm
          case hk => first | exact rfl | assumption
          case hd => ktr_room
          case hu => ktr_units
          case hkey => exact key_C hd1 hd2 (by k_mem)
          intro r9 n9 h9 t9 F9 N9 P9
          subst P9
          clear Fe Ne FD ND
          k_steps
          rename Fr g' _ _ _ => Fe
          rename News g' _ _ _ => Ne
          rw [Int.toNat_natCast] at Ne
          refine' ⟨_, _, _, _, rfl, frc Fe ?FF1, ?NN1, ?off1, fun K k9 => k9 (ws.take (lineP (cnt cell i j) (j + 1)).length ++ .ref D :: ws.drop (lineP (cnt cell i j) (j + 1)).length) (kk + 1) ((D, tupOf #[.int (0 + (j : Int)) t', .int (0 + (i : Int)) t]) :: tl) [(97, tabObj #[rawInt ((141 : Nat) : Int), rawInt ((47 : Nat) : Int), .ref c]), (c, oc)] (some (.int (0 + (j : Int)) t')) ?PP1 ?TT1 ?a11 ?a21 ?a31 ?a41 ?a51⟩
          case FF1 =>
            intro y
            by_cases h0q : y = Str.ofString "s"
            · subst h0q; rfl
            simp only [if_neg h0q]
          case NN1 =>
            refine cb_drop Ne ?_
            dsimp only [List.cons_append, List.nil_append]
            repeat (refine List.forall_mem_cons.mpr ⟨by k_mem, ?_⟩)
            exact fun p hp => by (repeat (first | exact hp | refine List.Mem.tail _ ?_))
          case off1 =>
            dsimp only [List.cons_append, List.nil_append]
            exact List.forall_mem_cons.mpr ⟨hII, List.forall_mem_cons.mpr ⟨hlI2, List.forall_mem_cons.mpr ⟨by k_ne, List.forall_mem_cons.mpr ⟨by k_ne, List.forall_mem_cons.mpr ⟨by k_ne, hr4⟩⟩⟩⟩⟩
          case PP1 =>
            rw [← lineP_ins hle hj]
            exact ((hP.take _).mono fun p hp => .tail _ hp).append (.cons (p := (0 + (j : Int), 0 + (i : Int))) (List.Mem.head _) ((hP.drop _).mono fun p hp => .tail _ hp))
          case TT1 => exact .used hd1 hd2
          case a11 => exact List.forall_mem_cons.mpr ⟨by k_ne, hq⟩
          case a21 =>
            dsimp only [List.cons_append, List.nil_append]
            exact List.forall_mem_cons.mpr ⟨by k_ne, List.forall_mem_cons.mpr ⟨by k_ne, List.forall_mem_cons.mpr ⟨by k_ne, hr1⟩⟩⟩
          case a31 =>
            dsimp only [List.cons_append, List.nil_append]
            exact List.forall_mem_cons.mpr ⟨by k_ne, List.forall_mem_cons.mpr ⟨by k_ne, List.forall_mem_cons.mpr ⟨by k_ne, hr2⟩⟩⟩
          case a41 => exact List.forall_mem_cons.mpr ⟨⟨lD.2.2.2.1, fun v e => nomatch e⟩, ho3⟩
          case a51 =>
            dsimp only [List.cons_append, List.nil_append]
            exact List.forall_mem_cons.mpr ⟨by k_ne, List.forall_mem_cons.mpr ⟨by k_ne, List.forall_mem_cons.mpr ⟨by k_ne, hr4⟩⟩⟩
        | @used c oc vs tq hd1 hd2 =>
          have hr1 : ∀ p ∈ tl ++ rest, p.1 ≠ I := fun p hp => ho1 p (List.mem_append_right _ hp)
          have hr2 : ∀ p ∈ tl ++ rest, p.1 ≠ lt := fun p hp => ho2 p (List.mem_append_right _ hp)
          have hr4 : ∀ p ∈ tl ++ rest, p.1 ≠ I2 := fun p hp => ho4 p (List.mem_append_right _ hp)
          dsimp only [List.cons_append, List.nil_append] at N1 ho1 ho2 ho4
          k_steps
          all_goals try (exfalso; omega)
          unfold Stop
          rename_i D hD FD ND lD f ct hf tkf Fe Ne lf
          try simp only [Array.empty_append] at Ne
          refine' Ctr.use (kw := [(Str.ofString "key", .ref f)]) (insortU_C (l := lt) (f := f) (D := D) (tl := tl) (C := ((lineP (cnt cell i j) (j + 1)).length : Int)) ?U ?hDl ?hfl ?hD hP ?htl ?hkey ?hfn ?hn ?hC ?hC0 ?hC1) ?B ?F ?X ?N ?T ?hk ?hd ?hu ?_
          case F => exact Fe
          case N => exact Ne
          case U => k_upd
          case hDl => exact fun e => absurd lD.2.2.1 (by rw [e]; exact Nat.lt_irrefl _)
          case hfl => exact fun e => absurd (lf.2.2.2.1) (by rw [e]; exact Nat.lt_irrefl _)
          case hD => k_mem
          case htl => exact fun p hp => have hp := List.mem_append_left rest hp; ⟨by (repeat (first | exact hp | refine List.Mem.tail _ ?_)), ho2 p (by (repeat (first | exact hp | refine List.Mem.tail _ ?_)))⟩
          case hfn => exact List.Mem.head _
          case hn => exact Nat.lt_of_le_of_lt (lineP_len hn4) (by decide)
          case hC => rw [Int.zero_add]; exact lineP_pos hj
          case hC0 => omega
          case hC1 => exact Int.ofNat_le.mpr (lineP_le hj)
          case B => k_asm
          case X => k_asm
          case T => k_asm
          case hk => first | exact rfl | assumption
          case hd => ktr_room
          case hu => ktr_units
          case hkey => exact key_C hd1 hd2 (by k_mem)
          intro r9 n9 h9 t9 F9 N9 P9
          subst P9
          clear Fe Ne FD ND
          k_steps
          rename Fr g' _ _ _ => Fe
          rename News g' _ _ _ => Ne
          rw [Int.toNat_natCast] at Ne
          refine' ⟨_, _, _, _, rfl, frc Fe ?FF2, ?NN2, ?off2, fun K k9 => k9 (ws.take (lineP (cnt cell i j) (j + 1)).length ++ .ref D :: ws.drop (lineP (cnt cell i j) (j + 1)).length) (kk + 1) ((D, tupOf #[.int (0 + (j : Int)) t', .int (0 + (i : Int)) t]) :: tl) [(97, tabObj #[rawInt ((141 : Nat) : Int), rawInt ((47 : Nat) : Int), .ref c]), (c, oc)] (some (.int (0 + (j : Int)) t')) ?PP2 ?TT2 ?a12 ?a22 ?a32 ?a42 ?a52⟩
          case FF2 =>
            intro y
            by_cases h0q : y = Str.ofString "s"
            · subst h0q; rfl
            simp only [if_neg h0q]
          case NN2 =>
            refine cb_drop Ne ?_
            dsimp only [List.cons_append, List.nil_append]
            repeat (refine List.forall_mem_cons.mpr ⟨by k_mem, ?_⟩)
            exact fun p hp => by (repeat (first | exact hp | refine List.Mem.tail _ ?_))
          case off2 =>
            dsimp only [List.cons_append, List.nil_append]
            exact List.forall_mem_cons.mpr ⟨hII, List.forall_mem_cons.mpr ⟨hlI2, List.forall_mem_cons.mpr ⟨by k_ne, List.forall_mem_cons.mpr ⟨ho4 (c, oc) (by k_mem), List.forall_mem_cons.mpr ⟨by k_ne, hr4⟩⟩⟩⟩⟩
          case PP2 =>
            rw [← lineP_ins hle hj]
            exact ((hP.take _).mono fun p hp => .tail _ hp).append (.cons (p := (0 + (j : Int), 0 + (i : Int))) (List.Mem.head _) ((hP.drop _).mono fun p hp => .tail _ hp))
          case TT2 => exact .used hd1 hd2
          case a12 => exact List.forall_mem_cons.mpr ⟨by k_ne, hq⟩
          case a22 =>
            dsimp only [List.cons_append, List.nil_append]
            exact List.forall_mem_cons.mpr ⟨by k_ne, List.forall_mem_cons.mpr ⟨ho1 (c, oc) (by k_mem), List.forall_mem_cons.mpr ⟨by k_ne, hr1⟩⟩⟩
          case a32 =>
            dsimp only [List.cons_append, List.nil_append]
            exact List.forall_mem_cons.mpr ⟨by k_ne, List.forall_mem_cons.mpr ⟨ho2 (c, oc) (by k_mem), List.forall_mem_cons.mpr ⟨by k_ne, hr2⟩⟩⟩
          case a42 => exact List.forall_mem_cons.mpr ⟨⟨lD.2.2.2.1, fun v e => nomatch e⟩, ho3⟩
          case a52 =>
            dsimp only [List.cons_append, List.nil_append]
            exact List.forall_mem_cons.mpr ⟨by k_ne, List.forall_mem_cons.mpr ⟨ho4 (c, oc) (by k_mem), List.forall_mem_cons.mpr ⟨by k_ne, hr4⟩⟩⟩
      · k_steps
        all_goals try (exfalso; omega)
        rw [show lineP (cnt cell i j) count = lineP (cnt cell i (j + 1)) count from lineP_skip hle] at hP
        refine' ⟨_, _, _, _, rfl, frc F1 ?FF3, N1, ?off3, fun K k9 => k9 ws kk tl t97 (some (.int (0 + (j : Int)) t')) hP hT hq ho1 ho2 ho3 ho4⟩
        case FF3 =>
          intro y
          by_cases h0q : y = Str.ofString "s"
          · subst h0q; rfl
          simp only [if_neg h0q]
        case off3 => exact List.forall_mem_cons.mpr ⟨hII, List.forall_mem_cons.mpr ⟨hlI2, ho4⟩⟩
end

section
theorem off_B22 : True ∧ True := by
  w_top off
  walk1
  all_goals trivial

open PyProof.V
section
variable {prog : Program} {w : World} {A : Around} {E : Value → Shared → Prop} {s : Shared} {h₀ : Heap} {L : Addr} {m : Str → Option Value} {env : Env}
theorem compEnd_mono {s₁ : Shared} {I C D : Addr} {oI oC oD : Obj} {S : List (Addr × Obj) → Prop} {R R' : Value → List (Addr × Obj) → Prop} {y : Value} {s₂ : Shared} (h : LCg.CompEnd h₀ L m s₁ I oI C oC D oD S R y s₂) (hR : ∀ y n, R y n → R' y n) : LCg.CompEnd h₀ L m s₁ I oI C oC D oD S R' y s₂ := by
  obtain ⟨h', tk, news', e, F, N, o, hS, r⟩ := h
  exact ⟨h', tk, news', e, F, N, o, hS, hR _ _ r⟩
theorem comp_ind {elt : Expr} {x : Str} {scope : Scope} {cl : List (Str × Addr)} {S : List (Addr × Obj) → Prop} {P : Nat → Value → Prop} {Fin : List Value → List (Addr × Obj) → Prop} {n : Nat} (J : Nat → List Value → List (Addr × Obj) → Prop)
    (turn : ∀ i ys news v I oI C oC D m₂ h tk (E' : Value → Shared → Prop), i < n → J i ys news → P i v → LCg.NsObj oC m₂ → m₂ x = some v → Fr h₀ L h m → News h₀ L h ((I, oI) :: (C, oC) :: (D, LCg.lst ys) :: news) → LCg.Off3 I C D news → ((@Ne Nat I C) ∧ (@Ne Nat I D) ∧ (@Ne Nat C D)) →
      wpAny (model prog w) A (eval elt (compEnvC scope cl C env)) (LCg.CompEnd h₀ L m { s with heap := h, toks := tk } I oI C oC D (LCg.lst ys) S (fun y news' => Stop (J (i + 1) (ys ++ [y]) news'))) E' { s with heap := h, toks := tk })
    (done : ∀ ys news, J n ys news → Fin ys news) :
    ∀ k i ys news, i + k = n → J i ys news → LCg.CompRest prog w A h₀ L m env elt x scope cl s S P Fin k i ys news
  | 0, i, ys, news, e, hJ => .zero (done ys news (by rw [← e]; exact hJ))
  | k + 1, i, ys, news, e, hJ => .succ fun v I oI C oC D m₂ h tk E' hP hn hx F N o hne => wpAny_mono (turn i ys news v I oI C oC D m₂ h tk E' (by omega) hJ hP hn hx F N o hne) (fun y s₂ hp => compEnd_mono hp fun y n' hr => comp_ind J turn done k (i + 1) (ys ++ [y]) n' (by omega) hr) fun _ _ e => e
theorem sumL_K {l : Addr} {n : Nat} {vs : List Value} {ns : List Int} {news : List (Addr × Obj)} {Q : Value → Shared → Prop} (hh : A.handled = none) (F : Fr h₀ L s.heap m) (N : News h₀ L s.heap news) (hm : (l, listOf vs.toArray n) ∈ news) (hi : IntsAre vs ns)
    (h : ∀ h' tk t', Fr h₀ L h' m → News h₀ L h' news → Q (.int ns.sum t') { s with heap := h', toks := tk }) :
    wpAny (model prog w) A (call (.builtin "sum") [.ref l]) Q E s := by
  have hl : s.heap.IsList l vs.toArray := N.isList hm
  have ho := (N _ hm).1
  obtain ⟨xs, hx⟩ := hi.allInts.items
  have hn : numsOf vs.toArray.toList = ns := by rw [show vs.toArray.toList = vs from rfl, hi.numsOf]
  rw [hx] at hl hn
  rw [nums_intItems] at hn
  have hne : l ≠ s.heap.objs.size := Nat.ne_of_lt (Heap.lt_size ho)
  have hsz : (intItems xs).size = xs.size := by simp [intItems]
  have W := (Walks.list (prog := prog) (w := w) (A := A.in1) hh s.heap.objs.size l hne (intItems xs)).toS
  rw [hsz] at W
  refine call_sum_walkAnyS (wpAny_pyIter_list hl ?_)
  refine ⟨s.heap.objs.size, _, _, _, _, _, _, numAt xs, rfl, W, ⟨⟨_, Heap.get?_push_size _ rfl, rfl, rfl⟩, hl.push _⟩, fun b hb => ?_, fun i v hP => intItems_at hP, fun s' t' hm => ?_⟩
  · rcases List.mem_cons.mp hb with rfl | hb
    · exact Heap.lt_size (Heap.get?_push_size _ rfl)
    · obtain rfl := List.mem_singleton.mp hb
      exact Heap.lt_size (Heap.get?_push_of_some _ ho)
  · obtain ⟨h', g', d', tk', os'⟩ := s'
    have e1 : g' = s.gens := hm.gens
    have e2 : d' = s.drawn := hm.drawn
    have e3 : os' = s.os := hm.os
    subst e1 e2 e3
    have hk : ∀ b o, s.heap.get? b = some o → h'.get? b = some o := fun b o e => hm.heap b o (fun hb => absurd (Heap.lt_size e) ((List.mem_singleton.mp hb) ▸ Nat.lt_irrefl _)) (Heap.get?_push_of_some _ e)
    have := h h' tk' t' (F.keeps hk) (N.grown hk)
    rw [preSum_eq, List.take_of_length_le (by simp), hn]
    exact this
end
end

section
theorem off_B21 : True ∧ True := by
  w_top off
  walk1
  all_goals trivial
local macro_rules | `(tactic| k_mem) => `(tactic| first | assumption | exact List.Mem.head _ | exact List.mem_cons_of_mem _ (by assumption))
local macro_rules | `(tactic| k_all) => `(tactic| first | assumption | exact allLt_ne (by assumption) (by first | exact Nat.le_refl _ | omega))

local macro_rules | `(tactic| walk_at "CompSrc") => `(tactic| (refine Stop.of ?_))
theorem sum_bnd : ∀ {as : List Int}, (∀ a ∈ as, 0 ≤ a ∧ a < 1000000) → 0 ≤ as.sum ∧ as.sum ≤ 1000000 * as.length
  | [], _ => by simp
  | a :: as, h => by
    have h1 := h a (.head _)
    have h2 := sum_bnd (as := as) fun x hx => h x (.tail _ hx)
    rw [List.sum_cons, List.length_cons]
    omega
def Smalls (as : List Int) : Prop := ∀ a ∈ as, 0 ≤ a ∧ a < 1000000
theorem off1_mem {D : Addr} : ∀ {l : List (Addr × Obj)}, LCg.Off1 D l → ∀ p ∈ l, p.1 ≠ D
  | [], _, _, h => nomatch h
  | _ :: _, x, p, h => by
    rcases List.mem_cons.mp h with rfl | h
    · exact x.1
    · exact off1_mem x.2 p h
theorem pick_mem {ns : List Int} {lo hi st : Option Int} : ∀ a ∈ pickNums ns lo hi st, a ∈ ns := by
  intro a ha
  unfold pickNums at ha
  obtain ⟨i, _, hi⟩ := List.mem_filterMap.mp ha
  exact List.mem_of_getElem? hi
theorem sumP_K {prog : Program} {w : World} {A : Around} {E : Value → Shared → Prop} {s : Shared} {h₀ : Heap} {L : Addr} {m : Str → Option Value} {l : Addr} {n : Nat} {vs : List Value} {ns : List Int} {lo hi st : Option Int} {news : List (Addr × Obj)} {Q : Value → Shared → Prop} (h : ∀ h' tk t' S, Fr h₀ L h' m → News h₀ L h' news → 0 ≤ S → S ≤ 999000000 → Q (.int S t') { s with heap := h', toks := tk }) (hh : A.handled = none := by exact rfl) (F : Fr h₀ L s.heap m := by k_asm) (N : News h₀ L s.heap news := by k_asm) (hm : (l, ({ cls := .type "list", data := .seq (slicePick vs.toArray lo hi st) n } : Obj)) ∈ news := by k_mem) (hi' : IntsAre vs ns := by assumption) (hs : Smalls ns := by assumption) (hl : ns.length < 1000 := by omega) :
    wpAny (model prog w) A (call (.builtin "sum") [.ref l]) Q E s := by
  have hp := hi'.pick lo hi st
  have hb := sum_bnd (as := pickNums ns lo hi st) fun a ha => hs a (pick_mem a ha)
  have hlen : (pickNums ns lo hi st).length ≤ ns.length := by
    rw [← hp.length, ← hi'.length, Array.length_toList]
    exact Nat.le_trans (slicePick_size_le _ _ _ _) (by rw [List.size_toArray]; exact Nat.le_refl _)
  refine sumL_K (vs := (slicePick vs.toArray lo hi st).toList) (n := n) hh F N (by rw [Array.toArray_toList]; exact hm) hp fun h' tk t' F' N' => h h' tk t' _ F' N' hb.1 (by omega)
local macro_rules | `(tactic| walk_at "call builtin:sum") => `(tactic| (k_dflt refine' sumP_K ?_; intros; (try k_sweep)))
def CtrH (Hy : Heap → Prop) (w : World) (f : Addr) (vs : List Value) (kw : List (Str × Value)) (sz : Nat) (news : List (Addr × Obj)) (Post : Value → List (Addr × Obj) → Prop) : Prop :=
  ∀ (p : Program) (loose : List Str) (mean : ExcName → Option Value) (mg mb : Str → Option Value) (dp un : Nat) (gd : Option (List Code)) (cn : Str) (cs : Scope) (a : Addr) (ccd : Value) (cl : List (Str × Addr)) (outer : List Env) (A₀ : Around) (base h₀ : Heap) (L : Addr) (m : Str → Option Value) (s : Shared)
    (Q E : Value → Shared → Prop), Hy h₀ →
    Below A₀ base outer h₀ → Fr h₀ L s.heap m → (hd.heap_1 w.params).In h₀ → News h₀ L s.heap news → Top p loose mean mg mb h₀ → cs.kind = .function → dp + sz < recursionLimit → un + 8 * sz < cLine →
    (∀ r news' h' tk', Fr h₀ L h' m → News h₀ L h' news' → Post r news' → Q r { s with heap := h', toks := tk' }) →
    wpAny (model Pg w) (ktrTop dp un gd cn cs L a ccd cl outer) (call (.ref f) vs kw) Q E s
theorem CtrH.at {Hy : Heap → Prop} {w : World} {f : Addr} {vs : List Value} {kw : List (Str × Value)} {sz : Nat} {news : List (Addr × Obj)} {Post : Value → List (Addr × Obj) → Prop} (C : CtrH Hy w f vs kw sz news Post)
  {p : Program} {loose : List Str} {mean : ExcName → Option Value} {mg mb : Str → Option Value} {dp un : Nat} {gd : Option (List Code)} {cn : Str} {cs : Scope} {a : Addr} {ccd : Value} {cl : List (Str × Addr)} {outer : List Env} {A₀ : Around} {base h₀ : Heap} {L : Addr} {m : Str → Option Value} {s : Shared}
    {Q E : Value → Shared → Prop} (H : Hy h₀) (B : Below A₀ base outer h₀) (F : Fr h₀ L s.heap m) (X : (hd.heap_1 w.params).In h₀) (N : News h₀ L s.heap news) (T : Top p loose mean mg mb h₀) (hk : cs.kind = .function) (hd : dp + sz < recursionLimit) (hu : un + 8 * sz < cLine)
    (hret : ∀ r news' h' tk', Fr h₀ L h' m → News h₀ L h' news' → Post r news' → Q r { s with heap := h', toks := tk' }) :
    wpAny (model Pg w) (ktrTop dp un gd cn cs L a ccd cl outer) (call (.ref f) vs kw) Q E s := C _ _ _ _ _ _ _ _ _ _ _ _ _ _ _ _ _ _ _ _ _ _ H B F X N T hk hd hu hret
theorem lt5 : ∀ i : Nat, i < 5 → i = 0 ∨ i = 1 ∨ i = 2 ∨ i = 3 ∨ i = 4 := by decide
set_option maxHeartbeats 2000000 in
theorem cells_C {w : World} {l D : Addr} {vs : List Value} {ns : List Int} {t0 t1 t2 t3 t4 : Tok} {rest : List (Addr × Obj)} (hvs : IntsAre vs ns) (hn : ns.length < 64) :
    CtrH (fun h => h.IsList l vs.toArray) w 95 [.ref l, .ref D] [] 4 ((D, tupOf #[.int 22 t0, .int 500 t1, .int 19 t2, .int 923 t3, .int 1 t4]) :: rest) (fun r n' => ∃ d ws cs k, r = .ref d ∧ IntsAre ws cs ∧ n' = (d, listOf ws.toArray k) :: rest ∧ cs.length = 5 ∧ (∀ c ∈ cs, 0 ≤ c ∧ c < 1000000000) ∧ LCg.Off1 d rest) := by
  unfold CtrH
  intro p loose mean mg mb dp un gd cn cs a ccd cl outer A₀ base h₀ L m s Q E hlb B F X N T hk hd hu hret
  dsimp only at hret
  refine wpAny_call ?_
  refine' code_defC ?k1 ?k2 ?k3 ?k4 ?k5 ?kA ?kF ?kK ?k6 ?k7 ?k8 ?k9 ?kB ?kD ?_ ?c2 ?c3 ?c4
  case kA => exact rfl
  case kF => exact rfl
  case kK => assumption
  case k1 => k_asm
  case k2 => k_asm
  case k3 => k_asm
  case k4 => k_asm
  case k5 => k_asm
  case k6 => k_is
  case k7 => k_is
  case k8 => ktr_room
  case k9 => exact BindsTo.of_eq (binds := [(Str.ofString "script", .ref l), (Str.ofString "bases", .ref D)]) rfl
  case kB => exact rfl
  case kD => decide +kernel
  case c2 => exact rfl
  case c3 => exact rfl
  case c4 => exact rfl
  k_whole
  intro g' L' h' tk' cells' FG' F' N' Y' B' X' T' l1
  (try k_lt l1)
  have lifted : g'.IsList l vs.toArray := by
    obtain ⟨o, e, r⟩ := hlb
    exact ⟨o, FG'.keep _ _ e, r⟩
  k_cells Y'
  (try simp only [List.cons_append, List.nil_append] at N')
  (try dsimp only)
  (try k_fold)
  k_steps
  unfold Stop
  rename_i sl ws9 hh Fz Nz hI9 hC9 hL9 lz
  have hwl := hI9.length
  refine LCg.CompSrc.ledger rfl Fz Nz (List.Mem.head _) (by rw [sizeLine_eq, List.size_toArray]; omega) ?_
  intro g
  refine comp_ind (fun i ys n' => ∃ as, IntsAre ys as ∧ as.length = i ∧ Smalls as ∧ n' = _) ?turn ?done _ _ _ _ (Nat.zero_add _) ⟨[], .nil, rfl, (fun a ha => nomatch ha), rfl⟩
  case turn =>
    rintro i ys news v I oI C oC D2 m₂ h tk E' hi ⟨as, hys, hal, hsm, rfl⟩ hP hn hx F N ho hne
    rw [List.size_toArray] at hi
    obtain ⟨t, ht⟩ := hI9.get i (((ns.take 60).getD i 0)) (by rw [List.getD_eq_getElem?_getD, List.getElem?_eq_getElem (by omega)]; rfl)
    rw [List.getElem?_toArray] at hP
    rw [ht] at hP
    cases hP
    k_steps
    refine LCg.CompEnd.intro F N _ (fun p hp => hp) ho (.inr ⟨_, List.Mem.head _, rfl, _, rfl⟩) ?_
    refine ⟨as ++ [((ns.take 60).getD i 0).fmod 1000000], hys.append (.cons _ _ .nil), by simp [hal], ?_, rfl⟩
    intro a ha
    rcases List.mem_append.mp ha with ha | ha
    · exact hsm a ha
    · rw [List.mem_singleton.mp ha, Int.fmod_eq_emod_of_nonneg _ (by decide)]
      exact ⟨Int.emod_nonneg _ (by decide), Int.emod_lt_of_pos _ (by decide)⟩
  case done =>
    rintro ys news ⟨as, hys, hal, hsm, rfl⟩
    k_steps
    unfold Stop
    rename_i Df hh6 tk6 oDf hh7 oc Fw Nw dfc hh8 tk8 tt uu vv hR2 Fz2 Nz2 hG2
    rw [List.size_toArray] at hal
    have hyl := hys.length
    refine LCg.CompSrc.range (n := 5) rfl Fz2 Nz2 hR2 (by rfl) (by rfl) (by rw [sizeLine_eq]; decide) ?_
    intro g2
    refine comp_ind (fun i ys n' => ∃ as, IntsAre ys as ∧ as.length = i ∧ (∀ a ∈ as, 0 ≤ a ∧ a < 1000000000) ∧ n' = _) ?turn2 ?done2 _ _ _ _ (Nat.zero_add _) ⟨[], .nil, rfl, (fun a ha => nomatch ha), rfl⟩
    case turn2 =>
      rintro i zs news v I oI C oC D2 m₂ h tk E' hi ⟨bs, hzs, hbl, hbm, rfl⟩ hP hn hx F N ho hne
      obtain ⟨t, rfl⟩ := hP
      have hi5 : i = 0 ∨ i = 1 ∨ i = 2 ∨ i = 3 ∨ i = 4 := lt5 i hi
      rcases hi5 with rfl | rfl | rfl | rfl | rfl
      case' inl => replace hx : m₂ (Str.ofString "k") = some (.int 0 t) := hx
      case' inr.inl => replace hx : m₂ (Str.ofString "k") = some (.int 1 t) := hx
      case' inr.inr.inl => replace hx : m₂ (Str.ofString "k") = some (.int 2 t) := hx
      case' inr.inr.inr.inl => replace hx : m₂ (Str.ofString "k") = some (.int 3 t) := hx
      case' inr.inr.inr.inr => replace hx : m₂ (Str.ofString "k") = some (.int 4 t) := hx
      all_goals k_steps
      all_goals (
        rename Fr g' _ _ _ => Fe
        rename News g' _ _ _ => Ne
        rename_i S9 b1 b2
        refine LCg.CompEnd.intro Fe Ne _ (fun p hp => .tail _ hp) ho trivial ?_
        refine ⟨bs ++ [_], hzs.append (.cons _ _ .nil), by simp [hbl], ?_, rfl⟩
        intro a ha
        rcases List.mem_append.mp ha with ha | ha
        · exact hbm a ha
        · rw [List.mem_singleton.mp ha]; omega)
    case done2 =>
      rintro ys news ⟨cs, hcs, hcl, hcm, rfl⟩
      k_steps
      rename Fr h₀ _ _ _ => Fq
      rename News h₀ _ _ _ => Nq
      rename_i d0 hh0 tkk0 FF0 NN0 o0 TT0 XX0
      refine hret _ _ _ _ Fq (cb_drop Nq fun p hp => ?_) ⟨_, _, cs, ys.length, rfl, hcs, rfl, hcl, hcm, o0.2.2.2.2.2⟩
      rcases List.mem_cons.mp hp with rfl | hp
      · exact .head _
      · simp [hp]
end

section
theorem off_B23 : True ∧ True := by
  w_top off
  walk1
  all_goals trivial

open PyProof.V
section
variable {prog : Program} {w : World} {A : Around} {E : Value → Shared → Prop} {s : Shared} {R : Result → Shared → Prop} {env : Env}
abbrev two (elt : Expr) (x : Str) (px : Pos) (it1 : Expr) (y : Str) (py : Pos) (it2 : Expr) (scope : Scope) (pos : Pos) : Expr := .ListComp elt [⟨.Name x px, it1, [], 0⟩, ⟨.Name y py, it2, [], 0⟩] scope pos
theorem turn_two0 (elt : Expr) (x : Str) (px : Pos) (it1 : Expr) (y : Str) (py : Pos) (it2 : Expr) (scope : Scope) (pos : Pos) (it acc : Value) (env : Env) :
    compTurn (two elt x px it1 y py it2 scope pos) 0 it acc env = (standAt it1.pos >>= fun _ => pyNext it >>= fun r => match r with
      | none => pure (.done .next)
      | some v => letOwnedTupleGo (.Name x px) it v >>= fun _ => assign (.Name x px) env v >>= fun _ =>
        (eval it2 env >>= fun z => standAt it2.pos >>= fun _ => foldedSetIterable it2 env z >>= fun z => holding [z] (pyIter z) >>= fun i2 => runOwn (.compStart (two elt x px it1 y py it2 scope pos) 1 i2 acc env) env >>= fun _ =>
          again (.compLoop (two elt x px it1 y py it2 scope pos) 0 it acc env))) := by rfl
theorem turn_two1 (elt : Expr) (x : Str) (px : Pos) (it1 : Expr) (y : Str) (py : Pos) (it2 : Expr) (scope : Scope) (pos : Pos) (it acc : Value) (env : Env) :
    compTurn (two elt x px it1 y py it2 scope pos) 1 it acc env = (standAt it2.pos >>= fun _ => pyNext it >>= fun r => match r with
      | none => pure (.done .next)
      | some v => letOwnedTupleGo (.Name y py) it v >>= fun _ => assign (.Name y py) env v >>= fun _ =>
        (eval elt env >>= fun x => call (.builtin "list.append") [acc, x] >>= fun _ => pure ()) >>= fun _ =>
          again (.compLoop (two elt x px it1 y py it2 scope pos) 1 it acc env)) := by rfl
variable {elt it1 it2 : Expr} {x y : Str} {px py : Pos} {scope : Scope} {pos : Pos} {it acc : Value}
theorem start_two1 (h0 : codeAny (model prog w) A (.compLoop (two elt x px it1 y py it2 scope pos) 1 it acc env) R s)
    (h : wpAny (model prog w) A (pyIter it) (fun it' s' => codeAny (model prog w) A (.compLoop (two elt x px it1 y py it2 scope pos) 1 it' acc env) R s')
      (notedBy (model prog w) A env fun x s' => R (.error x) s') s) :
    codeAny (model prog w) A (.compStart (two elt x px it1 y py it2 scope pos) 1 it acc env) R s := by
  refine codeAny_of_tree ?_
  show wpAny _ _ ((compStart (two elt x px it1 y py it2 scope pos) 1 it acc env).onRaise (fun x => do noteFrame x env; standAt theWindowsPlace)) _ _ s
  refine wpAny_notedAt ?_
  unfold compStart
  show wpAny _ _ (ask >>= _) _ _ s
  refine wpAny_bind (wpAny_askSetting (wpAny_ite ?_))
  split
  · first
      | exact wpAny_bind (wpAny_pure (wpAny_pure (And.intro rfl h0)))
      | exact wpAny_pure (And.intro rfl h0)
  · first
      | exact wpAny_bind (wpAny_rule (wpAny_bind (wpAny_standAt (wpAny_bind (wpAny_mono h (fun it' s' h' => wpAny_pure (And.intro rfl h')) fun _ _ x => x)))))
      | (refine wpAny_bind (wpAny_rule ?_); show wpAny _ _ (standAt it2.pos >>= _) _ _ s; exact wpAny_bind (wpAny_standAt (wpAny_bind (wpAny_mono h (fun it' s' h' => wpAny_pure (And.intro rfl h')) fun _ _ x => x))))
theorem loop_two1 (I : Nat → Shared → Prop)
    (turn : ∀ n s, I n s → wpAny (model prog w) A (pyNext it) (fun r s₁ => match r with
      | none => R (.ok .next) s₁
      | some v => wpAny (model prog w) A (assign (.Name y py) env v) (fun _ s₂ => wpAny (model prog w) A (eval elt env) (fun z s₄ =>
              wpAny (model prog w) A (call (.builtin "list.append") [acc, z]) (fun _ s₅ => ∃ m, m < n ∧ I m s₅) (notedBy (model prog w) A env fun e s' => R (.error e) s') s₄) (notedBy (model prog w) A env fun e s' => R (.error e) s') s₂) (notedBy (model prog w) A env fun e s' => R (.error e) s') s₁) (notedBy (model prog w) A env fun e s' => R (.error e) s') s)
    (n : Nat) (h : I n s) (ht : ∀ v, letOwnedTupleGo (.Name y py) it v = pure () := by intro _; rfl) :
    codeAny (model prog w) A (.compLoop (two elt x px it1 y py it2 scope pos) 1 it acc env) R s := by
  refine codeAny_loop rfl I (fun n s hI => ?_) n h
  show wpAny _ A ((compTurn (two elt x px it1 y py it2 scope pos) 1 it acc env).onRaise (fun x => do noteFrame x env; theTreesLotGoes x)) _ _ s
  refine wpAny_noted ?_
  rw [turn_two1]
  refine wpAny_bind (wpAny_standAt (wpAny_bind (wpAny_mono (turn n s hI) (fun r s₁ h₁ => ?_) fun _ _ h' => h')))
  cases r with
  | none => exact wpAny_pure h₁
  | some v =>
    refine wpAny_bind (wpAny_of_eq (ht v) ?_)
    refine wpAny_bind (wpAny_mono h₁ (fun _ s₂ h₂ => ?_) fun _ _ h' => h')
    exact wpAny_bind (wpAny_bind (wpAny_mono h₂ (fun x s₄ h₄ => wpAny_bind (wpAny_mono h₄ (fun _ s₅ h₅ => wpAny_pure (wpAny_pure ⟨rfl, h₅⟩)) fun _ _ h' => h')) fun _ _ h' => h'))
theorem loop_two0 (I : Nat → Shared → Prop)
    (turn : ∀ n s, I n s → wpAny (model prog w) A (pyNext it) (fun r s₁ => match r with
      | none => R (.ok .next) s₁
      | some v => wpAny (model prog w) A (assign (.Name x px) env v) (fun _ s₂ => wpAny (model prog w) A (eval it2 env) (fun z s₃ => wpAny (model prog w) A (pyIter z) (fun i2 s₄ =>
              codeAny (model prog w) A (.compStart (two elt x px it1 y py it2 scope pos) 1 i2 acc env) (fun r s₅ => match r with | .ok _ => ∃ m, m < n ∧ I m s₅ | .error e => cameBackBy (model prog w) A env (notedBy (model prog w) A env fun e s' => R (.error e) s') e s₅) s₄)
              (notedBy (model prog w) A env fun e s' => R (.error e) s') s₃) (notedBy (model prog w) A env fun e s' => R (.error e) s') s₂) (notedBy (model prog w) A env fun e s' => R (.error e) s') s₁) (notedBy (model prog w) A env fun e s' => R (.error e) s') s)
    (n : Nat) (h : I n s) (hf : ∀ z, foldedSetIterable it2 env z = pure z := by intro _; rfl) (ht : ∀ v, letOwnedTupleGo (.Name x px) it v = pure () := by intro _; rfl) :
    codeAny (model prog w) A (.compLoop (two elt x px it1 y py it2 scope pos) 0 it acc env) R s := by
  refine codeAny_loop rfl I (fun n s hI => ?_) n h
  show wpAny _ A ((compTurn (two elt x px it1 y py it2 scope pos) 0 it acc env).onRaise (fun x => do noteFrame x env; theTreesLotGoes x)) _ _ s
  refine wpAny_noted ?_
  rw [turn_two0]
  refine wpAny_bind (wpAny_standAt (wpAny_bind (wpAny_mono (turn n s hI) (fun r s₁ h₁ => ?_) fun _ _ h' => h')))
  cases r with
  | none => exact wpAny_pure h₁
  | some v =>
    refine wpAny_bind (wpAny_of_eq (ht v) ?_)
    refine wpAny_bind (wpAny_mono h₁ (fun _ s₂ h₂ => ?_) fun _ _ h' => h')
    refine wpAny_bind (wpAny_mono h₂ (fun z s₃ h₃ => wpAny_bind (wpAny_standAt (wpAny_bind (wpAny_of_eq (hf z) (wpAny_bind (wpAny_holding (wpAny_mono h₃ (fun i2 s₄ h₄ => ?_) fun _ _ h' => h'))))))) fun _ _ h' => h')
    refine wpAny_bind (wpAny_runOwn (codeAny_mono h₄ fun r s' hr => ?_))
    cases r with
    | ok f => exact wpAny_pure ⟨rfl, hr⟩
    | error e => exact hr
end
end

section
theorem off_B24 : True ∧ True := by
  w_top off
  walk1
  all_goals trivial

open PyProof.V LCg
section
variable {prog : Program} {w : World} {A : Around} {E : Value → Shared → Prop} {s : Shared} {h₀ : Heap} {L : Addr} {m : Str → Option Value} {env : Env}
def It2End (h₀ : Heap) (L : Addr) (m : Str → Option Value) (s₁ : Shared) (led : List (Addr × Obj)) (n : Nat) (z : Value) (s₂ : Shared) : Prop :=
  ∃ h' tk' ra t₁ u₁ v₁, z = .ref ra ∧ s₂ = { s₁ with heap := h', toks := tk' } ∧ Fr h₀ L h' m ∧ News h₀ L h' led ∧ IsRange h' ra 0 (n : Int) 1 t₁ u₁ v₁ ∧ Builtin.Range.small 0 (n : Int) 1 = true ∧ Builtin.Range.rangeSize 0 (n : Int) 1 = (n : Int)
def El2End (h₀ : Heap) (L : Addr) (m : Str → Option Value) (s₁ : Shared) (I2 : Addr) (oI2 : Obj) (I : Addr) (oI : Obj) (C : Addr) (oC : Obj) (D : Addr) (oD : Obj) (rest : Value → List (Addr × Obj) → Prop) (z : Value) (s₂ : Shared) : Prop :=
  ∃ h' tk' news', s₂ = { s₁ with heap := h', toks := tk' } ∧ Fr h₀ L h' m ∧ News h₀ L h' ((I2, oI2) :: (I, oI) :: (C, oC) :: (D, oD) :: news') ∧ Off3 I C D news' ∧ (∀ p ∈ news', p.1 ≠ I2) ∧ rest z news'
theorem news_c {h₀ h : Heap} {L : Addr} {a : Addr} {o : Obj} {r : List (Addr × Obj)} (h1 : h.get? a = some o ∧ a ≠ L ∧ h₀.get? a = none) (h2 : News h₀ L h r) : News h₀ L h ((a, o) :: r) := List.forall_mem_cons.mpr ⟨h1, h2⟩
theorem block2 {elt it1 it2 : Expr} {x y : Str} {px py : Pos} {scope : Scope} {cl : List (Str × Addr)} {pos : Pos} {s₂ : Shared} {I : Addr} {n : Nat} {N2 : Nat → Nat} {news : List (Addr × Obj)}
    {Fin : List Value → List (Addr × Obj) → Prop} {RR : Value → Addr → Result → Shared → Prop} (J : Nat → Nat → List Value → List (Addr × Obj) → Prop)
    (hh : A.handled = none) (hsz : ∀ i j ys news, J i j ys news → ys.length ≤ sizeLine)
    (hcell : ∀ z ∈ scope.names, z.2 ≠ .cell) (hkind : scope.kind = .function) (hx : scope.names.lookup x = some .local) (hy : scope.names.lookup y = some .local) (hxy : x ≠ y)
    (hst : IsRangeIter s₂.heap I (0 + ((0 : Nat) : Int) * 1) ((n : Int) - ((0 : Nat) : Int)) 1) (hIlt : I < s₂.heap.objs.size)
    (F : Fr h₀ L s₂.heap m) (N : News h₀ L s₂.heap news) (hIL : L ≠ I) (hI₀ : h₀.get? I = none) (off : ∀ p ∈ news, p.1 ≠ I) (hJ : J 0 0 [] news)
    (hiter : ∀ i ys news t I oI C oC D m₂ h tk (E' : Value → Shared → Prop), i < n → J i 0 ys news → NsObj oC m₂ → m₂ x = some (.int (0 + (i : Int)) t) → Fr h₀ L h m → News h₀ L h ((I, oI) :: (C, oC) :: (D, lst ys) :: news) → Off3 I C D news → ((@Ne Nat I C) ∧ (@Ne Nat I D) ∧ (@Ne Nat C D)) →
      wpAny (model prog w) A (eval it2 (compEnvC scope cl C env)) (It2End h₀ L m { s₂ with heap := h, toks := tk } ((I, oI) :: (C, oC) :: (D, lst ys) :: news) (N2 i)) E' { s₂ with heap := h, toks := tk })
    (helt : ∀ i j ys news t t' I2 oI2 I oI C oC D m₂ h tk (E' : Value → Shared → Prop), i < n → j < N2 i → J i j ys news → NsObj oC m₂ → m₂ x = some (.int (0 + (i : Int)) t) → m₂ y = some (.int (0 + (j : Int)) t') → Fr h₀ L h m → News h₀ L h ((I2, oI2) :: (I, oI) :: (C, oC) :: (D, lst ys) :: news) → Off3 I C D news → (∀ p ∈ news, p.1 ≠ I2) → ((@Ne Nat I C) ∧ (@Ne Nat I D) ∧ (@Ne Nat C D) ∧ (@Ne Nat I2 I) ∧ (@Ne Nat I2 C) ∧ (@Ne Nat I2 D)) →
      wpAny (model prog w) A (eval elt (compEnvC scope cl C env)) (El2End h₀ L m { s₂ with heap := h, toks := tk } I2 oI2 I oI C oC D (lst ys) (fun z news' => Stop (J i (j + 1) (ys ++ [z]) news'))) E' { s₂ with heap := h, toks := tk })
    (hnext : ∀ i ys news, i < n → J i (N2 i) ys news → J (i + 1) 0 ys news)
    (hdone : ∀ ys news, J n 0 ys news → Fin ys news)
    (hRR : ∀ D C h tk m' ys news', Fr h₀ L h m → News h₀ L h ((D, lst ys) :: news') → Off1 D news' → h.Ns C m' → h₀.get? C = none → h₀.get? D = none → C ≠ L → D ≠ L → C ≠ D → (∀ p ∈ news', p.1 ≠ C) → Fin ys news' → RR (.ref D) C (.ok .next) { s₂ with heap := h, toks := tk })
    (hf : ∀ C z, foldedSetIterable it2 (compEnvC scope cl C env) z = pure z := by intro _ _; rfl) :
    wpAny (model prog w) A (newList []) (fun acc s₃ => wpAny (model prog w) A (newFunctionEnv scope env.globals cl [] env.qual none .none (some env)) (fun cenv s₄ =>
      codeAny (model prog w) A (.compStart (two elt x px it1 y py it2 scope pos) 0 (.ref I) acc { cenv with scope := relabel scope env }) (RR acc cenv.locals) s₄) E s₃) E s₂ := by
  refine wpAny_newObj_type (wpAny_newFunctionEnv hcell (by intro y hy; simp at hy) (fun h₁ hns₁ hsb₁ => ?_) hkind)
  dsimp only at hns₁ hsb₁ ⊢
  generalize hH2 : s₂.heap.push { cls := .type "list", dict := none, data := .seq ([] : List Value).toArray } = H2 at hns₁ hsb₁ ⊢
  have hC : H2.objs.size = s₂.heap.objs.size + 1 := by rw [← hH2, Heap.size_push]
  have hDC : s₂.heap.objs.size ≠ H2.objs.size := by rw [hC]; exact Nat.ne_of_lt (Nat.lt_succ_self _)
  have below : ∀ b, b < s₂.heap.objs.size → b ≠ H2.objs.size ∧ b ≠ s₂.heap.objs.size := fun b hb => ⟨by rw [hC]; exact Nat.ne_of_lt (Nat.lt_succ_of_lt hb), Nat.ne_of_lt hb⟩
  have old : ∀ b o, s₂.heap.get? b = some o → h₁.get? b = some o := fun b o e => hsb₁.extBut b o (below b (Heap.lt_size e)).1 (Heap.get?_push_of_some _ (hH2 ▸ Heap.get?_push_of_some _ e))
  have hacc : h₁.get? s₂.heap.objs.size = some (lst []) := hsb₁.extBut _ _ hDC (Heap.get?_push_of_some _ (hH2 ▸ Heap.get?_push_size _ rfl))
  have W := range_walks (prog := prog) (w := w) (A := A) (I := I) hh 0 n
  have hst₁ : IsRangeIter h₁ I (0 + ((0 : Nat) : Int) * 1) ((n : Int) - ((0 : Nat) : Int)) 1 := W.frame 0 _ _ hst fun b _ o e => old b o e
  have fresh : ∀ a, s₂.heap.objs.size ≤ a → s₂.heap.get? a = none := fun a ha => by
    cases e : s₂.heap.get? a with
    | none => rfl
    | some o' => exact absurd (Heap.lt_size e) (Nat.not_lt.mpr ha)
  have fresh₀ : ∀ a, s₂.heap.objs.size ≤ a → h₀.get? a = none := fun a ha => by
    cases e : h₀.get? a with
    | none => rfl
    | some o' => have := F.keep a o' e; rw [fresh a ha] at this; cases this
  have hD₀ : h₀.get? s₂.heap.objs.size = none := fresh₀ _ (Nat.le_refl _)
  have hC₀ : h₀.get? H2.objs.size = none := fresh₀ _ (by rw [hC]; exact Nat.le_succ _)
  have hLlt : L < s₂.heap.objs.size := F.ns.lt
  have hDL : s₂.heap.objs.size ≠ L := Ne.symm (below L hLlt).2
  have hCL : H2.objs.size ≠ L := Ne.symm (below L hLlt).1
  have hCI : I ≠ H2.objs.size := (below I hIlt).1
  have hDI : I ≠ s₂.heap.objs.size := (below I hIlt).2
  have off₀ : Off3 I H2.objs.size s₂.heap.objs.size news := Off3.of fun p hp => ⟨off p hp, (below _ (Heap.lt_size (N p hp).1)).1, (below _ (Heap.lt_size (N p hp).1)).2⟩
  generalize hDn : s₂.heap.objs.size = D at *
  generalize hCn : H2.objs.size = C at *
  have loop : ∀ s₃ : Shared, s₃ = { s₂ with heap := h₁, toks := s₂.toks + ([] : List (Str × Value)).length } →
      codeAny (model prog w) A (.compLoop (two elt x px it1 y py it2 scope pos) 0 (.ref I) (.ref D) (compEnvC scope cl C env)) (RR (.ref D) C) s₃ := by
    rintro s₃ rfl
    refine loop_two0
      (fun k s' => ∀ K : Nat → Shared → Prop, (∀ h' tk i ys m' news', i ≤ n → IsRangeIter h' I (0 + (i : Int) * 1) ((n : Int) - (i : Int)) 1 → Fr h₀ L h' m → h'.Ns C m' → News h₀ L h' ((D, lst ys) :: news') →
        Off3 I C D news' → J i 0 ys news' → K (n + 1 - i) { s₂ with heap := h', toks := tk }) → K k s') ?_ (n + 1)
      (fun K k9 => k9 h₁ _ 0 [] _ news (Nat.zero_le _) hst₁ (F.keeps old) hns₁ (fun p hp => ?_) off₀ hJ) (hf C)
    · intro k s' P9
      apply P9
      intro h' tk i ys m' news' hi hst' F' hn' N' off' hJ'
      clear P9
      by_cases hlt : i < n
      · refine W.item i _ _ _ hlt hst' fun v h₂ tk₂ hPv hst₂ hk₂ => ?_
        obtain ⟨t, rfl⟩ := hPv
        refine wpAny_assign_Name (wpAny_storeName_local (lookup_relabel_local hx) (hn'.at' fun o e => hk₂ _ o (by simpa using Ne.symm hCI) e) (fun h₃ hn₃ hs₃ => ?_) (by simp [compEnvC, relabel, hkind]))
        have hst₃ : IsRangeIter h₃ I (0 + ((i + 1 : Nat) : Int) * 1) ((n : Int) - ((i + 1 : Nat) : Int)) 1 := W.frame (i + 1) _ _ hst₂ fun b hb o e => hs₃.extBut b o (fun q => hCI (by rw [← List.mem_singleton.mp hb]; exact q)) e
        obtain ⟨oI, heI⟩ : ∃ o, h₃.get? I = some o := ⟨_, hst₃⟩
        obtain ⟨oC, heC, hoC⟩ := ns_obj hn₃
        have F₃ : Fr h₀ L h₃ m := (fr_but F' hk₂ hIL hI₀).change hs₃ hCL hC₀
        have off3 := off'.mem
        have N₂ : News h₀ L h₂ ((D, lst ys) :: news') := news_but N' hk₂ (List.forall_mem_cons.mpr ⟨Ne.symm hDI, fun p hp => (off3 p hp).1⟩)
        have z2 := N₂ (D, lst ys) (.head _)
        have N₃ : News h₀ L h₃ ((I, oI) :: (C, oC) :: (D, lst ys) :: news') := news_c ⟨heI, Ne.symm hIL, hI₀⟩ (news_c ⟨heC, hCL, hC₀⟩ (news_c ⟨hs₃.extBut _ _ hDC z2.1, z2.2⟩ fun p hp => ⟨hs₃.extBut _ _ (off3 p hp).2.1 (N₂ p (.tail _ hp)).1, (N₂ p (.tail _ hp)).2⟩))
        refine wpAny_mono (hiter i ys news' t I oI C oC D _ h₃ _ _ hlt hJ' hoC (by simp) F₃ N₃ off' ⟨hCI, hDI, Ne.symm hDC⟩) (fun z s₄ h₄ => ?_) fun _ _ e => e
        obtain ⟨h₄, tk₄, ra, t₁, u₁, v₁, rfl, rfl, F₄, N₄, hr, hsm, hrs⟩ := h₄
        refine wpAny_pyIter_range hr hsm ?_
        dsimp only
        have hit0 : IsRangeIter (h₄.push { cls := .type "range_iterator", data := .fields #[rawInt 0, rawInt (Builtin.Range.rangeSize 0 (N2 i : Int) 1), rawInt 1] }) h₄.objs.size (0 + ((0 : Nat) : Int) * 1) ((N2 i : Int) - ((0 : Nat) : Int)) 1 := by
          show IsRangeIter _ _ _ _ _
          rw [hrs]
          simpa using Heap.get?_push_size _ rfl
        have up : ∀ b o, h₄.get? b = some o → (h₄.push { cls := .type "range_iterator", data := .fields #[rawInt 0, rawInt (Builtin.Range.rangeSize 0 (N2 i : Int) 1), rawInt 1] }).get? b = some o := fun b o e => Heap.get?_push_of_some _ e
        have F₅ := F₄.keeps up
        have N₅ := N₄.grown up
        have hI20 : h₀.get? h₄.objs.size = none := next_is_new F₄
        have lt4 : ∀ p ∈ (I, oI) :: (C, oC) :: (D, lst ys) :: news', p.1 ≠ h₄.objs.size := fun p hp => Nat.ne_of_lt (Heap.lt_size (N₄ p hp).1)
        have hI2L : L ≠ h₄.objs.size := Nat.ne_of_lt F₄.ns.lt
        generalize h₄.objs.size = I2 at *
        generalize h₄.push { cls := .type "range_iterator", data := .fields #[rawInt 0, rawInt (Builtin.Range.rangeSize 0 (N2 i : Int) 1), rawInt 1] } = h₅ at *
        have hI2I : I ≠ I2 := lt4 (I, oI) (by (repeat (first | exact List.Mem.head _ | refine List.Mem.tail _ ?_)))
        have hI2C : C ≠ I2 := lt4 (C, oC) (by (repeat (first | exact List.Mem.head _ | refine List.Mem.tail _ ?_)))
        have hI2D : D ≠ I2 := lt4 (D, lst ys) (by (repeat (first | exact List.Mem.head _ | refine List.Mem.tail _ ?_)))
        have offI2 : ∀ p ∈ news', p.1 ≠ I2 := fun p hp => lt4 p (.tail _ (.tail _ (.tail _ hp)))
        have W2 := range_walks (prog := prog) (w := w) (A := A) (I := I2) hh 0 (N2 i)
        have hmx : (fun z => if z = x then some (Value.int (0 + (i : Int)) t) else m' z) x = some (Value.int (0 + (i : Int)) t) := by simp
        have hnC5 : h₅.Ns C (fun z => if z = x then some (Value.int (0 + (i : Int)) t) else m' z) := hoC.ns (N₅ (C, oC) (by (repeat (first | exact List.Mem.head _ | refine List.Mem.tail _ ?_)))).1
        generalize (fun z => if z = x then some (Value.int (0 + (i : Int)) t) else m' z) = m₅ at *
        have loop2 : ∀ R2 : Result → Shared → Prop, (∀ h' tk' ys' m'' news'', IsRangeIter h' I (0 + ((i + 1 : Nat) : Int) * 1) ((n : Int) - ((i + 1 : Nat) : Int)) 1 → Fr h₀ L h' m → h'.Ns C m'' → News h₀ L h' ((D, lst ys') :: news'') → Off3 I C D news'' → J (i + 1) 0 ys' news'' → R2 (.ok .next) { s₂ with heap := h', toks := tk' }) →
            ∀ s₆ : Shared, s₆ = { s₂ with heap := h₅, toks := tk₄ } → codeAny (model prog w) A (.compLoop (two elt x px it1 y py it2 scope pos) 1 (.ref I2) (.ref D) (compEnvC scope cl C env)) R2 s₆ := by
          rintro R2 hR2 s₆ rfl
          refine loop_two1
            (fun k s' => ∀ K : Nat → Shared → Prop, (∀ h' tk j ys m' news', j ≤ N2 i → IsRangeIter h' I2 (0 + (j : Int) * 1) ((N2 i : Int) - (j : Int)) 1 → Fr h₀ L h' m → h'.Ns C m' → m' x = some (.int (0 + (i : Int)) t) → News h₀ L h' ((I, oI) :: (D, lst ys) :: news') →
              Off3 I C D news' → (∀ p ∈ news', p.1 ≠ I2) → J i j ys news' → K (N2 i + 1 - j) { s₂ with heap := h', toks := tk }) → K k s') ?_ (N2 i + 1)
            (fun K k9 => k9 h₅ _ 0 ys m₅ news' (Nat.zero_le _) hit0 F₅ hnC5 hmx (fun p hp => N₅ p ?_) off' offI2 hJ')
          · intro k' s' P9
            apply P9
            intro h' tk j ys m' news' hj hst' F' hn' hmx' N' off' offI2 hJ'
            clear P9
            by_cases hjt : j < N2 i
            · refine W2.item j _ _ _ hjt hst' fun v h₆ tk₆ hPv hst₆ hk₆ => ?_
              obtain ⟨t', rfl⟩ := hPv
              refine wpAny_assign_Name (wpAny_storeName_local (lookup_relabel_local hy) (hn'.at' fun o e => hk₆ _ o (by simpa using hI2C) e) (fun h₇ hn₇ hs₇ => ?_) (by simp [compEnvC, relabel, hkind]))
              have hst₇ : IsRangeIter h₇ I2 (0 + ((j + 1 : Nat) : Int) * 1) ((N2 i : Int) - ((j + 1 : Nat) : Int)) 1 := W2.frame (j + 1) _ _ hst₆ fun b hb o e => hs₇.extBut b o (fun q => hI2C (by rw [List.mem_singleton.mp hb] at q; exact q.symm)) e
              obtain ⟨oI2, heI2⟩ : ∃ o, h₇.get? I2 = some o := ⟨_, hst₇⟩
              obtain ⟨oC7, heC7, hoC7⟩ := ns_obj hn₇
              have F₇ : Fr h₀ L h₇ m := (fr_but F' hk₆ hI2L hI20).change hs₇ hCL hC₀
              have off3 := off'.mem
              have N₆ : News h₀ L h₆ ((I, oI) :: (D, lst ys) :: news') := news_but N' hk₆ (List.forall_mem_cons.mpr ⟨hI2I, List.forall_mem_cons.mpr ⟨hI2D, offI2⟩⟩)
              have y1 := N₆ (I, oI) (.head _)
              have y2 := N₆ (D, lst ys) (.tail _ (.head _))
              have N₇ : News h₀ L h₇ ((I2, oI2) :: (I, oI) :: (C, oC7) :: (D, lst ys) :: news') := news_c ⟨heI2, Ne.symm hI2L, hI20⟩ (news_c ⟨hs₇.extBut _ _ hCI y1.1, y1.2⟩ (news_c ⟨heC7, hCL, hC₀⟩ (news_c ⟨hs₇.extBut _ _ hDC y2.1, y2.2⟩ fun p hp => ⟨hs₇.extBut _ _ (off3 p hp).2.1 (N₆ p (.tail _ (.tail _ hp))).1, (N₆ p (.tail _ (.tail _ hp))).2⟩)))
              refine wpAny_mono (helt i j ys news' t t' I2 oI2 I oI C oC7 D _ h₇ _ _ hlt hjt hJ' hoC7 (by simp [hxy, hmx']) (by simp) F₇ N₇ off' offI2 ⟨hCI, hDI, Ne.symm hDC, Ne.symm hI2I, Ne.symm hI2C, Ne.symm hI2D⟩) (fun z s₈ h₈ => ?_) fun _ _ e => e
              obtain ⟨h₈, tk₈, news₈, rfl, F₈, N₈, off₈, offI₈, hJ₈⟩ := h₈
              have zI2 := (N₈ (I2, oI2) (.head _)).1
              have zI := N₈ (I, oI) (.tail _ (.head _))
              have zC := (N₈ (C, oC7) (.tail _ (.tail _ (.head _)))).1
              have zD := (N₈ (D, lst ys) (.tail _ (.tail _ (.tail _ (.head _))))).1
              have N₈' : News h₀ L h₈ news₈ := fun p hp => N₈ p (.tail _ (.tail _ (.tail _ (.tail _ hp))))
              have hst₈ : IsRangeIter h₈ I2 (0 + ((j + 1 : Nat) : Int) * 1) ((N2 i : Int) - ((j + 1 : Nat) : Int)) 1 := range_st (j + 1) h₇ h₈ oI2 news₈ hst₇ heI2 zI2 F₈.keep N₈' trivial
              refine append_at (hsz := by show ys.toArray.size ≤ sizeLine; rw [List.size_toArray]; exact hsz _ _ _ _ hJ') zD fun h₉ hs₉ hD₉ => ?_
              have off4 := off₈.mem
              have N₉ : News h₀ L h₉ ((I, oI) :: (D, lst (ys ++ [z])) :: news₈) := news_c ⟨hs₉.extBut _ _ hDI zI.1, zI.2⟩ (news_c ⟨hD₉.trans (congrArg some (lst_snoc ys z)), hDL, hD₀⟩ fun p hp => ⟨hs₉.extBut _ _ (off4 p hp).2.2 (N₈' p hp).1, (N₈' p hp).2⟩)
              exact ⟨N2 i + 1 - (j + 1), by omega, fun K k9 => k9 h₉ tk₈ (j + 1) (ys ++ [z]) _ news₈ hjt (W2.frame _ _ _ hst₈ fun b hb o e => hs₉.extBut b o (fun q => hI2D (by rw [List.mem_singleton.mp hb] at q; exact q.symm)) e) (F₈.change hs₉ hDL hD₀)
                ((hoC7.ns zC).sameBut hs₉ (Ne.symm hDC)) (by simp [hxy, hmx']) N₉ off₈ offI₈ hJ₈⟩
            · obtain rfl : j = N2 i := Nat.le_antisymm hj (Nat.not_lt.mp hjt)
              refine W2.done _ _ _ hst' fun h₆ tk₆ hk₆ => ?_
              have N₆ : News h₀ L h₆ ((I, oI) :: (D, lst ys) :: news') := news_but N' hk₆ (List.forall_mem_cons.mpr ⟨hI2I, List.forall_mem_cons.mpr ⟨hI2D, offI2⟩⟩)
              have F₆ := fr_but F' hk₆ hI2L hI20
              exact hR2 h₆ tk₆ ys m' news' (range_st (i + 1) h₃ h₆ oI news' hst₃ heI (N₆ (I, oI) (.head _)).1 F₆.keep (fun p hp => N₆ p (.tail _ (.tail _ hp))) trivial) F₆ (hn'.at' fun o e => hk₆ _ o (by simpa using hI2C) e) (fun p hp => N₆ p (.tail _ hp)) off' (hnext _ _ _ hlt hJ')
          · rcases List.mem_cons.mp hp with rfl | hp
            · exact .head _
            · exact .tail _ (.tail _ hp)
        refine start_two1 (loop2 _ ?_ _ rfl) (W2.self 0 _ _ _ hit0 (loop2 _ ?_ _ rfl))
        all_goals (
          intro h' tk' ys' m'' news'' a1 a2 a3 a4 a5 a6
          exact ⟨n + 1 - (i + 1), by omega, fun K k9 => k9 h' tk' (i + 1) ys' m'' news'' hlt a1 a2 a3 a4 a5 a6⟩)
      · obtain rfl : i = n := Nat.le_antisymm hi (Nat.not_lt.mp hlt)
        refine W.done _ _ _ hst' fun h₂ tk₂ hk₂ => ?_
        have off3 := off'.mem
        exact hRR _ _ h₂ tk₂ _ ys news' (fr_but F' hk₂ hIL hI₀) (news_but N' hk₂ (List.forall_mem_cons.mpr ⟨Ne.symm hDI, fun p hp => (off3 p hp).1⟩)) off'.one (hn'.at' fun o e => hk₂ _ o (by simpa using Ne.symm hCI) e) hC₀ hD₀ hCL hDL (Ne.symm hDC) (fun p hp => (off3 p hp).2.1) (hdone _ _ hJ')
    · rcases List.mem_cons.mp hp with rfl | hp
      · exact ⟨hacc, hDL, hD₀⟩
      · exact ⟨old _ _ (N p hp).1, (N p hp).2⟩
  exact codeAny_compStart_list (loop _ rfl) (W.self 0 _ _ _ hst₁ (loop _ rfl))
end
end

section
theorem off_B25 : True ∧ True := by
  w_top off
  walk1
  all_goals trivial

open PyProof.V LCg
section
variable {prog : Program} {w : World} {A : Around} {E : Value → Shared → Prop} {s : Shared} {h₀ : Heap} {L : Addr} {m : Str → Option Value} {env : Env}
def Src2 (prog : Program) (w : World) (A : Around) (h₀ : Heap) (L : Addr) (m : Str → Option Value) (env : Env) (elt it2 : Expr) (x y : Str) (scope : Scope) (cl : List (Str × Addr)) (Q : Value → Shared → Prop) (z : Value) (s₁ : Shared) : Prop :=
  ∃ (r : Addr) (t u v : Tok) (n : Nat) (N2 : Nat → Nat) (J : Nat → Nat → List Value → List (Addr × Obj) → Prop) (news : List (Addr × Obj)), z = .ref r ∧ A.handled = none ∧ Fr h₀ L s₁.heap m ∧ News h₀ L s₁.heap news ∧ IsRange s₁.heap r 0 (n : Int) 1 t u v ∧ Builtin.Range.small 0 (n : Int) 1 = true ∧ Builtin.Range.rangeSize 0 (n : Int) 1 = (n : Int) ∧
    (∀ i j ys news, J i j ys news → ys.length ≤ sizeLine) ∧ J 0 0 [] news ∧
    (∀ i ys news t I oI C oC D m₂ h tk (E' : Value → Shared → Prop), i < n → J i 0 ys news → NsObj oC m₂ → m₂ x = some (.int (0 + (i : Int)) t) → Fr h₀ L h m → News h₀ L h ((I, oI) :: (C, oC) :: (D, lst ys) :: news) → Off3 I C D news → ((@Ne Nat I C) ∧ (@Ne Nat I D) ∧ (@Ne Nat C D)) →
      wpAny (model prog w) A (eval it2 (compEnvC scope cl C env)) (It2End h₀ L m { s₁ with heap := h, toks := tk } ((I, oI) :: (C, oC) :: (D, lst ys) :: news) (N2 i)) E' { s₁ with heap := h, toks := tk }) ∧
    (∀ i j ys news t t' I2 oI2 I oI C oC D m₂ h tk (E' : Value → Shared → Prop), i < n → j < N2 i → J i j ys news → NsObj oC m₂ → m₂ x = some (.int (0 + (i : Int)) t) → m₂ y = some (.int (0 + (j : Int)) t') → Fr h₀ L h m → News h₀ L h ((I2, oI2) :: (I, oI) :: (C, oC) :: (D, lst ys) :: news) → Off3 I C D news → (∀ p ∈ news, p.1 ≠ I2) → ((@Ne Nat I C) ∧ (@Ne Nat I D) ∧ (@Ne Nat C D) ∧ (@Ne Nat I2 I) ∧ (@Ne Nat I2 C) ∧ (@Ne Nat I2 D)) →
      wpAny (model prog w) A (eval elt (compEnvC scope cl C env)) (El2End h₀ L m { s₁ with heap := h, toks := tk } I2 oI2 I oI C oC D (lst ys) (fun z news' => Stop (J i (j + 1) (ys ++ [z]) news'))) E' { s₁ with heap := h, toks := tk }) ∧
    (∀ i ys news, i < n → J i (N2 i) ys news → J (i + 1) 0 ys news) ∧
    (∀ ys news, J n 0 ys news → FinE h₀ L m s₁ Q ys news)
theorem ListComp2_U {elt it1 it2 : Expr} {x y : Str} {px py : Pos} {scope : Scope} {cl : List (Str × Addr)} {pos : Pos} {Q : Value → Shared → Prop}
    (h : wpAny (model prog w) A (eval it1 env) (Src2 prog w A h₀ L m env elt it2 x y scope cl Q) E s) (_F₀ : Fr h₀ L s.heap m := by k_asm) (hclos : closureFor scope env = pure cl := by rfl) (hcell : ∀ y ∈ scope.names, y.2 ≠ .cell := by decide) (hkind : scope.kind = .function := by rfl)
    (hnames : ∀ y ∈ scope.names, y.2 = .local → scope.names.lookup y.1 = some .local := by decide) (hx : scope.names.lookup x = some .local := by rfl) (hy : scope.names.lookup y = some .local := by rfl) (hxy : x ≠ y := by decide)
    (hs : ∀ x, foldedSetIterable it1 env x = pure x := by intro _; rfl) (hf : ∀ C z, foldedSetIterable it2 (compEnvC scope cl C env) z = pure z := by intro _ _; rfl) :
    wpAny (model prog w) A (eval (.ListComp elt [⟨.Name x px, it1, [], 0⟩, ⟨.Name y py, it2, [], 0⟩] scope pos) env) Q E s := by
  rw [eval_ListComp]
  refine wpAny_comprehension_free (use := none) rfl hs hclos hkind hnames (wpAny_mono h (fun xv s₁ h₁ => ?_) fun _ _ e => e)
  obtain ⟨r, t, u, v, n, N2, J, news, rfl, hh, F, N, hr, hsm, hn, hsz, hJ, hi, he, hnx, hd⟩ := h₁
  refine wpAny_pyIter_range hr hsm ?_
  refine block2 (Fin := FinE h₀ L m s₁ Q) J hh hsz hcell hkind hx hy hxy (by show IsRangeIter _ _ _ _ _; rw [hn]; simpa using Heap.get?_push_size _ rfl) (by show s₁.heap.objs.size < (s₁.heap.push _).objs.size; rw [Heap.size_push]; exact Nat.lt_succ_self _)
    (F.keeps fun _ _ e => Heap.get?_push_of_some _ e) (N.grown fun _ _ e => Heap.get?_push_of_some _ e) (Nat.ne_of_lt F.ns.lt) (next_is_new F) (fun p hp => Nat.ne_of_lt (Heap.lt_size (N p hp).1)) hJ hi he hnx hd ?_ hf
  intro D C h tk m' ys news' F' N' o1 hn hC₀ hD₀ hCL hDL hCD offC fin
  refine ⟨m', hn, fun h'' hs'' => fin D h'' tk (F'.change hs'' hCL hC₀) (fun p hp => ?_) o1⟩
  refine ⟨hs''.extBut _ _ ?_ (N' p hp).1, (N' p hp).2⟩
  rcases List.mem_cons.mp hp with rfl | hp
  · exact Ne.symm hCD
  · exact offC p hp
end
end

section
theorem off_S0 : True ∧ True := by
  w_top off
  walk1
  all_goals trivial

/-- the law's ledger -/
def led (L : Nat) (o1 o2 o3 o4 o5 o6 o7 : Obj) (ps : Array Value) (t57 t64 rest : List (Addr × Obj)) : List (Addr × Obj) :=
  ((L + 1 : Nat), o1) :: ((L + 1 + 1 : Nat), o2) :: ((L + 1 + 1 + 1 : Nat), o3) :: ((L + 1 + 1 + 1 + 1 : Nat), o4) :: ((L + 1 + 1 + 1 + 1 + 1 : Nat), o5) :: ((L + 1 + 1 + 1 + 1 + 1 + 1 : Nat), o6) :: ((L + 1 + 1 + 1 + 1 + 1 + 1 + 1 : Nat), o7) :: (97, tabObj ps) :: (t57 ++ (t64 ++ rest))
theorem led_tabs {L : Nat} {o1 o2 o3 o4 o5 o6 o7 : Obj} {ps : Array Value} {t57 t64 rest : List (Addr × Obj)} : ∀ p ∈ t57 ++ (t64 ++ rest), p ∈ led L o1 o2 o3 o4 o5 o6 o7 ps t57 t64 rest := fun _ hp => .tail _ (.tail _ (.tail _ (.tail _ (.tail _ (.tail _ (.tail _ (.tail _ hp)))))))
theorem led_rest {L : Nat} {o1 o2 o3 o4 o5 o6 o7 : Obj} {ps : Array Value} {t57 t64 t : List (Addr × Obj)} {p : Addr × Obj} (h : p ∈ t) : p ∈ led L o1 o2 o3 o4 o5 o6 o7 ps t57 t64 t := led_tabs p (List.mem_append_right _ (List.mem_append_right _ h))
def ledH (L : Nat) (o1 o2 o3 o4 o5 o6 o7 : Obj) (ps : Array Value) (t57 t64 : List (Addr × Obj)) : List (Addr × Obj) :=
  ((L + 1 : Nat), o1) :: ((L + 1 + 1 : Nat), o2) :: ((L + 1 + 1 + 1 : Nat), o3) :: ((L + 1 + 1 + 1 + 1 : Nat), o4) :: ((L + 1 + 1 + 1 + 1 + 1 : Nat), o5) :: ((L + 1 + 1 + 1 + 1 + 1 + 1 : Nat), o6) :: ((L + 1 + 1 + 1 + 1 + 1 + 1 + 1 : Nat), o7) :: (97, tabObj ps) :: (t57 ++ t64)
theorem led_eq {L : Nat} {o1 o2 o3 o4 o5 o6 o7 : Obj} {ps : Array Value} {t57 t64 t : List (Addr × Obj)} : led L o1 o2 o3 o4 o5 o6 o7 ps t57 t64 t = ledH L o1 o2 o3 o4 o5 o6 o7 ps t57 t64 ++ t := congrArg (fun l => _ :: _ :: _ :: _ :: _ :: _ :: _ :: _ :: l) (List.append_assoc t57 t64 t).symm
theorem led_mem {L : Nat} {o1 o2 o3 o4 o5 o6 o7 : Obj} {ps : Array Value} {t57 t64 t : List (Addr × Obj)} {p : Addr × Obj} : p ∈ led L o1 o2 o3 o4 o5 o6 o7 ps t57 t64 t ↔ p ∈ ledH L o1 o2 o3 o4 o5 o6 o7 ps t57 t64 ∨ p ∈ t := by
  rw [led_eq]; exact List.mem_append
def NoCell (o : Obj) : Prop := ∀ v, o.data ≠ .cell v
def GoodR (rest : List (Addr × Obj)) : Prop := ∀ p ∈ rest, p.1 ≠ 57 ∧ p.1 ≠ 64 ∧ p.1 ≠ 97 ∧ NoCell p.2
theorem tab_nocell {P ln col : Nat} {qual : Str} {tb : List (Addr × Obj)} (h : TabSt P ln col qual tb) : ∀ p ∈ tb, NoCell p.2 := by
  cases h with
  | fresh => intro p hp v; rw [List.mem_singleton.mp hp]; exact fun e => nomatch e
  | used a b c =>
    intro p hp v
    rcases List.mem_cons.mp hp with rfl | hp
    · exact fun e => nomatch e
    · rw [List.mem_singleton.mp hp, a]; exact fun e => nomatch e
theorem offT {h₀ h : Heap} {L c : Addr} {news a b rest : List (Addr × Obj)} {oc : Obj} {v : Option Value} (N : News h₀ L h news) (hc : (c, oc) ∈ news) (hd : oc.data = .cell v) (hs : ∀ p ∈ a ++ (b ++ rest), p ∈ news) (ha : T57 a) (hb : T64 b) (hr : GoodR rest) : ∀ p ∈ a ++ (b ++ rest), p.1 ≠ c := by
  intro p hp e
  have h1 := (N p (hs p hp)).1
  have h2 := (N _ hc).1
  rw [e, h2] at h1
  have e2 : p.2 = oc := (Option.some.inj h1).symm
  have : NoCell p.2 := by
    rcases List.mem_append.mp hp with hp | hp
    · exact tab_nocell ha p hp
    · rcases List.mem_append.mp hp with hp | hp
      · exact tab_nocell hb p hp
      · exact (hr p hp).2.2.2
  exact this v (by rw [e2]; exact hd)
end

section
theorem off_S1 : True ∧ True := by
  w_top off
  walk1
  all_goals trivial

local macro_rules | `(tactic| k_ne) => `(tactic| (refine neN ?_; (try dsimp only); first | assumption | exact Ne.symm (by assumption) | omega))
local macro_rules | `(tactic| walk_at "execs cons") => `(tactic| with_reducible refine stIf ?_)
local macro_rules | `(tactic| walk_at "call ref") => `(tactic| (refine Stop.of ?_))
set_option maxHeartbeats 4000000 in
theorem s1 {w : World} {o : Obj} {fd : FuncData} {body : List Stmt} (ho : (hd.heap_1 w.params).lookup 142 = some o) (hfd : o.data = .func fd) (hbd : fd.body = .stmts body) {p : Program} {loose : List Str} {mean : ExcName → Option Value} {mg mb : Str → Option Value} {g : Heap} {L : Nat} {fa : Addr} {cd : Value} {s : Shared} {Q : Flow → Shared → Prop} {E : Value → Shared → Prop} (B : Below callerA g [] g) (X : (hd.heap_1 w.params).In g) (T : Top p loose mean mg mb g) {l : Addr} {vs : List Value} {ns : List Int} {o1 o2 o3 o4 o5 o6 o7 : Obj} (d1 : o1.data = .cell none) (d2 : o2.data = .cell none) (hlb : g.IsList l vs.toArray) (hvs : IntsAre vs ns) (hn : ns.length < 64)
    (F : Fr g L s.heap (fun y => if y = Str.ofString "script" then some (.ref l) else none)) (N : News g L s.heap (led L o1 o2 o3 o4 o5 o6 o7 #[] [(57, tabObj #[])] [(64, tabObj #[])] []))
    (hnext : ∀ (h : Heap) (tk : Tok) (cs : List Int) (d9 : Addr) (ws9 : List Value) (k9 cnt : Nat) (tcnt : Tok) (lt : Addr) (wsl : List Value) (kl : Nat) (ps : Array Value) (oc1 oc2 : Obj) (rest : List (Addr × Obj)), IntsAre ws9 cs → cs.length = 5 → (∀ c ∈ cs, 0 ≤ c ∧ c < 1000000000) → 2 + (cs.getD 0 0).fmod 3 = (cnt : Int) → 2 ≤ cnt ∧ cnt ≤ 4 → (d9, listOf ws9.toArray k9) ∈ rest → (lt, listOf wsl.toArray kl) ∈ rest → PairsAre rest wsl (lineP (fun s => 1 + wn (cs.getD 0 0) s) cnt) →
      oc1.data = .cell (some (.ref d9)) → oc2.data = .cell (some (.int (cnt : Int) tcnt)) → GoodR rest → Fr g L h (fun y => if y = Str.ofString "laid" then some (.ref lt) else if y = Str.ofString "script" then some (.ref l) else none) → News g L h (led L oc1 oc2 o3 o4 o5 o6 o7 ps [(57, tabObj #[])] [(64, tabObj #[])] rest) →
      wpAny (model Pg w) (callerA.deeper (envOfC "law" fd.scope L fa cd)) (execs (body.drop 3) (envOfC "law" fd.scope L fa cd)) Q E { s with heap := h, toks := tk }) :
    wpAny (model Pg w) (callerA.deeper (envOfC "law" fd.scope L fa cd)) (execs (body.drop 0) (envOfC "law" fd.scope L fa cd)) Q E s := by
  have eo := lk_inj ho (by k_is)
  subst eo
  cases hfd
  cases hbd
  dsimp only [List.drop] at hnext ⊢
  unfold led at N
  have hL := low_L X F
  simp only [List.cons_append, List.nil_append] at N
  k_steps
  unfold Stop
  refine' CtrH.at (cells_C (ns := ns) hvs hn) hlb ?B ?F ?X ?N ?T ?hk ?hd ?hu ?_
  case F => k_asm
  case N => k_asm
  case B => k_asm
  case X => k_asm
  case T => k_asm
  case hk => rfl
  case hd => decide +kernel
  case hu => decide +kernel
  intro r9 n9 h9 t9 F9 N9 P9
  obtain ⟨d9, ws9, cs9, k9, e9, hi9, f9, cl9, cb9, cne9⟩ := P9
  subst e9
  subst f9
  simp only [LCg.Off1, and_true] at cne9
  obtain ⟨n1, n2, n3, n4, n5, n6, n7, n97, n57, n64⟩ := cne9
  (try dsimp only)
  (try k_sweep)
  (try k_fold)
  k_steps
  unfold Stop
  rename_i oc1 dc1 _ hz oc2 Fz Nz dc2 _
  have hc0 : 0 ≤ cs9.getD 0 0 ∧ cs9.getD 0 0 < 1000000000 := by
    refine cb9 _ ?_
    rw [List.getD_eq_getElem?_getD, List.getElem?_eq_getElem (by omega)]
    exact List.getElem_mem _
  have e0 : cs9.getD (Int.toNat 0) 0 = cs9.getD 0 0 := rfl
  rw [e0] at dc2 ⊢
  obtain ⟨cnt, hcnt, hcb⟩ : ∃ cnt : Nat, 2 + (cs9.getD 0 0).fmod 3 = (cnt : Int) ∧ 2 ≤ cnt ∧ cnt ≤ 4 := by
    rw [Int.fmod_eq_emod_of_nonneg _ (by decide)]
    obtain ⟨r, hr⟩ := Int.eq_ofNat_of_zero_le (Int.emod_nonneg (cs9.getD 0 0) (show (3 : Int) ≠ 0 by decide))
    have h3 := Int.emod_lt_of_pos (cs9.getD 0 0) (show (0 : Int) < 3 by decide)
    rw [hr] at h3 ⊢
    exact ⟨2 + r, rfl, Nat.le_add_right 2 r, Nat.add_le_add_left (Nat.le_of_lt_succ (Int.ofNat_lt.mp h3)) 2⟩
  rw [hcnt] at dc2 ⊢
  refine' Ctr.use (Ctr.sub (line_C (cell := cs9.getD 0 0) (count := cnt) (rest := [(d9, listOf ws9.toArray k9), (L + 1, oc1), (L + 1 + 1, oc2), (L + 1 + 1 + 1, o3), (L + 1 + 1 + 1 + 1, o4), (L + 1 + 1 + 1 + 1 + 1, o5), (L + 1 + 1 + 1 + 1 + 1 + 1, o6), (L + 1 + 1 + 1 + 1 + 1 + 1 + 1, o7), (57, tabObj #[]), (64, tabObj #[])]) ?h97 hc0.1 hc0.2 ?n0 ?n4) ?sub) ?B ?F ?X ?N ?T ?hk ?hd ?hu ?_
  case F => k_asm
  case N => exact Nz
  case sub =>
    skip
    repeat (refine List.forall_mem_cons.mpr ⟨by (repeat (first | exact List.Mem.head _ | refine List.Mem.tail _ ?_)), ?_⟩)
    first | exact List.forall_mem_nil _ | exact fun p hp => by (repeat (first | exact hp | refine List.Mem.tail _ ?_))
  case h97 => k_all
  case n0 => omega
  case n4 => exact hcb.2
  case B => k_asm
  case X => k_asm
  case T => k_asm
  case hk => rfl
  case hd => decide +kernel
  case hu => decide +kernel
  intro r9 n9 h9 t9 F9 N9 P9
  obtain ⟨lt, wsl, kl, tl, ps, e9, hpl, f9, hlt9, htl9⟩ := P9
  subst e9
  subst f9
  (try dsimp only)
  (try k_sweep)
  (try k_fold)
  k_steps
  unfold Stop
  rename Fr g L _ _ => Fe
  rename News g L _ _ => Ne
  refine hnext _ _ cs9 d9 ws9 k9 cnt _ lt wsl kl ps oc1 oc2 ((lt, listOf wsl.toArray kl) :: (d9, listOf ws9.toArray k9) :: tl) hi9 cl9 cb9 hcnt hcb (by simp) (by simp) (hpl.mono fun p hp => .tail _ (.tail _ hp)) dc1 dc2 ?good Fe (cb_drop Ne ?sub2)
  case sub2 =>
    unfold led
    repeat (refine List.forall_mem_cons.mpr ⟨by (repeat (first | exact List.Mem.head _ | refine List.Mem.tail _ ?_ | refine List.mem_append_right _ ?_)), ?_⟩)
    first | exact List.forall_mem_nil _ | exact fun p hp => by (repeat (first | exact hp | exact List.mem_append_left _ hp | refine List.Mem.tail _ ?_))
  case good =>
    intro p hp
    rcases List.mem_cons.mp hp with rfl | hp
    · exact ⟨Nat.ne_of_gt (Nat.lt_trans (by decide) hlt9), Nat.ne_of_gt (Nat.lt_trans (by decide) hlt9), Nat.ne_of_gt hlt9, fun v e => nomatch e⟩
    rcases List.mem_cons.mp hp with rfl | hp
    · exact ⟨by k_ne, by k_ne, by k_ne, fun v e => nomatch e⟩
    · have := htl9 p hp
      exact ⟨Nat.ne_of_gt (Nat.lt_trans (by decide) this.1), Nat.ne_of_gt (Nat.lt_trans (by decide) this.1), Nat.ne_of_gt this.1, this.2⟩
end

section
theorem off_B26 : True ∧ True := by
  w_top off
  walk1
  all_goals trivial

open PyProof.V LCg
section
variable {prog : Program} {w : World} {A : Around} {E : Value → Shared → Prop} {s : Shared} {h₀ : Heap} {L : Addr} {m : Str → Option Value} {env : Env}
theorem newEnv_one {M : Model} {scope : Scope} {globals : Addr} {closure : List (Str × Addr)} {qual : Str} {func : Option Addr} {code : Value} {outer : Env} {builtins : Addr} {Q : Env → Shared → Prop} {x n0 n1 n2 n3 : Str}
    (hn : scope.names = [(n0, .local), (x, .cell), (n1, .globalImplicit), (n2, .globalImplicit), (n3, .free)])
    (hQ : Q (newEnv scope s.heap.objs.size globals ((x, (s.heap.push { cls := .type "dict", data := .dict #[] }).objs.size) :: closure) qual func code (some outer) builtins) { s with heap := (s.heap.push { cls := .type "dict", data := .dict #[] }).push { cls := .type "cell", data := .cell none } }) :
    wpAny M A (newFunctionEnv scope globals closure [] qual func code (some outer) builtins) Q E s := by
  simp only [newFunctionEnv, Option.isSome_some, if_true]
  refine wpAny_bind (wpAny_alloc ?_)
  rw [hn]
  simp only [List.forIn_cons, List.forIn_nil, pure_bind, bind_assoc, show (NameKind.local == NameKind.cell) = false from rfl, show (NameKind.cell == NameKind.cell) = true from rfl, show (NameKind.globalImplicit == NameKind.cell) = false from rfl, show (NameKind.free == NameKind.cell) = false from rfl, Bool.false_eq_true, if_false, if_true]
  exact wpAny_bind (wpAny_alloc (wpAny_pure hQ))
end
end

section
theorem off_B27 : True ∧ True := by
  w_top off
  walk1
  all_goals trivial

open PyProof.V LCg
section
variable {prog : Program} {w : World} {A : Around} {E : Value → Shared → Prop} {s : Shared} {h₀ : Heap} {L : Addr} {m : Str → Option Value} {env : Env}
theorem blockX {elt iter : Expr} {x n0 n1 n2 n3 : Str} {px : Pos} {scope : Scope} {cl : List (Str × Addr)} {pos : Pos} {s₂ : Shared} {I : Addr} {n : Nat} {news : List (Addr × Obj)}
    {Fin : List Value → List (Addr × Obj) → Prop} {RR : Value → Addr → Result → Shared → Prop} (J : Nat → List Value → List (Addr × Obj) → Prop)
    (hh : A.handled = none) (hsz : ∀ i ys news, J i ys news → ys.length ≤ sizeLine)
    (hnm : scope.names = [(n0, .local), (x, .cell), (n1, .globalImplicit), (n2, .globalImplicit), (n3, .free)]) (hkind : scope.kind = .function)
    (hkx : ∀ C cl', Env.kindOf (compEnvC scope cl' C env) x = some .cell)
    (hst : IsRangeIter s₂.heap I (0 + ((0 : Nat) : Int) * 1) ((n : Int) - ((0 : Nat) : Int)) 1) (hIlt : I < s₂.heap.objs.size)
    (F : Fr h₀ L s₂.heap m) (N : News h₀ L s₂.heap news) (hIL : L ≠ I) (hI₀ : h₀.get? I = none) (off : ∀ p ∈ news, p.1 ≠ I) (hJ : J 0 [] news)
    (helt : ∀ i ys news t X oX I oI C oC D m₂ h tk (E' : Value → Shared → Prop), i < n → J i ys news → NsObj oC m₂ → oX.data = .cell (some (.int (0 + (i : Int)) t)) → Fr h₀ L h m → News h₀ L h ((X, oX) :: (I, oI) :: (C, oC) :: (D, lst ys) :: news) → Off3 I C D news → (∀ p ∈ news, p.1 ≠ X) → ((@Ne Nat I C) ∧ (@Ne Nat I D) ∧ (@Ne Nat C D) ∧ (@Ne Nat X I) ∧ (@Ne Nat X C) ∧ (@Ne Nat X D)) →
      wpAny (model prog w) A (eval elt (compEnvC scope ((x, X) :: cl) C env)) (El2End h₀ L m { s₂ with heap := h, toks := tk } X oX I oI C oC D (lst ys) (fun z news' => Stop (J (i + 1) (ys ++ [z]) news'))) E' { s₂ with heap := h, toks := tk })
    (hdone : ∀ ys news, J n ys news → Fin ys news)
    (hRR : ∀ D C h tk m' ys news', Fr h₀ L h m → News h₀ L h ((D, lst ys) :: news') → Off1 D news' → h.Ns C m' → h₀.get? C = none → h₀.get? D = none → C ≠ L → D ≠ L → C ≠ D → (∀ p ∈ news', p.1 ≠ C) → Fin ys news' → RR (.ref D) C (.ok .next) { s₂ with heap := h, toks := tk }) :
    wpAny (model prog w) A (newList []) (fun acc s₃ => wpAny (model prog w) A (newFunctionEnv scope env.globals cl [] env.qual none .none (some env)) (fun cenv s₄ =>
      codeAny (model prog w) A (.compStart (.ListComp elt [⟨.Name x px, iter, [], 0⟩] scope pos) 0 (.ref I) acc { cenv with scope := relabel scope env }) (RR acc cenv.locals) s₄) E s₃) E s₂ := by
  refine wpAny_newObj_type (newEnv_one hnm ?_)
  dsimp only
  generalize hH2 : s₂.heap.push { cls := .type "list", dict := none, data := .seq ([] : List Value).toArray } = H2
  have hC : H2.objs.size = s₂.heap.objs.size + 1 := by rw [← hH2, Heap.size_push]
  have hX : (H2.push { cls := .type "dict", data := .dict #[] }).objs.size = H2.objs.size + 1 := Heap.size_push ..
  have hns₁ : ((H2.push { cls := .type "dict", data := .dict #[] }).push { cls := .type "cell", data := .cell none }).Ns H2.objs.size (fun x => ([] : List (Str × Value)).reverse.lookup x) :=
    (Heap.Ns.new ..).keeps fun b o e => Heap.get?_push_of_some _ e
  have hcX : ((H2.push { cls := .type "dict", data := .dict #[] }).push { cls := .type "cell", data := .cell none }).get? (H2.push { cls := .type "dict", data := .dict #[] }).objs.size = some { cls := .type "cell", data := .cell none } := Heap.get?_push_size _ rfl
  have old₀ : ∀ b o, s₂.heap.get? b = some o → ((H2.push { cls := .type "dict", data := .dict #[] }).push { cls := .type "cell", data := .cell none }).get? b = some o := fun b o e => Heap.get?_push_of_some _ (Heap.get?_push_of_some _ (hH2 ▸ Heap.get?_push_of_some _ e))
  have hacc : ((H2.push { cls := .type "dict", data := .dict #[] }).push { cls := .type "cell", data := .cell none }).get? s₂.heap.objs.size = some (lst []) := Heap.get?_push_of_some _ (Heap.get?_push_of_some _ (hH2 ▸ Heap.get?_push_size _ rfl))
  generalize (H2.push { cls := .type "dict", data := .dict #[] }).push { cls := .type "cell", data := .cell none } = h₁ at hns₁ hcX old₀ hacc ⊢
  generalize (H2.push { cls := .type "dict", data := .dict #[] }).objs.size = X at hX hcX ⊢
  have hDC : s₂.heap.objs.size ≠ H2.objs.size := by rw [hC]; exact Nat.ne_of_lt (Nat.lt_succ_self _)
  have hXC : X ≠ H2.objs.size := by rw [hX]; exact Nat.succ_ne_self _
  have hXD : X ≠ s₂.heap.objs.size := by rw [hX, hC]; exact Nat.ne_of_gt (Nat.lt_succ_of_lt (Nat.lt_succ_self _))
  have below : ∀ b, b < s₂.heap.objs.size → b ≠ H2.objs.size ∧ b ≠ s₂.heap.objs.size ∧ b ≠ X := fun b hb => ⟨by rw [hC]; exact Nat.ne_of_lt (Nat.lt_succ_of_lt hb), Nat.ne_of_lt hb, by rw [hX, hC]; exact Nat.ne_of_lt (Nat.lt_succ_of_lt (Nat.lt_succ_of_lt hb))⟩
  have W := range_walks (prog := prog) (w := w) (A := A) (I := I) hh 0 n
  have hst₁ : IsRangeIter h₁ I (0 + ((0 : Nat) : Int) * 1) ((n : Int) - ((0 : Nat) : Int)) 1 := W.frame 0 _ _ hst fun b _ o e => old₀ b o e
  have fresh : ∀ a, s₂.heap.objs.size ≤ a → s₂.heap.get? a = none := fun a ha => by
    cases e : s₂.heap.get? a with
    | none => rfl
    | some o' => exact absurd (Heap.lt_size e) (Nat.not_lt.mpr ha)
  have fresh₀ : ∀ a, s₂.heap.objs.size ≤ a → h₀.get? a = none := fun a ha => by
    cases e : h₀.get? a with
    | none => rfl
    | some o' => have := F.keep a o' e; rw [fresh a ha] at this; cases this
  have hD₀ : h₀.get? s₂.heap.objs.size = none := fresh₀ _ (Nat.le_refl _)
  have hC₀ : h₀.get? H2.objs.size = none := fresh₀ _ (by rw [hC]; exact Nat.le_succ _)
  have hX₀ : h₀.get? X = none := fresh₀ _ (by rw [hX, hC]; exact Nat.le_succ_of_le (Nat.le_succ _))
  have hLlt : L < s₂.heap.objs.size := F.ns.lt
  have hDL : s₂.heap.objs.size ≠ L := Ne.symm (below L hLlt).2.1
  have hCL : H2.objs.size ≠ L := Ne.symm (below L hLlt).1
  have hXL : X ≠ L := Ne.symm (below L hLlt).2.2
  have hCI : I ≠ H2.objs.size := (below I hIlt).1
  have hDI : I ≠ s₂.heap.objs.size := (below I hIlt).2.1
  have hXI : I ≠ X := (below I hIlt).2.2
  have off₀ : Off3 I H2.objs.size s₂.heap.objs.size news := Off3.of fun p hp => ⟨off p hp, (below _ (Heap.lt_size (N p hp).1)).1, (below _ (Heap.lt_size (N p hp).1)).2.1⟩
  have offX₀ : ∀ p ∈ news, p.1 ≠ X := fun p hp => (below _ (Heap.lt_size (N p hp).1)).2.2
  generalize hDn : s₂.heap.objs.size = D at *
  generalize hCn : H2.objs.size = C at *
  have loop : ∀ s₃ : Shared, s₃ = { s₂ with heap := h₁ } →
      codeAny (model prog w) A (.compLoop (.ListComp elt [⟨.Name x px, iter, [], 0⟩] scope pos) 0 (.ref I) (.ref D) (compEnvC scope ((x, X) :: cl) C env)) (RR (.ref D) C) s₃ := by
    rintro s₃ rfl
    refine codeAny_compLoop_tests
      (fun k s' => ∀ K : Nat → Shared → Prop, (∀ h' tk i ys m' oX v news', i ≤ n → IsRangeIter h' I (0 + (i : Int) * 1) ((n : Int) - (i : Int)) 1 → Fr h₀ L h' m → h'.Ns C m' → oX.data = .cell v → News h₀ L h' ((X, oX) :: (D, lst ys) :: news') →
        Off3 I C D news' → (∀ p ∈ news', p.1 ≠ X) → J i ys news' → K (n + 1 - i) { s₂ with heap := h', toks := tk }) → K k s') ?_ (n + 1)
      (fun K k9 => k9 h₁ _ 0 [] _ { cls := .type "cell", data := .cell none } none news (Nat.zero_le _) hst₁ (F.keeps old₀) hns₁ rfl (fun p hp => ?_) off₀ offX₀ hJ)
    · intro k s' P9
      apply P9
      intro h' tk i ys m' oX v0 news' hi hst' F' hn' hoX N' off' offX hJ'
      clear P9
      by_cases hlt : i < n
      · refine W.item i _ _ _ hlt hst' fun v h₂ tk₂ hPv hst₂ hk₂ => ?_
        obtain ⟨t, rfl⟩ := hPv
        have off3 := off'.mem
        have N₂ : News h₀ L h₂ ((X, oX) :: (D, lst ys) :: news') := news_but N' hk₂ (List.forall_mem_cons.mpr ⟨Ne.symm hXI, List.forall_mem_cons.mpr ⟨Ne.symm hDI, fun p hp => (off3 p hp).1⟩⟩)
        refine wpAny_assign_Name (wpAny_storeName_cell hkind (hkx _ _) (c := X) (by show ((x, X) :: cl).lookup x = some X; simp) ⟨oX, (N₂ (X, oX) (.head _)).1, hoX⟩ (fun h₃ hv₃ hs₃ => ?_))
        refine wpAny_tests_nil ?_
        simp only [if_true]
        obtain ⟨oX3, heX, hoX3⟩ := hv₃
        have hs₃e : ∀ b o, b ≠ X → h₂.get? b = some o → h₃.get? b = some o := fun b o hb e => (hs₃.2 b hb).trans e
        have hst₃ : IsRangeIter h₃ I (0 + ((i + 1 : Nat) : Int) * 1) ((n : Int) - ((i + 1 : Nat) : Int)) 1 := W.frame (i + 1) _ _ hst₂ fun b hb o e => hs₃e b o (fun q => hXI (by rw [← List.mem_singleton.mp hb]; exact q)) e
        obtain ⟨oI, heI⟩ : ∃ o, h₃.get? I = some o := ⟨_, hst₃⟩
        have hn₂ : h₂.Ns C m' := hn'.at' fun o e => hk₂ _ o (by simpa using Ne.symm hCI) e
        have hn₃ : h₃.Ns C m' := hn₂.sameBut hs₃ (Ne.symm hXC)
        obtain ⟨oC, heC, hoC⟩ := ns_obj hn₃
        have F₃ : Fr h₀ L h₃ m := (fr_but F' hk₂ hIL hI₀).change hs₃ hXL hX₀
        have z2 := N₂ (D, lst ys) (.tail _ (.head _))
        have N₃ : News h₀ L h₃ ((X, oX3) :: (I, oI) :: (C, oC) :: (D, lst ys) :: news') := news_c ⟨heX, hXL, hX₀⟩ (news_c ⟨heI, Ne.symm hIL, hI₀⟩ (news_c ⟨heC, hCL, hC₀⟩ (news_c ⟨hs₃e _ _ (Ne.symm hXD) z2.1, z2.2⟩ fun p hp => ⟨hs₃e _ _ (offX p hp) (N₂ p (.tail _ (.tail _ hp))).1, (N₂ p (.tail _ (.tail _ hp))).2⟩)))
        refine wpAny_mono (helt i ys news' t X oX3 I oI C oC D _ h₃ _ _ hlt hJ' hoC hoX3 F₃ N₃ off' offX ⟨hCI, hDI, Ne.symm hDC, Ne.symm hXI, hXC, hXD⟩) (fun z s₈ h₈ => ?_) fun _ _ e => e
        obtain ⟨h₈, tk₈, news₈, rfl, F₈, N₈, off₈, offX₈, hJ₈⟩ := h₈
        have zX := N₈ (X, oX3) (.head _)
        have zI := N₈ (I, oI) (.tail _ (.head _))
        have zC := (N₈ (C, oC) (.tail _ (.tail _ (.head _)))).1
        have zD := (N₈ (D, lst ys) (.tail _ (.tail _ (.tail _ (.head _))))).1
        have N₈' : News h₀ L h₈ news₈ := fun p hp => N₈ p (.tail _ (.tail _ (.tail _ (.tail _ hp))))
        have hst₈ : IsRangeIter h₈ I (0 + ((i + 1 : Nat) : Int) * 1) ((n : Int) - ((i + 1 : Nat) : Int)) 1 := range_st (i + 1) h₃ h₈ oI news₈ hst₃ heI zI.1 F₈.keep N₈' trivial
        refine append_at (hsz := by show ys.toArray.size ≤ sizeLine; rw [List.size_toArray]; exact hsz _ _ _ hJ') zD fun h₉ hs₉ hD₉ => ?_
        have off4 := off₈.mem
        have N₉ : News h₀ L h₉ ((X, oX3) :: (D, lst (ys ++ [z])) :: news₈) := news_c ⟨hs₉.extBut _ _ hXD zX.1, zX.2⟩ (news_c ⟨hD₉.trans (congrArg some (lst_snoc ys z)), hDL, hD₀⟩ fun p hp => ⟨hs₉.extBut _ _ (off4 p hp).2.2 (N₈' p hp).1, (N₈' p hp).2⟩)
        exact ⟨n + 1 - (i + 1), by omega, fun K k9 => k9 h₉ tk₈ (i + 1) (ys ++ [z]) _ oX3 _ news₈ hlt (W.frame _ _ _ hst₈ fun b hb o e => hs₉.extBut b o (fun q => hDI (by rw [List.mem_singleton.mp hb] at q; exact q)) e) (F₈.change hs₉ hDL hD₀) ((hoC.ns zC).sameBut hs₉ (Ne.symm hDC)) hoX3 N₉ off₈ offX₈ hJ₈⟩
      · obtain rfl : i = n := Nat.le_antisymm hi (Nat.not_lt.mp hlt)
        refine W.done _ _ _ hst' fun h₂ tk₂ hk₂ => ?_
        have off3 := off'.mem
        exact hRR _ _ h₂ tk₂ _ ys news' (fr_but F' hk₂ hIL hI₀) (news_but (fun p hp => N' p (.tail _ hp)) hk₂ (List.forall_mem_cons.mpr ⟨Ne.symm hDI, fun p hp => (off3 p hp).1⟩)) off'.one (hn'.at' fun o e => hk₂ _ o (by simpa using Ne.symm hCI) e) hC₀ hD₀ hCL hDL (Ne.symm hDC) (fun p hp => (off3 p hp).2.1) (hdone _ _ hJ')
    · rcases List.mem_cons.mp hp with rfl | hp
      · exact ⟨hcX, hXL, hX₀⟩
      · rcases List.mem_cons.mp hp with rfl | hp
        · exact ⟨hacc, hDL, hD₀⟩
        · exact ⟨old₀ _ _ (N p hp).1, (N p hp).2⟩
  exact codeAny_compStart_list (loop _ rfl) (W.self 0 _ _ _ hst₁ (loop _ rfl))
def SrcX (prog : Program) (w : World) (A : Around) (h₀ : Heap) (L : Addr) (m : Str → Option Value) (env : Env) (elt : Expr) (x : Str) (scope : Scope) (cl : List (Str × Addr)) (Q : Value → Shared → Prop) (z : Value) (s₁ : Shared) : Prop :=
  ∃ (r : Addr) (t u v : Tok) (n : Nat) (J : Nat → List Value → List (Addr × Obj) → Prop) (news : List (Addr × Obj)), z = .ref r ∧ A.handled = none ∧ Fr h₀ L s₁.heap m ∧ News h₀ L s₁.heap news ∧ IsRange s₁.heap r 0 (n : Int) 1 t u v ∧ Builtin.Range.small 0 (n : Int) 1 = true ∧ Builtin.Range.rangeSize 0 (n : Int) 1 = (n : Int) ∧
    (∀ i ys news, J i ys news → ys.length ≤ sizeLine) ∧ J 0 [] news ∧
    (∀ i ys news t X oX I oI C oC D m₂ h tk (E' : Value → Shared → Prop), i < n → J i ys news → NsObj oC m₂ → oX.data = .cell (some (.int (0 + (i : Int)) t)) → Fr h₀ L h m → News h₀ L h ((X, oX) :: (I, oI) :: (C, oC) :: (D, lst ys) :: news) → Off3 I C D news → (∀ p ∈ news, p.1 ≠ X) → ((@Ne Nat I C) ∧ (@Ne Nat I D) ∧ (@Ne Nat C D) ∧ (@Ne Nat X I) ∧ (@Ne Nat X C) ∧ (@Ne Nat X D)) →
      wpAny (model prog w) A (eval elt (compEnvC scope ((x, X) :: cl) C env)) (El2End h₀ L m { s₁ with heap := h, toks := tk } X oX I oI C oC D (lst ys) (fun z news' => Stop (J (i + 1) (ys ++ [z]) news'))) E' { s₁ with heap := h, toks := tk }) ∧
    (∀ ys news, J n ys news → FinE h₀ L m s₁ Q ys news)
theorem ListCompX_U {elt iter : Expr} {x n0 n1 n2 n3 : Str} {px : Pos} {scope : Scope} {cl : List (Str × Addr)} {pos : Pos} {Q : Value → Shared → Prop}
    (h : wpAny (model prog w) A (eval iter env) (SrcX prog w A h₀ L m env elt x scope cl Q) E s) (_F₀ : Fr h₀ L s.heap m := by k_asm) (hclos : closureFor scope env = pure cl := by rfl) (hnm : scope.names = [(n0, .local), (x, .cell), (n1, .globalImplicit), (n2, .globalImplicit), (n3, .free)] := by rfl) (hkind : scope.kind = .function := by rfl)
    (hnames : ∀ y ∈ scope.names, y.2 = .local → scope.names.lookup y.1 = some .local := by decide) (hkx : ∀ C cl', Env.kindOf (compEnvC scope cl' C env) x = some .cell := by intro _ _; rfl)
    (hs : ∀ x, foldedSetIterable iter env x = pure x := by intro _; rfl) :
    wpAny (model prog w) A (eval (.ListComp elt [⟨.Name x px, iter, [], 0⟩] scope pos) env) Q E s := by
  rw [eval_ListComp]
  refine wpAny_comprehension_free (use := none) rfl hs hclos hkind hnames (wpAny_mono h (fun xv s₁ h₁ => ?_) fun _ _ e => e)
  obtain ⟨r, t, u, v, n, J, news, rfl, hh, F, N, hr, hsm, hn, hsz, hJ, he, hd⟩ := h₁
  refine wpAny_pyIter_range hr hsm ?_
  refine blockX (Fin := FinE h₀ L m s₁ Q) J hh hsz hnm hkind hkx (by show IsRangeIter _ _ _ _ _; rw [hn]; simpa using Heap.get?_push_size _ rfl) (by show s₁.heap.objs.size < (s₁.heap.push _).objs.size; rw [Heap.size_push]; exact Nat.lt_succ_self _)
    (F.keeps fun _ _ e => Heap.get?_push_of_some _ e) (N.grown fun _ _ e => Heap.get?_push_of_some _ e) (Nat.ne_of_lt F.ns.lt) (next_is_new F) (fun p hp => Nat.ne_of_lt (Heap.lt_size (N p hp).1)) hJ he hd ?_
  intro D C h tk m' ys news' F' N' o1 hn hC₀ hD₀ hCL hDL hCD offC fin
  refine ⟨m', hn, fun h'' hs'' => fin D h'' tk (F'.change hs'' hCL hC₀) (fun p hp => ?_) o1⟩
  refine ⟨hs''.extBut _ _ ?_ (N' p hp).1, (N' p hp).2⟩
  rcases List.mem_cons.mp hp with rfl | hp
  · exact Ne.symm hCD
  · exact offC p hp
end
end

section
theorem off_B28 : True ∧ True := by
  w_top off
  walk1
  all_goals trivial

open PyProof.V LCg
section
variable {prog : Program} {w : World} {A : Around} {E : Value → Shared → Prop} {s : Shared} {h₀ : Heap} {L : Addr} {m : Str → Option Value} {env : Env}
theorem compT_ind {ct elt : Expr} {x : Str} {scope : Scope} {cl : List (Str × Addr)} {S : List (Addr × Obj) → Prop} {P : Nat → Value → Prop} {Fin : List Value → List (Addr × Obj) → Prop} {n : Nat} (J : Nat → List Value → List (Addr × Obj) → Prop)
    (turn : ∀ i ys news v I oI C oC D m₂ h tk (E' : Value → Shared → Prop), i < n → J i ys news → P i v → LCg.NsObj oC m₂ → m₂ x = some v → Fr h₀ L h m → News h₀ L h ((I, oI) :: (C, oC) :: (D, LCg.lst ys) :: news) → LCg.Off3 I C D news → ((@Ne Nat I C) ∧ (@Ne Nat I D) ∧ (@Ne Nat C D)) →
      wpAny (model prog w) A (isTrue ct (compEnvC scope cl C env) (eval ct (compEnvC scope cl C env))) (fun ok s' => if ok = true then
        wpAny (model prog w) A (eval elt (compEnvC scope cl C env)) (LCg.CompEnd h₀ L m { s with heap := h, toks := tk } I oI C oC D (LCg.lst ys) S (fun y news' => Stop (J (i + 1) (ys ++ [y]) news'))) E' s'
        else LCg.CompEnd h₀ L m { s with heap := h, toks := tk } I oI C oC D (LCg.lst ys) S (fun _ news' => Stop (J (i + 1) ys news')) Value.none s') E' { s with heap := h, toks := tk })
    (done : ∀ ys news, J n ys news → Fin ys news) :
    ∀ k i ys news, i + k = n → J i ys news → LCt.CompRestT prog w A h₀ L m env ct elt x scope cl s S P Fin k i ys news
  | 0, i, ys, news, e, hJ => .zero (done ys news (by rw [← e]; exact hJ))
  | k + 1, i, ys, news, e, hJ => .succ fun v I oI C oC D m₂ h tk E' hP hn hx F N o hne => wpAny_mono (turn i ys news v I oI C oC D m₂ h tk E' (by omega) hJ hP hn hx F N o hne) (fun ok s' hp => by
      cases ok with
      | true =>
        simp only [if_true] at hp ⊢
        exact wpAny_mono hp (fun y s₂ hp => compEnd_mono hp fun y n' hr => compT_ind J turn done k (i + 1) (ys ++ [y]) n' (by omega) hr) fun _ _ e => e
      | false =>
        simp only [Bool.false_eq_true, if_false] at hp ⊢
        exact compEnd_mono hp fun y n' hr => compT_ind J turn done k (i + 1) ys n' (by omega) hr) fun _ _ e => e
end
open LCt LCg in
theorem lcT {prog : Program} {w : World} {A : Around} {E : Value → Shared → Prop} {s : Shared} {env : Env} {h₀ : Heap} {L : Addr} {m : Str → Option Value} {ct elt iter : Expr} {x : Str} {px : Pos} {scope : Scope} {cl : List (Str × Addr)} {pos : Pos} {Q : Value → Shared → Prop}
    (h : wpAny (model prog w) A (eval iter env) (CompSrcT prog w A h₀ L m env ct elt x scope cl (fun s₂ => FinE h₀ L m s₂ Q)) E s) (F₀ : Fr h₀ L s.heap m := by k_asm) (hclos : closureFor scope env = pure cl := by with_unfolding_all rfl) (hcell : ∀ y ∈ scope.names, y.2 ≠ .cell := by decide) (hkind : scope.kind = .function := by rfl)
    (hnames : ∀ y ∈ scope.names, y.2 = .local → scope.names.lookup y.1 = some .local := by decide) (hx : scope.names.lookup x = some .local := by rfl) (hs : ∀ x, foldedSetIterable iter env x = pure x := by intro _; rfl) :
    wpAny (model prog w) A (eval (.ListComp elt [⟨.Name x px, iter, [ct], 0⟩] scope pos) env) Q E s := LCt.ListComp_T F₀ hclos hcell hkind hnames hx h hs
end

section
theorem off_B29 : True ∧ True := by
  w_top off
  walk1
  all_goals trivial

def FrOk (fr : List (Addr × Obj)) : Prop := ∀ p ∈ fr, (@Ne Nat p.1 57) ∧ (@Ne Nat p.1 64)
theorem frok_nil : FrOk [] := List.forall_mem_nil _
theorem frok_ne {a : Nat} {o : Obj} {R : List (Addr × Obj)} (h1 : @Ne Nat a 57) (h2 : @Ne Nat a 64) (h : FrOk R) : FrOk ((a, o) :: R) := List.forall_mem_cons.mpr ⟨⟨h1, h2⟩, h⟩
theorem frok_big {a : Nat} {o : Obj} {R : List (Addr × Obj)} (hb : @LT.lt Nat _ 142 a) (h : FrOk R) : FrOk ((a, o) :: R) := frok_ne (Nat.ne_of_gt (Nat.lt_trans (by decide) hb)) (Nat.ne_of_gt (Nat.lt_trans (by decide) hb)) h
theorem frok_97 {o : Obj} {R : List (Addr × Obj)} (h : FrOk R) : FrOk (((97 : Nat), o) :: R) := frok_ne (by decide) (by decide) h
theorem frok8 {L : Nat} {o1 o2 o3 o4 o5 o6 o7 o8 : Obj} (h : 142 < L) : FrOk [((L + 1 : Nat), o1), ((L + 1 + 1 : Nat), o2), ((L + 1 + 1 + 1 : Nat), o3), ((L + 1 + 1 + 1 + 1 : Nat), o4), ((L + 1 + 1 + 1 + 1 + 1 : Nat), o5), ((L + 1 + 1 + 1 + 1 + 1 + 1 : Nat), o6), ((L + 1 + 1 + 1 + 1 + 1 + 1 + 1 : Nat), o7), ((97 : Nat), o8)] := by
  have h1 := Nat.lt_succ_of_lt h
  have h2 := Nat.lt_succ_of_lt h1
  have h3 := Nat.lt_succ_of_lt h2
  have h4 := Nat.lt_succ_of_lt h3
  have h5 := Nat.lt_succ_of_lt h4
  have h6 := Nat.lt_succ_of_lt h5
  exact frok_big h1 (frok_big h2 (frok_big h3 (frok_big h4 (frok_big h5 (frok_big h6 (frok_big (Nat.lt_succ_of_lt h6) (frok_97 frok_nil)))))))
theorem fr_in {fr a b R : List (Addr × Obj)} : ∀ p ∈ a ++ (b ++ (fr ++ R)), p ∈ fr ++ (a ++ (b ++ R)) := by
  intro p hp
  simp only [List.mem_append] at hp ⊢
  grind
theorem fr_out {fr a b R : List (Addr × Obj)} : ∀ p ∈ fr ++ (a ++ (b ++ R)), p ∈ a ++ (b ++ (fr ++ R)) := by
  intro p hp
  simp only [List.mem_append] at hp ⊢
  grind
theorem fr57 {fr R : List (Addr × Obj)} (hfr : FrOk fr) (hR : GoodR R) : ∀ p ∈ fr ++ R, p.1 ≠ 57 := fun p hp => (List.mem_append.mp hp).elim (fun h => (hfr p h).1) (fun h => (hR p h).1)
theorem fr64 {fr R : List (Addr × Obj)} (hfr : FrOk fr) (hR : GoodR R) : ∀ p ∈ fr ++ R, p.1 ≠ 64 := fun p hp => (List.mem_append.mp hp).elim (fun h => (hfr p h).2) (fun h => (hR p h).2.1)
theorem tabs_off {fr t57' t64' R news : List (Addr × Obj)} (h1 : T57 t57') (h2 : T64 t64') (hfr : FrOk fr) (hc : ∀ p ∈ news, ∀ q ∈ news, p.1 = q.1 → p.2 = q.2) (hs : ∀ p ∈ t57' ++ (t64' ++ (fr ++ R)), p ∈ news) : ∀ q ∈ fr, NoCode q.2 → ∀ p ∈ t57' ++ t64', p.1 ≠ q.1 := by
  intro q hq hno p hp
  have hqn : q ∈ news := hs q (List.mem_append_right _ (List.mem_append_right _ (List.mem_append_left _ hq)))
  rcases List.mem_append.mp hp with hp | hp
  · exact tab_off h1 hc (fun x hx => hs x (List.mem_append_left _ hx)) hqn hno (hfr q hq).1 p hp
  · exact tab_off h2 hc (fun x hx => hs x (List.mem_append_right _ (List.mem_append_left _ hx))) hqn hno (hfr q hq).2 p hp
theorem cons_sub {α : Type} {x : α} {a b : List α} (h : ∀ p ∈ a, p ∈ b) : ∀ p ∈ x :: a, p ∈ x :: b := fun p hp => (List.mem_cons.mp hp).elim (fun e => e ▸ .head _) (fun hp => .tail _ (h p hp))
theorem led8 {x0 x1 x2 x3 x4 x5 x6 x7 : Addr × Obj} {r : List (Addr × Obj)} : x0 :: x1 :: x2 :: x3 :: x4 :: x5 :: x6 :: x7 :: r = [x0, x1, x2, x3, x4, x5, x6, x7] ++ r := rfl
theorem led9 {x0 x1 x2 x3 x4 x5 x6 x7 x8 : Addr × Obj} {r : List (Addr × Obj)} : x0 :: x1 :: x2 :: x3 :: x4 :: x5 :: x6 :: x7 :: x8 :: r = [x0, x1, x2, x3, x4, x5, x6, x7, x8] ++ r := rfl
theorem led10 {x0 x1 x2 x3 x4 x5 x6 x7 x8 x9 : Addr × Obj} {r : List (Addr × Obj)} : x0 :: x1 :: x2 :: x3 :: x4 :: x5 :: x6 :: x7 :: x8 :: x9 :: r = [x0, x1, x2, x3, x4, x5, x6, x7, x8, x9] ++ r := rfl
theorem led11 {x0 x1 x2 x3 x4 x5 x6 x7 x8 x9 x10 : Addr × Obj} {r : List (Addr × Obj)} : x0 :: x1 :: x2 :: x3 :: x4 :: x5 :: x6 :: x7 :: x8 :: x9 :: x10 :: r = [x0, x1, x2, x3, x4, x5, x6, x7, x8, x9, x10] ++ r := rfl
theorem step_L {w : World} {fr t57 t64 R : List (Addr × Obj)} {N0 : List (Addr × Obj)} (e0 : N0 = fr ++ (t57 ++ (t64 ++ R)) := by first | exact led8 | exact led9 | exact led10 | exact led11) (h1 : T57 t57 := by assumption) (h2 : T64 t64 := by assumption) (hfr : FrOk fr := by repeat' (first | exact frok8 (by assumption) | refine frok_ne (by omega) (by omega) ?_)) (hR : GoodR R := by assumption) {l : Addr} {vs : List Value} {ns : List Int} {n : Nat} (hl : (l, listOf vs.toArray n) ∈ R := by k_mem) (hvs : IntsAre vs ns := by assumption) (hn : ns.length < 256 := by omega) (hs : Srt ns := by assumption) {y : Int} {ty : Tok} (hy : y.natAbs < 2 ^ 60 := by first | assumption | omega) (hn0 : 0 < ns.length := by omega) :
    Ctr w 130 [.ref l, .int y ty] [] 18 N0 (fun r n' => ∃ D u v t57' t64', r = .ref D ∧ T57 t57' ∧ T64 t64' ∧ n' = (D, tupOf #[.int (atV ns y) u, .int (stepR ns y) v]) :: (fr ++ (t57' ++ (t64' ++ R))) ∧ (∀ p ∈ fr ++ (t57' ++ (t64' ++ R)), p.1 < D) ∧ (∀ q ∈ fr, NoCode q.2 → ∀ p ∈ t57' ++ t64', p.1 ≠ q.1)) := by
  subst e0
  refine Ctr.conv (step_C (rest := fr ++ R) h1 h2 (fr57 hfr hR) (fr64 hfr hR) (List.mem_append_right _ hl) hvs hn hs hy hn0) fr_in ?_
  rintro r n' ⟨D, u, v, a9, b9, e, hA, hB, rfl, hlt⟩ hc
  exact ⟨(D, tupOf #[.int (atV ns y) u, .int (stepR ns y) v]) :: (fr ++ (a9 ++ (b9 ++ R))), cons_sub fr_out, D, u, v, a9, b9, e, hA, hB, rfl, fun p hp => hlt p (fr_out p hp), tabs_off hA hB hfr hc (fun p hp => .tail _ hp)⟩
theorem ranks_L {w : World} {fr t57 t64 R : List (Addr × Obj)} {N0 : List (Addr × Obj)} (e0 : N0 = fr ++ (t57 ++ (t64 ++ R)) := by first | exact led8 | exact led9 | exact led10 | exact led11) (h1 : T57 t57 := by assumption) (h2 : T64 t64 := by assumption) (hfr : FrOk fr := by repeat' (first | exact frok8 (by assumption) | refine frok_ne (by omega) (by omega) ?_)) (hR : GoodR R := by assumption) {l : Addr} {vs : List Value} {ns : List Int} {n : Nat} (hl : (l, listOf vs.toArray n) ∈ R := by k_mem) (hvs : IntsAre vs ns := by assumption) (hn : ns.length < 256 := by omega) (hs : Srt ns := by assumption) {x y : Int} {tx ty : Tok} (hy : y.natAbs < 2 ^ 60 := by first | assumption | omega) (hn0 : 0 < ns.length := by omega) :
    Ctr w 116 [.ref l, .int x tx, .int y ty] [] 18 N0 (fun r n' => ∃ D u v t57' t64', r = .ref D ∧ T57 t57' ∧ T64 t64' ∧ n' = (D, tupOf #[.int (rk0 ns x y) u, .int (rk1 ns x y) v]) :: (fr ++ (t57' ++ (t64' ++ R))) ∧ (∀ p ∈ fr ++ (t57' ++ (t64' ++ R)), p.1 < D) ∧ (∀ q ∈ fr, NoCode q.2 → ∀ p ∈ t57' ++ t64', p.1 ≠ q.1)) := by
  subst e0
  refine Ctr.conv (ranks_C (rest := fr ++ R) h1 h2 (fr57 hfr hR) (fr64 hfr hR) (List.mem_append_right _ hl) hvs hn hs hy hn0) fr_in ?_
  rintro r n' ⟨D, u, v, a9, b9, e, hA, hB, rfl, hlt⟩ hc
  exact ⟨(D, tupOf #[.int (rk0 ns x y) u, .int (rk1 ns x y) v]) :: (fr ++ (a9 ++ (b9 ++ R))), cons_sub fr_out, D, u, v, a9, b9, e, hA, hB, rfl, fun p hp => hlt p (fr_out p hp), tabs_off hA hB hfr hc (fun p hp => .tail _ hp)⟩
theorem idm_L {w : World} {fr t57 t64 R : List (Addr × Obj)} {N0 : List (Addr × Obj)} (e0 : N0 = fr ++ (t57 ++ (t64 ++ R)) := by first | exact led8 | exact led9 | exact led10 | exact led11) (h1 : T57 t57 := by assumption) (h2 : T64 t64 := by assumption) (hfr : FrOk fr := by repeat' (first | exact frok8 (by assumption) | refine frok_ne (by omega) (by omega) ?_)) (hR : GoodR R := by assumption) {a b : Int} {ta tb : Tok} (hab : a.natAbs < 2 ^ 60 := by first | assumption | omega) (hb : 0 < b := by omega) (hb2 : b < 256 := by omega) :
    Ctr w 83 [.int a ta, .int b tb] [] 16 N0 (fun r n' => ∃ D u v t57' t64', r = .ref D ∧ T57 t57' ∧ T64 t64' ∧ n' = (D, tupOf #[.int (a / b) u, .int (a % b) v]) :: (fr ++ (t57' ++ (t64' ++ R))) ∧ (∀ p ∈ fr ++ (t57' ++ (t64' ++ R)), p.1 < D) ∧ (∀ q ∈ fr, NoCode q.2 → ∀ p ∈ t57' ++ t64', p.1 ≠ q.1)) := by
  subst e0
  refine Ctr.conv (idm_C (rest := fr ++ R) h1 h2 (fr57 hfr hR) (fr64 hfr hR) hab hb hb2) fr_in ?_
  rintro r n' ⟨D, u, v, a9, b9, e, hA, hB, rfl, hlt⟩ hc
  exact ⟨(D, tupOf #[.int (a / b) u, .int (a % b) v]) :: (fr ++ (a9 ++ (b9 ++ R))), cons_sub fr_out, D, u, v, a9, b9, e, hA, hB, rfl, fun p hp => hlt p (fr_out p hp), tabs_off hA hB hfr hc (fun p hp => .tail _ hp)⟩
theorem place_L {w : World} {fr t57 t64 R : List (Addr × Obj)} {N0 : List (Addr × Obj)} (e0 : N0 = fr ++ (t57 ++ (t64 ++ R)) := by first | exact led8 | exact led9 | exact led10 | exact led11) (h1 : T57 t57 := by assumption) (h2 : T64 t64 := by assumption) (hfr : FrOk fr := by repeat' (first | exact frok8 (by assumption) | refine frok_ne (by omega) (by omega) ?_)) (hR : GoodR R := by assumption) {l : Addr} {vs : List Value} {ns : List Int} {n : Nat} (hl : (l, listOf vs.toArray n) ∈ R := by k_mem) (hvs : IntsAre vs ns := by assumption) (hn : ns.length < 256 := by omega) (hs : Srt ns := by assumption) {x y : Int} {tx ty : Tok} (hy : y.natAbs < 2 ^ 60 := by first | assumption | omega) (hW : 0 < Wt ns x := by first | assumption | omega) :
    Ctr w 123 [.ref l, .int x tx, .int y ty] [] 18 N0 (fun r n' => ∃ t t57' t64', r = .int (placeV ns x y) t ∧ T57 t57' ∧ T64 t64' ∧ n' = fr ++ (t57' ++ (t64' ++ R)) ∧ (∀ q ∈ fr, NoCode q.2 → ∀ p ∈ t57' ++ t64', p.1 ≠ q.1)) := by
  subst e0
  refine Ctr.conv (place_C (rest := fr ++ R) h1 h2 (fr57 hfr hR) (fr64 hfr hR) (List.mem_append_right _ hl) hvs hn hs hy hW) fr_in ?_
  rintro r n' ⟨t, a, b, e, hA, hB, rfl⟩ hc
  exact ⟨fr ++ (a ++ (b ++ R)), fr_out, t, a, b, e, hA, hB, rfl, tabs_off hA hB hfr hc (fun p hp => hp)⟩
theorem read_L {w : World} {fr t57 t64 R : List (Addr × Obj)} {N0 : List (Addr × Obj)} (e0 : N0 = fr ++ (t57 ++ (t64 ++ R)) := by first | exact led8 | exact led9 | exact led10 | exact led11) (h1 : T57 t57 := by assumption) (h2 : T64 t64 := by assumption) (hfr : FrOk fr := by repeat' (first | exact frok8 (by assumption) | refine frok_ne (by omega) (by omega) ?_)) (hR : GoodR R := by assumption) {l : Addr} {vs : List Value} {ns : List Int} {n : Nat} (hl : (l, listOf vs.toArray n) ∈ fr ++ R := by (try dsimp only [List.cons_append, List.nil_append]); k_mem) (hvs : IntsAre vs ns := by assumption) (hn : ns.length < 256 := by omega) (hs : Srt ns := by assumption) {y : Int} {ty : Tok} (hy0 : 0 ≤ y := by first | assumption | omega) (hy : y < 1000 := by first | assumption | omega) (hn0 : 0 < ns.length := by omega) (hend : readE ns 59 y < Wt ns 0 := by assumption) :
    Ctr w 137 [.ref l, .int y ty] [] 20 N0 (fun r n' => ∃ D lt ws k v t57' t64', r = .ref D ∧ T57 t57' ∧ T64 t64' ∧ IntsAre ws (readL ns 60 y) ∧ n' = (D, tupOf #[.ref lt, .int (readE ns 60 y) v]) :: (lt, listOf ws.toArray k) :: (fr ++ (t57' ++ (t64' ++ R))) ∧ (∀ p ∈ (lt, listOf ws.toArray k) :: (fr ++ (t57' ++ (t64' ++ R))), p.1 < D) ∧ @LT.lt Nat _ 64 lt ∧ (∀ p ∈ fr ++ (t57' ++ (t64' ++ R)), p.1 ≠ lt) ∧ (∀ q ∈ fr, NoCode q.2 → ∀ p ∈ t57' ++ t64', p.1 ≠ q.1)) := by
  subst e0
  refine Ctr.conv (read_C (rest := fr ++ R) h1 h2 (fr57 hfr hR) (fr64 hfr hR) hl hvs hn hs hy0 hy hn0 hend) fr_in ?_
  rintro r n' ⟨D, lt, ws, k, v, a, b, e, hA, hB, hI, rfl, hlt, h9, hne⟩ hc
  exact ⟨(D, tupOf #[.ref lt, .int (readE ns 60 y) v]) :: (lt, listOf ws.toArray k) :: (fr ++ (a ++ (b ++ R))), cons_sub (cons_sub fr_out), D, lt, ws, k, v, a, b, e, hA, hB, hI, rfl, fun p hp => hlt p (cons_sub fr_out p hp), h9, fun p hp => hne p (fr_out p hp), tabs_off hA hB hfr hc (fun p hp => .tail _ (.tail _ hp))⟩
theorem d2i_L {w : World} {fr t57 t64 R : List (Addr × Obj)} {N0 : List (Addr × Obj)} (e0 : N0 = fr ++ (t57 ++ (t64 ++ R)) := by first | exact led8 | exact led9 | exact led10 | exact led11) (h1 : T57 t57 := by assumption) (h2 : T64 t64 := by assumption) (hfr : FrOk fr := by repeat' (first | exact frok8 (by assumption) | refine frok_ne (by omega) (by omega) ?_)) (hR : GoodR R := by assumption) {l : Addr} {vs : List Value} {ds : List Int} {n : Nat} {tk0 : Tok} (hl : (l, listOf vs.toArray n) ∈ fr ++ R := by (try dsimp only [List.cons_append, List.nil_append]); k_mem) (hvs : IntsAre vs ds := by assumption) (hlen : ds.length < 1000 := by omega) (hds : Digs 4 ds := by assumption) (hx : ∀ p ∈ t57, p.1 ≠ 64 := by exact TabSt.ne (by assumption) (by decide) (by decide)) :
    Ctr w 69 [.ref l, .int 4 tk0] [] 13 N0 (fun r n' => ∃ t t64', r = .int (dval 4 ds) t ∧ T64 t64' ∧ n' = fr ++ (t57 ++ (t64' ++ R))) := by
  subst e0
  have C : Ctr w 69 [.ref l, .int ((4 : Nat) : Int) tk0] [] 13 (fr ++ (t57 ++ (t64 ++ R))) (fun r n' => ∃ t t64', r = .int (dval 4 ds) t ∧ T64 t64' ∧ n' = fr ++ (t57 ++ (t64' ++ R))) := by
    refine Ctr.conv (d2i_C (k := 4) (tb := t64) (rest := t57 ++ (fr ++ R)) h2 (List.mem_append_right _ hl) hvs hlen (fun p hp => (List.mem_append.mp hp).elim (hx p) (fr64 hfr hR p)) (by decide) hds) (fun p hp => fr_in p (by simp only [List.mem_append] at hp ⊢; grind)) ?_
    rintro r n' ⟨t, b, e, hB, rfl⟩ hc
    exact ⟨fr ++ (t57 ++ (b ++ R)), fun p hp => by (have := fr_out p hp; simp only [List.mem_append] at this ⊢; grind), t, b, e, hB, rfl⟩
  exact C
theorem i2d_L {w : World} {fr t57 t64 R : List (Addr × Obj)} {N0 : List (Addr × Obj)} (e0 : N0 = fr ++ (t57 ++ (t64 ++ R)) := by first | exact led8 | exact led9 | exact led10 | exact led11) (h1 : T57 t57 := by assumption) (h2 : T64 t64 := by assumption) (hfr : FrOk fr := by repeat' (first | exact frok8 (by assumption) | refine frok_ne (by omega) (by omega) ?_)) (hR : GoodR R := by assumption) {a : Int} {ta tk0 : Tok} (ha : 0 ≤ a := by first | assumption | omega) (hab : PySem.Builtin.Int.intBits a ≤ 900 := by assumption) (hx : ∀ p ∈ t64, p.1 ≠ 57 := by exact TabSt.ne (by assumption) (by decide) (by decide)) :
    Ctr w 62 [.int a ta, .int 4 tk0] [] 13 N0 (fun r n' => ∃ D vs n t57', r = .ref D ∧ T57 t57' ∧ IntsAre vs (digs 4 (nd 4 a) a) ∧ n' = (D, listOf vs.toArray n) :: (fr ++ (t57' ++ (t64 ++ R))) ∧ ∀ p ∈ fr ++ (t57' ++ (t64 ++ R)), p.1 ≠ D) := by
  subst e0
  have C : Ctr w 62 [.int a ta, .int ((4 : Nat) : Int) tk0] [] 13 (fr ++ (t57 ++ (t64 ++ R))) (fun r n' => ∃ D vs n t57', r = .ref D ∧ T57 t57' ∧ IntsAre vs (digs 4 (nd 4 a) a) ∧ n' = (D, listOf vs.toArray n) :: (fr ++ (t57' ++ (t64 ++ R))) ∧ ∀ p ∈ fr ++ (t57' ++ (t64 ++ R)), p.1 ≠ D) := by
    refine Ctr.conv (i2d_C (k := 4) (tb := t57) (rest := t64 ++ (fr ++ R)) h1 (fun p hp => (List.mem_append.mp hp).elim (hx p) (fr57 hfr hR p)) (by decide) (by decide) ha hab) fr_in ?_
    rintro r n' ⟨D, vs, n, b, e, hB, hI, rfl, hne⟩ hc
    exact ⟨(D, listOf vs.toArray n) :: (fr ++ (b ++ (t64 ++ R))), cons_sub fr_out, D, vs, n, b, e, hB, hI, rfl, fun p hp => hne p (fr_out p hp)⟩
  exact C
end

section
theorem off_B30 : True ∧ True := by
  w_top off
  walk1
  all_goals trivial

section
variable {prog : Program} {w : World} {A : Around} {E : Value → Shared → Prop} {s : Shared} {env : Env} {h₀ : Heap} {x : Str} {body : List Stmt} {Q : Flow → Shared → Prop} {m₀ : Str → Option Value}
theorem loop_own {I : Addr} {n : Nat} {P : Nat → Value → Prop} {St : Nat → Heap → Prop} {news : List (Addr × Obj)} (W : Walks prog w A I [I] [I] n P St) (hst : St 0 s.heap) (hSt : ∀ i h, St i h → ∃ it, h.get? I = some it ∧ NoCode it)
    (hI : env.locals ≠ I) (hI0 : h₀.get? I = none) (F : Fr h₀ env.locals s.heap m₀) (N : News h₀ env.locals s.heap news) (hoff : ∀ p ∈ news, p.1 ≠ I) (J : Nat → (Str → Option Value) → List (Addr × Obj) → Prop) (hJ : J 0 m₀ news)
    (turn : ∀ i m news v h tk (it : Obj), i < n → P i v → J i m news → NoCode it → Fr h₀ env.locals h (fun y => if y = x then some v else m y) → News h₀ env.locals h ((I, it) :: news) →
      wpAny (model prog w) A (execs body env) (Turn h₀ env.locals { s with heap := h, toks := tk } I it (fun m' n' => J (i + 1) m' n') Q) E { s with heap := h, toks := tk })
    (done : ∀ m news h tk, J n m news → Fr h₀ env.locals h m → News h₀ env.locals h news → Q .next { s with heap := h, toks := tk }) :
    LoopAtV prog w A h₀ env x body Q E (.ref I) s := by
  refine ⟨I, [I], [I], n, P, St, m₀, news, J, rfl, W, fun hm => hI (List.mem_singleton.mp hm), fun b hb => by rw [List.mem_singleton.mp hb]; exact hI0, fun p hp hm => hoff p hp (List.mem_singleton.mp hm), hst, F, N, hJ, ?_, fun h' tk m' news' F' N' _ hJ' => done m' news' h' tk hJ' F' N'⟩
  rintro i v m₁ news₁ s₁ own ⟨h₁, tk₁, rfl⟩ hin hP hJ₁ hne hown hget hall hst₁ F₁ N₁
  obtain ⟨it, hit, hno⟩ := hSt _ _ hst₁
  have hm := hall I (List.mem_singleton.mpr rfl) hI0 it hit
  have own_eq : ∀ p ∈ own, p = (I, it) := fun p hp => by
    have e1 := List.mem_singleton.mp (hown p hp)
    have e2 : h₁.get? p.1 = some p.2 := hget p hp
    rw [e1, hit] at e2
    exact Prod.ext e1 (Option.some.inj e2).symm
  have N₂ : News h₀ env.locals h₁ ((I, it) :: news₁) := cb_drop N₁ fun p hp => (List.mem_cons.mp hp).elim (fun e => e ▸ List.mem_append_left _ hm) (fun hp => List.mem_append_right _ hp)
  refine wpAny_mono (turn i m₁ news₁ v h₁ tk₁ it hin hP hJ₁ hno F₁ N₂) (fun f s₂ hf => ?_) fun _ _ e => e
  have go : Stop (UnrEnd h₀ env.locals { s with heap := h₁, toks := tk₁ } I it (fun m' n' => J (i + 1) m' n') s₂) → LoopStepU h₀ env.locals [I] own (J (i + 1)) { s with heap := h₁, toks := tk₁ } .next s₂ := by
    intro q
    unfold Stop at q
    obtain ⟨h', tk, m', n', e, F', N', o', r⟩ := q
    exact ⟨rfl, h', tk, m', n', e, F', cb_drop N' fun p hp => (List.mem_append.mp hp).elim (fun hp => by rw [own_eq p hp]; exact .head _) (fun hp => .tail _ hp), fun p hp hm => o' p hp (List.mem_singleton.mp hm), r⟩
  cases f with
  | ret v => exact .ret hf
  | brk => exact .brk hf
  | next => exact .next (go hf)
  | cont => exact .cont (go hf)
theorem bytes_iter {b : Array UInt8} {t : Tok} {ks : List Int} {news : List (Addr × Obj)} (hh : A.handled = none) (hk : KBw.bInts b = ks) (F : Fr h₀ env.locals s.heap m₀) (N : News h₀ env.locals s.heap news) (J : Addr → Nat → (Str → Option Value) → List (Addr × Obj) → Prop)
    (go : ∀ I : Addr, (∀ p ∈ news, p.1 < I) → J I 0 m₀ news ∧
      (∀ i m news v h tk (it : Obj), i < ks.length → J I i m news → NoCode it → Fr h₀ env.locals h (fun y => if y = x then some (.int (ks.getD i 0) v) else m y) → News h₀ env.locals h ((I, it) :: news) →
        wpAny (model prog w) A (execs body env) (Turn h₀ env.locals { s with heap := h, toks := tk } I it (fun m' n' => J I (i + 1) m' n') Q) E { s with heap := h, toks := tk }) ∧
      (∀ m news h tk, J I ks.length m news → Fr h₀ env.locals h m → News h₀ env.locals h news → Q .next { s with heap := h, toks := tk })) :
    wpAny (model prog w) A (pyIter (.bytes b t)) (fun it s₂ => LoopAtV prog w A h₀ env x body Q E it s₂) E s := by
  have hlen : ks.length = b.size := by rw [← hk, KBw.ints_length]
  obtain ⟨g1, g2, g3⟩ := go s.heap.objs.size fun p hp => Heap.lt_size (N p hp).1
  refine KBw.pyIter_bytes ?_
  refine loop_own (KBw.walks (prog := prog) (w := w) hh s.heap.objs.size b t) ⟨_, Heap.get?_push_size _ rfl, rfl, rfl⟩ (fun i h st => ?_) (Nat.ne_of_lt F.ns.lt) (next_is_new F) (F.push _) (fun p hp => ⟨Heap.get?_push_of_some _ (N p hp).1, (N p hp).2⟩) (fun p hp => Nat.ne_of_lt (Heap.lt_size (N p hp).1)) (J s.heap.objs.size) g1 ?_ ?_
  · obtain ⟨it, h1, _, h3⟩ := st
    refine ⟨it, h1, fun vs hv u t' hu => ?_⟩
    rw [h3] at hv
    cases hv
    exact absurd hu (by simp)
  · rintro i m n' v h tk it hi ⟨c, u, hc, rfl⟩ hJ hno F' N'
    have e : ks.getD i 0 = (c.toNat : Int) := by
      rw [List.getD_eq_getElem?_getD, ← hk, KBw.ints_get hc]
      rfl
    rw [← e] at F'
    exact g2 i m n' u h tk it (by omega) hJ hno F' N'
  · rw [← hlen]
    exact g3
end
end

section
theorem off_B31 : True ∧ True := by
  w_top off
  walk1
  all_goals trivial

section
variable {prog : Program} {w : World} {A : Around} {E : Value → Shared → Prop} {s : Shared} {env : Env} {h₀ : Heap} {x : Str} {body : List Stmt} {Q : Flow → Shared → Prop} {m₀ : Str → Option Value}
theorem loop_own2 {I l : Addr} {lo : Obj} {n : Nat} {P : Nat → Value → Prop} {St : Nat → Heap → Prop} {news : List (Addr × Obj)} (W : Walks prog w A I [I, l] [I] n P St) (hst : St 0 s.heap) (hSt : ∀ i h, St i h → ∃ it, h.get? I = some it ∧ NoCode it)
    (hI : env.locals ≠ I) (hl : env.locals ≠ l) (hI0 : h₀.get? I = none) (F : Fr h₀ env.locals s.heap m₀) (N : News h₀ env.locals s.heap news) (hoff : ∀ p ∈ news, p.1 ≠ I) (hm : (l, lo) ∈ news) (J : Nat → (Str → Option Value) → List (Addr × Obj) → Prop) (hJ : J 0 m₀ news)
    (turn : ∀ i m news v h tk (it : Obj), i < n → P i v → J i m news → NoCode it → Fr h₀ env.locals h (fun y => if y = x then some v else m y) → News h₀ env.locals h ((I, it) :: news) →
      wpAny (model prog w) A (execs body env) (Turn h₀ env.locals { s with heap := h, toks := tk } I it (fun m' n' => (l, lo) ∈ n' ∧ J (i + 1) m' n') Q) E { s with heap := h, toks := tk })
    (done : ∀ m news h tk, J n m news → Fr h₀ env.locals h m → News h₀ env.locals h news → Q .next { s with heap := h, toks := tk }) :
    LoopAtV prog w A h₀ env x body Q E (.ref I) s := by
  refine ⟨I, [I, l], [I], n, P, St, m₀, news, (fun i m n' => (l, lo) ∈ n' ∧ J i m n'), rfl, W, fun hm => ?_, fun b hb => by rw [List.mem_singleton.mp hb]; exact hI0, fun p hp hm => hoff p hp (List.mem_singleton.mp hm), hst, F, N, ⟨hm, hJ⟩, ?_, fun h' tk m' news' F' N' _ hJ' => done m' news' h' tk hJ'.2 F' N'⟩
  · rcases List.mem_cons.mp hm with e | hm
    · exact hI e
    · exact hl (List.mem_singleton.mp hm)
  rintro i v m₁ news₁ s₁ own ⟨h₁, tk₁, rfl⟩ hin hP ⟨hm₁, hJ₁⟩ hne hown hget hall hst₁ F₁ N₁
  obtain ⟨it, hit, hno⟩ := hSt _ _ hst₁
  have hmI := hall I (.head _) hI0 it hit
  have hlo : h₁.get? l = some lo := (N₁ (l, lo) (List.mem_append_right _ hm₁)).1
  have own_eq : ∀ p ∈ own, p = (I, it) ∨ p = (l, lo) := fun p hp => by
    have e2 : h₁.get? p.1 = some p.2 := hget p hp
    rcases List.mem_cons.mp (hown p hp) with e1 | e1
    · rw [e1, hit] at e2
      exact .inl (Prod.ext e1 (Option.some.inj e2).symm)
    · replace e1 := List.mem_singleton.mp e1
      rw [e1, hlo] at e2
      exact .inr (Prod.ext e1 (Option.some.inj e2).symm)
  have N₂ : News h₀ env.locals h₁ ((I, it) :: news₁) := cb_drop N₁ fun p hp => (List.mem_cons.mp hp).elim (fun e => e ▸ List.mem_append_left _ hmI) (fun hp => List.mem_append_right _ hp)
  refine wpAny_mono (turn i m₁ news₁ v h₁ tk₁ it hin hP hJ₁ hno F₁ N₂) (fun f s₂ hf => ?_) fun _ _ e => e
  have go : Stop (UnrEnd h₀ env.locals { s with heap := h₁, toks := tk₁ } I it (fun m' n' => (l, lo) ∈ n' ∧ J (i + 1) m' n') s₂) → LoopStepU h₀ env.locals [I] own (fun m' n' => (l, lo) ∈ n' ∧ J (i + 1) m' n') { s with heap := h₁, toks := tk₁ } .next s₂ := by
    intro q
    unfold Stop at q
    obtain ⟨h', tk, m', n', e, F', N', o', r⟩ := q
    refine ⟨rfl, h', tk, m', n', e, F', cb_drop N' fun p hp => ?_, fun p hp hm => o' p hp (List.mem_singleton.mp hm), r⟩
    rcases List.mem_append.mp hp with hp | hp
    · rcases own_eq p hp with rfl | rfl
      · exact .head _
      · exact .tail _ r.1
    · exact .tail _ hp
  cases f with
  | ret v => exact .ret hf
  | brk => exact .brk hf
  | next => exact .next (go hf)
  | cont => exact .cont (go hf)
theorem list_iter {l : Addr} {vs : List Value} {k : Nat} {ks : List Int} {news : List (Addr × Obj)} (hh : A.handled = none) (hm : (l, listOf vs.toArray k) ∈ news) (hi : IntsAre vs ks) (F : Fr h₀ env.locals s.heap m₀) (N : News h₀ env.locals s.heap news) (J : Addr → Nat → (Str → Option Value) → List (Addr × Obj) → Prop)
    (go : ∀ I : Addr, (∀ p ∈ news, p.1 < I) → J I 0 m₀ news ∧
      (∀ i m news v h tk (it : Obj), i < ks.length → J I i m news → NoCode it → Fr h₀ env.locals h (fun y => if y = x then some (.int (ks.getD i 0) v) else m y) → News h₀ env.locals h ((I, it) :: news) →
        wpAny (model prog w) A (execs body env) (Turn h₀ env.locals { s with heap := h, toks := tk } I it (fun m' n' => (l, listOf vs.toArray k) ∈ n' ∧ J I (i + 1) m' n') Q) E { s with heap := h, toks := tk }) ∧
      (∀ m news h tk, J I ks.length m news → Fr h₀ env.locals h m → News h₀ env.locals h news → Q .next { s with heap := h, toks := tk })) :
    wpAny (model prog w) A (pyIter (.ref l)) (fun it s₂ => LoopAtV prog w A h₀ env x body Q E it s₂) E s := by
  have hlen : vs.toArray.size = ks.length := by rw [List.size_toArray]; exact hi.length
  have hl := N.isList hm
  have hlt : l < s.heap.objs.size := Heap.lt_size (N _ hm).1
  obtain ⟨g1, g2, g3⟩ := go s.heap.objs.size fun p hp => Heap.lt_size (N p hp).1
  refine wpAny_pyIter_list hl ?_
  refine loop_own2 (Walks.list hh s.heap.objs.size l (Nat.ne_of_lt hlt) vs.toArray) ⟨⟨_, Heap.get?_push_size _ rfl, rfl, rfl⟩, hl.push _⟩ (fun i h st => ?_) (Nat.ne_of_lt F.ns.lt) (fun e => (N _ hm).2.1 e.symm) (next_is_new F) (F.push _) (fun p hp => ⟨Heap.get?_push_of_some _ (N p hp).1, (N p hp).2⟩) (fun p hp => Nat.ne_of_lt (Heap.lt_size (N p hp).1)) hm (J s.heap.objs.size) g1 ?_ ?_
  · obtain ⟨it, h1, _, h3⟩ := st.1
    refine ⟨it, h1, fun us hv u t' hu => ?_⟩
    rw [h3] at hv
    cases hv
    exact absurd hu (by simp)
  · rintro i m n' v h tk it hi' hP hJ hno F' N'
    rw [hlen] at hi'
    obtain ⟨t, ht⟩ := hi.get i (ks.getD i 0) (by rw [List.getD_eq_getElem?_getD, List.getElem?_eq_getElem hi']; rfl)
    rw [List.getElem?_toArray, ht] at hP
    cases hP
    exact g2 i m n' t h tk it hi' hJ hno F' N'
  · rw [hlen]
    exact g3
end
end

section
theorem off_S2 : True ∧ True := by
  w_top off
  walk1
  all_goals trivial
local macro_rules | `(tactic| walk_at "binaryOp Pow int int") => `(tactic| k_dflt refine powK ?_)
local macro_rules | `(tactic| walk_at "binaryOp FloorDiv int int") => `(tactic| ((with_reducible show wpAny _ _ (binaryOp _ _ (Value.int (HPow.hPow _ _) _)) _ _ _); k_dflt refine fdiv3 ?_; intro _))
local macro_rules | `(tactic| k_mem) => `(tactic| first | with_reducible assumption | with_reducible exact List.Mem.head _ | with_reducible exact memR (by with_reducible assumption) | (with_reducible refine List.mem_cons_of_mem _ ?_; k_mem))
local macro_rules | `(tactic| walk_at "subscriptTail") => `(tactic| k_dflt (refine' item_intsA ?_; intro _))
local macro_rules | `(tactic| k_all) => `(tactic| first | assumption | exact allLt_ne (by assumption) (by first | exact Nat.le_refl _ | omega))
local macro_rules | `(tactic| walk_at "eval ListComp") => `(tactic| k_dflt refine ListComp2_U ?_)

local macro_rules | `(tactic| walk_at "execs cons") => `(tactic| with_reducible refine stAs ?_)
local macro_rules | `(tactic| walk_at "Src2") => `(tactic| (refine Stop.of ?_))
local macro_rules | `(tactic| walk_at "call ref") => `(tactic| (refine Stop.of ?_))
theorem led_cons {L : Nat} {o1 o2 o3 o4 o5 o6 o7 : Obj} {ps : Array Value} {t57 t64 t : List (Addr × Obj)} {x p : Addr × Obj} : p ∈ led L o1 o2 o3 o4 o5 o6 o7 ps t57 t64 (x :: t) ↔ p = x ∨ p ∈ led L o1 o2 o3 o4 o5 o6 o7 ps t57 t64 t := by
  rw [led_mem, led_mem, List.mem_cons]
  exact or_left_comm
theorem led_tail {L : Nat} {o1 o2 o3 o4 o5 o6 o7 : Obj} {ps : Array Value} {t57 t64 a t : List (Addr × Obj)} {p : Addr × Obj} (h : p ∈ led L o1 o2 o3 o4 o5 o6 o7 ps t57 t64 t) : p ∈ led L o1 o2 o3 o4 o5 o6 o7 ps t57 t64 (a ++ t) :=
  led_mem.mpr ((led_mem.mp h).imp_right fun h => List.mem_append_right _ h)
theorem PairsAre.dat {news : List (Addr × Obj)} {ws : List Value} {ps : List (Int × Int)} (h : PairsAre news ws ps) : DatAll news ws (ps.map fun p => Dat.tuple [.int p.1, .int p.2]) := by
  induction h with
  | nil => exact .nil
  | cons a _ ih => exact .cons (.tuple (vs := [_, _]) a (.cons (.int _ _) (.cons (.int _ _) .nil))) ih
theorem ne_pairs {prog : Program} {w : World} {A : Around} {E : Value → Shared → Prop} {s : Shared} {h₀ : Heap} {L : Addr} {news : List (Addr × Obj)} {a b : Addr} {ws us : List Value} {ps : List (Int × Int)} {ka kb : Nat} {Q : Value → Shared → Prop} (N : News h₀ L s.heap news) (ha : (a, listOf ws.toArray ka) ∈ news) (hb : (b, listOf us.toArray kb) ∈ news) (pa : PairsAre news ws ps) (pb : PairsAre news us ps) (hu : A.units + 64 < cLine) (h : Q (.bool false) s) :
    wpAny (model prog w) A (compareOp .NotEq (.ref a) (.ref b)) Q E s := by
  have ok : ∀ d ∈ ps.map (fun p => Dat.tuple [.int p.1, .int p.2]), kqdOk 8 d = true := by
    intro d hd
    obtain ⟨p, _, rfl⟩ := List.mem_map.mp hd
    simp [kqdOk]
  refine kqd_ne N ha rfl rfl pa.dat (fun _ hp => hp) hb rfl rfl pb.dat (fun _ hp => hp) ok ok hu ?_
  simpa using h
theorem getD_mem {cs : List Int} {k : Nat} (h : k < cs.length) : cs.getD k 0 ∈ cs := by
  rw [List.getD_eq_getElem?_getD, List.getElem?_eq_getElem h]
  exact List.getElem_mem _
set_option maxHeartbeats 4000000 in
theorem s2 {w : World} {o : Obj} {fd : FuncData} {body : List Stmt} (ho : (hd.heap_1 w.params).lookup 142 = some o) (hfd : o.data = .func fd) (hbd : fd.body = .stmts body) {p : Program} {loose : List Str} {mean : ExcName → Option Value} {mg mb : Str → Option Value} {g : Heap} {L : Nat} {fa : Addr} {cd : Value} {s : Shared} {Q : Flow → Shared → Prop} {E : Value → Shared → Prop} (B : Below callerA g [] g) (X : (hd.heap_1 w.params).In g) (T : Top p loose mean mg mb g) {o1 o2 o3 o4 o5 o6 o7 : Obj} {ps : Array Value} {t57 t64 rest : List (Addr × Obj)} {us : Value} {cs : List Int} {d9 lt : Addr} {ws9 wsl : List Value} {k9 kl cnt : Nat} {tcnt : Tok} (hcs : IntsAre ws9 cs) (hcl : cs.length = 5) (hcb : ∀ c ∈ cs, 0 ≤ c ∧ c < 1000000000) (hc2 : 2 ≤ cnt) (hc4 : Bnd4 cnt) (hd9 : (d9, listOf ws9.toArray k9) ∈ rest) (hlt : (lt, listOf wsl.toArray kl) ∈ rest) (hpl : PairsAre rest wsl (lineP (fun s => 1 + wn (cs.getD 0 0) s) cnt))
    (d1 : o1.data = .cell (some (.ref d9))) (d2 : o2.data = .cell (some (.int (cnt : Int) tcnt))) (h57 : T57 t57) (h64 : T64 t64) (hg : GoodR rest)
    (F : Fr g L s.heap (fun y => if y = Str.ofString "laid" then some (.ref lt) else if y = Str.ofString "script" then some us else none)) (N : News g L s.heap (led L o1 o2 o3 o4 o5 o6 o7 ps t57 t64 rest))
    (hnext : ∀ (h : Heap) (tk : Tok), Fr g L h (fun y => if y = Str.ofString "laid" then some (.ref lt) else if y = Str.ofString "script" then some us else none) → News g L h (led L o1 o2 o3 o4 o5 o6 o7 ps t57 t64 rest) → wpAny (model Pg w) (callerA.deeper (envOfC "law" fd.scope L fa cd)) (execs (body.drop 4) (envOfC "law" fd.scope L fa cd)) Q E { s with heap := h, toks := tk }) :
    wpAny (model Pg w) (callerA.deeper (envOfC "law" fd.scope L fa cd)) (execs (body.drop 3) (envOfC "law" fd.scope L fa cd)) Q E s := by
  have eo := lk_inj ho (by k_is)
  subst eo
  cases hfd
  cases hbd
  dsimp only [List.drop] at hnext ⊢
  unfold led at N
  have hL := low_L X F
  k_steps
  unfold Stop
  rename_i hz tkz t₁ u₁ v₁ hR Fz Nz hG
  refine ⟨_, t₁, u₁, v₁, cnt, fun i => 1 + wn (cs.getD 0 0) i, fun i j ys n' => ∃ tl, n' = led L o1 o2 o3 o4 o5 o6 o7 ps t57 t64 (tl ++ rest) ∧ PairsAre tl ys (lineP (fun s => 1 + wn (cs.getD 0 0) s) i ++ (List.range j).map fun k : Nat => ((i : Int), (k : Int))) ∧ (j ≤ 1 + wn (cs.getD 0 0) i) ∧ i ≤ cnt, _, rfl, rfl, Fz, Nz, hR, small_cnt hc4, size_cnt hc4, ?sz, ⟨[], rfl, .nil, by omega, by omega⟩, ?iter, ?elt, ?next, ?done⟩
  case sz =>
    rintro i j ys n' ⟨tl, _, hP, hj, hic⟩
    have h1 := hP.length
    have h2 := lineP_len3 (c := fun i => 1 + wn (cs.getD 0 0) i) (fun s => by have := wn_le (cs.getD 0 0) s; omega) i
    have h3 := wn_le (cs.getD 0 0) i
    unfold Bnd4 at hc4
    rw [List.length_append, List.length_map, List.length_range] at h1
    rw [sizeLine_eq]
    omega
  case iter =>
    rintro i ys news t I oI C oC D m₂ h tk E' hi ⟨tl, rfl, hP, hj, hic⟩ hn hx F N ho hne
    have hi5 : i < 5 := by unfold Bnd4 at hc4; omega
    have hwn := wn_eq (hcb _ (getD_mem (k := 0) (by omega))).1 i
    have hd9' : (d9, listOf ws9.toArray k9) ∈ tl ++ rest := List.mem_append_right _ hd9
    unfold led at N
    k_steps
    rename Fr g L _ _ => Fe
    rename News g L _ _ => Ne
    rename IsRange _ _ _ _ _ _ _ _ => Re
    have e0 : cs.getD (Int.toNat 0) 0 = cs.getD 0 0 := rfl
    rw [e0, hwn] at Re
    have hw2 := wn_le (cs.getD 0 0) i
    rw [show 1 + (wn (cs.getD 0 0) i : Int) = ((1 + wn (cs.getD 0 0) i : Nat) : Int) by omega] at Re
    refine ⟨_, _, _, _, _, _, rfl, rfl, Fe, Ne, Re, ?smr, ?szr⟩
    case smr => exact small_cnt (by unfold Bnd4; omega)
    case szr => exact size_cnt (by unfold Bnd4; omega)
  case elt =>
    rintro i j ys news t t' I2 oI2 I oI C oC D m₂ h tk E' hi hj ⟨tl, rfl, hP, hj', hic⟩ hn hx hy F N ho ho2 hne
    rw [Int.zero_add] at hx hy
    k_steps
    rename Fr g L _ _ => Fe
    rename News g L _ _ => Ne
    rename_i D' h' l1
    have off4 := ho.mem
    refine ⟨_, _, led L o1 o2 o3 o4 o5 o6 o7 ps t57 t64 ((D', tupOf #[.int (i : Int) t, .int (j : Int) t']) :: tl ++ rest), rfl, Fe, cb_drop Ne ?subE, LCg.Off3.of ?offE, ?ofI, ?restE⟩
    case subE =>
      iterate 4 (refine List.forall_mem_cons.mpr ⟨by (repeat (first | exact List.Mem.head _ | refine List.Mem.tail _ ?_)), ?_⟩)
      exact fun p hp => (led_cons.mp hp).elim (fun e => by rw [e]; exact List.Mem.head _) fun hp => by (repeat (first | exact hp | refine List.Mem.tail _ ?_))
    case offE =>
      intro p hp
      rw [List.cons_append, led_cons] at hp
      rcases hp with rfl | hp
      · exact ⟨Nat.ne_of_gt l1.2.1, Nat.ne_of_gt l1.2.2.1, Nat.ne_of_gt l1.2.2.2.1⟩
      · exact off4 p hp
    case ofI =>
      intro p hp
      rw [List.cons_append, led_cons] at hp
      rcases hp with rfl | hp
      · exact Nat.ne_of_gt l1.1
      · exact ho2 p hp
    case restE =>
      unfold Stop
      refine ⟨_ :: tl, rfl, ?_, hj, hic⟩
      rw [List.range_succ, List.map_append, ← List.append_assoc]
      exact (hP.mono fun p hp => .tail _ hp).append (.cons (.head _) .nil)
  case next =>
    rintro i ys news hi ⟨tl, e, hP, hj, hic⟩
    refine ⟨tl, e, ?_, Nat.zero_le _, hi⟩
    rw [lineP_succ, List.range_zero, List.map_nil, List.append_nil]
    exact hP
  case done =>
    rintro ys news ⟨tl, rfl, hP, hj, hic⟩
    intro D h tk F' N' hof
    rw [List.range_zero, List.map_nil, List.append_nil] at hP
    have m1 : ∀ p ∈ tl ++ rest, p ∈ (D, LCg.lst ys) :: led L o1 o2 o3 o4 o5 o6 o7 ps t57 t64 (tl ++ rest) := fun p hp => .tail _ (led_rest hp)
    refine ne_pairs N' (m1 _ (List.mem_append_right _ hlt)) (.head _) (hpl.mono fun p hp => m1 p (List.mem_append_right _ hp)) (hP.mono fun p hp => m1 p (List.mem_append_left _ hp)) (by ke_room) ?_
    k_steps
    unfold Stop
    refine hnext h _ F' (cb_drop N' fun p hp => .tail _ (led_tail hp))
end

section
theorem off_S3 : True ∧ True := by
  w_top off
  walk1
  all_goals trivial
local macro_rules | `(tactic| k_mem) => `(tactic| first | with_reducible assumption | with_reducible exact List.Mem.head _ | with_reducible exact memR (by with_reducible assumption) | (with_reducible refine List.mem_cons_of_mem _ ?_; k_mem))
local macro_rules | `(tactic| walk_at "subscriptTail") => `(tactic| k_dflt (refine' item_intsA ?_; intro _))
local macro_rules | `(tactic| walk_at "call builtin:len") => `(tactic| k_dflt refine' len_intsA ?_)
local macro_rules | `(tactic| k_all) => `(tactic| first | assumption | exact allLt_ne (by assumption) (by first | exact Nat.le_refl _ | omega))

local macro_rules | `(tactic| walk_at "execs cons") => `(tactic| with_reducible refine stLc (d := [⟨_, Expr.Call _ _ _ _, _, _⟩]) ?_)
local macro_rules | `(tactic| walk_at "CompSrc") => `(tactic| (refine Stop.of ?_))
theorem good_off {L : Nat} {o1 o2 o3 o4 o5 o6 o7 o : Obj} {ps : Array Value} {t57 t64 rest rest' : List (Addr × Obj)} {D : Addr} (hof : LCg.Off1 D (led L o1 o2 o3 o4 o5 o6 o7 ps t57 t64 rest)) (h57 : T57 t57) (h64 : T64 t64) (ho : NoCell o) (hg : GoodR rest') : GoodR ((D, o) :: rest') := by
  intro p hp
  rcases List.mem_cons.mp hp with rfl | hp
  · have hm := off1_mem hof
    obtain ⟨x, hx⟩ := TabSt.has h57
    obtain ⟨y, hy⟩ := TabSt.has h64
    exact ⟨Ne.symm (hm ((57 : Addr), x) (led_tabs _ (List.mem_append_left _ hx))), Ne.symm (hm ((64 : Addr), y) (led_tabs _ (List.mem_append_right _ (List.mem_append_left _ hy)))), Ne.symm (hm ((97 : Addr), tabObj ps) (.tail _ (.tail _ (.tail _ (.tail _ (.tail _ (.tail _ (.tail _ (.head _))))))))), ho⟩
  · exact hg p hp
theorem good_sub {rest rest' : List (Addr × Obj)} (hg : GoodR rest) (hs : ∀ p ∈ rest', p ∈ rest) : GoodR rest' := fun p hp => hg p (hs p hp)
set_option maxHeartbeats 4000000 in
theorem s3 {w : World} {o : Obj} {fd : FuncData} {body : List Stmt} (ho : (hd.heap_1 w.params).lookup 142 = some o) (hfd : o.data = .func fd) (hbd : fd.body = .stmts body) {p : Program} {loose : List Str} {mean : ExcName → Option Value} {mg mb : Str → Option Value} {g : Heap} {L : Nat} {fa : Addr} {cd : Value} {s : Shared} {Q : Flow → Shared → Prop} {E : Value → Shared → Prop} (B : Below callerA g [] g) (X : (hd.heap_1 w.params).In g) (T : Top p loose mean mg mb g) {o1 o2 o3 o4 o5 o6 o7 : Obj} {ps : Array Value} {t57 t64 rest : List (Addr × Obj)} {us : Value} {d9 lt : Addr} {ws9 wsl : List Value} {k9 kl : Nat} {pl : List (Int × Int)} (hd9 : (d9, listOf ws9.toArray k9) ∈ rest) (hlt : (lt, listOf wsl.toArray kl) ∈ rest) (hpl : PairsAre rest wsl pl) (hl12 : pl.length ≤ 12)
    (d3 : o3.data = .cell none) (h57 : T57 t57) (h64 : T64 t64) (hg : GoodR rest)
    (F : Fr g L s.heap (fun y => if y = Str.ofString "laid" then some (.ref lt) else if y = Str.ofString "script" then some us else none)) (N : News g L s.heap (led L o1 o2 o3 o4 o5 o6 o7 ps t57 t64 rest))
    (hnext : ∀ (h : Heap) (tk : Tok) (ln : Addr) (lv : List Value) (kn : Nat) (oc3 : Obj) (tf : Tok), IntsAre lv (pl.map (·.1)) → oc3.data = .cell (some (.ref ln)) → GoodR [(ln, listOf lv.toArray kn), (d9, listOf ws9.toArray k9)] → Fr g L h (fun y => if y = Str.ofString "far" then some (.int ((pl.map (·.1)).length + 2) tf) else if y = Str.ofString "laid" then some (.ref lt) else if y = Str.ofString "script" then some us else none) → News g L h (led L o1 o2 oc3 o4 o5 o6 o7 ps t57 t64 [(ln, listOf lv.toArray kn), (d9, listOf ws9.toArray k9)]) → wpAny (model Pg w) (callerA.deeper (envOfC "law" fd.scope L fa cd)) (execs (body.drop 6) (envOfC "law" fd.scope L fa cd)) Q E { s with heap := h, toks := tk }) :
    wpAny (model Pg w) (callerA.deeper (envOfC "law" fd.scope L fa cd)) (execs (body.drop 4) (envOfC "law" fd.scope L fa cd)) Q E s := by
  have eo := lk_inj ho (by k_is)
  subst eo
  cases hfd
  cases hbd
  dsimp only [List.drop] at hnext ⊢
  have off3 : ∀ p ∈ t57 ++ (t64 ++ rest), p.1 ≠ (L + 1 + 1 + 1 : Nat) := offT N (.tail _ (.tail _ (.head _))) d3 led_tabs h57 h64 hg
  unfold led at N
  have hL := low_L X F
  k_steps
  unfold Stop
  have hwl := hpl.length
  refine LCg.CompSrc.ledger rfl F N (its := wsl.toArray) (k := kl) ?lm (by rw [sizeLine_eq, List.size_toArray]; omega) ?_
  case lm => exact led_rest hlt
  intro g9
  refine comp_ind (fun i ys n' => IntsAre ys ((pl.map (·.1)).take i) ∧ n' = led L o1 o2 o3 o4 o5 o6 o7 ps t57 t64 rest) ?turn ?done _ _ _ _ (Nat.zero_add _) ⟨.nil, rfl⟩
  case turn =>
    rintro i ys news v I oI C oC D2 m₂ h tk E' hi ⟨hys, rfl⟩ hP hn hx F N ho hne
    rw [List.size_toArray] at hi
    obtain ⟨Dp, tp, up, ep, hDp⟩ := hpl.get i (by omega)
    rw [List.getElem?_toArray, ep] at hP
    cases hP
    have hDm : (Dp, tupOf #[.int (pl.getD i (0, 0)).1 tp, .int (pl.getD i (0, 0)).2 up]) ∈ (I, oI) :: (C, oC) :: (D2, LCg.lst ys) :: led L o1 o2 o3 o4 o5 o6 o7 ps t57 t64 rest := .tail _ (.tail _ (.tail _ (led_rest hDp)))
    k_steps
    refine LCg.CompEnd.intro F N _ (fun p hp => hp) ho (.inr ⟨_, led_rest hlt, rfl, _, rfl⟩) ?_
    refine ⟨?_, rfl⟩
    rw [List.take_add_one]
    refine hys.append ?_
    rw [List.getElem?_map, List.getElem?_eq_getElem (by omega)]
    rw [List.getD_eq_getElem?_getD, List.getElem?_eq_getElem (by omega)]
    exact .cons _ _ .nil
  case done =>
    rintro ys news ⟨hys, rfl⟩
    rw [List.size_toArray, List.take_of_length_le (by rw [List.length_map]; omega)] at hys
    have hl2 : (pl.map (·.1)).length ≤ 12 := by rw [List.length_map]; exact hl12
    intro D hD tkD FD ND hof
    have hgD : GoodR [(D, listOf ys.toArray ys.length), (d9, listOf ws9.toArray k9)] := good_off hof h57 h64 (fun v e => nomatch e) (good_sub hg (by simp [hd9]))
    unfold led at ND hof
    simp only [LCg.Off1] at hof
    k_steps
    unfold Stop
    rename Fr g L _ _ => Fe
    rename News g L _ _ => Ne
    rename_i oc3 dc3 _
    refine hnext _ _ D ys ys.length oc3 _ hys dc3 hgD Fe (cb_drop Ne ?sub)
    case sub =>
      intro p hp
      refine (led_mem.mp hp).elim (fun h => ?h1) (fun h => ?h2)
      case h1 => first | exact led_mem.mpr (.inl h) | exact .tail _ (led_mem.mpr (.inl h)) | exact .tail _ (.tail _ (led_mem.mpr (.inl h)))
      case h2 =>
        refine List.forall_mem_cons.mpr ⟨?a, List.forall_mem_cons.mpr ⟨?b, List.forall_mem_nil _⟩⟩ p h
        case a => repeat (first | exact List.Mem.head _ | refine List.Mem.tail _ ?_)
        case b => first | exact led_rest hd9 | exact .tail _ (led_rest hd9) | exact .tail _ (.tail _ (led_rest hd9))
end

theorem off_pre0 : True ∧ True := by
  w_top off
  walk1
  all_goals trivial

section
local macro_rules | `(tactic| walk_at "call builtin:len") => `(tactic| k_dflt refine' len_intsA ?_)
local macro_rules | `(tactic| k_all) => `(tactic| first | assumption | exact allLt_ne (by assumption) (by first | exact Nat.le_refl _ | omega))
local macro_rules | `(tactic| walk_at "subscriptTail") => `(tactic| k_dflt (refine' item_intsA ?_; intro _))
local macro_rules | `(tactic| k_mem) => `(tactic| first | with_reducible assumption | with_reducible exact List.mem_cons_self | (with_reducible refine memR ?_; k_mem) | (with_reducible refine List.mem_cons_of_mem _ ?_; k_mem))
local macro_rules | `(tactic| walk_at "y") => `(tactic| ((try dsimp only [List.cons_append, List.nil_append] at *); (try (rename_i l9 _ _; k_lt l9)); (try dsimp only); (try k_sweep); (try k_fold)))

section
theorem off_S4 : True ∧ True := by
  w_top off
  walk1
  all_goals trivial

local macro_rules | `(tactic| walk_at "execs cons") => `(tactic| with_reducible refine stLc (c := Expr.Call _ _ _ _) ?_)
local macro_rules | `(tactic| walk_at "CompSrc") => `(tactic| (refine Stop.of ?_))
theorem small_any {n : Nat} (h : n ≤ 1000) : PySem.Builtin.Range.small 0 (n : Int) 1 = true := small_one (by omega) (by omega) (by omega) (by omega)
theorem size_any {n : Nat} : PySem.Builtin.Range.rangeSize 0 (n : Int) 1 = (n : Int) := by rw [rangeSize_nat]; omega
def plainL (ns : List Int) : List Int := (List.range (ns.length + 2)).map fun j : Nat => atV ns (j : Int)
set_option maxHeartbeats 4000000 in
theorem s4 {w : World} {o : Obj} {fd : FuncData} {body : List Stmt} (ho : (hd.heap_1 w.params).lookup 142 = some o) (hfd : o.data = .func fd) (hbd : fd.body = .stmts body) {p : Program} {loose : List Str} {mean : ExcName → Option Value} {mg mb : Str → Option Value} {g : Heap} {L : Nat} {fa : Addr} {cd : Value} {s : Shared} {Q : Flow → Shared → Prop} {E : Value → Shared → Prop} (B : Below callerA g [] g) (X : (hd.heap_1 w.params).In g) (T : Top p loose mean mg mb g) {o1 o2 o3 o4 o5 o6 o7 : Obj} {ps : Array Value} {t57 t64 : List (Addr × Obj)} {us : Value} {d9 lt ln : Addr} {ws9 lv : List Value} {k9 kn : Nat} {ns : List Int} {tf : Tok} (hlv : IntsAre lv ns) (hl12 : ns.length ≤ 12) (hl2 : 2 ≤ ns.length)
    (d3 : o3.data = .cell (some (.ref ln))) (d4 : o4.data = .cell none) (h57 : T57 t57) (h64 : T64 t64) (hg : GoodR [(ln, listOf lv.toArray kn), (d9, listOf ws9.toArray k9)])
    (F : Fr g L s.heap (fun y => if y = Str.ofString "far" then some (.int ((ns.length : Int) + 2) tf) else if y = Str.ofString "laid" then some (.ref lt) else if y = Str.ofString "script" then some (us) else none)) (N : News g L s.heap (led L o1 o2 o3 o4 o5 o6 o7 ps t57 t64 [(ln, listOf lv.toArray kn), (d9, listOf ws9.toArray k9)]))
    (hnext : ∀ (h : Heap) (tk : Tok) (pn : Addr) (pv : List Value) (kp : Nat) (oc4 : Obj), IntsAre pv (plainL ns) → oc4.data = .cell (some (.ref pn)) → GoodR [(pn, listOf pv.toArray kp), (ln, listOf lv.toArray kn), (d9, listOf ws9.toArray k9)] → Fr g L h (fun y => if y = Str.ofString "far" then some (.int ((ns.length : Int) + 2) tf) else if y = Str.ofString "laid" then some (.ref lt) else if y = Str.ofString "script" then some (us) else none) → News g L h (led L o1 o2 o3 oc4 o5 o6 o7 ps t57 t64 [(pn, listOf pv.toArray kp), (ln, listOf lv.toArray kn), (d9, listOf ws9.toArray k9)]) →
      wpAny (model Pg w) (callerA.deeper (envOfC "law" fd.scope L fa cd)) (execs (body.drop 7) (envOfC "law" fd.scope L fa cd)) Q E { s with heap := h, toks := tk }) :
    wpAny (model Pg w) (callerA.deeper (envOfC "law" fd.scope L fa cd)) (execs (body.drop 6) (envOfC "law" fd.scope L fa cd)) Q E s := by
  have eo := lk_inj ho (by k_is)
  subst eo
  cases hfd
  cases hbd
  dsimp only [List.drop] at hnext ⊢
  have off4 : ∀ p ∈ t57 ++ (t64 ++ [(ln, listOf lv.toArray kn), (d9, listOf ws9.toArray k9)]), p.1 ≠ (L + 1 + 1 + 1 + 1 : Nat) := offT N (.tail _ (.tail _ (.tail _ (.head _)))) d4 led_tabs h57 h64 hg
  unfold led at N
  have hL := low_L X F
  k_steps
  unfold Stop
  rename Fr g L _ _ => Fz
  rename News g L _ _ => Nz
  rename IsRange _ _ _ _ _ _ _ _ => Rz
  rw [show ((ns.length : Int) + 2) = ((ns.length + 2 : Nat) : Int) by omega] at Rz
  refine LCg.CompSrc.range (n := ns.length + 2) rfl Fz Nz Rz (small_any (n := ns.length + 2) (by omega)) size_any (by rw [sizeLine_eq]; omega) ?_
  intro g9
  refine comp_ind (fun i ys n' => IntsAre ys ((List.range i).map fun j : Nat => atV ns (j : Int)) ∧ n' = led L o1 o2 o3 o4 o5 o6 o7 ps t57 t64 [(ln, listOf lv.toArray kn), (d9, listOf ws9.toArray k9)]) ?turn ?done _ _ _ _ (Nat.zero_add _) ⟨.nil, rfl⟩
  case turn =>
    rintro i ys news v I oI C oC D2 m₂ h tk E' hi ⟨hys, rfl⟩ hP hn hx F N ho hne
    obtain ⟨t, rfl⟩ := hP
    rw [Int.zero_add] at hx
    have hf : 0 ≤ (i : Int).fmod ns.length ∧ (i : Int).fmod ns.length < ns.length := by
      rw [Int.fmod_eq_emod_of_nonneg _ (by omega)]
      exact ⟨Int.emod_nonneg _ (by omega), Int.emod_lt_of_pos _ (by omega)⟩
    unfold led at N
    k_steps
    rename Fr g L _ _ => Fe
    rename News g L _ _ => Ne
    refine LCg.CompEnd.intro Fe Ne (led L o1 o2 o3 o4 o5 o6 o7 ps t57 t64 [(ln, listOf lv.toArray kn), (d9, listOf ws9.toArray k9)]) (fun p hp => hp) ho ?triv ?_
    case triv => trivial
    refine ⟨?_, rfl⟩
    rw [List.range_succ, List.map_append]
    refine hys.append ?_
    have e : atV ns (i : Int) = ns.getD ((i : Int).fmod ns.length).toNat 0 := by
      unfold atV
      rw [Int.fmod_eq_emod_of_nonneg _ (by omega)]
    rw [List.map_singleton, e]
    exact .cons _ _ .nil
  case done =>
    rintro ys news ⟨hys, rfl⟩
    intro D hD tkD FD ND hof
    have hgD : GoodR [(D, listOf ys.toArray ys.length), (ln, listOf lv.toArray kn), (d9, listOf ws9.toArray k9)] := good_off hof h57 h64 (fun v e => nomatch e) hg
    unfold led at ND hof
    simp only [LCg.Off1] at hof
    k_steps
    unfold Stop
    rename Fr g L _ _ => Fe
    rename News g L _ _ => Ne
    rename_i _ oc4 dc4
    refine hnext _ _ D ys ys.length oc4 hys dc4 hgD Fe (cb_drop Ne ?sub)
    case sub =>
      first
      | exact fun p hp => List.mem_cons.mpr (led_cons.mp hp)
      | exact fun p hp => .tail _ (List.mem_cons.mpr (led_cons.mp hp))
      | exact fun p hp => .tail _ (.tail _ (List.mem_cons.mpr (led_cons.mp hp)))
      | exact fun p hp => hp
      | exact fun p hp => .tail _ hp
      | exact fun p hp => .tail _ (.tail _ hp)
      | exact fun p hp => (led_cons.mp hp).elim (fun e => e ▸ .head _) fun hp => .tail _ (.tail _ hp)
      | exact fun p hp => (led_cons.mp hp).elim (fun e => e ▸ .tail _ (.head _)) fun hp => .tail _ (.tail _ (.tail _ hp))
      | exact fun p hp => (led_cons.mp hp).elim (fun e => e ▸ .tail _ (.head _)) fun hp => (List.mem_cons.mp hp).elim (fun e => e ▸ .head _) fun hp => .tail _ (.tail _ hp)
end

section
theorem off_S5 : True ∧ True := by
  w_top off
  walk1
  all_goals trivial
local macro_rules | `(tactic| walk_at "eval ListComp") => `(tactic| k_dflt (first | ((with_reducible show wpAny _ _ (eval (Expr.ListComp _ [⟨_, _, [], _⟩] _ _) _) _ _ _); refine ListCompX_U ?_) | refine lcT ?_ (cl := [(Str.ofString "x", _), (Str.ofString "plain", _)])))
local macro_rules | `(tactic| walk_at "CompSrcT") => `(tactic| (refine Stop.of ?_))
local macro_rules | `(tactic| walk_at "SrcX") => `(tactic| (refine Stop.of ?_))

local macro_rules | `(tactic| walk_at "execs cons") => `(tactic| with_reducible refine stFor ?_)
def turnV (ns : List Int) (x : Nat) : Int := ((List.range x).countP (fun y : Nat => decide (atV ns (y : Int) = atV ns (x : Int))) : Nat)
theorem plain_get {ns : List Int} {j : Nat} (h : j < ns.length + 2) : (plainL ns).getD ((j : Int)).toNat 0 = atV ns (j : Int) := by
  unfold plainL
  rw [Int.toNat_natCast, List.getD_eq_getElem?_getD, List.getElem?_map, List.getElem?_range h]
  rfl
def turnL (ns : List Int) : List Int := (List.range (ns.length + 2)).map (turnV ns)
set_option maxHeartbeats 4000000 in
theorem s5 {w : World} {o : Obj} {fd : FuncData} {body : List Stmt} (ho : (hd.heap_1 w.params).lookup 142 = some o) (hfd : o.data = .func fd) (hbd : fd.body = .stmts body) {p : Program} {loose : List Str} {mean : ExcName → Option Value} {mg mb : Str → Option Value} {g : Heap} {L : Nat} {fa : Addr} {cd : Value} {s : Shared} {Q : Flow → Shared → Prop} {E : Value → Shared → Prop} (B : Below callerA g [] g) (X : (hd.heap_1 w.params).In g) (T : Top p loose mean mg mb g) {o1 o2 o3 o4 o5 o6 o7 : Obj} {ps : Array Value} {t57 t64 : List (Addr × Obj)} {us : Value} {d9 lt ln pn : Addr} {ws9 lv pv : List Value} {k9 kn kp : Nat} {ns : List Int} {tf : Tok} (hlv : IntsAre lv ns) (hpv : IntsAre pv (plainL ns)) (hl12 : ns.length ≤ 12) (hl2 : 2 ≤ ns.length)
    (d4 : o4.data = .cell (some (.ref pn))) (d5 : o5.data = .cell none) (h57 : T57 t57) (h64 : T64 t64) (hg : GoodR [(pn, listOf pv.toArray kp), (ln, listOf lv.toArray kn), (d9, listOf ws9.toArray k9)])
    (F : Fr g L s.heap (fun y => if y = Str.ofString "far" then some (.int ((ns.length : Int) + 2) tf) else if y = Str.ofString "laid" then some (.ref lt) else if y = Str.ofString "script" then some (us) else none)) (N : News g L s.heap (led L o1 o2 o3 o4 o5 o6 o7 ps t57 t64 [(pn, listOf pv.toArray kp), (ln, listOf lv.toArray kn), (d9, listOf ws9.toArray k9)]))
    (hnext : ∀ (h : Heap) (tk : Tok) (tn : Addr) (tv : List Value) (kt : Nat) (oc5 : Obj), IntsAre tv (turnL ns) → oc5.data = .cell (some (.ref tn)) → GoodR [(tn, listOf tv.toArray kt), (pn, listOf pv.toArray kp), (ln, listOf lv.toArray kn), (d9, listOf ws9.toArray k9)] → Fr g L h (fun y => if y = Str.ofString "far" then some (.int ((ns.length : Int) + 2) tf) else if y = Str.ofString "laid" then some (.ref lt) else if y = Str.ofString "script" then some (us) else none) → News g L h (led L o1 o2 o3 o4 oc5 o6 o7 ps t57 t64 [(tn, listOf tv.toArray kt), (pn, listOf pv.toArray kp), (ln, listOf lv.toArray kn), (d9, listOf ws9.toArray k9)]) →
      wpAny (model Pg w) (callerA.deeper (envOfC "law" fd.scope L fa cd)) (execs (body.drop 8) (envOfC "law" fd.scope L fa cd)) Q E { s with heap := h, toks := tk }) :
    wpAny (model Pg w) (callerA.deeper (envOfC "law" fd.scope L fa cd)) (execs (body.drop 7) (envOfC "law" fd.scope L fa cd)) Q E s := by
  have eo := lk_inj ho (by k_is)
  subst eo
  cases hfd
  cases hbd
  dsimp only [List.drop] at hnext ⊢
  have off5 : ∀ p ∈ t57 ++ (t64 ++ [(pn, listOf pv.toArray kp), (ln, listOf lv.toArray kn), (d9, listOf ws9.toArray k9)]), p.1 ≠ (L + 1 + 1 + 1 + 1 + 1 : Nat) := offT N (.tail _ (.tail _ (.tail _ (.tail _ (.head _))))) d5 led_tabs h57 h64 hg
  unfold led at N
  have hL := low_L X F
  have hpl : (plainL ns).length = ns.length + 2 := by simp [plainL]
  k_steps
  unfold Stop
  rename Fr g L _ _ => Fz
  rename News g L _ _ => Nz
  rename IsRange _ _ _ _ _ _ _ _ => Rz
  rw [show ((ns.length : Int) + 2) = ((ns.length + 2 : Nat) : Int) by omega] at Rz
  refine ⟨_, _, _, _, ns.length + 2, fun i ys n' => IntsAre ys ((List.range i).map (turnV ns)) ∧ i ≤ 14 ∧ n' = led L o1 o2 o3 o4 o5 o6 o7 ps t57 t64 [(pn, listOf pv.toArray kp), (ln, listOf lv.toArray kn), (d9, listOf ws9.toArray k9)], _, rfl, rfl, Fz, Nz, Rz, small_any (n := ns.length + 2) (by omega), size_any, ?sz, ⟨.nil, by omega, rfl⟩, ?elt, ?done⟩
  case sz =>
    rintro i ys n' ⟨h1, h2, _⟩
    have := h1.length
    rw [List.length_map, List.length_range] at this
    rw [sizeLine_eq]
    omega
  case elt =>
    rintro i ys news t X oX I oI C oC D m₂ h tk E' hi ⟨hys, hi14, rfl⟩ hn hx F N ho hoX hne
    rw [Int.zero_add] at hx
    unfold led at N
    k_steps
    unfold Stop
    rename Fr g L _ _ => Fy
    rename News g L _ _ => Ny
    rename IsRange _ _ _ _ _ _ _ _ => Ry
    refine LCt.CompSrcT.range (n := i) rfl Fy Ny Ry (small_any (by omega)) size_any (by rw [sizeLine_eq]; omega) ?_
    intro g9
    refine compT_ind (fun j zs n' => IntsAre zs (((List.range j).filter (fun y : Nat => decide (atV ns (y : Int) = atV ns (i : Int)))).map fun y : Nat => (y : Int)) ∧ n' = (X, oX) :: (I, oI) :: (C, oC) :: (D, LCg.lst ys) :: led L o1 o2 o3 o4 o5 o6 o7 ps t57 t64 [(pn, listOf pv.toArray kp), (ln, listOf lv.toArray kn), (d9, listOf ws9.toArray k9)]) ?turn2 ?done2 _ _ _ _ (Nat.zero_add _) ⟨.nil, rfl⟩
    case turn2 =>
      rintro j zs news v I2 oI2 C2 oC2 D2 m₂ h tk E' hj ⟨hzs, rfl⟩ hP hn2 hx2 F N ho2 hne2
      obtain ⟨t2, rfl⟩ := hP
      rw [Int.zero_add] at hx2
      unfold led at N
      have p1 : (plainL ns).getD ((j : Int)).toNat 0 = atV ns (j : Int) := plain_get (by omega)
      have p2 : (plainL ns).getD ((i : Int)).toNat 0 = atV ns (i : Int) := plain_get (by omega)
      k_steps
      case refine_1 =>
        rename (plainL ns).getD _ _ = _ => hq
        rw [p1, p2] at hq
        refine LCg.CompEnd.intro F N _ (fun p hp => hp) ho2 ?t1 ?_
        case t1 => trivial
        refine ⟨?_, rfl⟩
        rw [List.range_succ, List.filter_append, List.map_append, List.filter_cons_of_pos (by simpa using hq)]
        exact hzs.append (.cons _ _ .nil)
      case refine_2 =>
        rename (plainL ns).getD _ _ ≠ _ => hq
        rw [p1, p2] at hq
        refine LCg.CompEnd.intro F N _ (fun p hp => hp) ho2 ?t2 ?_
        case t2 => trivial
        refine ⟨?_, rfl⟩
        rw [List.range_succ, List.filter_append, List.map_append, List.filter_cons_of_neg (by simpa using hq), List.filter_nil, List.map_nil, List.append_nil]
        exact hzs
    case done2 =>
      rintro zs news ⟨hzs, rfl⟩
      intro D2 h2 tk2 F2 N2 hof2
      have hlz : (((List.range i).filter (fun y : Nat => decide (atV ns (y : Int) = atV ns (i : Int)))).map fun y : Nat => (y : Int)).length ≤ i := by
        rw [List.length_map]
        exact Nat.le_trans (List.length_filter_le _ _) (by rw [List.length_range]; exact Nat.le_refl _)
      unfold led at N2
      have hm2 := N2
      replace N2 : News g L h2 ((D2, listOf zs.toArray zs.length) :: (X, oX) :: (I, oI) :: (C, oC) :: (D, LCg.lst ys) :: led L o1 o2 o3 o4 o5 o6 o7 ps t57 t64 [(pn, listOf pv.toArray kp), (ln, listOf lv.toArray kn), (d9, listOf ws9.toArray k9)]) := hm2
      k_steps
      refine ⟨_, _, _, rfl, F2, cb_drop N2 (fun p hp => .tail _ hp), ho, hoX, ?_⟩
      refine ⟨?_, by omega, rfl⟩
      rw [List.range_succ, List.map_append]
      refine hys.append ?_
      rw [List.map_singleton]
      have e : turnV ns i = ((((List.range i).filter (fun y : Nat => decide (atV ns (y : Int) = atV ns (i : Int)))).map fun y : Nat => (y : Int)).length : Int) := by
        rw [turnV, List.length_map, List.countP_eq_length_filter]
      rw [e]
      exact .cons _ _ .nil
  case done =>
    rintro ys news ⟨hys, _, rfl⟩
    intro D hD tkD FD ND hof
    have hgD : GoodR [(D, listOf ys.toArray ys.length), (pn, listOf pv.toArray kp), (ln, listOf lv.toArray kn), (d9, listOf ws9.toArray k9)] := good_off hof h57 h64 (fun v e => nomatch e) hg
    unfold led at ND hof
    simp only [LCg.Off1] at hof
    k_steps
    unfold Stop
    rename Fr g L _ _ => Fe
    rename News g L _ _ => Ne
    rename_i _ oc5 dc5
    refine hnext _ _ D ys ys.length oc5 hys dc5 hgD Fe (cb_drop Ne ?sub)
    case sub =>
      first
      | exact fun p hp => List.mem_cons.mpr (led_cons.mp hp)
      | exact fun p hp => .tail _ (List.mem_cons.mpr (led_cons.mp hp))
      | exact fun p hp => .tail _ (.tail _ (List.mem_cons.mpr (led_cons.mp hp)))
      | exact fun p hp => hp
      | exact fun p hp => .tail _ hp
      | exact fun p hp => .tail _ (.tail _ hp)
      | exact fun p hp => (led_cons.mp hp).elim (fun e => e ▸ .head _) fun hp => .tail _ (.tail _ hp)
      | exact fun p hp => (led_cons.mp hp).elim (fun e => e ▸ .tail _ (.head _)) fun hp => .tail _ (.tail _ (.tail _ hp))
      | exact fun p hp => (led_cons.mp hp).elim (fun e => e ▸ .tail _ (.head _)) fun hp => (List.mem_cons.mp hp).elim (fun e => e ▸ .head _) fun hp => .tail _ (.tail _ hp)
end

section
theorem off_S6 : True ∧ True := by
  w_top off
  walk1
  all_goals trivial
local macro_rules | `(tactic| walk_at "pyIter ref") => `(tactic| with_reducible refine stIt ?_)
local macro_rules | `(tactic| walk_at "exec For") => `(tactic| k_dflt refine' forA ?_)
local macro_rules | `(tactic| walk_at "call ref") => `(tactic| k_dflt ((first | refine' Ctr.useT2 ?_ (C := step_L) | refine' Ctr.usePZ ?_ (C := place_L)); intros; walk_at "y"))

local macro_rules | `(tactic| walk_at "execs cons") => `(tactic| with_reducible refine stBin ?_)
theorem ne_tup2 {prog : Program} {w : World} {A : Around} {E : Value → Shared → Prop} {s : Shared} {h₀ : Heap} {L : Addr} {news : List (Addr × Obj)} {a b : Addr} {x y x' y' : Int} {t u t' u' : Tok} {Q : Value → Shared → Prop} (h : Q (.bool false) s) (N : News h₀ L s.heap news := by k_asm) (ha : (a, tupOf #[.int x t, .int y u]) ∈ news := by k_mem) (hb : (b, tupOf #[.int x' t', .int y' u']) ∈ news := by k_mem) (e1 : x = x' := by assumption) (e2 : y = y' := by assumption) (hu : A.units + 64 < cLine := by ke_room) :
    wpAny (model prog w) A (compareOp .NotEq (.ref a) (.ref b)) Q E s := by
  subst e1 e2
  refine ne_dataH (reads_tuple_at (N.get ha) rfl rfl (ReadsAll.cons (Reads.int _ _) (ReadsAll.cons (Reads.int _ _) ReadsAll.nil))) (reads_tuple_at (N.get hb) rfl rfl (ReadsAll.cons (Reads.int _ _) (ReadsAll.cons (Reads.int _ _) ReadsAll.nil))) rfl rfl hu ?_
  simpa [PyData.eqv, PyData.eqvAll] using h
local macro_rules | `(tactic| walk_at "compareOp NotEq ref ref") => `(tactic| k_dflt refine' ne_tup2 ?_)
theorem led_ne {L : Nat} {o1 o2 o3 o4 o5 o6 o7 : Obj} {ps : Array Value} {a b R : List (Addr × Obj)} {I : Addr} (hI : @LT.lt Nat _ (L + 1 + 1 + 1 + 1 + 1 + 1 + 1) I) (hL : 142 < L) (ht : ∀ p ∈ a ++ b, p.1 ≠ I) (hR : ∀ p ∈ R, p.1 ≠ I) : ∀ p ∈ led L o1 o2 o3 o4 o5 o6 o7 ps a b R, p.1 ≠ I := by
  have hh : ∀ n : Nat, n < I → (n : Addr) ≠ I := fun n h e => by rw [e] at h; exact Nat.lt_irrefl _ h
  unfold led
  refine List.forall_mem_cons.mpr ⟨hh _ (by omega), List.forall_mem_cons.mpr ⟨hh _ (by omega), List.forall_mem_cons.mpr ⟨hh _ (by omega), List.forall_mem_cons.mpr ⟨hh _ (by omega), List.forall_mem_cons.mpr ⟨hh _ (by omega), List.forall_mem_cons.mpr ⟨hh _ (by omega), List.forall_mem_cons.mpr ⟨hh _ (by omega), List.forall_mem_cons.mpr ⟨hh 97 (by omega), ?_⟩⟩⟩⟩⟩⟩⟩⟩
  rw [← List.append_assoc]
  exact List.forall_mem_append.mpr ⟨ht, hR⟩
theorem turn_get {ns : List Int} {j : Nat} (h : j < ns.length + 2) : (turnL ns).getD ((j : Int)).toNat 0 = turnV ns j := by
  unfold turnL
  rw [Int.toNat_natCast, List.getD_eq_getElem?_getD, List.getElem?_map, List.getElem?_range h]
  rfl
set_option maxHeartbeats 4000000 in
theorem s6 {w : World} {o : Obj} {fd : FuncData} {body : List Stmt} (ho : (hd.heap_1 w.params).lookup 142 = some o) (hfd : o.data = .func fd) (hbd : fd.body = .stmts body) {p : Program} {loose : List Str} {mean : ExcName → Option Value} {mg mb : Str → Option Value} {g : Heap} {L : Nat} {fa : Addr} {cd : Value} {s : Shared} {Q : Flow → Shared → Prop} {E : Value → Shared → Prop} (B : Below callerA g [] g) (X : (hd.heap_1 w.params).In g) (T : Top p loose mean mg mb g) {o1 o2 o3 o4 o5 o6 o7 : Obj} {ps : Array Value} {t57 t64 : List (Addr × Obj)} {us : Value} {d9 lt ln pn tn : Addr} {ws9 lv pv tv : List Value} {k9 kn kp kt : Nat} {ns : List Int} {tf : Tok} (hlv : IntsAre lv ns) (hpv : IntsAre pv (plainL ns)) (htv : IntsAre tv (turnL ns)) (hl12 : ns.length ≤ 12) (hl2 : 2 ≤ ns.length)
    (hE : PassesOwn (model Pg w) (callerA.deeper (envOfC "law" fd.scope L fa cd)) (envOfC "law" fd.scope L fa cd) E) (hs : Srt ns) (hst : ∀ i : Nat, i < ns.length + 2 → stepR ns (i : Int) = turnV ns i) (hpt : ∀ i : Nat, i < ns.length + 2 → placeV ns (atV ns (i : Int)) (turnV ns i) = (i : Int)) (hW : ∀ i : Nat, i < ns.length + 2 → 0 < Wt ns (atV ns (i : Int))) (htb : ∀ i : Nat, i < ns.length + 2 → 0 ≤ turnV ns i ∧ turnV ns i ≤ 14)
    (d3 : o3.data = .cell (some (.ref ln))) (d4 : o4.data = .cell (some (.ref pn))) (d5 : o5.data = .cell (some (.ref tn))) (h57 : T57 t57) (h64 : T64 t64) (hg : GoodR [(tn, listOf tv.toArray kt), (pn, listOf pv.toArray kp), (ln, listOf lv.toArray kn), (d9, listOf ws9.toArray k9)])
    (F : Fr g L s.heap (fun y => if y = Str.ofString "far" then some (.int ((ns.length : Int) + 2) tf) else if y = Str.ofString "laid" then some (.ref lt) else if y = Str.ofString "script" then some (us) else none)) (N : News g L s.heap (led L o1 o2 o3 o4 o5 o6 o7 ps t57 t64 [(tn, listOf tv.toArray kt), (pn, listOf pv.toArray kp), (ln, listOf lv.toArray kn), (d9, listOf ws9.toArray k9)]))
    (hnext : ∀ (h : Heap) (tk : Tok) (ux : Option Value) (t57' t64' : List (Addr × Obj)), T57 t57' → T64 t64' → Fr g L h (fun y => if y = Str.ofString "x" then ux else if y = Str.ofString "far" then some (.int ((ns.length : Int) + 2) tf) else if y = Str.ofString "laid" then some (.ref lt) else if y = Str.ofString "script" then some us else none) → News g L h (led L o1 o2 o3 o4 o5 o6 o7 ps t57' t64' [(tn, listOf tv.toArray kt), (pn, listOf pv.toArray kp), (ln, listOf lv.toArray kn), (d9, listOf ws9.toArray k9)]) →
      wpAny (model Pg w) (callerA.deeper (envOfC "law" fd.scope L fa cd)) (execs (body.drop 9) (envOfC "law" fd.scope L fa cd)) Q E { s with heap := h, toks := tk }) :
    wpAny (model Pg w) (callerA.deeper (envOfC "law" fd.scope L fa cd)) (execs (body.drop 8) (envOfC "law" fd.scope L fa cd)) Q E s := by
  have eo := lk_inj ho (by k_is)
  subst eo
  cases hfd
  cases hbd
  dsimp only [List.drop] at hnext ⊢
  unfold led at N
  have hL := low_L X F
  have hpl : (plainL ns).length = ns.length + 2 := by simp [plainL]
  have htl : (turnL ns).length = ns.length + 2 := by simp [turnL]
  k_steps
  unfold Stop
  rename Fr g L _ _ => Fz
  rename News g L _ _ => Nz
  rename IsRange _ _ _ _ _ _ _ _ => Rz
  rw [show ((ns.length : Int) + 2) = ((ns.length + 2 : Nat) : Int) by omega] at Rz
  refine iter_rangeUnr (n := ns.length + 2) (by rfl) Rz (small_any (n := ns.length + 2) (by omega)) size_any Fz Nz ?_
  intro I lI
  have hI7 : @LT.lt Nat _ (L + 1 + 1 + 1 + 1 + 1 + 1 + 1) I := lI ((L + 1 + 1 + 1 + 1 + 1 + 1 + 1 : Nat), o7) (by (repeat (first | exact List.Mem.head _ | refine List.Mem.tail _ ?_)))
  have hIR : ∀ p ∈ [(tn, listOf tv.toArray kt), (pn, listOf pv.toArray kp), (ln, listOf lv.toArray kn), (d9, listOf ws9.toArray k9)], p.1 ≠ I := fun p hp => Nat.ne_of_lt (lI p (led_rest hp))
  refine range_ind2 (fun i m n' => ∀ K : (Str → Option Value) → List (Addr × Obj) → Prop, (∀ (ux : Option Value) (t57' t64' : List (Addr × Obj)), T57 t57' → T64 t64' → K (fun y => if y = Str.ofString "x" then ux else if y = Str.ofString "far" then some (.int ((ns.length : Int) + 2) tf) else if y = Str.ofString "laid" then some (.ref lt) else if y = Str.ofString "script" then some us else none) (led L o1 o2 o3 o4 o5 o6 o7 ps t57' t64' [(tn, listOf tv.toArray kt), (pn, listOf pv.toArray kp), (ln, listOf lv.toArray kn), (d9, listOf ws9.toArray k9)])) → K m n') ?turn ?done _ _ _ _ (Nat.zero_add _) (fun K k9 => k_eq ?fe (k9 none t57 t64 h57 h64))
  case fe =>
    funext y
    by_cases h0q : y = Str.ofString "x"
    · subst h0q; rfl
    simp only [if_neg h0q]
  case done =>
    intro m n' h tk P9
    apply P9
    intro ux a b hA hB
    clear P9 m n'
    intro F N
    k_steps
    unfold Stop
    exact hnext _ _ ux a b hA hB F N
  case turn =>
    intro i m n' t h tk it hi P9
    apply P9
    intro ux a b hA hB
    clear P9 m n'
    intro hit F N
    rw [Int.zero_add] at F
    have p1 : atV ns (i : Int) = (plainL ns).getD ((i : Int)).toNat 0 := (plain_get hi).symm
    have p2 : stepR ns (i : Int) = (turnL ns).getD ((i : Int)).toNat 0 := (hst i hi).trans (turn_get hi).symm
    have p3 : placeV ns ((plainL ns).getD ((i : Int)).toNat 0) ((turnL ns).getD ((i : Int)).toNat 0) = (i : Int) := by rw [plain_get hi, turn_get hi]; exact hpt i hi
    have p4 : 0 < Wt ns ((plainL ns).getD ((i : Int)).toNat 0) := by rw [plain_get hi]; exact hW i hi
    have p5 : ((turnL ns).getD ((i : Int)).toNat 0).natAbs < 2 ^ 60 := by rw [turn_get hi]; have := htb i hi; omega
    unfold led at N
    k_steps
    all_goals (try (first | exact absurd p3 (by assumption)))
    rename_i F9 t9 a9 b9 hA9 hB9 o9 N9 hq
    refine' ⟨_, _, _, _, rfl, frc F9 ?FF, cb_drop N9 ?sub9, led_ne hI7 hL ?off9 hIR, fun K k9 => k9 (some (.int (i : Int) t)) a9 b9 hA9 hB9⟩
    case FF =>
      intro y
      by_cases h0q : y = Str.ofString "x"
      · subst h0q; rfl
      simp only [if_neg h0q]
    case sub9 => exact fun p hp => .tail _ (.tail _ hp)
    case off9 => exact o9 (I, it) (by (repeat (first | exact List.Mem.head _ | refine List.Mem.tail _ ?_))) hit
end

section
theorem off_S7 : True ∧ True := by
  w_top off
  walk1
  all_goals trivial
local macro_rules | `(tactic| walk_at "call ref") => `(tactic| k_dflt (first | ((first | refine' Ctr.useR ?_ (C := read_L) | refine' Ctr.useJ ?_ (C := d2i_L) | refine' Ctr.useB ?_ (C := ap_C)); intros; (try dsimp only [List.cons_append, List.nil_append] at *); (try (rename_i l9 _ _ _ _; k_lt l9)); walk_at "y") | refine Stop.of ?_))

local macro_rules | `(tactic| walk_at "execs cons") => `(tactic| with_reducible refine stIf ?_)
theorem good_cons {D : Addr} {o : Obj} {R : List (Addr × Obj)} (h1 : D ≠ 57) (h2 : D ≠ 64) (h3 : D ≠ 97) (ho : NoCell o) (hg : GoodR R) : GoodR ((D, o) :: R) := List.forall_mem_cons.mpr ⟨⟨h1, h2, h3, ho⟩, hg⟩
set_option maxHeartbeats 4000000 in
theorem s7 {w : World} {o : Obj} {fd : FuncData} {body : List Stmt} (ho : (hd.heap_1 w.params).lookup 142 = some o) (hfd : o.data = .func fd) (hbd : fd.body = .stmts body) {p : Program} {loose : List Str} {mean : ExcName → Option Value} {mg mb : Str → Option Value} {g : Heap} {L : Nat} {fa : Addr} {cd : Value} {s : Shared} {Q : Flow → Shared → Prop} {E : Value → Shared → Prop} (B : Below callerA g [] g) (X : (hd.heap_1 w.params).In g) (T : Top p loose mean mg mb g) {o1 o2 o3 o4 o5 o6 o7 : Obj} {ps : Array Value} {t57 t64 : List (Addr × Obj)} {us : Value} {ux : Option Value} {d9 lt ln pn tn : Addr} {ws9 lv pv tv : List Value} {k9 kn kp kt : Nat} {ns cs : List Int} {tf : Tok} {dr : Int} (hcs : IntsAre ws9 cs) (hcl : cs.length = 5) (hlv : IntsAre lv ns) (hl12 : ns.length ≤ 12) (hl2 : 2 ≤ ns.length)
    (hs : Srt ns) (hdr : (cs.getD (Int.toNat 1) 0).fmod 1000 = dr) (hd0 : 0 ≤ dr) (hd1 : dr < 1000) (hend : readE ns 59 dr < Wt ns 0) (hdg : Digs 4 (readL ns 60 dr)) (hlen : (readL ns 60 dr).length ≤ 60) (hpk : (-(dval 4 (readL ns 60 dr))).natAbs < 2 ^ 800)
    (d1 : o1.data = .cell (some (.ref d9))) (d3 : o3.data = .cell (some (.ref ln))) (h57 : T57 t57) (h64 : T64 t64) (hg : GoodR [(tn, listOf tv.toArray kt), (pn, listOf pv.toArray kp), (ln, listOf lv.toArray kn), (d9, listOf ws9.toArray k9)])
    (F : Fr g L s.heap (fun y => if y = Str.ofString "x" then ux else if y = Str.ofString "far" then some (.int ((ns.length : Int) + 2) tf) else if y = Str.ofString "laid" then some (.ref lt) else if y = Str.ofString "script" then some us else none)) (N : News g L s.heap (led L o1 o2 o3 o4 o5 o6 o7 ps t57 t64 [(tn, listOf tv.toArray kt), (pn, listOf pv.toArray kp), (ln, listOf lv.toArray kn), (d9, listOf ws9.toArray k9)]))
    (hnext : ∀ (h : Heap) (tk : Tok) (t57' t64' : List (Addr × Obj)) (l2 : Addr) (w2 : List Value) (k2 : Nat) (tw tk2 te td : Tok), T57 t57' → T64 t64' → IntsAre w2 (readL ns 60 dr) → GoodR [(l2, listOf w2.toArray k2), (tn, listOf tv.toArray kt), (pn, listOf pv.toArray kp), (ln, listOf lv.toArray kn), (d9, listOf ws9.toArray k9)] → Fr g L h (fun y => if y = Str.ofString "word" then some (.bytes (apL (digs 4 (nd 4 ((-(dval 4 (readL ns 60 dr))).natAbs : Int)) ((-(dval 4 (readL ns 60 dr))).natAbs : Int))) tw) else if y = Str.ofString "packed" then some (.int (dval 4 (readL ns 60 dr)) tk2) else if y = Str.ofString "end" then some (.int (readE ns 60 dr) te) else if y = Str.ofString "letters" then some (.ref l2) else if y = Str.ofString "drawn" then some (.int dr td) else if y = Str.ofString "x" then ux else if y = Str.ofString "far" then some (.int ((ns.length : Int) + 2) tf) else if y = Str.ofString "laid" then some (.ref lt) else if y = Str.ofString "script" then some us else none) → News g L h (led L o1 o2 o3 o4 o5 o6 o7 ps t57' t64' [(l2, listOf w2.toArray k2), (tn, listOf tv.toArray kt), (pn, listOf pv.toArray kp), (ln, listOf lv.toArray kn), (d9, listOf ws9.toArray k9)]) →
      wpAny (model Pg w) (callerA.deeper (envOfC "law" fd.scope L fa cd)) (execs (body.drop 13) (envOfC "law" fd.scope L fa cd)) Q E { s with heap := h, toks := tk }) :
    wpAny (model Pg w) (callerA.deeper (envOfC "law" fd.scope L fa cd)) (execs (body.drop 9) (envOfC "law" fd.scope L fa cd)) Q E s := by
  have eo := lk_inj ho (by k_is)
  subst eo
  cases hfd
  cases hbd
  dsimp only [List.drop] at hnext ⊢
  subst hdr
  unfold led at N
  have hL := low_L X F
  k_steps
  unfold Stop
  rename Fr g L _ _ => Fe
  rename News g L _ _ => Ne
  rename IntsAre _ (readL _ _ _) => hI9
  rename TabSt 64 _ _ _ _ => hB9
  rename TabSt 57 _ _ _ _ => hA9
  rename @LT.lt Nat _ 64 _ => x9
  rename ∀ p ∈ _, Prod.fst p ≠ _ => m9
  rename_i D9 lt9 w9 kk9 v9 a9 b8 hB8 o9 l9 h1 h2 h3 tk h4 t1 t2 b9 qk ek h5 h6 t3 t4 h7
  have m97 := m9 ((97 : Addr), tabObj ps) (by (repeat (first | exact List.Mem.head _ | refine List.Mem.tail _ ?_)))
  refine hnext _ _ _ _ _ _ kk9 _ _ _ _ hA9 hB9 hI9 (good_cons ?ga ?gb ?gc (fun v e => nomatch e) hg) Fe (cb_drop Ne ?sub)
  case ga => exact fun e => by rw [e] at x9; exact absurd x9 (by decide)
  case gb => exact fun e => by rw [e] at x9; exact absurd x9 (by decide)
  case gc => exact fun e => m97 e.symm
  case sub =>
    first
    | exact fun p hp => List.mem_cons.mpr (led_cons.mp hp)
    | exact fun p hp => .tail _ (List.mem_cons.mpr (led_cons.mp hp))
    | exact fun p hp => .tail _ (.tail _ (List.mem_cons.mpr (led_cons.mp hp)))
    | exact fun p hp => hp
    | exact fun p hp => .tail _ hp
    | exact fun p hp => .tail _ (.tail _ hp)
    | exact fun p hp => (led_cons.mp hp).elim (fun e => e ▸ .head _) fun hp => .tail _ (.tail _ hp)
    | exact fun p hp => (led_cons.mp hp).elim (fun e => e ▸ .tail _ (.head _)) fun hp => .tail _ (.tail _ (.tail _ hp))
    | exact fun p hp => (led_cons.mp hp).elim (fun e => e ▸ .tail _ (.head _)) fun hp => (List.mem_cons.mp hp).elim (fun e => e ▸ .head _) fun hp => .tail _ (.tail _ hp)
end

section
theorem off_S8 : True ∧ True := by
  w_top off
  walk1
  all_goals trivial
local macro_rules | `(tactic| walk_at "call ref") => `(tactic| k_dflt (first | (refine' Ctr.useL ?_ (C := i2d_L); intros; walk_at "y") | refine Stop.of ?_))
theorem ne_same {prog : Program} {w : World} {A : Around} {E : Value → Shared → Prop} {s : Shared} {h₀ : Heap} {L : Addr} {news : List (Addr × Obj)} {a b : Addr} {xs ys : List Value} {ns ms : List Int} {i j : Nat} {Q : Value → Shared → Prop} (h : Q (.bool false) s) (N : News h₀ L s.heap news := by k_asm) (ha : (a, listOf xs.toArray i) ∈ news := by k_mem) (hb : (b, listOf ys.toArray j) ∈ news := by k_mem) (hi : IntsAre xs ns := by assumption) (hj : IntsAre ys ms := by assumption) (e : ns = ms := by assumption) (hu : A.units + 64 < cLine := by ke_room) :
    wpAny (model prog w) A (compareOp .NotEq (.ref a) (.ref b)) Q E s := by
  refine ke_ne_ints (N.isList ha) (N.isList hb) hi hj hu ?_
  simpa [e] using h
local macro_rules | `(tactic| walk_at "compareOp NotEq ref ref") => `(tactic| k_dflt refine' ne_same ?_)

local macro_rules | `(tactic| walk_at "execs cons") => `(tactic| with_reducible refine stAs ?_)
local macro_rules | `(tactic| walk_at "CompSrc") => `(tactic| (refine Stop.of ?_))
local macro_rules | `(tactic| walk_at "call type:bytes") => `(tactic| (k_dflt refine' bytes_K (by k_asm) (by k_asm) (News.isList (by k_asm) List.mem_cons_self) (by assumption) (by assumption) (by rw [sizeLine_eq]; omega) rfl ?_; intros; (try k_sweep)))
set_option maxHeartbeats 4000000 in
theorem s8 {w : World} {o : Obj} {fd : FuncData} {body : List Stmt} (ho : (hd.heap_1 w.params).lookup 142 = some o) (hfd : o.data = .func fd) (hbd : fd.body = .stmts body) {p : Program} {loose : List Str} {mean : ExcName → Option Value} {mg mb : Str → Option Value} {g : Heap} {L : Nat} {fa : Addr} {cd : Value} {s : Shared} {Q : Flow → Shared → Prop} {E : Value → Shared → Prop} (B : Below callerA g [] g) (X : (hd.heap_1 w.params).In g) (T : Top p loose mean mg mb g) {o1 o2 o3 o4 o5 o6 o7 : Obj} {ps : Array Value} {t57 t64 : List (Addr × Obj)} {us : Value} {ux : Option Value} {d9 lt ln pn tn l2 : Addr} {ws9 lv pv tv w2 : List Value} {k9 kn kp kt k2 : Nat} {ns ds : List Int} {tf tw tk2 te td : Tok} {dr pk en : Int} {wd : Array UInt8} (hw2 : IntsAre w2 ds) (hlen : ds.length ≤ 60)
    (hdg : ∀ d ∈ ds, 0 ≤ d ∧ d < 16) (hwd : wd = (ds.reverse.map fun d => UInt8.ofNat (65 + d.toNat)).toArray) (hdig : digs 4 (nd 4 pk) pk = ds) (hpk0 : 0 ≤ pk) (hpk : PySem.Builtin.Int.intBits pk ≤ 900)
    (h57 : T57 t57) (h64 : T64 t64) (hg : GoodR [(l2, listOf w2.toArray k2), (tn, listOf tv.toArray kt), (pn, listOf pv.toArray kp), (ln, listOf lv.toArray kn), (d9, listOf ws9.toArray k9)])
    (F : Fr g L s.heap (fun y => if y = Str.ofString "word" then some (.bytes wd tw) else if y = Str.ofString "packed" then some (.int pk tk2) else if y = Str.ofString "end" then some (.int en te) else if y = Str.ofString "letters" then some (.ref l2) else if y = Str.ofString "drawn" then some (.int dr td) else if y = Str.ofString "x" then ux else if y = Str.ofString "far" then some (.int ((ns.length : Int) + 2) tf) else if y = Str.ofString "laid" then some (.ref lt) else if y = Str.ofString "script" then some us else none)) (N : News g L s.heap (led L o1 o2 o3 o4 o5 o6 o7 ps t57 t64 [(l2, listOf w2.toArray k2), (tn, listOf tv.toArray kt), (pn, listOf pv.toArray kp), (ln, listOf lv.toArray kn), (d9, listOf ws9.toArray k9)]))
    (hnext : ∀ (h : Heap) (tk : Tok) (t57' t64' : List (Addr × Obj)), T57 t57' → T64 t64' → Fr g L h (fun y => if y = Str.ofString "word" then some (.bytes wd tw) else if y = Str.ofString "packed" then some (.int pk tk2) else if y = Str.ofString "end" then some (.int en te) else if y = Str.ofString "letters" then some (.ref l2) else if y = Str.ofString "drawn" then some (.int dr td) else if y = Str.ofString "x" then ux else if y = Str.ofString "far" then some (.int ((ns.length : Int) + 2) tf) else if y = Str.ofString "laid" then some (.ref lt) else if y = Str.ofString "script" then some us else none) → News g L h (led L o1 o2 o3 o4 o5 o6 o7 ps t57' t64' [(l2, listOf w2.toArray k2), (tn, listOf tv.toArray kt), (pn, listOf pv.toArray kp), (ln, listOf lv.toArray kn), (d9, listOf ws9.toArray k9)]) →
      wpAny (model Pg w) (callerA.deeper (envOfC "law" fd.scope L fa cd)) (execs (body.drop 14) (envOfC "law" fd.scope L fa cd)) Q E { s with heap := h, toks := tk }) :
    wpAny (model Pg w) (callerA.deeper (envOfC "law" fd.scope L fa cd)) (execs (body.drop 13) (envOfC "law" fd.scope L fa cd)) Q E s := by
  have eo := lk_inj ho (by k_is)
  subst eo
  cases hfd
  cases hbd
  dsimp only [List.drop] at hnext ⊢
  unfold led at N
  have hL := low_L X F
  have hw2l := hw2.length
  k_steps
  unfold Stop
  rename Fr g L _ _ => Fz
  rename News g L _ _ => Nz
  rename IntsAre _ ds.reverse => hIr
  rename_i D9 w9 h1 hC9 l9
  have hwl := hIr.length
  rw [List.length_reverse] at hwl
  refine LCg.CompSrc.ledger rfl Fz Nz List.mem_cons_self (by rw [sizeLine_eq, List.size_toArray]; omega) ?_
  intro g9
  refine comp_ind (fun i ys n' => IntsAre ys ((ds.reverse.take i).map (65 + ·)) ∧ n' = (D9, listOf w9.toArray 0) :: led L o1 o2 o3 o4 o5 o6 o7 ps t57 t64 [(l2, listOf w2.toArray k2), (tn, listOf tv.toArray kt), (pn, listOf pv.toArray kp), (ln, listOf lv.toArray kn), (d9, listOf ws9.toArray k9)]) ?turn ?done _ _ _ _ (Nat.zero_add _) ⟨.nil, rfl⟩
  case turn =>
    rintro i ys news v I oI C oC D2 m₂ h tk E' hi ⟨hys, rfl⟩ hP hn hx F N ho hne
    rw [List.size_toArray] at hi
    obtain ⟨t, ht⟩ := hIr.get i (ds.reverse.getD i 0) (by rw [List.getD_eq_getElem?_getD, List.getElem?_eq_getElem (by rw [List.length_reverse]; omega)]; rfl)
    rw [List.getElem?_toArray, ht] at hP
    cases hP
    have hb := hdg (ds.reverse.getD i 0) (by rw [List.getD_eq_getElem?_getD, List.getElem?_eq_getElem (by rw [List.length_reverse]; omega)]; exact List.mem_reverse.mp (List.getElem_mem _))
    k_steps
    refine LCg.CompEnd.intro F N _ (fun p hp => hp) ho (.inr ⟨_, List.mem_cons_self, rfl, _, rfl⟩) ?_
    refine ⟨?_, rfl⟩
    rw [List.take_add_one, List.map_append]
    refine hys.append ?_
    rw [List.getElem?_eq_getElem (by rw [List.length_reverse]; omega)]
    rw [List.getD_eq_getElem?_getD, List.getElem?_eq_getElem (by rw [List.length_reverse]; omega)]
    exact .cons _ _ .nil
  case done =>
    rintro ys news ⟨hys, rfl⟩
    rw [List.size_toArray, List.take_of_length_le (by rw [List.length_reverse]; omega)] at hys
    have hyl := hys.length
    rw [List.length_map, List.length_reverse] at hyl
    intro D hD tkD FD ND hof
    have hb : ((ds.reverse.map (65 + ·)).map fun n : Int => n.toNat.toUInt8).toArray = wd := by
      rw [hwd, List.map_map]
      congr 1
      refine List.map_congr_left fun d hd => ?_
      have := hdg d (List.mem_reverse.mp hd)
      show (65 + d).toNat.toUInt8 = UInt8.ofNat (65 + d.toNat)
      rw [show (65 + d).toNat = 65 + d.toNat by omega]
    have hr : ∀ n ∈ ds.reverse.map (65 + ·), 0 ≤ n ∧ n < 256 := by
      intro n hn
      obtain ⟨d, hd, rfl⟩ := List.mem_map.mp hn
      have := hdg d (List.mem_reverse.mp hd)
      omega
    have hgD : GoodR [(D, listOf ys.toArray ys.length)] := good_off hof.2 h57 h64 (fun v e => nomatch e) (fun p hp => nomatch hp)
    have hD57 : @Ne Nat D 57 := (hgD _ (.head _)).1
    have hD64 : @Ne Nat D 64 := (hgD _ (.head _)).2.1
    unfold led at ND
    k_steps
    all_goals (try (first | (exfalso; rename (wd.toList != _) = true => hq; rw [hb] at hq; simp at hq; done) | (exact absurd hdig (by assumption)) | (exact absurd hdig.symm (by assumption))))
    unfold Stop
    rename Fr g L _ _ => Fe
    rename News g L _ _ => Ne
    rename TabSt 57 _ _ _ _ => hA9
    refine hnext _ _ _ t64 hA9 h64 Fe (cb_drop Ne ?sub)
    case sub =>
      first
      | exact fun p hp => hp
      | exact fun p hp => .tail _ hp
      | exact fun p hp => .tail _ (.tail _ hp)
      | exact fun p hp => .tail _ (.tail _ (.tail _ hp))
      | exact fun p hp => .tail _ (.tail _ (.tail _ (.tail _ hp)))
      | exact fun p hp => .tail _ (.tail _ (.tail _ (.tail _ (.tail _ hp))))
      | exact fun p hp => .tail _ (.tail _ (.tail _ (.tail _ (.tail _ (.tail _ hp)))))
      | exact fun p hp => .tail _ (.tail _ (.tail _ (.tail _ (.tail _ (.tail _ (.tail _ hp))))))
end

section
theorem off_S9 : True ∧ True := by
  w_top off
  walk1
  all_goals trivial
local macro_rules | `(tactic| walk_at "exec For") => `(tactic| k_dflt refine' forA ?_)
local macro_rules | `(tactic| walk_at "call ref") => `(tactic| k_dflt (first | (refine' Ctr.usePZ ?_ (C := place_L); intros; walk_at "y") | refine Stop.of ?_))

local macro_rules | `(tactic| walk_at "execs cons") => `(tactic| with_reducible refine stLc ?_)
local macro_rules | `(tactic| walk_at "pyIter bytes") => `(tactic| ((with_reducible show wpAny _ _ (pyIter (Value.bytes _ _)) (fun it s₂ => LoopAtV _ _ _ _ _ _ _ _ _ it s₂) _ _); (refine Stop.of ?_)))
def numAt (ns : List Int) (en : Int) (ds : List Int) (i : Nat) : Int := (ds.reverse.take i).foldl (fun z d => placeV ns d z) en
theorem numAt_succ {ns : List Int} {en : Int} {ds : List Int} {i : Nat} (h : i < ds.length) : numAt ns en ds (i + 1) = placeV ns (ds.reverse.getD i 0) (numAt ns en ds i) := by
  unfold numAt
  rw [List.take_add_one, List.getElem?_eq_getElem (by rw [List.length_reverse]; exact h), List.foldl_append, List.getD_eq_getElem?_getD, List.getElem?_eq_getElem (by rw [List.length_reverse]; exact h)]
  rfl
set_option maxHeartbeats 4000000 in
theorem s9 {w : World} {o : Obj} {fd : FuncData} {body : List Stmt} (ho : (hd.heap_1 w.params).lookup 142 = some o) (hfd : o.data = .func fd) (hbd : fd.body = .stmts body) {p : Program} {loose : List Str} {mean : ExcName → Option Value} {mg mb : Str → Option Value} {g : Heap} {L : Nat} {fa : Addr} {cd : Value} {s : Shared} {Q : Flow → Shared → Prop} {E : Value → Shared → Prop} (B : Below callerA g [] g) (X : (hd.heap_1 w.params).In g) (T : Top p loose mean mg mb g) {o1 o2 o3 o4 o5 o6 o7 : Obj} {ps : Array Value} {t57 t64 : List (Addr × Obj)} {us : Value} {ux : Option Value} {d9 lt ln pn tn l2 : Addr} {ws9 lv pv tv w2 : List Value} {k9 kn kp kt k2 : Nat} {ns ds : List Int} {tf tw tk2 te td : Tok} {dr pk en : Int} {wd : Array UInt8} (hlv : IntsAre lv ns) (hl12 : ns.length ≤ 12)
    (hE : PassesOwn (model Pg w) (callerA.deeper (envOfC "law" fd.scope L fa cd)) (envOfC "law" fd.scope L fa cd) E) (hs : Srt ns) (hk : KBw.bInts wd = ds.reverse.map (65 + ·)) (hWd : ∀ d ∈ ds, 0 < Wt ns d) (hbn : ∀ i, (numAt ns en ds i).natAbs < 2 ^ 60) (hrun : numAt ns en ds ds.length = dr) (d3 : o3.data = .cell (some (.ref ln)))
    (h57 : T57 t57) (h64 : T64 t64) (hg : GoodR [(l2, listOf w2.toArray k2), (tn, listOf tv.toArray kt), (pn, listOf pv.toArray kp), (ln, listOf lv.toArray kn), (d9, listOf ws9.toArray k9)])
    (F : Fr g L s.heap (fun y => if y = Str.ofString "word" then some (.bytes wd tw) else if y = Str.ofString "packed" then some (.int pk tk2) else if y = Str.ofString "end" then some (.int en te) else if y = Str.ofString "letters" then some (.ref l2) else if y = Str.ofString "drawn" then some (.int dr td) else if y = Str.ofString "x" then ux else if y = Str.ofString "far" then some (.int ((ns.length : Int) + 2) tf) else if y = Str.ofString "laid" then some (.ref lt) else if y = Str.ofString "script" then some us else none)) (N : News g L s.heap (led L o1 o2 o3 o4 o5 o6 o7 ps t57 t64 [(l2, listOf w2.toArray k2), (tn, listOf tv.toArray kt), (pn, listOf pv.toArray kp), (ln, listOf lv.toArray kn), (d9, listOf ws9.toArray k9)]))
    (hnext : ∀ (h : Heap) (tk : Tok) (ul : Option Value) (tz : Tok) (t57' t64' : List (Addr × Obj)), T57 t57' → T64 t64' → Fr g L h (fun y => if y = Str.ofString "letter" then ul else if y = Str.ofString "number" then some (.int (numAt ns en ds ds.length) tz) else if y = Str.ofString "word" then some (.bytes wd tw) else if y = Str.ofString "packed" then some (.int pk tk2) else if y = Str.ofString "end" then some (.int en te) else if y = Str.ofString "letters" then some (.ref l2) else if y = Str.ofString "drawn" then some (.int dr td) else if y = Str.ofString "x" then ux else if y = Str.ofString "far" then some (.int ((ns.length : Int) + 2) tf) else if y = Str.ofString "laid" then some (.ref lt) else if y = Str.ofString "script" then some us else none) → News g L h (led L o1 o2 o3 o4 o5 o6 o7 ps t57' t64' [(l2, listOf w2.toArray k2), (tn, listOf tv.toArray kt), (pn, listOf pv.toArray kp), (ln, listOf lv.toArray kn), (d9, listOf ws9.toArray k9)]) →
      wpAny (model Pg w) (callerA.deeper (envOfC "law" fd.scope L fa cd)) (execs (body.drop 17) (envOfC "law" fd.scope L fa cd)) Q E { s with heap := h, toks := tk }) :
    wpAny (model Pg w) (callerA.deeper (envOfC "law" fd.scope L fa cd)) (execs (body.drop 14) (envOfC "law" fd.scope L fa cd)) Q E s := by
  have eo := lk_inj ho (by k_is)
  subst eo
  cases hfd
  cases hbd
  dsimp only [List.drop] at hnext ⊢
  unfold led at N
  have hL := low_L X F
  k_steps
  unfold Stop
  rename Fr g L _ _ => Fz
  rename News g L _ _ => Nz
  have hkl : (ds.reverse.map (65 + ·)).length = ds.length := by simp
  refine bytes_iter (by rfl) hk Fz Nz (fun I i m n' => ∀ K : (Str → Option Value) → List (Addr × Obj) → Prop, (∀ (ul : Option Value) (tz : Tok) (t57' t64' : List (Addr × Obj)), T57 t57' → T64 t64' → K (fun y => if y = Str.ofString "letter" then ul else if y = Str.ofString "number" then some (.int (numAt ns en ds i) tz) else if y = Str.ofString "word" then some (.bytes wd tw) else if y = Str.ofString "packed" then some (.int pk tk2) else if y = Str.ofString "end" then some (.int en te) else if y = Str.ofString "letters" then some (.ref l2) else if y = Str.ofString "drawn" then some (.int dr td) else if y = Str.ofString "x" then ux else if y = Str.ofString "far" then some (.int ((ns.length : Int) + 2) tf) else if y = Str.ofString "laid" then some (.ref lt) else if y = Str.ofString "script" then some us else none) (led L o1 o2 o3 o4 o5 o6 o7 ps t57' t64' [(l2, listOf w2.toArray k2), (tn, listOf tv.toArray kt), (pn, listOf pv.toArray kp), (ln, listOf lv.toArray kn), (d9, listOf ws9.toArray k9)])) → K m n') ?_
  intro I lI
  have hI7 : @LT.lt Nat _ (L + 1 + 1 + 1 + 1 + 1 + 1 + 1) I := lI ((L + 1 + 1 + 1 + 1 + 1 + 1 + 1 : Nat), o7) (by (repeat (first | exact List.Mem.head _ | refine List.Mem.tail _ ?_)))
  have hIR : ∀ p ∈ [(l2, listOf w2.toArray k2), (tn, listOf tv.toArray kt), (pn, listOf pv.toArray kp), (ln, listOf lv.toArray kn), (d9, listOf ws9.toArray k9)], p.1 ≠ I := fun p hp => Nat.ne_of_lt (lI p (led_rest hp))
  refine ⟨fun K k9 => k_eq ?fe (k9 none te t57 t64 h57 h64), ?turn, ?done⟩
  case fe =>
    funext y
    revert y
    intro y
    by_cases h0q : y = Str.ofString "letter"
    · subst h0q; rfl
    by_cases h1q : y = Str.ofString "number"
    · subst h1q; rfl
    simp only [if_neg h0q, if_neg h1q]
  case done =>
    intro m n' h tk P9
    apply P9
    intro ul tz a b hA hB
    clear P9 m n'
    intro F N
    rw [hkl] at F
    have hne : ¬ numAt ns en ds ds.length ≠ dr := fun h => h hrun
    k_steps
    all_goals (try (exact absurd (by assumption) hne))
    unfold Stop
    exact hnext _ _ ul tz a b hA hB F N
  case turn =>
    intro i m n' t h tk it hi P9
    apply P9
    intro ul tz a b hA hB
    clear P9 m n'
    intro hit F N
    rw [hkl] at hi
    have hx : (ds.reverse.map (65 + ·)).getD i 0 - 65 = ds.reverse.getD i 0 := by
      rw [List.getD_eq_getElem?_getD, List.getD_eq_getElem?_getD, List.getElem?_map, List.getElem?_eq_getElem (by rw [List.length_reverse]; exact hi)]
      simp only [Option.map_some, Option.getD_some]
      omega
    have hWx : 0 < Wt ns ((ds.reverse.map (65 + ·)).getD i 0 - 65) := by
      rw [hx, List.getD_eq_getElem?_getD, List.getElem?_eq_getElem (by rw [List.length_reverse]; exact hi)]
      exact hWd _ (List.mem_reverse.mp (List.getElem_mem _))
    have hbi := hbn i
    unfold led at N
    k_steps
    rename Fr g L _ _ => Fe
    rename News g L _ _ => Ne
    rename TabSt 57 _ _ _ _ => hA9
    rename TabSt 64 _ _ _ _ => hB9
    rename_i t9 a9 b9 o9 h7
    rw [hx, ← numAt_succ hi] at Fe
    refine' ⟨_, _, _, _, rfl, frc Fe ?FF, Ne, led_ne hI7 hL ?off9 hIR, fun K k9 => k9 (some (.int ((ds.reverse.map (65 + ·)).getD i 0) t)) t9 a9 b9 hA9 hB9⟩
    case FF =>
      intro y
      by_cases h0q : y = Str.ofString "letter"
      · subst h0q; rfl
      by_cases h1q : y = Str.ofString "number"
      · subst h1q; rfl
      simp only [if_neg h0q, if_neg h1q]
    case off9 => exact o9 (I, it) (by (repeat (first | exact List.Mem.head _ | refine List.Mem.tail _ ?_))) hit
end

section
theorem off_S10 : True ∧ True := by
  w_top off
  walk1
  all_goals trivial
theorem fdivB {prog : Program} {w : World} {A : Around} {E : Value → Shared → Prop} {s : Shared} {a b : Int} {t u : Tok} {Q : Value → Shared → Prop} (h : ∀ t, Q (.int (a.fdiv b) t) { s with toks := s.toks + 1 }) (hb : 0 < b ∧ b ≤ 100 := by assumption) : wpAny (model prog w) A (binaryOp .FloorDiv (.int a t) (.int b u)) Q E s :=
  floordiv_int (by omega) (h _) (.inl (PyProof.noPylong_small (by omega)))
local macro_rules | `(tactic| walk_at "binaryOp Pow int int") => `(tactic| k_dflt refine powK ?_)
local macro_rules | `(tactic| walk_at "binaryOp FloorDiv int int") => `(tactic| ((with_reducible show wpAny _ _ (binaryOp _ _ (Value.int (HPow.hPow _ _) _)) _ _ _); k_dflt refine fdivB ?_; intro _))

local macro_rules | `(tactic| walk_at "execs cons") => `(tactic| with_reducible refine stFor ?_)
local macro_rules | `(tactic| walk_at "CompSrc") => `(tactic| (refine Stop.of ?_))
def bgL (cs : List Int) (cnt n : Nat) : List Int := (List.range n).map fun i => ((cs.getD 2 0).fdiv ((cnt : Int) ^ i)).fmod (cnt : Int)
set_option maxHeartbeats 4000000 in
theorem s10 {w : World} {o : Obj} {fd : FuncData} {body : List Stmt} (ho : (hd.heap_1 w.params).lookup 142 = some o) (hfd : o.data = .func fd) (hbd : fd.body = .stmts body) {p : Program} {loose : List Str} {mean : ExcName → Option Value} {mg mb : Str → Option Value} {g : Heap} {L : Nat} {fa : Addr} {cd : Value} {s : Shared} {Q : Flow → Shared → Prop} {E : Value → Shared → Prop} (B : Below callerA g [] g) (X : (hd.heap_1 w.params).In g) (T : Top p loose mean mg mb g) {o1 o2 o3 o4 o5 o6 o7 : Obj} {ps : Array Value} {t57 t64 : List (Addr × Obj)} {m0 : Str → Option Value} {d9 ln pn tn : Addr} {ws9 lv pv tv : List Value} {k9 kn kp kt : Nat} {ns cs : List Int} {tf td tcnt : Tok} {dr : Int} {cnt : Nat} (hcs : IntsAre ws9 cs) (hcl : cs.length = 5) (hcb : ∀ c ∈ cs, 0 ≤ c ∧ c < 1000000000) (hc2 : 2 ≤ cnt) (hc4 : Bnd4 cnt)
    (d1 : o1.data = .cell (some (.ref d9))) (d2 : o2.data = .cell (some (.int (cnt : Int) tcnt))) (d6 : o6.data = .cell none)
    (h57 : T57 t57) (h64 : T64 t64) (hg : GoodR [(tn, listOf tv.toArray kt), (pn, listOf pv.toArray kp), (ln, listOf lv.toArray kn), (d9, listOf ws9.toArray k9)])
    (F : Fr g L s.heap (fun y => if y = Str.ofString "drawn" then some (.int dr td) else if y = Str.ofString "far" then some (.int ((ns.length : Int) + 2) tf) else m0 y)) (N : News g L s.heap (led L o1 o2 o3 o4 o5 o6 o7 ps t57 t64 [(tn, listOf tv.toArray kt), (pn, listOf pv.toArray kp), (ln, listOf lv.toArray kn), (d9, listOf ws9.toArray k9)]))
    (hnext : ∀ (h : Heap) (tk : Tok) (bn : Addr) (bv : List Value) (kb : Nat) (oc6 : Obj) (tb tb2 : Tok), IntsAre bv (bgL cs cnt 3) → oc6.data = .cell (some (.ref bn)) → GoodR [(bn, listOf bv.toArray kb), (tn, listOf tv.toArray kt), (pn, listOf pv.toArray kp), (ln, listOf lv.toArray kn), (d9, listOf ws9.toArray k9)] → Fr g L h (fun y => if y = Str.ofString "behind" then some (.int ((cs.getD 3 0).fmod 2001 - 1000) tb) else if y = Str.ofString "bound" then some (.int ((cs.getD 3 0).fmod 2001 - 1000) tb2) else if y = Str.ofString "drawn" then some (.int dr td) else if y = Str.ofString "far" then some (.int ((ns.length : Int) + 2) tf) else m0 y) → News g L h (led L o1 o2 o3 o4 o5 oc6 o7 ps t57 t64 [(bn, listOf bv.toArray kb), (tn, listOf tv.toArray kt), (pn, listOf pv.toArray kp), (ln, listOf lv.toArray kn), (d9, listOf ws9.toArray k9)]) →
      wpAny (model Pg w) (callerA.deeper (envOfC "law" fd.scope L fa cd)) (execs (body.drop 20) (envOfC "law" fd.scope L fa cd)) Q E { s with heap := h, toks := tk }) :
    wpAny (model Pg w) (callerA.deeper (envOfC "law" fd.scope L fa cd)) (execs (body.drop 17) (envOfC "law" fd.scope L fa cd)) Q E s := by
  have eo := lk_inj ho (by k_is)
  subst eo
  cases hfd
  cases hbd
  dsimp only [List.drop] at hnext ⊢
  have off6 : ∀ p ∈ t57 ++ (t64 ++ [(tn, listOf tv.toArray kt), (pn, listOf pv.toArray kp), (ln, listOf lv.toArray kn), (d9, listOf ws9.toArray k9)]), p.1 ≠ (L + 1 + 1 + 1 + 1 + 1 + 1 : Nat) := offT N (.tail _ (.tail _ (.tail _ (.tail _ (.tail _ (.head _)))))) d6 led_tabs h57 h64 hg
  unfold led at N
  have hL := low_L X F
  have hc3 := hcb _ (getD_mem (k := 3) (by omega))
  k_steps
  unfold Stop
  rename Fr g L _ _ => Fz
  rename News g L _ _ => Nz
  rename IsRange _ _ _ _ _ _ _ _ => Rz
  refine LCg.CompSrc.range (n := 3) rfl Fz Nz Rz (by rfl) (by rfl) (by rw [sizeLine_eq]; decide) ?_
  intro g9
  refine comp_ind (fun i ys n' => IntsAre ys (bgL cs cnt i) ∧ n' = led L o1 o2 o3 o4 o5 o6 o7 ps t57 t64 [(tn, listOf tv.toArray kt), (pn, listOf pv.toArray kp), (ln, listOf lv.toArray kn), (d9, listOf ws9.toArray k9)]) ?turn ?done _ _ _ _ (Nat.zero_add _) ⟨.nil, rfl⟩
  case turn =>
    rintro i ys news v I oI C oC D2 m₂ h tk E' hi ⟨hys, rfl⟩ hP hn hx F N ho hne
    obtain ⟨t, rfl⟩ := hP
    have hcc : (cnt : Int) ≤ 4 := by unfold Bnd4 at hc4; omega
    have hpow : 0 < (cnt : Int) ^ i ∧ (cnt : Int) ^ i ≤ 100 := by
      refine ⟨Int.pow_pos (by omega), ?_⟩
      have : i = 0 ∨ i = 1 ∨ i = 2 := by omega
      have h4 : cnt = 2 ∨ cnt = 3 ∨ cnt = 4 := by omega
      rcases this with rfl | rfl | rfl <;> rcases h4 with rfl | rfl | rfl <;> decide
    clear hcc
    have hcc : cnt < 1000 := by unfold Bnd4 at hc4; omega
    have hc2' := hcb _ (getD_mem (k := 2) (by omega))
    unfold led at N
    k_steps
    refine LCg.CompEnd.intro F N _ (fun p hp => hp) ho ?triv ?_
    case triv => trivial
    refine ⟨?_, rfl⟩
    unfold bgL
    rw [List.range_succ, List.map_append]
    exact hys.append (.cons _ _ .nil)
  case done =>
    rintro ys news ⟨hys, rfl⟩
    intro D hD tkD FD ND hof
    have hgD : GoodR [(D, listOf ys.toArray ys.length), (tn, listOf tv.toArray kt), (pn, listOf pv.toArray kp), (ln, listOf lv.toArray kn), (d9, listOf ws9.toArray k9)] := good_off hof h57 h64 (fun v e => nomatch e) hg
    unfold led at ND hof
    simp only [LCg.Off1] at hof
    k_steps
    unfold Stop
    rename Fr g L _ _ => Fe
    rename News g L _ _ => Ne
    rename_i h2 oc6 dc6 t2 h3 h4
    refine hnext _ _ D ys ys.length oc6 _ _ hys dc6 hgD Fe (cb_drop Ne ?sub)
    case sub =>
      first
      | exact fun p hp => List.mem_cons.mpr (led_cons.mp hp)
      | exact fun p hp => .tail _ (List.mem_cons.mpr (led_cons.mp hp))
      | exact fun p hp => .tail _ (.tail _ (List.mem_cons.mpr (led_cons.mp hp)))
      | exact fun p hp => hp
      | exact fun p hp => .tail _ hp
      | exact fun p hp => .tail _ (.tail _ hp)
      | exact fun p hp => (led_cons.mp hp).elim (fun e => e ▸ .head _) fun hp => .tail _ (.tail _ hp)
      | exact fun p hp => (led_cons.mp hp).elim (fun e => e ▸ .tail _ (.head _)) fun hp => .tail _ (.tail _ (.tail _ hp))
      | exact fun p hp => (led_cons.mp hp).elim (fun e => e ▸ .tail _ (.head _)) fun hp => (List.mem_cons.mp hp).elim (fun e => e ▸ .head _) fun hp => .tail _ (.tail _ hp)
end

section
theorem off_S11 : True ∧ True := by
  w_top off
  walk1
  all_goals trivial
local macro_rules | `(tactic| walk_at "exec For") => `(tactic| k_dflt refine' forA ?_)
local macro_rules | `(tactic| walk_at "exec For Name Name cons nil") => `(tactic| k_dflt refine' forA ?_)
local macro_rules | `(tactic| walk_at "exec For Name Call cons nil") => `(tactic| k_dflt refine' forA ?_)
local macro_rules | `(tactic| walk_at "exec For Name Subscript cons nil") => `(tactic| k_dflt refine' forA ?_)
local macro_rules | `(tactic| walk_at "pyIter ref") => `(tactic| with_reducible refine stIt ?_)
local macro_rules | `(tactic| walk_at "call ref") => `(tactic| k_dflt (first | (refine' Ctr.useT2 ?_ (C := ranks_L); intros; walk_at "y") | refine Stop.of ?_))

local macro_rules | `(tactic| walk_at "execs cons") => `(tactic| with_reducible refine stBin (c := Expr.Name _ _) ?_)
def behAt (ns : List Int) (bd : Int) (bs : List Int) (i : Nat) : Int := (bs.take i).foldl (fun b s => rk0 ns s b) bd
theorem behAt_succ {ns bs : List Int} {bd : Int} {i : Nat} (h : i < bs.length) : behAt ns bd bs (i + 1) = rk0 ns (bs.getD i 0) (behAt ns bd bs i) := by
  unfold behAt
  rw [List.take_add_one, List.getElem?_eq_getElem h, List.foldl_append, List.getD_eq_getElem?_getD, List.getElem?_eq_getElem h]
  rfl
set_option maxHeartbeats 4000000 in
theorem s11 {w : World} {o : Obj} {fd : FuncData} {body : List Stmt} (ho : (hd.heap_1 w.params).lookup 142 = some o) (hfd : o.data = .func fd) (hbd : fd.body = .stmts body) {p : Program} {loose : List Str} {mean : ExcName → Option Value} {mg mb : Str → Option Value} {g : Heap} {L : Nat} {fa : Addr} {cd : Value} {s : Shared} {Q : Flow → Shared → Prop} {E : Value → Shared → Prop} (B : Below callerA g [] g) (X : (hd.heap_1 w.params).In g) (T : Top p loose mean mg mb g) {o1 o2 o3 o4 o5 o6 o7 : Obj} {ps : Array Value} {t57 t64 : List (Addr × Obj)} {m0 : Str → Option Value} {d9 ln pn tn bn : Addr} {ws9 lv pv tv bv : List Value} {k9 kn kp kt kb : Nat} {ns bs : List Int} {tf td tb tb2 : Tok} {dr bd : Int} (hlv : IntsAre lv ns) (hl12 : ns.length ≤ 12) (hl2 : 2 ≤ ns.length) (hbv : IntsAre bv bs)
    (hE : PassesOwn (model Pg w) (callerA.deeper (envOfC "law" fd.scope L fa cd)) (envOfC "law" fd.scope L fa cd) E) (hs : Srt ns) (hrk : ∀ x p, rk0 ns x p = rk1 ns x p) (hbb : ∀ i, (behAt ns bd bs i).natAbs < 2 ^ 60) (d3 : o3.data = .cell (some (.ref ln))) (d6 : o6.data = .cell (some (.ref bn)))
    (h57 : T57 t57) (h64 : T64 t64) (hg : GoodR [(bn, listOf bv.toArray kb), (tn, listOf tv.toArray kt), (pn, listOf pv.toArray kp), (ln, listOf lv.toArray kn), (d9, listOf ws9.toArray k9)])
    (F : Fr g L s.heap (fun y => if y = Str.ofString "behind" then some (.int bd tb) else if y = Str.ofString "bound" then some (.int bd tb2) else if y = Str.ofString "drawn" then some (.int dr td) else if y = Str.ofString "far" then some (.int ((ns.length : Int) + 2) tf) else m0 y)) (N : News g L s.heap (led L o1 o2 o3 o4 o5 o6 o7 ps t57 t64 [(bn, listOf bv.toArray kb), (tn, listOf tv.toArray kt), (pn, listOf pv.toArray kp), (ln, listOf lv.toArray kn), (d9, listOf ws9.toArray k9)]))
    (hnext : ∀ (h : Heap) (tk : Tok) (ul ur : Option Value) (tz : Tok) (t57' t64' : List (Addr × Obj)), T57 t57' → T64 t64' → Fr g L h (fun y => if y = Str.ofString "s" then ul else if y = Str.ofString "ranks" then ur else if y = Str.ofString "behind" then some (.int (behAt ns bd bs bs.length) tz) else if y = Str.ofString "bound" then some (.int bd tb2) else if y = Str.ofString "drawn" then some (.int dr td) else if y = Str.ofString "far" then some (.int ((ns.length : Int) + 2) tf) else m0 y) → News g L h (led L o1 o2 o3 o4 o5 o6 o7 ps t57' t64' [(bn, listOf bv.toArray kb), (tn, listOf tv.toArray kt), (pn, listOf pv.toArray kp), (ln, listOf lv.toArray kn), (d9, listOf ws9.toArray k9)]) →
      wpAny (model Pg w) (callerA.deeper (envOfC "law" fd.scope L fa cd)) (execs (body.drop 21) (envOfC "law" fd.scope L fa cd)) Q E { s with heap := h, toks := tk }) :
    wpAny (model Pg w) (callerA.deeper (envOfC "law" fd.scope L fa cd)) (execs (body.drop 20) (envOfC "law" fd.scope L fa cd)) Q E s := by
  have eo := lk_inj ho (by k_is)
  subst eo
  cases hfd
  cases hbd
  dsimp only [List.drop] at hnext ⊢
  unfold led at N
  have hL := low_L X F
  k_steps
  unfold Stop
  refine list_iter (vs := bv) (k := kb) (by rfl) ?lm hbv F N (fun I i m n' => ∀ K : (Str → Option Value) → List (Addr × Obj) → Prop, (∀ (ul ur : Option Value) (tz : Tok) (t57' t64' : List (Addr × Obj)), T57 t57' → T64 t64' → K (fun y => if y = Str.ofString "s" then ul else if y = Str.ofString "ranks" then ur else if y = Str.ofString "behind" then some (.int (behAt ns bd bs i) tz) else if y = Str.ofString "bound" then some (.int bd tb2) else if y = Str.ofString "drawn" then some (.int dr td) else if y = Str.ofString "far" then some (.int ((ns.length : Int) + 2) tf) else m0 y) (led L o1 o2 o3 o4 o5 o6 o7 ps t57' t64' [(bn, listOf bv.toArray kb), (tn, listOf tv.toArray kt), (pn, listOf pv.toArray kp), (ln, listOf lv.toArray kn), (d9, listOf ws9.toArray k9)])) → K m n') ?_
  case lm => exact led_rest List.mem_cons_self
  intro I lI
  have hI7 : @LT.lt Nat _ (L + 1 + 1 + 1 + 1 + 1 + 1 + 1) I := lI ((L + 1 + 1 + 1 + 1 + 1 + 1 + 1 : Nat), o7) (by (repeat (first | exact List.Mem.head _ | refine List.Mem.tail _ ?_)))
  have hIR : ∀ p ∈ [(bn, listOf bv.toArray kb), (tn, listOf tv.toArray kt), (pn, listOf pv.toArray kp), (ln, listOf lv.toArray kn), (d9, listOf ws9.toArray k9)], p.1 ≠ I := fun p hp => Nat.ne_of_lt (lI p (led_rest hp))
  refine ⟨fun K k9 => k_eq ?fe (k9 (m0 (Str.ofString "s")) (m0 (Str.ofString "ranks")) tb t57 t64 h57 h64), ?turn, ?done⟩
  case fe =>
    funext y
    revert y
    intro y
    by_cases h0q : y = Str.ofString "s"
    · subst h0q; rfl
    by_cases h1q : y = Str.ofString "ranks"
    · subst h1q; rfl
    by_cases h2q : y = Str.ofString "behind"
    · subst h2q; rfl
    simp only [if_neg h0q, if_neg h1q, if_neg h2q]
  case done =>
    intro m n' h tk P9
    apply P9
    intro ul ur tz a b hA hB
    clear P9 m n'
    intro F N
    k_steps
    unfold Stop
    exact hnext _ _ ul ur tz a b hA hB F N
  case turn =>
    intro i m n' t h tk it hi P9
    apply P9
    intro ul ur tz a b hA hB
    clear P9 m n'
    intro hit F N
    have hbi := hbb i
    have hne : ¬ rk0 ns (bs.getD i 0) (behAt ns bd bs i) ≠ rk1 ns (bs.getD i 0) (behAt ns bd bs i) := fun h => h (hrk _ _)
    unfold led at N
    k_steps
    all_goals (try (exact absurd (by assumption) hne))
    rename Fr g L _ _ => Fe
    rename News g L _ _ => Ne
    rename TabSt 57 _ _ _ _ => hA9
    rename TabSt 64 _ _ _ _ => hB9
    rename_i D9 u9 v9 a9 b9 o9 l9 h1 tk1 hq h2
    rw [← behAt_succ hi] at Fe
    refine' ⟨_, _, _, _, rfl, frc Fe ?FF, cb_drop Ne (fun p hp => .tail _ hp), led_ne hI7 hL ?off9 hIR, led_rest List.mem_cons_self, fun K k9 => k9 (some (.int (bs.getD i 0) t)) (some (.ref D9)) u9 a9 b9 hA9 hB9⟩
    case FF =>
      intro y
      by_cases h0q : y = Str.ofString "s"
      · subst h0q; rfl
      by_cases h1q : y = Str.ofString "ranks"
      · subst h1q; rfl
      by_cases h2q : y = Str.ofString "behind"
      · subst h2q; rfl
      simp only [if_neg h0q, if_neg h1q, if_neg h2q]
    case off9 => exact o9 (I, it) (by (repeat (first | exact List.Mem.head _ | refine List.Mem.tail _ ?_))) hit
end

section
theorem off_S12 : True ∧ True := by
  w_top off
  walk1
  all_goals trivial
local macro_rules | `(tactic| walk_at "exec For") => `(tactic| k_dflt refine' forA ?_)
local macro_rules | `(tactic| walk_at "exec For Name Name cons nil") => `(tactic| k_dflt refine' forA ?_)
local macro_rules | `(tactic| walk_at "exec For Name Call cons nil") => `(tactic| k_dflt refine' forA ?_)
local macro_rules | `(tactic| walk_at "exec For Name Subscript cons nil") => `(tactic| k_dflt refine' forA ?_)
local macro_rules | `(tactic| walk_at "pyIter ref") => `(tactic| with_reducible refine stIt ?_)
local macro_rules | `(tactic| walk_at "call ref") => `(tactic| k_dflt (first | (refine' Ctr.usePZ ?_ (C := place_L); intros; walk_at "y") | refine Stop.of ?_))

local macro_rules | `(tactic| walk_at "execs cons") => `(tactic| with_reducible refine stCall ?_)
set_option maxHeartbeats 4000000 in
theorem s12 {w : World} {o : Obj} {fd : FuncData} {body : List Stmt} (ho : (hd.heap_1 w.params).lookup 142 = some o) (hfd : o.data = .func fd) (hbd : fd.body = .stmts body) {p : Program} {loose : List Str} {mean : ExcName → Option Value} {mg mb : Str → Option Value} {g : Heap} {L : Nat} {fa : Addr} {cd : Value} {s : Shared} {Q : Flow → Shared → Prop} {E : Value → Shared → Prop} (B : Below callerA g [] g) (X : (hd.heap_1 w.params).In g) (T : Top p loose mean mg mb g) {o1 o2 o3 o4 o5 o6 o7 : Obj} {ps : Array Value} {t57 t64 : List (Addr × Obj)} {m0 : Str → Option Value} {d9 ln pn tn bn : Addr} {ws9 lv pv tv bv : List Value} {k9 kn kp kt kb : Nat} {ns bs : List Int} {tf td tz tb2 : Tok} {dr bd bh : Int} (hlv : IntsAre lv ns) (hl12 : ns.length ≤ 12) (hl2 : 2 ≤ ns.length) (hbv : IntsAre bv bs) (hbl : bs.length ≤ 3)
    (hE : PassesOwn (model Pg w) (callerA.deeper (envOfC "law" fd.scope L fa cd)) (envOfC "law" fd.scope L fa cd) E) (hs : Srt ns) (hWs : ∀ x ∈ bs, 0 < Wt ns x) (hb1 : ∀ i, (numAt ns (bh - 1) bs i).natAbs < 2 ^ 60) (hb2 : ∀ i, (numAt ns bh bs i).natAbs < 2 ^ 60) (hlo : numAt ns (bh - 1) bs bs.length < bd) (hhi : bd ≤ numAt ns bh bs bs.length) (d3 : o3.data = .cell (some (.ref ln))) (d6 : o6.data = .cell (some (.ref bn)))
    (h57 : T57 t57) (h64 : T64 t64) (hg : GoodR [(bn, listOf bv.toArray kb), (tn, listOf tv.toArray kt), (pn, listOf pv.toArray kp), (ln, listOf lv.toArray kn), (d9, listOf ws9.toArray k9)])
    (F : Fr g L s.heap (fun y => if y = Str.ofString "behind" then some (.int bh tz) else if y = Str.ofString "bound" then some (.int bd tb2) else if y = Str.ofString "drawn" then some (.int dr td) else if y = Str.ofString "far" then some (.int ((ns.length : Int) + 2) tf) else m0 y)) (N : News g L s.heap (led L o1 o2 o3 o4 o5 o6 o7 ps t57 t64 [(bn, listOf bv.toArray kb), (tn, listOf tv.toArray kt), (pn, listOf pv.toArray kp), (ln, listOf lv.toArray kn), (d9, listOf ws9.toArray k9)]))
    (hnext : ∀ (h : Heap) (tk : Tok) (ul : Option Value) (ta tz : Tok) (t57' t64' : List (Addr × Obj)), T57 t57' → T64 t64' → Fr g L h (fun y => if y = Str.ofString "s" then ul else if y = Str.ofString "ahead" then some (.int (numAt ns (bh - 1) bs bs.length) ta) else if y = Str.ofString "behind" then some (.int (numAt ns bh bs bs.length) tz) else if y = Str.ofString "bound" then some (.int bd tb2) else if y = Str.ofString "drawn" then some (.int dr td) else if y = Str.ofString "far" then some (.int ((ns.length : Int) + 2) tf) else m0 y) → News g L h (led L o1 o2 o3 o4 o5 o6 o7 ps t57' t64' [(bn, listOf bv.toArray kb), (tn, listOf tv.toArray kt), (pn, listOf pv.toArray kp), (ln, listOf lv.toArray kn), (d9, listOf ws9.toArray k9)]) →
      wpAny (model Pg w) (callerA.deeper (envOfC "law" fd.scope L fa cd)) (execs (body.drop 24) (envOfC "law" fd.scope L fa cd)) Q E { s with heap := h, toks := tk }) :
    wpAny (model Pg w) (callerA.deeper (envOfC "law" fd.scope L fa cd)) (execs (body.drop 21) (envOfC "law" fd.scope L fa cd)) Q E s := by
  have eo := lk_inj ho (by k_is)
  subst eo
  cases hfd
  cases hbd
  dsimp only [List.drop] at hnext ⊢
  unfold led at N
  have hL := low_L X F
  have hbl2 := hbv.length
  k_steps
  unfold Stop
  rename Fr g L _ _ => Fz
  rename News g L _ _ => Nz
  rename IntsAre _ bs.reverse => hIr
  rename_i h1 D ws' h2 hC l1
  clear hC
  have hlr : bs.reverse.length = bs.length := List.length_reverse
  refine list_iter (vs := ws') (k := 0) (by rfl) List.mem_cons_self hIr Fz Nz (fun I i m n' => ∀ K : (Str → Option Value) → List (Addr × Obj) → Prop, (∀ (ul : Option Value) (ta tz : Tok) (t57' t64' : List (Addr × Obj)), T57 t57' → T64 t64' → K (fun y => if y = Str.ofString "s" then ul else if y = Str.ofString "ahead" then some (.int (numAt ns (bh - 1) bs i) ta) else if y = Str.ofString "behind" then some (.int (numAt ns bh bs i) tz) else if y = Str.ofString "bound" then some (.int bd tb2) else if y = Str.ofString "drawn" then some (.int dr td) else if y = Str.ofString "far" then some (.int ((ns.length : Int) + 2) tf) else m0 y) ((D, listOf ws'.toArray 0) :: led L o1 o2 o3 o4 o5 o6 o7 ps t57' t64' [(bn, listOf bv.toArray kb), (tn, listOf tv.toArray kt), (pn, listOf pv.toArray kp), (ln, listOf lv.toArray kn), (d9, listOf ws9.toArray k9)])) → K m n') ?_
  intro I lI
  have hID : @LT.lt Nat _ D I := lI (D, listOf ws'.toArray 0) List.mem_cons_self
  have hI7 : @LT.lt Nat _ (L + 1 + 1 + 1 + 1 + 1 + 1 + 1) I := lI ((L + 1 + 1 + 1 + 1 + 1 + 1 + 1 : Nat), o7) (by (repeat (first | exact List.Mem.head _ | refine List.Mem.tail _ ?_)))
  have hIR : ∀ p ∈ [(bn, listOf bv.toArray kb), (tn, listOf tv.toArray kt), (pn, listOf pv.toArray kp), (ln, listOf lv.toArray kn), (d9, listOf ws9.toArray k9)], p.1 ≠ I := fun p hp => Nat.ne_of_lt (lI p (.tail _ (led_rest hp)))
  refine ⟨fun K k9 => k_eq ?fe (k9 (m0 (Str.ofString "s")) (s.toks + 1) tz t57 t64 h57 h64), ?turn, ?done⟩
  case fe =>
    funext y
    revert y
    intro y
    by_cases h0q : y = Str.ofString "s"
    · subst h0q; rfl
    by_cases h1q : y = Str.ofString "ahead"
    · subst h1q; rfl
    by_cases h2q : y = Str.ofString "behind"
    · subst h2q; rfl
    simp only [if_neg h0q, if_neg h1q, if_neg h2q]
  case done =>
    intro m n' h tk P9
    apply P9
    intro ul ta tz a b hA hB
    clear P9 m n'
    intro F N
    rw [hlr] at F
    k_steps
    unfold Stop
    exact hnext _ _ ul ta tz a b hA hB F (cb_drop N (fun p hp => .tail _ hp))
  case turn =>
    intro i m n' t h tk it hi P9
    apply P9
    intro ul ta tz a b hA hB
    clear P9 m n'
    intro hit F N
    rw [hlr] at hi
    have hb1i := hb1 i
    have hb2i := hb2 i
    have hWx : 0 < Wt ns (bs.reverse.getD i 0) := by
      rw [List.getD_eq_getElem?_getD, List.getElem?_eq_getElem (by rw [List.length_reverse]; exact hi)]
      exact hWs _ (List.mem_reverse.mp (List.getElem_mem _))
    unfold led at N
    k_steps
    rename Fr g L _ _ => Fe
    rename News g L _ _ => Ne
    rename TabSt 57 _ _ _ _ => hA9
    rename TabSt 64 _ _ _ _ => hB9
    rename_i ta9 a8 b8 hA8 hB8 o8 qk0 ek0 h9 t9n tz9 a9 b9 o9 D9 h3 l9 h2 h1 h0
    rw [← numAt_succ hi, ← numAt_succ hi] at Fe
    refine' ⟨_, _, _, _, rfl, frc Fe ?FF, cb_drop Ne (fun p hp => .tail _ hp), List.forall_mem_cons.mpr ⟨Nat.ne_of_lt hID, led_ne hI7 hL ?off9 hIR⟩, List.mem_cons_self, fun K k9 => k9 (some (.int (bs.reverse.getD i 0) t)) ta9 tz9 a9 b9 hA9 hB9⟩
    case FF =>
      intro y
      by_cases h0q : y = Str.ofString "s"
      · subst h0q; rfl
      by_cases h1q : y = Str.ofString "ahead"
      · subst h1q; rfl
      by_cases h2q : y = Str.ofString "behind"
      · subst h2q; rfl
      simp only [if_neg h0q, if_neg h1q, if_neg h2q]
    case off9 => exact o9 (I, it) (by (repeat (first | exact List.Mem.head _ | refine List.Mem.tail _ ?_))) hit
end

section
theorem off_S13 : True ∧ True := by
  w_top off
  walk1
  all_goals trivial
local macro_rules | `(tactic| walk_at "eval ListComp") => `(tactic| k_dflt refine lcT ?_)
local macro_rules | `(tactic| walk_at "CompSrcT") => `(tactic| (refine Stop.of ?_))
local macro_rules | `(tactic| walk_at "call ref") => `(tactic| k_dflt (first | (refine' Ctr.useT2 ?_ (C := ranks_L); intros; walk_at "y") | refine Stop.of ?_))

local macro_rules | `(tactic| walk_at "execs cons") => `(tactic| with_reducible refine stBin ?_)
def fewP (ns bs : List Int) (x : Nat) : Bool := decide ((plainL ns).getD ((x : Int)).toNat 0 = bs.getD 0 0 ∧ (plainL ns).getD ((turnL ns).getD ((x : Int)).toNat 0).toNat 0 = bs.getD 1 0)
def fewV (ns bs : List Int) : Int := (((List.range (ns.length + 2)).filter (fewP ns bs)).map fun y : Nat => (y : Int)).length
set_option maxHeartbeats 4000000 in
theorem s13 {w : World} {o : Obj} {fd : FuncData} {body : List Stmt} (ho : (hd.heap_1 w.params).lookup 142 = some o) (hfd : o.data = .func fd) (hbd : fd.body = .stmts body) {p : Program} {loose : List Str} {mean : ExcName → Option Value} {mg mb : Str → Option Value} {g : Heap} {L : Nat} {fa : Addr} {cd : Value} {s : Shared} {Q : Flow → Shared → Prop} {E : Value → Shared → Prop} (B : Below callerA g [] g) (X : (hd.heap_1 w.params).In g) (T : Top p loose mean mg mb g) {o1 o2 o3 o4 o5 o6 o7 : Obj} {ps : Array Value} {t57 t64 : List (Addr × Obj)} {m0 : Str → Option Value} {d9 ln pn tn bn : Addr} {ws9 lv pv tv bv : List Value} {k9 kn kp kt kb : Nat} {ns bs : List Int} {tf td : Tok} {dr : Int} (hlv : IntsAre lv ns) (hpv : IntsAre pv (plainL ns)) (htv : IntsAre tv (turnL ns)) (hl12 : ns.length ≤ 12) (hl2 : 2 ≤ ns.length) (hbv : IntsAre bv bs) (hbl : bs.length = 3)
    (hs : Srt ns) (htb : ∀ i : Nat, i < ns.length + 2 → 0 ≤ turnV ns i ∧ turnV ns i < ns.length + 2) (hrb : (rk1 ns (bs.getD 0 0) ((ns.length : Int) + 2)).natAbs < 2 ^ 60) (hfew : rk0 ns (bs.getD 1 0) (rk1 ns (bs.getD 0 0) ((ns.length : Int) + 2)) = fewV ns bs)
    (d3 : o3.data = .cell (some (.ref ln))) (d4 : o4.data = .cell (some (.ref pn))) (d5 : o5.data = .cell (some (.ref tn))) (d6 : o6.data = .cell (some (.ref bn)))
    (h57 : T57 t57) (h64 : T64 t64) (hg : GoodR [(bn, listOf bv.toArray kb), (tn, listOf tv.toArray kt), (pn, listOf pv.toArray kp), (ln, listOf lv.toArray kn), (d9, listOf ws9.toArray k9)])
    (F : Fr g L s.heap (fun y => if y = Str.ofString "drawn" then some (.int dr td) else if y = Str.ofString "far" then some (.int ((ns.length : Int) + 2) tf) else m0 y)) (N : News g L s.heap (led L o1 o2 o3 o4 o5 o6 o7 ps t57 t64 [(bn, listOf bv.toArray kb), (tn, listOf tv.toArray kt), (pn, listOf pv.toArray kp), (ln, listOf lv.toArray kn), (d9, listOf ws9.toArray k9)]))
    (hnext : ∀ (h : Heap) (tk : Tok) (tw : Tok) (t57' t64' : List (Addr × Obj)), T57 t57' → T64 t64' → Fr g L h (fun y => if y = Str.ofString "few" then some (.int (fewV ns bs) tw) else if y = Str.ofString "drawn" then some (.int dr td) else if y = Str.ofString "far" then some (.int ((ns.length : Int) + 2) tf) else m0 y) → News g L h (led L o1 o2 o3 o4 o5 o6 o7 ps t57' t64' [(bn, listOf bv.toArray kb), (tn, listOf tv.toArray kt), (pn, listOf pv.toArray kp), (ln, listOf lv.toArray kn), (d9, listOf ws9.toArray k9)]) →
      wpAny (model Pg w) (callerA.deeper (envOfC "law" fd.scope L fa cd)) (execs (body.drop 26) (envOfC "law" fd.scope L fa cd)) Q E { s with heap := h, toks := tk }) :
    wpAny (model Pg w) (callerA.deeper (envOfC "law" fd.scope L fa cd)) (execs (body.drop 24) (envOfC "law" fd.scope L fa cd)) Q E s := by
  have eo := lk_inj ho (by k_is)
  subst eo
  cases hfd
  cases hbd
  dsimp only [List.drop] at hnext ⊢
  unfold led at N
  have hL := low_L X F
  have hpl : (plainL ns).length = ns.length + 2 := by simp [plainL]
  have htl : (turnL ns).length = ns.length + 2 := by simp [turnL]
  k_steps
  unfold Stop
  rename Fr g L _ _ => Fz
  rename News g L _ _ => Nz
  rename IsRange _ _ _ _ _ _ _ _ => Rz
  rw [show ((ns.length : Int) + 2) = ((ns.length + 2 : Nat) : Int) by omega] at Rz
  refine LCt.CompSrcT.range (n := ns.length + 2) rfl Fz Nz Rz (small_any (n := ns.length + 2) (by omega)) size_any (by rw [sizeLine_eq]; omega) ?_
  intro g9
  refine compT_ind (fun i ys n' => IntsAre ys (((List.range i).filter (fewP ns bs)).map fun y : Nat => (y : Int)) ∧ n' = led L o1 o2 o3 o4 o5 o6 o7 ps t57 t64 [(bn, listOf bv.toArray kb), (tn, listOf tv.toArray kt), (pn, listOf pv.toArray kp), (ln, listOf lv.toArray kn), (d9, listOf ws9.toArray k9)]) ?turn ?done _ _ _ _ (Nat.zero_add _) ⟨.nil, rfl⟩
  case turn =>
    rintro i ys news v I oI C oC D2 m₂ h tk E' hi ⟨hys, rfl⟩ hP hn hx F N ho hne
    obtain ⟨t, rfl⟩ := hP
    rw [Int.zero_add] at hx
    have htg := turn_get hi
    have hti := htb i hi
    rw [← htg] at hti
    unfold led at N
    k_steps
    all_goals (
      refine LCg.CompEnd.intro F N _ (fun p hp => hp) ho (by trivial) ?_
      refine ⟨?_, rfl⟩
      rw [List.range_succ, List.filter_append, List.map_append])
    all_goals (first
      | (rename_i q1 _ _ _ q2
         rw [List.filter_cons_of_pos (show fewP ns bs i = true from decide_eq_true ⟨q1, q2⟩)]
         exact hys.append (.cons _ _ .nil))
      | (rename _ ≠ _ => q2
         rw [List.filter_cons_of_neg (show ¬ fewP ns bs i = true by unfold fewP; rw [decide_eq_true_eq]; first | exact fun q => q2 q.1 | exact fun q => q2 q.2), List.filter_nil, List.map_nil, List.append_nil]
         exact hys))
  case done =>
    rintro ys news ⟨hys, rfl⟩
    intro D hD tkD FD ND hof
    have hgD : GoodR [(D, listOf ys.toArray ys.length)] := good_off hof h57 h64 (fun v e => nomatch e) (fun p hp => nomatch hp)
    have hD57 : @Ne Nat D 57 := (hgD _ (.head _)).1
    have hD64 : @Ne Nat D 64 := (hgD _ (.head _)).2.1
    have hlz : (((List.range (ns.length + 2)).filter (fewP ns bs)).map fun y : Nat => (y : Int)).length ≤ ns.length + 2 := by
      rw [List.length_map]
      exact Nat.le_trans (List.length_filter_le _ _) (by rw [List.length_range]; exact Nat.le_refl _)
    have hrb' : (rk1 ns (bs.getD (Int.toNat 0) 0) ((ns.length : Int) + 2)).natAbs < 2 ^ 60 := hrb
    have hne : ¬ rk0 ns (bs.getD (Int.toNat 1) 0) (rk1 ns (bs.getD (Int.toNat 0) 0) ((ns.length : Int) + 2)) ≠ (((List.range (ns.length + 2)).filter (fewP ns bs)).map fun y : Nat => (y : Int)).length := fun h => h hfew
    replace ND : News g L hD ((D, listOf ys.toArray ys.length) :: led L o1 o2 o3 o4 o5 o6 o7 ps t57 t64 [(bn, listOf bv.toArray kb), (tn, listOf tv.toArray kt), (pn, listOf pv.toArray kp), (ln, listOf lv.toArray kn), (d9, listOf ws9.toArray k9)]) := ND
    unfold led at ND
    k_steps
    all_goals (try (exact absurd (by assumption) hne))
    unfold Stop
    rename Fr g L _ _ => Fe
    rename News g L _ _ => Ne
    rename TabSt 57 _ _ _ _ => hA9
    rename TabSt 64 _ _ _ _ => hB9
    refine hnext _ _ _ _ _ hA9 hB9 Fe (cb_drop Ne ?sub)
    case sub =>
      first
      | exact fun p hp => List.mem_cons.mpr (led_cons.mp hp)
      | exact fun p hp => .tail _ (List.mem_cons.mpr (led_cons.mp hp))
      | exact fun p hp => .tail _ (.tail _ (List.mem_cons.mpr (led_cons.mp hp)))
      | exact fun p hp => hp
      | exact fun p hp => .tail _ hp
      | exact fun p hp => .tail _ (.tail _ hp)
      | exact fun p hp => .tail _ (.tail _ (.tail _ hp))
      | exact fun p hp => .tail _ (.tail _ (.tail _ (.tail _ hp)))
      | exact fun p hp => .tail _ (.tail _ (.tail _ (.tail _ (.tail _ hp))))
      | exact fun p hp => .tail _ (.tail _ (.tail _ (.tail _ (.tail _ (.tail _ hp)))))
      | exact fun p hp => (led_cons.mp hp).elim (fun e => e ▸ .head _) fun hp => .tail _ (.tail _ hp)
      | exact fun p hp => (led_cons.mp hp).elim (fun e => e ▸ .tail _ (.head _)) fun hp => .tail _ (.tail _ (.tail _ hp))
      | exact fun p hp => (led_cons.mp hp).elim (fun e => e ▸ .tail _ (.head _)) fun hp => (List.mem_cons.mp hp).elim (fun e => e ▸ .head _) fun hp => .tail _ (.tail _ hp)
end

section
theorem off_S14 : True ∧ True := by
  w_top off
  walk1
  all_goals trivial
local macro_rules | `(tactic| walk_at "eval ListComp") => `(tactic| k_dflt refine ListComp2_U ?_)
local macro_rules | `(tactic| walk_at "Src2") => `(tactic| (refine Stop.of ?_))
local macro_rules | `(tactic| walk_at "call ref") => `(tactic| k_dflt (first | (refine' Ctr.useR ?_ (C := read_L); intros; (try dsimp only [List.cons_append, List.nil_append] at *); (try (rename_i l9 _ _ _ _; k_lt l9)); walk_at "y") | refine Stop.of ?_))

local macro_rules | `(tactic| walk_at "execs cons") => `(tactic| with_reducible refine stCall ?_)
def l16 (wt i j : Nat) : List Int := (List.range i).flatMap (fun s : Nat => List.replicate wt (s : Int)) ++ List.replicate j (i : Int)
def lineW (wt : Nat) : List Int := l16 wt 16 0
theorem l16_len (wt i j : Nat) : (l16 wt i j).length = i * wt + j := by
  unfold l16
  rw [List.length_append, List.length_replicate, List.length_flatMap]
  congr 1
  induction i with
  | zero => simp
  | succ i ih => rw [List.range_succ, List.map_append, List.sum_append, ih]; simp [Nat.add_mul]
theorem l16_next (wt i : Nat) : l16 wt (i + 1) 0 = l16 wt i wt := by
  unfold l16
  rw [List.range_succ, List.flatMap_append]
  simp
theorem l16_succ (wt i j : Nat) : l16 wt i (j + 1) = l16 wt i j ++ [(i : Int)] := by
  unfold l16
  rw [List.replicate_succ', ← List.append_assoc]
set_option maxHeartbeats 4000000 in
theorem s14 {w : World} {o : Obj} {fd : FuncData} {body : List Stmt} (ho : (hd.heap_1 w.params).lookup 142 = some o) (hfd : o.data = .func fd) (hbd : fd.body = .stmts body) {p : Program} {loose : List Str} {mean : ExcName → Option Value} {mg mb : Str → Option Value} {g : Heap} {L : Nat} {fa : Addr} {cd : Value} {s : Shared} {Q : Flow → Shared → Prop} {E : Value → Shared → Prop} (B : Below callerA g [] g) (X : (hd.heap_1 w.params).In g) (T : Top p loose mean mg mb g) {o1 o2 o3 o4 o5 o6 o7 : Obj} {ps : Array Value} {t57 t64 : List (Addr × Obj)} {m0 : Str → Option Value} {d9 ln pn tn bn : Addr} {ws9 lv pv tv bv : List Value} {k9 kn kp kt kb : Nat} {ns cs : List Int} {tf td : Tok} {dr : Int} {wt : Nat} (hcs : IntsAre ws9 cs) (hcl : cs.length = 5) (hcb : ∀ c ∈ cs, 0 ≤ c ∧ c < 1000000000) (hwt : 1 + (cs.getD (Int.toNat 4) 0).fmod 3 = (wt : Int)) (hw1 : 1 ≤ wt) (hw3 : Bnd4 wt)
    (hd0 : 0 ≤ dr) (hd1 : dr < 1000) (hs : Srt (lineW wt)) (hend : readE (lineW wt) 59 dr < Wt (lineW wt) 0)
    (d1 : o1.data = .cell (some (.ref d9))) (d7 : o7.data = .cell none)
    (h57 : T57 t57) (h64 : T64 t64) (hg : GoodR [(bn, listOf bv.toArray kb), (tn, listOf tv.toArray kt), (pn, listOf pv.toArray kp), (ln, listOf lv.toArray kn), (d9, listOf ws9.toArray k9)])
    (F : Fr g L s.heap (fun y => if y = Str.ofString "drawn" then some (.int dr td) else if y = Str.ofString "far" then some (.int ((ns.length : Int) + 2) tf) else m0 y)) (N : News g L s.heap (led L o1 o2 o3 o4 o5 o6 o7 ps t57 t64 [(bn, listOf bv.toArray kb), (tn, listOf tv.toArray kt), (pn, listOf pv.toArray kp), (ln, listOf lv.toArray kn), (d9, listOf ws9.toArray k9)]))
    (hnext : ∀ (h : Heap) (tk : Tok) (te tw : Tok) (l2 : Addr) (w2 : List Value) (k2 : Nat) (oc7 : Obj) (t57' t64' : List (Addr × Obj)), T57 t57' → T64 t64' → IntsAre w2 (readL (lineW wt) 60 dr) → oc7.data = .cell (some (.int (wt : Int) tw)) → GoodR [(l2, listOf w2.toArray k2), (bn, listOf bv.toArray kb), (tn, listOf tv.toArray kt), (pn, listOf pv.toArray kp), (ln, listOf lv.toArray kn), (d9, listOf ws9.toArray k9)] → Fr g L h (fun y => if y = Str.ofString "end" then some (.int (readE (lineW wt) 60 dr) te) else if y = Str.ofString "letters" then some (.ref l2) else if y = Str.ofString "drawn" then some (.int dr td) else if y = Str.ofString "far" then some (.int ((ns.length : Int) + 2) tf) else m0 y) → News g L h (led L o1 o2 o3 o4 o5 o6 oc7 ps t57' t64' [(l2, listOf w2.toArray k2), (bn, listOf bv.toArray kb), (tn, listOf tv.toArray kt), (pn, listOf pv.toArray kp), (ln, listOf lv.toArray kn), (d9, listOf ws9.toArray k9)]) →
      wpAny (model Pg w) (callerA.deeper (envOfC "law" fd.scope L fa cd)) (execs (body.drop 28) (envOfC "law" fd.scope L fa cd)) Q E { s with heap := h, toks := tk }) :
    wpAny (model Pg w) (callerA.deeper (envOfC "law" fd.scope L fa cd)) (execs (body.drop 26) (envOfC "law" fd.scope L fa cd)) Q E s := by
  have eo := lk_inj ho (by k_is)
  subst eo
  cases hfd
  cases hbd
  dsimp only [List.drop] at hnext ⊢
  have off7 : ∀ p ∈ t57 ++ (t64 ++ [(bn, listOf bv.toArray kb), (tn, listOf tv.toArray kt), (pn, listOf pv.toArray kp), (ln, listOf lv.toArray kn), (d9, listOf ws9.toArray k9)]), p.1 ≠ (L + 1 + 1 + 1 + 1 + 1 + 1 + 1 : Nat) := offT N (.tail _ (.tail _ (.tail _ (.tail _ (.tail _ (.tail _ (.head _))))))) d7 led_tabs h57 h64 hg
  unfold led at N
  have hL := low_L X F
  have hc4 := hcb _ (getD_mem (k := 4) (by omega))
  k_steps
  unfold Stop
  rename Fr g L _ _ => Fz
  rename News g L _ _ => Nz
  rename IsRange _ _ _ _ _ _ _ _ => Rz
  rename _ = Data.cell _ => dc7
  rw [hwt] at dc7
  rename_i oc7 F0 N0 h2 tk2 t₁ u₁ v₁ hG
  have hls : (lineW wt).length ≤ 100 := by rw [lineW, l16_len]; unfold Bnd4 at hw3; omega
  have hls2 : 0 < (lineW wt).length := by rw [lineW, l16_len]; omega
  refine ⟨_, t₁, u₁, v₁, 16, fun _ => wt, fun i j ys n' => IntsAre ys (l16 wt i j) ∧ n' = led L o1 o2 o3 o4 o5 o6 oc7 ps t57 t64 [(bn, listOf bv.toArray kb), (tn, listOf tv.toArray kt), (pn, listOf pv.toArray kp), (ln, listOf lv.toArray kn), (d9, listOf ws9.toArray k9)] ∧ i ≤ 16 ∧ j ≤ wt, _, rfl, rfl, Fz, Nz, Rz, by rfl, by rfl, ?sz, ⟨.nil, rfl, by omega, by omega⟩, ?iter, ?elt, ?next, ?done⟩
  case sz =>
    rintro i j ys n' ⟨h1, _, h2, h3⟩
    have := h1.length
    rw [l16_len] at this
    unfold Bnd4 at hw3
    have := Nat.mul_le_mul h2 hw3
    rw [sizeLine_eq]
    omega
  case iter =>
    rintro i ys news t I oI C oC D m₂ h tk E' hi ⟨hys, rfl, hj, hic⟩ hn hx F N ho hne
    unfold led at N
    k_steps
    rename Fr g L _ _ => Fe
    rename News g L _ _ => Ne
    rename IsRange _ _ _ _ _ _ _ _ => Re
    exact ⟨_, _, _, _, _, _, rfl, rfl, Fe, Ne, Re, small_any (by unfold Bnd4 at hw3; omega), size_any⟩
  case elt =>
    rintro i j ys news t t' I2 oI2 I oI C oC D m₂ h tk E' hi hj ⟨hys, rfl, hj', hic⟩ hn hx hy F N ho ho2 hne
    rw [Int.zero_add] at hx hy
    k_steps
    refine ⟨_, _, _, rfl, F, N, ho, ho2, ?_⟩
    unfold Stop
    exact ⟨by rw [l16_succ]; exact hys.append (.cons _ _ .nil), rfl, hj', hj⟩
  case next =>
    rintro i ys news hi ⟨hys, e, h2, h3⟩
    exact ⟨by rw [l16_next]; exact hys, e, hi, Nat.zero_le _⟩
  case done =>
    rintro ys news ⟨hys, rfl, _, _⟩
    intro D hD tkD FD ND hof
    have hgD : GoodR [(D, listOf ys.toArray ys.length)] := good_off hof h57 h64 (fun v e => nomatch e) (fun p hp => nomatch hp)
    have hD57 : @Ne Nat D 57 := (hgD _ (.head _)).1
    have hD64 : @Ne Nat D 64 := (hgD _ (.head _)).2.1
    replace hys : IntsAre ys (lineW wt) := hys
    replace ND : News g L hD ((D, listOf ys.toArray ys.length) :: led L o1 o2 o3 o4 o5 o6 oc7 ps t57 t64 [(bn, listOf bv.toArray kb), (tn, listOf tv.toArray kt), (pn, listOf pv.toArray kp), (ln, listOf lv.toArray kn), (d9, listOf ws9.toArray k9)]) := ND
    unfold led at ND
    k_steps
    unfold Stop
    rename Fr g L _ _ => Fe
    rename News g L _ _ => Ne
    rename IntsAre _ (readL _ _ _) => hI9
    rename TabSt 64 _ _ _ _ => hB9
    rename TabSt 57 _ _ _ _ => hA9
    rename @LT.lt Nat _ 64 _ => x9
    rename ∀ p ∈ _, Prod.fst p ≠ _ => m9
    rename_i D9 lt9 w9 kk9 v9 a9 b9 o9 l9 h3 h4 h5
    have m97 := m9 ((97 : Addr), tabObj ps) (by (repeat (first | exact List.Mem.head _ | refine List.Mem.tail _ ?_)))
    refine hnext _ _ _ _ lt9 w9 kk9 oc7 _ _ hA9 hB9 hI9 dc7 (good_cons ?ga ?gb ?gc (fun v e => nomatch e) hg) Fe (cb_drop Ne ?sub)
    case ga => exact fun e => by rw [e] at x9; exact absurd x9 (by decide)
    case gb => exact fun e => by rw [e] at x9; exact absurd x9 (by decide)
    case gc => exact fun e => m97 e.symm
    case sub =>
      first
      | exact fun p hp => List.mem_cons.mpr (led_cons.mp hp)
      | exact fun p hp => .tail _ (List.mem_cons.mpr (led_cons.mp hp))
      | exact fun p hp => .tail _ (.tail _ (List.mem_cons.mpr (led_cons.mp hp)))
      | exact fun p hp => hp
      | exact fun p hp => .tail _ hp
      | exact fun p hp => .tail _ (.tail _ hp)
      | exact fun p hp => .tail _ (.tail _ (.tail _ hp))
      | exact fun p hp => .tail _ (.tail _ (.tail _ (.tail _ hp)))
      | exact fun p hp => .tail _ (.tail _ (.tail _ (.tail _ (.tail _ hp))))
      | exact fun p hp => .tail _ (.tail _ (.tail _ (.tail _ (.tail _ (.tail _ hp)))))
      | exact fun p hp => (led_cons.mp hp).elim (fun e => e ▸ .head _) fun hp => .tail _ (.tail _ hp)
      | exact fun p hp => (led_cons.mp hp).elim (fun e => e ▸ .tail _ (.head _)) fun hp => .tail _ (.tail _ (.tail _ hp))
      | exact fun p hp => (led_cons.mp hp).elim (fun e => e ▸ .tail _ (.head _)) fun hp => (List.mem_cons.mp hp).elim (fun e => e ▸ .head _) fun hp => .tail _ (.tail _ hp)
end

section
theorem off_S15 : True ∧ True := by
  w_top off
  walk1
  all_goals trivial
local macro_rules | `(tactic| walk_at "call ref") => `(tactic| k_dflt (first | ((first | refine' Ctr.useT2 ?_ (C := idm_L) | refine' Ctr.useB ?_ (C := ap_C)); intros; walk_at "y") | refine Stop.of ?_))

local macro_rules | `(tactic| walk_at "CompSrc") => `(tactic| (refine Stop.of ?_))
theorem eq_tup2 {prog : Program} {w : World} {A : Around} {E : Value → Shared → Prop} {s : Shared} {h₀ : Heap} {L : Addr} {news : List (Addr × Obj)} {a b : Addr} {x y x' y' : Int} {t u t' u' : Tok} {Q : Value → Shared → Prop} (h : Q (.bool true) s) (N : News h₀ L s.heap news := by k_asm) (ha : (a, tupOf #[.int x t, .int y u]) ∈ news := by k_mem) (hb : (b, tupOf #[.int x' t', .int y' u']) ∈ news := by k_mem) (e1 : x = x' := by first | assumption | rfl) (e2 : y = y' := by assumption) (hu : A.units + 64 < cLine := by ke_room) :
    wpAny (model prog w) A (compareOp .Eq (.ref a) (.ref b)) Q E s := by
  subst e1 e2
  refine eq_dataH (reads_tuple_at (N.get ha) rfl rfl (ReadsAll.cons (Reads.int _ _) (ReadsAll.cons (Reads.int _ _) ReadsAll.nil))) (reads_tuple_at (N.get hb) rfl rfl (ReadsAll.cons (Reads.int _ _) (ReadsAll.cons (Reads.int _ _) ReadsAll.nil))) rfl rfl hu ?_
  simpa [PyData.eqv, PyData.eqvAll] using h
local macro_rules | `(tactic| walk_at "compareOp Eq ref ref") => `(tactic| k_dflt refine' eq_tup2 ?_)
local macro_rules | `(tactic| walk_at "call type:bytes") => `(tactic| (k_dflt refine' bytes_K (by k_asm) (by k_asm) (News.isList (by k_asm) List.mem_cons_self) (by assumption) (by assumption) (by rw [sizeLine_eq]; omega) rfl ?_; intros; (try k_sweep)))
set_option maxHeartbeats 4000000 in
theorem s15 {w : World} {o : Obj} {fd : FuncData} {body : List Stmt} (ho : (hd.heap_1 w.params).lookup 142 = some o) (hfd : o.data = .func fd) (hbd : fd.body = .stmts body) {p : Program} {loose : List Str} {mean : ExcName → Option Value} {mg mb : Str → Option Value} {g : Heap} {L : Nat} {fa : Addr} {cd : Value} {s : Shared} {Q : Flow → Shared → Prop} {E : Value → Shared → Prop} (B : Below callerA g [] g) (X : (hd.heap_1 w.params).In g) (T : Top p loose mean mg mb g) {o1 o2 o3 o4 o5 o6 o7 : Obj} {ps : Array Value} {t57 t64 : List (Addr × Obj)} {m0 : Str → Option Value} {d9 ln pn tn bn l2 : Addr} {ws9 lv pv tv bv w2 : List Value} {k9 kn kp kt kb k2 : Nat} {ns ds : List Int} {tf td te tw : Tok} {dr en : Int} {wt : Nat} (hw1 : 1 ≤ wt) (hw3 : wt < 100)
    (hd0 : 0 ≤ dr) (hd1 : dr < 1000) (hw2 : IntsAre w2 ds) (hlen : ds.length ≤ 60) (hdg : ∀ d ∈ ds, 0 ≤ d ∧ d < 16) (hen : dr % (wt : Int) = en) (hq : (dr / (wt : Int)).natAbs < 2 ^ 800) (hwd : apL (digs 4 (nd 4 ((dr / (wt : Int)).natAbs : Int)) ((dr / (wt : Int)).natAbs : Int)) = (ds.reverse.map fun d => UInt8.ofNat (65 + d.toNat)).toArray)
    (d7 : o7.data = .cell (some (.int (wt : Int) tw)))
    (h57 : T57 t57) (h64 : T64 t64) (hg : GoodR [(l2, listOf w2.toArray k2), (bn, listOf bv.toArray kb), (tn, listOf tv.toArray kt), (pn, listOf pv.toArray kp), (ln, listOf lv.toArray kn), (d9, listOf ws9.toArray k9)])
    (F : Fr g L s.heap (fun y => if y = Str.ofString "end" then some (.int en te) else if y = Str.ofString "letters" then some (.ref l2) else if y = Str.ofString "drawn" then some (.int dr td) else if y = Str.ofString "far" then some (.int ((ns.length : Int) + 2) tf) else m0 y)) (N : News g L s.heap (led L o1 o2 o3 o4 o5 o6 o7 ps t57 t64 [(l2, listOf w2.toArray k2), (bn, listOf bv.toArray kb), (tn, listOf tv.toArray kt), (pn, listOf pv.toArray kp), (ln, listOf lv.toArray kn), (d9, listOf ws9.toArray k9)]))
    (hQ : ∀ (h : Heap) (tk : Tok) (m : Str → Option Value) (t57' t64' R : List (Addr × Obj)), T57 t57' → T64 t64' → Fr g L h m → News g L h (led L o1 o2 o3 o4 o5 o6 o7 ps t57' t64' R) → Q (.ret (.bool true)) { s with heap := h, toks := tk }) :
    wpAny (model Pg w) (callerA.deeper (envOfC "law" fd.scope L fa cd)) (execs (body.drop 28) (envOfC "law" fd.scope L fa cd)) Q E s := by
  have eo := lk_inj ho (by k_is)
  subst eo
  cases hfd
  cases hbd
  dsimp only [List.drop] 
  unfold led at N
  have hL := low_L X F
  have hw2l := hw2.length
  k_steps
  unfold Stop
  rename Fr g L _ _ => Fz
  rename News g L _ _ => Nz
  rename IntsAre _ ds.reverse => hIr
  rename TabSt 64 _ _ _ _ => hB9
  rename TabSt 57 _ _ _ _ => hA9
  have hwl := hIr.length
  rw [List.length_reverse] at hwl
  refine LCg.CompSrc.ledger rfl Fz Nz List.mem_cons_self (by rw [sizeLine_eq, List.size_toArray]; omega) ?_
  intro g9
  refine comp_ind (fun i ys n' => IntsAre ys ((ds.reverse.take i).map (65 + ·)) ∧ n' = _) ?turn ?done _ _ _ _ (Nat.zero_add _) ⟨.nil, rfl⟩
  case turn =>
    rintro i ys news v I oI C oC D2 m₂ h tk E' hi ⟨hys, rfl⟩ hP hn hx F N ho hne
    rw [List.size_toArray] at hi
    obtain ⟨t, ht⟩ := hIr.get i (ds.reverse.getD i 0) (by rw [List.getD_eq_getElem?_getD, List.getElem?_eq_getElem (by rw [List.length_reverse]; omega)]; rfl)
    rw [List.getElem?_toArray, ht] at hP
    cases hP
    have hb := hdg (ds.reverse.getD i 0) (by rw [List.getD_eq_getElem?_getD, List.getElem?_eq_getElem (by rw [List.length_reverse]; omega)]; exact List.mem_reverse.mp (List.getElem_mem _))
    k_steps
    refine LCg.CompEnd.intro F N _ (fun p hp => hp) ho (.inr ⟨_, List.mem_cons_self, rfl, _, rfl⟩) ?_
    refine ⟨?_, rfl⟩
    rw [List.take_add_one, List.map_append]
    refine hys.append ?_
    rw [List.getElem?_eq_getElem (by rw [List.length_reverse]; omega)]
    rw [List.getD_eq_getElem?_getD, List.getElem?_eq_getElem (by rw [List.length_reverse]; omega)]
    exact .cons _ _ .nil
  case done =>
    rintro ys news ⟨hys, rfl⟩
    rw [List.size_toArray, List.take_of_length_le (by rw [List.length_reverse]; omega)] at hys
    have hyl := hys.length
    rw [List.length_map, List.length_reverse] at hyl
    intro D hD tkD FD ND hof
    have hb : ((ds.reverse.map (65 + ·)).map fun n : Int => n.toNat.toUInt8).toArray = (ds.reverse.map fun d => UInt8.ofNat (65 + d.toNat)).toArray := by
      rw [List.map_map]
      congr 1
      refine List.map_congr_left fun d hd => ?_
      have := hdg d (List.mem_reverse.mp hd)
      show (65 + d).toNat.toUInt8 = UInt8.ofNat (65 + d.toNat)
      rw [show (65 + d).toNat = 65 + d.toNat by omega]
    have hr : ∀ n ∈ ds.reverse.map (65 + ·), 0 ≤ n ∧ n < 256 := by
      intro n hn
      obtain ⟨d, hd, rfl⟩ := List.mem_map.mp hn
      have := hdg d (List.mem_reverse.mp hd)
      omega
    k_steps
    rename Fr g L _ _ => Fe
    rename News g L _ _ => Ne
    have e9 : ((apL (digs 4 (nd 4 ((dr / (wt : Int)).natAbs : Int)) ((dr / (wt : Int)).natAbs : Int))).toList == ((ds.reverse.map (65 + ·)).map fun n : Int => n.toNat.toUInt8).toArray.toList) = true := by
      rw [hwd, hb]
      exact beq_self_eq_true _
    rw [e9]
    refine hQ _ _ _ _ _ [(l2, listOf w2.toArray k2), (bn, listOf bv.toArray kb), (tn, listOf tv.toArray kt), (pn, listOf pv.toArray kp), (ln, listOf lv.toArray kn), (d9, listOf ws9.toArray k9)] hA9 hB9 Fe (cb_drop Ne ?sub)
    case sub =>
      intro p hp
      unfold led at hp
      exact .tail _ (.tail _ (.tail _ (.tail _ hp)))
end

end

section
theorem off_P1 : True ∧ True := by
  w_top off
  walk1
  all_goals trivial

theorem dm_uniq {W q b : Int} (h0 : 0 ≤ b) (h1 : b < W) : (W * q + b) / W = q ∧ (W * q + b) % W = b := by
  rw [Int.add_comm, Int.add_mul_ediv_left _ _ (by omega), Int.add_mul_emod_self_left, Int.ediv_eq_zero_of_lt h0 h1, Int.emod_eq_of_lt h0 h1]
  omega
section
variable {ns : List Int}
theorem at_spec (hs : Srt ns) (h0 : 0 < ns.length) (y x : Int) : (atV ns y < x ↔ y % ns.length < cL ns x) ∧ (x < atV ns y ↔ cR ns x ≤ y % ns.length) := by
  have hm0 := Int.emod_nonneg y (show (ns.length : Int) ≠ 0 by omega)
  have hm1 := Int.emod_lt_of_pos y (show (0 : Int) < ns.length by omega)
  have h1 := cL_spec hs x (y % ns.length).toNat (by omega)
  have h2 := cR_spec hs x (y % ns.length).toNat (by omega)
  rw [Int.toNat_of_nonneg hm0] at h1 h2
  exact ⟨h1, h2⟩
theorem ix_facts (hs : Srt ns) (h0 : 0 < ns.length) (y : Int) : 0 ≤ y % ns.length ∧ y % ns.length < ns.length ∧ cL ns (atV ns y) ≤ y % ns.length ∧ y % ns.length < cR ns (atV ns y) := by
  have hm0 := Int.emod_nonneg y (show (ns.length : Int) ≠ 0 by omega)
  have hm1 := Int.emod_lt_of_pos y (show (0 : Int) < ns.length by omega)
  have h1 := at_spec hs h0 y (atV ns y)
  have a1 : ¬ (y % ns.length < cL ns (atV ns y)) := fun h => Int.lt_irrefl _ (h1.1.2 h)
  have a2 : ¬ (cR ns (atV ns y) ≤ y % ns.length) := fun h => Int.lt_irrefl _ (h1.2.2 h)
  omega
theorem at_mem (h0 : 0 < ns.length) (y : Int) : atV ns y ∈ ns := by
  have hm0 := Int.emod_nonneg y (show (ns.length : Int) ≠ 0 by omega)
  have hm1 := Int.emod_lt_of_pos y (show (0 : Int) < ns.length by omega)
  unfold atV
  rw [List.getD_eq_getElem?_getD, List.getElem?_eq_getElem (by omega)]
  exact List.getElem_mem _
theorem W_at (hs : Srt ns) (h0 : 0 < ns.length) (y : Int) : 0 < Wt ns (atV ns y) := by
  have := ix_facts hs h0 y
  unfold Wt
  omega
theorem place_step (hs : Srt ns) (h0 : 0 < ns.length) (y : Int) : placeV ns (atV ns y) (stepR ns y) = y := by
  have h1 := ix_facts hs h0 y
  have e : stepR ns y = Wt ns (atV ns y) * (y / ns.length) + (y % ns.length - cL ns (atV ns y)) := by unfold stepR; omega
  have h2 := dm_uniq (W := Wt ns (atV ns y)) (q := y / ns.length) (b := y % ns.length - cL ns (atV ns y)) (by omega) (by unfold Wt; omega)
  unfold placeV
  rw [e, h2.1, h2.2]
  have := Int.mul_ediv_add_emod y ns.length
  omega
theorem lenp (h0 : 0 < ns.length) : (0 : Int) < ns.length := Int.natCast_pos.mpr h0
theorem mx_mn (r c : Int) : max r c = r + c - min c r := by omega
theorem mm0 {c r : Int} (hc : 0 ≤ c) (hr : 0 ≤ r) : max 0 (min c r) = min c r := by omega
theorem rk0_eq (h0 : 0 < ns.length) (x p : Int) : rk0 ns x p = Wt ns x * (p / ns.length) + (min (cR ns x) (p % ns.length) - min (cL ns x) (p % ns.length)) := by
  have hm0 := Int.emod_nonneg p (Int.ne_of_gt (lenp h0))
  have hc := cL_le ns x
  unfold rk0
  rw [mm0 (Int.le_trans hc.1 hc.2.1) hm0, mm0 hc.1 hm0]
theorem ari1 (m r R L a b : Int) : m + (a - b) = m + (R - L) - (r + R - a - (r + L - b)) := by omega
theorem rk01 (h0 : 0 < ns.length) (x p : Int) : rk0 ns x p = rk1 ns x p := by
  rw [rk0_eq h0]
  unfold rk1
  rw [Int.mul_add, Int.mul_one, mx_mn, mx_mn]
  exact ari1 _ _ _ _ _ _
theorem fl {R L r b : Int} (hb : 0 ≤ b) (hb1 : b < R - L) : r ≤ L + b ↔ min R r - min L r ≤ b := by omega
theorem f_le {R L : Int} (h : L ≤ R) (r : Int) : 0 ≤ min R r - min L r ∧ min R r - min L r ≤ R - L := by omega
theorem gal_lt {n W q a r b f c : Int} (h : q < a) (hr : r < n) (hn : 0 ≤ n) (hW : 0 ≤ W) (hf : f ≤ W) (hb : 0 ≤ b) (hc : 0 ≤ c) : n * q + r ≤ n * a + c + b ∧ W * q + f ≤ W * a + b := by
  have m1 := Int.mul_le_mul_of_nonneg_left (show q + 1 ≤ a from h) hn
  have m2 := Int.mul_le_mul_of_nonneg_left (show q + 1 ≤ a from h) hW
  rw [Int.mul_add, Int.mul_one] at m1 m2
  omega
theorem gal_gt {n W q a r b f c : Int} (h : a < q) (hr : 0 ≤ r) (hn : 0 ≤ n) (hW : 0 ≤ W) (hf : 0 ≤ f) (hb : b < W) (hc : c + W ≤ n) : n * a + c + b < n * q + r ∧ W * a + b < W * q + f := by
  have m1 := Int.mul_le_mul_of_nonneg_left (show a + 1 ≤ q from h) hn
  have m2 := Int.mul_le_mul_of_nonneg_left (show a + 1 ≤ q from h) hW
  rw [Int.mul_add, Int.mul_one] at m1 m2
  omega
theorem add_iff {m r c b f : Int} (h : r ≤ c + b ↔ f ≤ b) (m2 : Int) : m + r ≤ m + c + b ↔ m2 + f ≤ m2 + b := by
  rw [Int.add_assoc, Int.add_le_add_iff_left, Int.add_le_add_iff_left]
  exact h
theorem galois (h0 : 0 < ns.length) {x : Int} (hW : 0 < Wt ns x) (p t : Int) : p ≤ placeV ns x t ↔ rk0 ns x p ≤ t := by
  have hm0 := Int.emod_nonneg p (Int.ne_of_gt (lenp h0))
  have hm1 := Int.emod_lt_of_pos p (lenp h0)
  have hb0 := Int.emod_nonneg t (Int.ne_of_gt hW)
  have hb1 := Int.emod_lt_of_pos t hW
  have hc := cL_le ns x
  have hf := f_le hc.2.1 (p % ns.length)
  have hlen : cL ns x + Wt ns x ≤ ns.length := by rw [show Wt ns x = cR ns x - cL ns x from rfl, Int.add_comm, Int.sub_add_cancel]; exact hc.2.2
  rw [rk0_eq h0]
  unfold placeV
  refine Iff.trans (b := (ns.length : Int) * (p / ns.length) + p % ns.length ≤ ns.length * (t / Wt ns x) + cL ns x + t % Wt ns x) (by rw [Int.mul_ediv_add_emod]) (Iff.trans ?_ (b := Wt ns x * (p / ns.length) + (min (cR ns x) (p % ns.length) - min (cL ns x) (p % ns.length)) ≤ Wt ns x * (t / Wt ns x) + t % Wt ns x) (by rw [Int.mul_ediv_add_emod t]))
  rcases Int.lt_trichotomy (p / (ns.length : Int)) (t / Wt ns x) with h | h | h
  · have g := gal_lt h hm1 (Int.le_of_lt (lenp h0)) (Int.le_of_lt hW) hf.2 hb0 hc.1
    exact iff_of_true g.1 g.2
  · rw [h]
    exact add_iff (fl hb0 hb1) _
  · have g := gal_gt h hm0 (Int.le_of_lt (lenp h0)) (Int.le_of_lt hW) hf.1 hb1 hlen
    exact iff_of_false (Int.not_le.mpr g.1) (Int.not_le.mpr g.2)
theorem msucc (c r : Int) : min c (r + 1) = min c r + (if r < c then 1 else 0) := by split <;> omega
theorem ari2 (m a b : Int) : m + (a + 1 - (b + 0)) = m + (a - b) + 1 := by omega
theorem ari3 (m a b : Int) : m + (a + 1 - (b + 1)) = m + (a - b) + 0 := by omega
theorem ari4 (m a b : Int) : m + (a + 0 - (b + 0)) = m + (a - b) + 0 := by omega
theorem rk_next (h0 : 0 < ns.length) (x p : Int) : rk0 ns x (p + 1) = Wt ns x * (p / ns.length) + (min (cR ns x) (p % ns.length + 1) - min (cL ns x) (p % ns.length + 1)) := by
  have hn := lenp h0
  have hm0 := Int.emod_nonneg p (Int.ne_of_gt hn)
  have hm1 := Int.emod_lt_of_pos p hn
  have hc := cL_le ns x
  rw [rk0_eq h0]
  rcases Int.lt_or_eq_of_le (show p % ns.length + 1 ≤ ns.length from hm1) with h | h
  · have d := dm_uniq (W := ns.length) (q := p / ns.length) (b := p % ns.length + 1) (Int.le_trans hm0 (Int.le_add_one (Int.le_refl _))) h
    rw [← Int.add_assoc, Int.mul_ediv_add_emod] at d
    rw [d.1, d.2]
  · have d := dm_uniq (W := ns.length) (q := p / ns.length + 1) (b := 0) (Int.le_refl _) hn
    rw [Int.add_zero, Int.mul_add, Int.mul_one] at d
    have e : p + 1 = (ns.length : Int) * (p / ns.length) + ns.length := by
      conv => lhs; rw [← Int.mul_ediv_add_emod p ns.length, Int.add_assoc, h]
    rw [e, d.1, d.2, h, Int.min_eq_right (Int.le_trans hc.1 hc.2.1), Int.min_eq_right hc.1, Int.min_eq_left hc.2.2, Int.min_eq_left (Int.le_trans hc.2.1 hc.2.2), Int.mul_add, Int.mul_one, Int.sub_self, Int.add_zero]
    rfl
theorem rk_succ (hs : Srt ns) (h0 : 0 < ns.length) (x p : Int) : rk0 ns x (p + 1) = rk0 ns x p + (if atV ns p = x then 1 else 0) := by
  have hc := cL_le ns x
  have sp := at_spec hs h0 p x
  rw [rk_next h0, rk0_eq h0, msucc, msucc]
  by_cases h : atV ns p = x
  · have i := ix_facts hs h0 p
    rw [h] at i
    rw [if_pos h, if_pos i.2.2.2, if_neg (Int.not_lt.mpr i.2.2.1)]
    exact ari2 _ _ _
  · rw [if_neg h]
    rcases Int.lt_or_gt_of_ne h with h | h
    · have a := sp.1.1 h
      rw [if_pos (Int.lt_of_lt_of_le a hc.2.1), if_pos a]
      exact ari3 _ _ _
    · have a := sp.2.1 h
      rw [if_neg (Int.not_lt.mpr a), if_neg (Int.not_lt.mpr (Int.le_trans hc.2.1 a))]
      exact ari4 _ _ _
theorem rk_zero (x : Int) : rk0 ns x 0 = 0 := by
  unfold rk0
  have hc := cL_le ns x
  rw [Int.zero_ediv, Int.zero_emod, Int.mul_zero, Int.min_eq_right hc.1, Int.min_eq_right (Int.le_trans hc.1 hc.2.1)]
  rfl
theorem rk_count (hs : Srt ns) (h0 : 0 < ns.length) (x : Int) : ∀ p : Nat, rk0 ns x p = ((List.range p).countP (fun y : Nat => decide (atV ns (y : Int) = x)) : Nat)
  | 0 => by rw [show ((0 : Nat) : Int) = 0 from rfl, rk_zero]; rfl
  | p + 1 => by
    rw [show ((p + 1 : Nat) : Int) = (p : Int) + 1 by omega, rk_succ hs h0, rk_count hs h0 x p, List.range_succ, List.countP_append, List.countP_singleton]
    by_cases h : atV ns (p : Int) = x
    · simp [h]
    · simp [h]
theorem step_rk (hs : Srt ns) (h0 : 0 < ns.length) (y : Int) : stepR ns y = rk0 ns (atV ns y) y := by
  have h1 := ix_facts hs h0 y
  rw [rk0_eq h0, Int.min_eq_right (Int.le_of_lt h1.2.2.2), Int.min_eq_left h1.2.2.1]
  unfold stepR
  exact Int.add_sub_assoc _ _ _
theorem step_turn (hs : Srt ns) (h0 : 0 < ns.length) (i : Nat) : stepR ns (i : Int) = turnV ns i := by
  rw [step_rk hs h0, rk_count hs h0]
  rfl
theorem turn_bnd (i : Nat) : 0 ≤ turnV ns i ∧ turnV ns i ≤ i := by
  unfold turnV
  have := List.countP_le_length (p := fun y : Nat => decide (atV ns (y : Int) = atV ns (i : Int))) (l := List.range i)
  rw [List.length_range] at this
  omega
theorem few_count (hs : Srt ns) (h0 : 0 < ns.length) (b0 b1 : Int) : ∀ p : Nat, (((List.range p).countP (fun x : Nat => decide (atV ns (x : Int) = b0 ∧ atV ns (turnV ns x) = b1)) : Nat) : Int) = rk0 ns b1 (rk0 ns b0 p)
  | 0 => by rw [show ((0 : Nat) : Int) = 0 from rfl, rk_zero, rk_zero]; rfl
  | p + 1 => by
    have ih := few_count hs h0 b0 b1 p
    have ht : turnV ns p = rk0 ns (atV ns (p : Int)) p := by rw [← step_turn hs h0, step_rk hs h0]
    rw [show ((p + 1 : Nat) : Int) = (p : Int) + 1 by omega, rk_succ hs h0 b0, List.range_succ, List.countP_append, List.countP_singleton]
    by_cases h : atV ns (p : Int) = b0
    · rw [if_pos h, rk_succ hs h0, ← ih]
      rw [h] at ht
      by_cases h2 : atV ns (rk0 ns b0 p) = b1
      · simp [h, ht, h2]
      · simp [h, ht, h2]
    · rw [if_neg h, Int.add_zero, ← ih]
      simp [h]
theorem few_eq (hs : Srt ns) (h0 : 0 < ns.length) (bs : List Int) : rk0 ns (bs.getD 1 0) (rk1 ns (bs.getD 0 0) ((ns.length : Int) + 2)) = fewV ns bs := by
  rw [← rk01 h0, show ((ns.length : Int) + 2) = ((ns.length + 2 : Nat) : Int) by omega, ← few_count hs h0]
  unfold fewV
  rw [List.length_map, ← List.countP_eq_length_filter]
  congr 1
  refine List.countP_congr fun x hx => ?_
  have hx2 := List.mem_range.mp hx
  have htb := turn_bnd (ns := ns) x
  unfold fewP
  rw [plain_get hx2, turn_get hx2]
  have e : ((turnV ns x).toNat : Int) = turnV ns x := Int.toNat_of_nonneg htb.1
  have e2 := plain_get (ns := ns) (j := (turnV ns x).toNat) (by omega)
  rw [Int.toNat_natCast] at e2
  rw [e2, e]
theorem chain_galois (h0 : 0 < ns.length) : ∀ (bs : List Int) (p z : Int), (∀ x ∈ bs, 0 < Wt ns x) → (p ≤ bs.reverse.foldl (fun z d => placeV ns d z) z ↔ bs.foldl (fun b s => rk0 ns s b) p ≤ z)
  | [], p, z, _ => Iff.rfl
  | s :: r, p, z, h => by
    rw [List.reverse_cons, List.foldl_append, List.foldl_cons, List.foldl_nil, List.foldl_cons, galois h0 (h s (.head _))]
    exact chain_galois h0 r _ z fun x hx => h x (.tail _ hx)
theorem num_full (z : Int) (bs : List Int) : numAt ns z bs bs.length = bs.reverse.foldl (fun z d => placeV ns d z) z := by
  unfold numAt
  rw [List.take_of_length_le (by rw [List.length_reverse]; exact Nat.le_refl _)]
theorem beh_full (bd : Int) (bs : List Int) : behAt ns bd bs bs.length = bs.foldl (fun b s => rk0 ns s b) bd := by
  unfold behAt
  rw [List.take_of_length_le (Nat.le_refl _)]
theorem chain_hi (h0 : 0 < ns.length) {bs : List Int} (h : ∀ x ∈ bs, 0 < Wt ns x) (bd : Int) : bd ≤ numAt ns (behAt ns bd bs bs.length) bs bs.length := by
  rw [num_full, beh_full, chain_galois h0 bs _ _ h]
  exact Int.le_refl _
theorem chain_lo (h0 : 0 < ns.length) {bs : List Int} (h : ∀ x ∈ bs, 0 < Wt ns x) (bd : Int) : numAt ns (behAt ns bd bs bs.length - 1) bs bs.length < bd := by
  refine Int.not_le.mp fun q => ?_
  rw [num_full, beh_full, chain_galois h0 bs _ _ h] at q
  omega
theorem rkb {W n q r f p : Int} (hW : W ≤ n) (hW0 : 0 ≤ W) (hn : n ≤ 12) (h0 : 0 ≤ r) (h1 : r < n) (hf0 : 0 ≤ f) (hf : f ≤ W) (e : n * q + r = p) : (W * q + f).natAbs ≤ p.natAbs + 24 := by
  rcases Int.lt_or_le q 0 with h | h
  · have m1 := Int.mul_le_mul_of_nonpos_right hW (Int.le_of_lt h)
    have m2 := Int.mul_nonpos_of_nonneg_of_nonpos hW0 (Int.le_of_lt h)
    omega
  · have m1 := Int.mul_le_mul_of_nonneg_right hW h
    have m2 := Int.mul_nonneg hW0 h
    omega
theorem rk_bnd (h0 : 0 < ns.length) (h12 : ns.length ≤ 12) (x p : Int) : (rk0 ns x p).natAbs ≤ p.natAbs + 24 := by
  have hm0 := Int.emod_nonneg p (Int.ne_of_gt (lenp h0))
  have hm1 := Int.emod_lt_of_pos p (lenp h0)
  have hc := cL_le ns x
  have hw := Wt_le ns x
  have hf := f_le hc.2.1 (p % ns.length)
  rw [rk0_eq h0]
  exact rkb hw.2 hw.1 (Int.ofNat_le.mpr h12) hm0 hm1 hf.1 hf.2 (Int.mul_ediv_add_emod p ns.length)
theorem plb {W n q r c t : Int} (hW : W ≤ n) (hW0 : 0 < W) (hn : n ≤ 12) (h0 : 0 ≤ r) (h1 : r < W) (hc : 0 ≤ c) (hcn : c + W ≤ n) (e : W * q + r = t) : (n * q + c + r).natAbs + 4 ≤ 12 * (t.natAbs + 4) := by
  rcases Int.lt_or_le q 0 with h | h
  · have m1 := Int.mul_le_mul_of_nonpos_right (show (1 : Int) ≤ W from hW0) (show q + 1 ≤ 0 from h)
    rw [Int.mul_add, Int.mul_one] at m1
    have m2 := Int.mul_le_mul_of_nonpos_right hn (Int.le_of_lt h)
    have m3 := Int.mul_nonpos_of_nonneg_of_nonpos (Int.le_trans (Int.le_of_lt hW0) hW) (Int.le_of_lt h)
    omega
  · have m1 := Int.mul_le_mul_of_nonneg_right (show (1 : Int) ≤ W from hW0) h
    have m2 := Int.mul_le_mul_of_nonneg_right hn h
    have m3 := Int.mul_nonneg (Int.le_trans (Int.le_of_lt hW0) hW) h
    omega
theorem place_bnd (h12 : ns.length ≤ 12) {x : Int} (hW : 0 < Wt ns x) (t : Int) : (placeV ns x t).natAbs + 4 ≤ 12 * (t.natAbs + 4) := by
  have hb0 := Int.emod_nonneg t (Int.ne_of_gt hW)
  have hb1 := Int.emod_lt_of_pos t hW
  have hc := cL_le ns x
  have hw := Wt_le ns x
  have hlen : cL ns x + Wt ns x ≤ ns.length := by rw [show Wt ns x = cR ns x - cL ns x from rfl, Int.add_comm, Int.sub_add_cancel]; exact hc.2.2
  exact plb hw.2 hW (Int.ofNat_le.mpr h12) hb0 hb1 hc.1 hlen (Int.mul_ediv_add_emod t (Wt ns x))
end
end

section
theorem off_P2 : True ∧ True := by
  w_top off
  walk1
  all_goals trivial

/-- what a line gives for reading -/
structure LineOk (ns : List Int) : Prop where
  srt : Srt ns
  pos : 0 < ns.length
  nn : ∀ x ∈ ns, 0 ≤ x
  w0 : 0 < Wt ns 0
  w3 : ∀ x ∈ ns, Wt ns x ≤ 3 ∧ 4 * Wt ns x ≤ 3 * ns.length
section
variable {ns : List Int}
theorem cL0 (hn : ∀ x ∈ ns, 0 ≤ x) : cL ns 0 = 0 := by
  unfold cL
  have : ns.countP (fun y => decide (y < 0)) = 0 := List.countP_eq_zero.mpr fun a ha => by
    have := hn a ha
    simp
    omega
  rw [this]
  rfl
theorem step34 (h : LineOk ns) {y : Int} (hy : 0 ≤ y) : 4 * stepR ns y ≤ 3 * y + 2 := by
  have h1 := ix_facts h.srt h.pos y
  have hw := h.w3 _ (at_mem h.pos y)
  have hc := cL_le ns (atV ns y)
  have ep := Int.mul_ediv_add_emod y ns.length
  have hq := Int.ediv_nonneg hy (show (0 : Int) ≤ ns.length by omega)
  have hWe : Wt ns (atV ns y) = cR ns (atV ns y) - cL ns (atV ns y) := rfl
  have m1 := Int.mul_le_mul_of_nonneg_right hw.2 hq
  rw [Int.mul_assoc, Int.mul_assoc] at m1
  unfold stepR
  omega
theorem step_lt (h : LineOk ns) {y : Int} (hy : 0 ≤ y) (hW : Wt ns 0 ≤ y) : stepR ns y ≤ y - 1 := by
  have h1 := ix_facts h.srt h.pos y
  have hw := h.w3 _ (at_mem h.pos y)
  have hw0 := Wt_le ns (atV ns y)
  have hc := cL_le ns (atV ns y)
  have hz := cL0 h.nn
  have ep := Int.mul_ediv_add_emod y ns.length
  have hq := Int.ediv_nonneg hy (show (0 : Int) ≤ ns.length by omega)
  have hp := h.pos
  have m1 := Int.mul_le_mul_of_nonneg_right (show Wt ns (atV ns y) + 1 ≤ (ns.length : Int) by omega) hq
  rw [Int.add_mul, Int.one_mul] at m1
  rcases Int.lt_or_le 0 (y / (ns.length : Int)) with hq1 | hq1
  · unfold stepR
    omega
  · have e0 : y / (ns.length : Int) = 0 := by omega
    have hsp := at_spec h.srt h.pos y 0
    have hW0 : Wt ns 0 = cR ns 0 - cL ns 0 := rfl
    have hpos := h.w0
    rw [e0, Int.mul_zero, Int.zero_add] at ep
    have h2 : 0 < atV ns y := hsp.2.2 (by omega)
    have h3 := cL_spec h.srt (atV ns y) 0 hp
    have h4 := cR_spec h.srt 0 0 hp
    have h5 : ns.getD 0 0 < atV ns y := by
      have : ¬ (0 < ns.getD 0 0) := fun q => by
        have := h4.1 q
        omega
      omega
    have h6 := h3.1 h5
    unfold stepR
    rw [e0, Int.mul_zero]
    omega
def bdF : Nat → Int
  | 0 => 0
  | f + 1 => max (bdF f + 1) ((4 * bdF f + 1) / 3)
theorem read_end (h : LineOk ns) : ∀ (f : Nat) (y : Int), 0 ≤ y → y ≤ bdF f → readE ns f y < Wt ns 0
  | 0, y, h0, h1 => by
    have := h.w0
    simp only [bdF] at h1
    simp only [readE]
    omega
  | f + 1, y, h0, h1 => by
    simp only [bdF] at h1
    simp only [readE]
    split
    · assumption
    · have a1 := step_lt h h0 (by omega)
      have a2 := step34 h h0
      have a3 := stepR_bnd h.srt h.pos h0
      exact read_end h f _ a3.1 (by omega)
theorem bd59 : (999 : Int) ≤ bdF 59 := by decide +kernel
theorem read59 (h : LineOk ns) {y : Int} (h0 : 0 ≤ y) (h1 : y < 1000) : readE ns 59 y < Wt ns 0 := read_end h 59 y h0 (by have := bd59; omega)
theorem bd60 : (999 : Int) ≤ bdF 60 := by decide +kernel
theorem read60 (h : LineOk ns) {y : Int} (h0 : 0 ≤ y) (h1 : y < 1000) : readE ns 60 y < Wt ns 0 := read_end h 60 y h0 (by have := bd60; omega)
theorem numAt_cons (en d : Int) (ds : List Int) (i : Nat) : numAt ns en (d :: ds) i = if i ≤ ds.length then numAt ns en ds i else placeV ns d (numAt ns en ds ds.length) := by
  unfold numAt
  rw [List.reverse_cons, List.take_append]
  split
  · next hi => rw [List.length_reverse, Nat.sub_eq_zero_of_le hi, List.take_zero, List.append_nil]
  · next hi =>
    rw [List.take_of_length_le (by rw [List.length_reverse]; omega), List.take_of_length_le (l := [d]) (by rw [List.length_reverse, List.length_singleton]; omega), List.foldl_append, List.take_of_length_le (l := ds.reverse) (by rw [List.length_reverse]; omega)]
    rfl
theorem readL_nil : ∀ (f : Nat) (y : Int), readL ns f y = [] → readE ns f y < Wt ns 0 → y < Wt ns 0
  | 0, y, _, h => h
  | f + 1, y, h1, h2 => by
    simp only [readL] at h1
    split at h1
    · assumption
    · exact absurd h1 (by simp)
theorem read_back (h : LineOk ns) : ∀ (f : Nat) (y : Int), 0 ≤ y → readE ns f y < Wt ns 0 →
    (∀ i, 0 ≤ numAt ns (readE ns f y) (readL ns f y) i ∧ numAt ns (readE ns f y) (readL ns f y) i ≤ y) ∧ numAt ns (readE ns f y) (readL ns f y) (readL ns f y).length = y ∧ (readL ns f y).length ≤ f ∧ (∀ d ∈ readL ns f y, d ∈ ns) ∧ 0 ≤ readE ns f y ∧ (∀ d, (readL ns f y).getLast? = some d → d ≠ 0)
  | 0, y, h0, _ => by
    simp only [readL, readE]
    refine ⟨fun i => ?_, ?_, Nat.le_refl _, fun d hd => (nomatch hd), h0, fun d hd => (nomatch hd)⟩
    · unfold numAt
      simp
      exact h0
    · rfl
  | f + 1, y, h0, he => by
    simp only [readE] at he
    by_cases hlt : y < Wt ns 0
    · simp only [readL, readE, if_pos hlt]
      refine ⟨fun i => ?_, ?_, by simp, fun d hd => (nomatch hd), h0, fun d hd => (nomatch hd)⟩
      · unfold numAt
        simp
        exact h0
      · rfl
    · simp only [readL, readE, if_neg hlt] at he ⊢
      have a3 := stepR_bnd h.srt h.pos h0
      obtain ⟨i1, i2, i3, i4, i5, i6⟩ := read_back h f (stepR ns y) a3.1 he
      refine ⟨fun i => ?_, ?_, by simp [i3], fun d hd => ?_, i5, fun d hd => ?_⟩
      · rw [numAt_cons]
        split
        · have := i1 i
          omega
        · rw [i2, place_step h.srt h.pos]
          omega
      · rw [List.length_cons, numAt_cons, if_neg (by omega), i2, place_step h.srt h.pos]
      · rcases List.mem_cons.mp hd with rfl | hd
        · exact at_mem h.pos y
        · exact i4 d hd
      · by_cases hn : readL ns f (stepR ns y) = []
        · rw [hn] at hd
          have hd' : atV ns y = d := by simpa using hd
          have hy' := readL_nil f _ hn he
          intro e
          rw [e] at hd'
          have h1 := ix_facts h.srt h.pos y
          have ep := Int.mul_ediv_add_emod y ns.length
          have hq := Int.ediv_nonneg h0 (show (0 : Int) ≤ ns.length by omega)
          have hz := cL0 h.nn
          have hW0 : Wt ns 0 = cR ns 0 - cL ns 0 := rfl
          have hwp := h.w0
          unfold stepR at hy'
          rw [hd'] at h1 hy'
          rcases Int.lt_or_le 0 (y / (ns.length : Int)) with hq1 | hq1
          · have m1 := Int.mul_le_mul_of_nonneg_left (show 1 ≤ y / (ns.length : Int) by omega) (show 0 ≤ Wt ns 0 by omega)
            omega
          · have e0 : y / (ns.length : Int) = 0 := by omega
            rw [e0, Int.mul_zero] at ep
            omega
        · obtain ⟨b, r, hb⟩ := List.exists_cons_of_ne_nil hn
          rw [hb, List.getLast?_cons_cons, ← hb] at hd
          exact i6 d hd
theorem digs_dval : ∀ ds : List Int, Digs 4 ds → digs 4 ds.length (dval 4 ds) = ds
  | [], _ => rfl
  | d :: r, h => by
    have hd := h d (.head _)
    have ih := digs_dval r fun x hx => h x (.tail _ hx)
    have h16 : (2 : Int) ^ 4 = 16 := by decide
    rw [h16] at hd
    have := dm_uniq (W := 16) (q := dval 4 r) (b := d) hd.1 hd.2
    rw [List.length_cons, digs, dval, h16, Int.add_comm, this.1, this.2, ih]
theorem dval_last {ds : List Int} (hd : Digs 4 ds) {d : Int} (hl : ds.getLast? = some d) (h0 : d ≠ 0) : (16 : Int) ^ (ds.length - 1) ≤ dval 4 ds := by
  obtain ⟨r, rfl⟩ : ∃ r, ds = r ++ [d] := by
    have hne : ds ≠ [] := fun e => by rw [e] at hl; exact nomatch hl
    refine ⟨ds.dropLast, ?_⟩
    rw [List.getLast?_eq_some_getLast hne] at hl
    rw [← Option.some.inj hl]
    exact (List.dropLast_concat_getLast hne).symm
  have hb := (dval_bnd 4 r fun x hx => hd x (List.mem_append_left _ hx)).1
  have hdd := hd d (List.mem_append_right _ (.head _))
  rw [dval_append, p16, List.length_append, List.length_singleton, Nat.add_sub_cancel]
  have hp : (0 : Int) < 16 ^ r.length := Int.pow_pos (by decide)
  have m1 := Int.mul_le_mul_of_nonneg_left (show (1 : Int) ≤ d by omega) (show (0 : Int) ≤ 16 ^ r.length by omega)
  simp only [dval, Int.mul_zero, Int.add_zero]
  omega
theorem pow16_mono {a b : Nat} (h : a ≤ b) : (16 : Int) ^ a ≤ 16 ^ b := by
  rw [← p16, ← p16]
  exact pow2_le (Nat.mul_le_mul_left 4 h)
theorem nd_dval {ds : List Int} (hd : Digs 4 ds) (hl : ∀ d, ds.getLast? = some d → d ≠ 0) : nd 4 (dval 4 ds) = ds.length := by
  have hb := dval_bnd 4 ds hd
  rw [p16] at hb
  rcases Nat.lt_or_ge (nd 4 (dval 4 ds)) ds.length with h | h
  · exfalso
    have hne : ds ≠ [] := fun e => by rw [e] at h; exact Nat.not_lt_zero _ h
    have h1 := dval_last hd (List.getLast?_eq_some_getLast hne) (hl _ (List.getLast?_eq_some_getLast hne))
    have h2 := (nd4_stop hb.1 (Nat.le_refl (nd 4 (dval 4 ds)))).2 rfl
    have hp : (0 : Int) < 16 ^ nd 4 (dval 4 ds) := Int.pow_pos (by decide)
    have h3 := pow16_mono (show nd 4 (dval 4 ds) ≤ ds.length - 1 by omega)
    have h4 := Int.le_ediv_of_mul_le hp (show 1 * (16 : Int) ^ nd 4 (dval 4 ds) ≤ dval 4 ds by omega)
    omega
  · exact ((nd4_stop hb.1 h).1 (Int.ediv_eq_zero_of_lt hb.1 hb.2)).symm
theorem digs_back {ds : List Int} (hd : Digs 4 ds) (hl : ∀ d, ds.getLast? = some d → d ≠ 0) : digs 4 (nd 4 (dval 4 ds)) (dval 4 ds) = ds := by
  rw [nd_dval hd hl]
  exact digs_dval ds hd
theorem dval_small {ds : List Int} (hd : Digs 4 ds) (hl : ds.length ≤ 60) : 0 ≤ dval 4 ds ∧ dval 4 ds < 2 ^ 240 := by
  have hb := dval_bnd 4 ds hd
  exact ⟨hb.1, Int.lt_of_lt_of_le hb.2 (pow2_le (by omega))⟩
end
end

section
theorem off_P3 : True ∧ True := by
  w_top off
  walk1
  all_goals trivial

def blocks (c : Nat → Nat) (n : Nat) : List Int := (List.range n).flatMap fun s : Nat => List.replicate (c s) (s : Int)
def tot (c : Nat → Nat) : Nat → Nat
  | 0 => 0
  | n + 1 => tot c n + c n
section
variable {c : Nat → Nat}
theorem blocks_succ (n : Nat) : blocks c (n + 1) = blocks c n ++ List.replicate (c n) (n : Int) := by
  unfold blocks
  rw [List.range_succ, List.flatMap_append]
  simp
theorem blocks_len : ∀ n, (blocks c n).length = tot c n
  | 0 => rfl
  | n + 1 => by rw [blocks_succ, List.length_append, List.length_replicate, blocks_len n]; rfl
theorem blocks_mem : ∀ n (x : Int), x ∈ blocks c n → ∃ s : Nat, x = (s : Int) ∧ s < n
  | 0, x, h => nomatch h
  | n + 1, x, h => by
    rw [blocks_succ] at h
    rcases List.mem_append.mp h with h | h
    · obtain ⟨s, e, hs⟩ := blocks_mem n x h
      exact ⟨s, e, by omega⟩
    · exact ⟨n, (List.mem_replicate.mp h).2, by omega⟩
theorem blocks_srt : ∀ n, Srt (blocks c n)
  | 0 => List.Pairwise.nil
  | n + 1 => by
    rw [blocks_succ]
    refine List.pairwise_append.mpr ⟨blocks_srt n, ?_, ?_⟩
    · exact List.pairwise_replicate.mpr (.inr (Int.le_refl _))
    · intro a ha b hb
      obtain ⟨s, e, hs⟩ := blocks_mem n a ha
      rw [(List.mem_replicate.mp hb).2, e]
      omega
theorem blocks_cL (s : Nat) : ∀ n, cL (blocks c n) (s : Int) = (tot c (min s n) : Nat)
  | 0 => by rw [Nat.min_zero]; rfl
  | n + 1 => by
    have ih := blocks_cL s n
    unfold cL at ih ⊢
    rw [blocks_succ, List.countP_append, List.countP_replicate]
    by_cases h : n < s
    · rw [Nat.min_eq_right (by omega)] at ih
      rw [Nat.min_eq_right (by omega), if_pos (by simp; omega), tot]
      omega
    · rw [Nat.min_eq_left (by omega)] at ih
      rw [Nat.min_eq_left (by omega), if_neg (by simp; omega)]
      omega
theorem blocks_cR (s : Nat) : ∀ n, cR (blocks c n) (s : Int) = (tot c (min (s + 1) n) : Nat)
  | 0 => by rw [Nat.min_zero]; rfl
  | n + 1 => by
    have ih := blocks_cR s n
    unfold cR at ih ⊢
    rw [blocks_succ, List.countP_append, List.countP_replicate]
    by_cases h : n < s + 1
    · rw [Nat.min_eq_right (by omega)] at ih
      rw [Nat.min_eq_right (by omega), if_pos (by simp; omega), tot]
      omega
    · rw [Nat.min_eq_left (by omega)] at ih
      rw [Nat.min_eq_left (by omega), if_neg (by simp; omega)]
      omega
theorem blocks_W {s n : Nat} (h : s < n) : Wt (blocks c n) (s : Int) = c s := by
  unfold Wt
  rw [blocks_cL, blocks_cR, Nat.min_eq_left (by omega), Nat.min_eq_left (by omega), tot]
  omega
theorem lineN_eq (n : Nat) : (lineP c n).map (·.1) = blocks c n := by
  unfold lineP blocks
  rw [List.map_flatMap]
  congr 1
  funext s
  unfold blk
  rw [List.map_map]
  exact List.eq_replicate_iff.mpr ⟨by simp, fun b hb => by
    obtain ⟨k, _, rfl⟩ := List.mem_map.mp hb
    rfl⟩
theorem tot_bnd (hc : ∀ s, 1 ≤ c s ∧ c s ≤ 3) : ∀ n, n ≤ tot c n ∧ tot c n ≤ 3 * n
  | 0 => ⟨Nat.le_refl _, Nat.le_refl _⟩
  | n + 1 => by
    have h1 := tot_bnd hc n
    have h2 := hc n
    rw [tot]
    omega
theorem tot_ge (hc : ∀ s, 1 ≤ c s ∧ c s ≤ 3) : ∀ n s, s < n → c s + n ≤ tot c n + 1
  | n + 1, s, h => by
    rw [tot]
    rcases Nat.lt_or_eq_of_le (Nat.le_of_lt_succ h) with h | h
    · have h1 := tot_ge hc n s h
      have h2 := (hc n).1
      omega
    · have h1 := (tot_bnd hc n).1
      rw [h]
      omega
theorem lineN_ok {n : Nat} (hc : ∀ s, 1 ≤ c s ∧ c s ≤ 3) (h2 : 2 ≤ n) (h4 : n ≤ 4) : LineOk (blocks c n) := by
  have hb := tot_bnd hc n
  refine ⟨blocks_srt n, by rw [blocks_len]; exact Nat.lt_of_lt_of_le (Nat.lt_of_lt_of_le (by decide) h2) hb.1, fun x hx => ?_, ?_, fun x hx => ?_⟩
  · obtain ⟨s, e, hs⟩ := blocks_mem n x hx
    clear hb h2
    omega
  · have := blocks_W (c := c) (s := 0) (n := n) (Nat.lt_of_lt_of_le (by decide) h2)
    have c0 := (hc 0).1
    rw [show ((0 : Nat) : Int) = 0 from rfl] at this
    clear hb
    omega
  · obtain ⟨s, e, hs⟩ := blocks_mem n x hx
    rw [e, blocks_W hs, blocks_len]
    have hcs := hc s
    have h5 := tot_ge hc n s hs
    clear hb hs e
    refine ⟨by omega, ?_⟩
    omega
theorem lineN_len {n : Nat} (hc : ∀ s, 1 ≤ c s ∧ c s ≤ 3) (h2 : 2 ≤ n) (h4 : n ≤ 4) : 2 ≤ (blocks c n).length ∧ (blocks c n).length ≤ 12 := by
  have hb := tot_bnd hc n
  rw [blocks_len]
  exact ⟨Nat.le_trans h2 hb.1, Nat.le_trans hb.2 (Nat.mul_le_mul_left 3 h4)⟩
end
theorem lineW_eq (wt : Nat) : lineW wt = blocks (fun _ => wt) 16 := by
  unfold lineW l16 blocks
  rw [List.replicate_zero, List.append_nil]
theorem tot_const (wt : Nat) : ∀ n, tot (fun _ => wt) n = n * wt
  | 0 => by simp [tot]
  | n + 1 => by rw [tot, tot_const wt n, Nat.add_mul, Nat.one_mul]
theorem lineW_len (wt : Nat) : (lineW wt).length = 16 * wt := by rw [lineW_eq, blocks_len, tot_const]
theorem lineW_W {wt s : Nat} (h : s < 16) : Wt (lineW wt) (s : Int) = wt := by rw [lineW_eq, blocks_W h]
theorem lineW_cL {wt s : Nat} (h : s < 16) : cL (lineW wt) (s : Int) = s * wt := by rw [lineW_eq, blocks_cL, Nat.min_eq_left (by omega), tot_const]; omega
theorem lineW_cR {wt s : Nat} (h : s < 16) : cR (lineW wt) (s : Int) = (s + 1) * wt := by rw [lineW_eq, blocks_cR, Nat.min_eq_left (by omega), tot_const]; push_cast; rfl
theorem lineW_ok {wt : Nat} (h1 : 1 ≤ wt) (h3 : wt ≤ 3) : LineOk (lineW wt) := by
  have hl := lineW_len wt
  refine ⟨by rw [lineW_eq]; exact blocks_srt 16, by omega, fun x hx => ?_, ?_, fun x hx => ?_⟩
  · rw [lineW_eq] at hx
    obtain ⟨s, e, hs⟩ := blocks_mem 16 x hx
    omega
  · have := lineW_W (wt := wt) (s := 0) (by omega)
    rw [show ((0 : Nat) : Int) = 0 from rfl] at this
    omega
  · rw [lineW_eq] at hx
    obtain ⟨s, e, hs⟩ := blocks_mem 16 x hx
    rw [e, lineW_W hs, hl]
    omega
theorem lineW_step {wt : Nat} (h1 : 1 ≤ wt) (h3 : wt ≤ 3) (y : Int) : atV (lineW wt) y = y / wt % 16 ∧ stepR (lineW wt) y = wt * (y / wt / 16) + y % wt := by
  have ok := lineW_ok h1 h3
  have hl := lineW_len wt
  have hx := ix_facts ok.srt ok.pos y
  have hm := at_mem ok.pos y
  rw [lineW_eq] at hm
  obtain ⟨s, e, hs⟩ := blocks_mem 16 _ hm
  rw [← lineW_eq] at e
  have ep := Int.mul_ediv_add_emod y (lineW wt).length
  unfold stepR
  rw [e, lineW_cL hs, lineW_cR hs] at hx
  rw [e, lineW_cL hs, lineW_W hs]
  generalize y / ((lineW wt).length : Int) = q at *
  generalize y % ((lineW wt).length : Int) = r at *
  rw [hl] at ep
  have hw : wt = 1 ∨ wt = 2 ∨ wt = 3 := by omega
  have key : (wt : Int) * (16 * q + s) + (r - s * wt) = y ∧ 0 ≤ r - s * wt ∧ r - s * wt < wt := by
    rcases hw with rfl | rfl | rfl
    · push_cast at *; omega
    · push_cast at *; omega
    · push_cast at *; omega
  have d1 := dm_uniq key.2.1 key.2.2 (q := 16 * q + s)
  rw [key.1] at d1
  have d2 := dm_uniq (W := 16) (q := q) (b := (s : Int)) (by omega) (by omega)
  rw [d1.1, d1.2, d2.1, d2.2]
  exact ⟨rfl, by omega⟩
theorem lineW_read {wt : Nat} (h1 : 1 ≤ wt) (h3 : wt ≤ 3) : ∀ (f : Nat) (y : Int), 0 ≤ y → readE (lineW wt) f y < Wt (lineW wt) 0 → dval 4 (readL (lineW wt) f y) = y / wt ∧ readE (lineW wt) f y = y % wt := by
  have hW : Wt (lineW wt) 0 = wt := lineW_W (s := 0) (by omega)
  rw [hW]
  have base : ∀ y : Int, 0 ≤ y → y < wt → (0 : Int) = y / wt ∧ y = y % wt := fun y a b => ⟨(Int.ediv_eq_zero_of_lt a b).symm, (Int.emod_eq_of_lt a b).symm⟩
  intro f
  induction f with
  | zero =>
    intro y h0 h
    simp only [readL, readE, dval] at h ⊢
    exact base y h0 h
  | succ f ih =>
    intro y h0 h
    simp only [readE, hW] at h
    by_cases hlt : y < (wt : Int)
    · simp only [readL, readE, hW, if_pos hlt, dval]
      exact base y h0 hlt
    · simp only [readL, readE, hW, if_neg hlt, dval] at h ⊢
      have ok := lineW_ok h1 h3
      have hs := lineW_step h1 h3 y
      obtain ⟨e1, e2⟩ := ih _ (stepR_bnd ok.srt ok.pos h0).1 h
      rw [e1, e2, hs.1, hs.2]
      have d := dm_uniq (W := (wt : Int)) (q := y / wt / 16) (b := y % wt) (Int.emod_nonneg _ (by omega)) (Int.emod_lt_of_pos _ (by omega))
      rw [d.1, d.2]
      have h16 : (2 : Int) ^ 4 = 16 := by decide
      rw [h16]
      omega
end

section
theorem off_S16 : True ∧ True := by
  w_top off
  walk1
  all_goals trivial

theorem fr2 {m : Str → Option Value} {a b : Str} {u v : Option Value} (ha : m a = u) (hb : m b = v) : ∀ y, m y = if y = a then u else if y = b then v else m y := by
  intro y
  by_cases h1 : y = a
  · rw [if_pos h1, h1, ha]
  · by_cases h2 : y = b
    · rw [if_neg h1, if_pos h2, h2, hb]
    · rw [if_neg h1, if_neg h2]
theorem fr4 {m : Str → Option Value} {a b c d : Str} {u v w x : Option Value} (ha : m a = u) (hb : m b = v) (hc : m c = w) (hd : m d = x) : ∀ y, m y = if y = a then u else if y = b then v else if y = c then w else if y = d then x else m y := by
  intro y
  by_cases h1 : y = a
  · rw [if_pos h1, h1, ha]
  · rw [if_neg h1]
    by_cases h2 : y = b
    · rw [if_pos h2, h2, hb]
    · rw [if_neg h2]
      exact fr2 hc hd y
section
variable {ns : List Int}
theorem beh_bnd (h0 : 0 < ns.length) (h12 : ns.length ≤ 12) : ∀ (l : List Int) (p : Int), (l.foldl (fun b s => rk0 ns s b) p).natAbs ≤ p.natAbs + 24 * l.length
  | [], p => by simp
  | s :: r, p => by
    rw [List.foldl_cons, List.length_cons]
    have h1 := beh_bnd h0 h12 r (rk0 ns s p)
    have h2 := rk_bnd h0 h12 s p
    omega
theorem num_bnd (h12 : ns.length ≤ 12) : ∀ (l : List Int) (z : Int), (∀ x ∈ l, 0 < Wt ns x) → (l.foldl (fun z d => placeV ns d z) z).natAbs + 4 ≤ 12 ^ l.length * (z.natAbs + 4)
  | [], z, _ => by simp
  | s :: r, z, h => by
    rw [List.foldl_cons, List.length_cons, Nat.pow_succ]
    have h1 := num_bnd h12 r (placeV ns s z) fun x hx => h x (.tail _ hx)
    have h2 := place_bnd h12 (h s (.head _)) z
    refine Nat.le_trans h1 ?_
    rw [Nat.mul_assoc]
    exact Nat.mul_le_mul_left _ h2
theorem numAt_small (h12 : ns.length ≤ 12) {bs : List Int} (hb : bs.length ≤ 3) (hW : ∀ x ∈ bs, 0 < Wt ns x) {z : Int} (hz : z.natAbs < 100000) (i : Nat) : (numAt ns z bs i).natAbs < 2 ^ 60 := by
  have h1 := num_bnd h12 (bs.reverse.take i) z fun x hx => hW x (List.mem_reverse.mp (List.mem_of_mem_take hx))
  have hl : (bs.reverse.take i).length ≤ 3 := by rw [List.length_take, List.length_reverse]; omega
  have hp : 12 ^ (bs.reverse.take i).length ≤ 12 ^ 3 := Nat.pow_le_pow_right (by decide) hl
  have h2 := Nat.mul_le_mul_right (z.natAbs + 4) hp
  unfold numAt
  omega
theorem behAt_small (h0 : 0 < ns.length) (h12 : ns.length ≤ 12) {bs : List Int} (hb : bs.length ≤ 3) {bd : Int} (hz : bd.natAbs ≤ 2000) (i : Nat) : (behAt ns bd bs i).natAbs < 3000 := by
  have h1 := beh_bnd h0 h12 (bs.take i) bd
  have hl : (bs.take i).length ≤ 3 := by rw [List.length_take]; omega
  unfold behAt
  omega
end
theorem bints {ds : List Int} (hd : ∀ d ∈ ds, 0 ≤ d ∧ d < 16) : KBw.bInts (ds.reverse.map fun d => UInt8.ofNat (65 + d.toNat)).toArray = ds.reverse.map (65 + ·) := by
  unfold KBw.bInts
  show ((ds.reverse.map fun d => UInt8.ofNat (65 + d.toNat)).map fun c : UInt8 => (c.toNat : Int)) = _
  rw [List.map_map]
  refine List.map_congr_left fun d h => ?_
  have := hd d (List.mem_reverse.mp h)
  show ((UInt8.ofNat (65 + d.toNat)).toNat : Int) = 65 + d
  rw [UInt8.toNat_ofNat']
  omega
theorem ap_back {ds : List Int} (hd : Digs 4 ds) (hl : ∀ d, ds.getLast? = some d → d ≠ 0) {x : Int} (hx : x = dval 4 ds) : apL (digs 4 (nd 4 x) x) = (ds.reverse.map fun d => UInt8.ofNat (65 + d.toNat)).toArray := by
  rw [hx, digs_back hd hl]
  rfl
theorem fmod_bnd {a b : Int} (hb : 0 < b) : 0 ≤ a.fmod b ∧ a.fmod b < b := by
  rw [Int.fmod_eq_emod_of_nonneg _ (by omega)]
  exact ⟨Int.emod_nonneg _ (by omega), Int.emod_lt_of_pos _ hb⟩
theorem bgL_len (cs : List Int) (cnt n : Nat) : (bgL cs cnt n).length = n := by simp [bgL]
theorem bgL_W {c : Nat → Nat} (hc : ∀ s, 1 ≤ c s) {cs : List Int} {cnt n : Nat} (h2 : 0 < cnt) : ∀ x ∈ bgL cs cnt n, 0 < Wt (blocks c cnt) x := by
  intro x hx
  unfold bgL at hx
  obtain ⟨i, _, rfl⟩ := List.mem_map.mp hx
  have hb := fmod_bnd (a := (cs.getD 2 0).fdiv ((cnt : Int) ^ i)) (b := (cnt : Int)) (by omega)
  generalize ((cs.getD 2 0).fdiv ((cnt : Int) ^ i)).fmod (cnt : Int) = v at *
  have := blocks_W (c := c) (s := v.toNat) (n := cnt) (by omega)
  rw [Int.toNat_of_nonneg hb.1] at this
  have := hc v.toNat
  omega
theorem nal {x : Int} {n : Nat} (h0 : 0 ≤ x) (h1 : x < n) : x.natAbs < n := by omega
theorem bd20 {x bd : Int} (h : 0 ≤ x ∧ x < 2001) (e : x - 1000 = bd) : bd.natAbs ≤ 2000 := by omega
theorem ib16 {d : Int} {s : Nat} (e : d = (s : Int)) (h : s < 16) : 0 ≤ d ∧ d < 16 := ⟨e ▸ Int.natCast_nonneg s, e ▸ Int.ofNat_lt.mpr h⟩
theorem t14 {t : Int} {i n : Nat} (h : 0 ≤ t ∧ t ≤ i) (hi : i < n + 2) (hn : n ≤ 12) : 0 ≤ t ∧ t ≤ 14 := ⟨h.1, Int.le_trans h.2 (Int.ofNat_le.mpr (Nat.le_of_lt (Nat.lt_of_lt_of_le hi (Nat.add_le_add_right hn 2))))⟩
theorem tn2 {t : Int} {i n : Nat} (h : 0 ≤ t ∧ t ≤ i) (hi : i < n + 2) : 0 ≤ t ∧ t < (n : Int) + 2 := ⟨h.1, Int.lt_of_le_of_lt h.2 (Int.ofNat_lt.mpr hi)⟩
set_option maxHeartbeats 4000000 in
theorem sAll {w : World} {o : Obj} {fd : FuncData} {body : List Stmt} (ho : (hd.heap_1 w.params).lookup 142 = some o) (hfd : o.data = .func fd) (hbd : fd.body = .stmts body) {p : Program} {loose : List Str} {mean : ExcName → Option Value} {mg mb : Str → Option Value} {g : Heap} {L : Nat} {fa : Addr} {cd : Value} {s : Shared} {Q : Flow → Shared → Prop} {E : Value → Shared → Prop} (B : Below callerA g [] g) (X : (hd.heap_1 w.params).In g) (T : Top p loose mean mg mb g) {l : Addr} {vs : List Value} {ss : List Int} {o1 o2 o3 o4 o5 o6 o7 : Obj} (hE : PassesOwn (model Pg w) (callerA.deeper (envOfC "law" fd.scope L fa cd)) (envOfC "law" fd.scope L fa cd) E) (d1 : o1.data = .cell none) (d2 : o2.data = .cell none) (d3 : o3.data = .cell none) (d4 : o4.data = .cell none) (d5 : o5.data = .cell none) (d6 : o6.data = .cell none) (d7 : o7.data = .cell none) (hlb : g.IsList l vs.toArray) (hvs : IntsAre vs ss) (hn : ss.length < 64)
    (F : Fr g L s.heap (fun y => if y = Str.ofString "script" then some (.ref l) else none)) (N : News g L s.heap (led L o1 o2 o3 o4 o5 o6 o7 #[] [(57, tabObj #[])] [(64, tabObj #[])] []))
    (hQ : ∀ (h : Heap) (tk : Tok) (m : Str → Option Value) (o1 o2 o3 o4 o5 o6 o7 : Obj) (ps : Array Value) (t57' t64' R : List (Addr × Obj)), T57 t57' → T64 t64' → Fr g L h m → News g L h (led L o1 o2 o3 o4 o5 o6 o7 ps t57' t64' R) → Q (.ret (.bool true)) { s with heap := h, toks := tk }) :
    wpAny (model Pg w) (callerA.deeper (envOfC "law" fd.scope L fa cd)) (execs (body.drop 0) (envOfC "law" fd.scope L fa cd)) Q E s := by
  refine s1 ho hfd hbd B X T d1 d2 hlb hvs hn F N ?_
  intro h tk cs d9 ws9 k9 cnt tcnt lt wsl kl ps oc1 oc2 rest hcs hcl hcb hcnt hcb2 hd9 hlt hpl dc1 dc2 hg F N
  have hc4 : Bnd4 cnt := hcb2.2
  refine s2 ho hfd hbd B X T hcs hcl hcb hcb2.1 hc4 hd9 hlt hpl dc1 dc2 .fresh .fresh hg F N ?_
  clear F N
  intro h tk F N
  have hc : ∀ s, 1 ≤ (fun s => 1 + wn (cs.getD 0 0) s) s ∧ (fun s => 1 + wn (cs.getD 0 0) s) s ≤ 3 := fun s => by
    have := wn_le (cs.getD 0 0) s
    dsimp only
    omega
  generalize (fun s => 1 + wn (cs.getD 0 0) s) = c at *
  have ok := lineN_ok hc hcb2.1 hcb2.2
  have hlen := lineN_len hc hcb2.1 hcb2.2
  have hpll : (lineP c cnt).length = (blocks c cnt).length := by rw [← lineN_eq, List.length_map]
  refine s3 ho hfd hbd B X T hd9 hlt hpl (by omega) d3 .fresh .fresh hg F N ?_
  clear F N
  intro h tk ln lv kn oc3 tf hlv dc3 hg3 F N
  rw [lineN_eq] at hlv F
  have hmem := blocks_mem (c := c) cnt
  have hWn : ∀ s : Nat, s < cnt → 0 < Wt (blocks c cnt) (s : Int) := fun s hs => by
    rw [blocks_W hs]
    have := hc s
    omega
  generalize hns : blocks c cnt = ns at *
  have hs := ok.srt
  have hp := ok.pos
  refine s4 ho hfd hbd B X T hlv hlen.2 hlen.1 dc3 d4 .fresh .fresh hg3 F N ?_
  clear F N
  intro h tk pn pv kp oc4 hpv dc4 hg4 F N
  refine s5 ho hfd hbd B X T hlv hpv hlen.2 hlen.1 dc4 d5 .fresh .fresh hg4 F N ?_
  clear F N
  intro h tk tn tv kt oc5 htv dc5 hg5 F N
  have hst : ∀ i : Nat, i < ns.length + 2 → stepR ns (i : Int) = turnV ns i := fun i _ => step_turn hs hp i
  refine s6 ho hfd hbd B X T hlv hpv htv hlen.2 hlen.1 hE hs hst (fun i hi => by rw [← hst i hi]; exact place_step hs hp _) (fun i _ => W_at hs hp _) (fun i hi => t14 (turn_bnd (ns := ns) i) hi hlen.2) dc3 dc4 dc5 .fresh .fresh hg5 F N ?_
  clear F N
  intro h tk ux a b hA hB F N
  obtain ⟨dr, hdr⟩ : ∃ dr, (cs.getD (Int.toNat 1) 0).fmod 1000 = dr := ⟨_, rfl⟩
  have hdb := fmod_bnd (a := cs.getD (Int.toNat 1) 0) (b := 1000) (by decide)
  rw [hdr] at hdb
  obtain ⟨r1, r2, r3, r4, r5, r6⟩ := read_back ok 60 dr hdb.1 (read60 ok hdb.1 hdb.2)
  have hds : ∀ d ∈ readL ns 60 dr, 0 ≤ d ∧ d < 16 := fun d hd => by
    obtain ⟨s, e, h4⟩ := hmem d (r4 d hd)
    exact ib16 e (Nat.lt_of_lt_of_le h4 (Nat.le_trans hcb2.2 (by decide)))
  have hdg : Digs 4 (readL ns 60 dr) := fun d hd => hds d hd
  have hpk := dval_small hdg r3
  have hpa : ((-(dval 4 (readL ns 60 dr))).natAbs : Int) = dval 4 (readL ns 60 dr) := by rw [Int.natAbs_neg]; exact Int.natAbs_of_nonneg hpk.1
  have hpb : (dval 4 (readL ns 60 dr)).natAbs < 2 ^ 240 := by omega
  refine s7 ho hfd hbd B X T hcs hcl hlv hlen.2 hlen.1 hs hdr hdb.1 hdb.2 (read59 ok hdb.1 hdb.2) hdg r3 (by rw [Int.natAbs_neg]; exact Nat.lt_of_lt_of_le hpb (by decide)) dc1 dc3 hA hB hg5 F N ?_
  clear F N hA hB
  intro h tk a b l2 w2 k2 tw tk2 te td hA hB hw2 hg7 F N
  have hwd := ap_back hdg r6 hpa
  have hdig := digs_back hdg r6
  rw [hwd] at F
  refine s8 ho hfd hbd B X T hw2 r3 hds rfl hdig hpk.1 (PySem.intBits_le_iff.mpr (Nat.lt_of_lt_of_le hpb (by decide))) hA hB hg7 F N ?_
  clear F N hA hB
  intro h tk a b hA hB F N
  refine s9 ho hfd hbd B X T hlv hlen.2 hE hs (bints hds) (fun d hd => by obtain ⟨s, e, h4⟩ := hmem d (r4 d hd); rw [e]; exact hWn s h4) (fun i => Nat.lt_trans (nal (r1 i).1 (Int.lt_of_le_of_lt (r1 i).2 hdb.2)) (by decide)) r2 dc3 hA hB hg7 F N ?_
  clear F N hA hB
  intro h tk ul tz a b hA hB F N
  have F2 := frc F (fr2 (a := Str.ofString "drawn") (b := Str.ofString "far") rfl rfl)
  refine s10 ho hfd hbd B X T hcs hcl hcb hcb2.1 hc4 dc1 dc2 d6 hA hB hg5 F2 (cb_drop N fun p hp => led_cons.mpr (.inr hp)) ?_
  clear F N F2
  intro h tk bn bv kb oc6 tb tb2 hbv dc6 hgb F N
  obtain ⟨bd, hbd'⟩ : ∃ bd, (cs.getD 3 0).fmod 2001 - 1000 = bd := ⟨_, rfl⟩
  have hbb := fmod_bnd (a := cs.getD 3 0) (b := 2001) (by decide)
  have hbW := bgL_W (fun s => (hc s).1) (cs := cs) (n := 3) (Nat.lt_of_lt_of_le (by decide) hcb2.1)
  rw [hns] at hbW
  have hbl := bgL_len cs cnt 3
  generalize bgL cs cnt 3 = bs at *
  rw [hbd'] at F
  have hbd2 : bd.natAbs ≤ 2000 := bd20 hbb hbd'
  have hbl3 : bs.length ≤ 3 := Nat.le_of_eq hbl
  refine s11 ho hfd hbd B X T hlv hlen.2 hlen.1 hbv hE hs (rk01 hp) (fun i => Nat.lt_of_lt_of_le (behAt_small hp hlen.2 hbl3 hbd2 i) (by decide)) dc3 dc6 hA hB hgb F N ?_
  clear F N hA hB
  intro h tk ul ur tz a b hA hB F N
  have hbh := behAt_small hp hlen.2 (bs := bs) hbl3 (bd := bd) hbd2 bs.length
  have hhi := chain_hi hp hbW bd
  have hlo := chain_lo hp hbW bd
  generalize behAt ns bd bs bs.length = bh at *
  have F2 := frc F (fr4 (a := Str.ofString "behind") (b := Str.ofString "bound") (c := Str.ofString "drawn") (d := Str.ofString "far") rfl rfl rfl rfl)
  have hb1 : bh.natAbs < 100000 := Nat.lt_trans hbh (by decide)
  have hb2 : (bh - 1).natAbs < 100000 := Nat.lt_of_le_of_lt (Int.natAbs_sub_le bh 1) (Nat.lt_trans (Nat.add_lt_add_right hbh 1) (by decide))
  refine s12 ho hfd hbd B X T hlv hlen.2 hlen.1 hbv (by first | exact hbl3 | exact hbl | omega) hE hs hbW (numAt_small hlen.2 hbl3 hbW (by first | exact hb1 | exact hb2)) (numAt_small hlen.2 hbl3 hbW (by first | exact hb1 | exact hb2)) hlo hhi dc3 dc6 hA hB hgb F2 N ?_
  clear F N hA hB F2
  intro h tk ul ta tz a b hA hB F N
  have F2 := frc F (fr2 (a := Str.ofString "drawn") (b := Str.ofString "far") rfl rfl)
  refine s13 ho hfd hbd B X T hlv hpv htv hlen.2 hlen.1 hbv hbl hs (fun i hi => tn2 (turn_bnd (ns := ns) i) hi) ?hrb (few_eq hs hp bs) dc3 dc4 dc5 dc6 hA hB hgb F2 N ?_
  case hrb =>
    rw [← rk01 hp]
    exact Nat.lt_of_le_of_lt (Nat.le_trans (rk_bnd hp hlen.2 (bs.getD 0 0) ((ns.length : Int) + 2)) (Nat.add_le_add_right (Nat.add_le_add_right hlen.2 2) 24)) (by decide)
  clear F N hA hB F2
  intro h tk tw a b hA hB F N
  have F2 := frc F (fr2 (a := Str.ofString "drawn") (b := Str.ofString "far") rfl rfl)
  have hwb := fmod_bnd (a := cs.getD (Int.toNat 4) 0) (b := 3) (by decide)
  obtain ⟨wt, hwt⟩ : ∃ wt : Nat, 1 + (cs.getD (Int.toNat 4) 0).fmod 3 = (wt : Int) := ⟨(1 + (cs.getD (Int.toNat 4) 0).fmod 3).toNat, (Int.toNat_of_nonneg (Int.add_nonneg (by decide) hwb.1)).symm⟩
  have hw1 : 1 ≤ wt := by omega
  have hw3 : wt ≤ 3 := by omega
  have hw4 : Bnd4 wt := Nat.le_succ_of_le hw3
  have okw := lineW_ok hw1 hw3
  refine s14 ho hfd hbd B X T hcs hcl hcb hwt hw1 hw4 hdb.1 hdb.2 okw.srt (read59 okw hdb.1 hdb.2) dc1 d7 hA hB hgb F2 N ?_
  clear F N hA hB F2
  intro h tk te tw l3 w3 k3 oc7 a b hA hB hw3' dc7 hgw F N
  have he60 := read60 okw hdb.1 hdb.2
  obtain ⟨q1, q2, q3, q4, q5, q6⟩ := read_back okw 60 dr hdb.1 he60
  obtain ⟨v1, v2⟩ := lineW_read hw1 hw3 60 dr hdb.1 he60
  have hds3 : ∀ d ∈ readL (lineW wt) 60 dr, 0 ≤ d ∧ d < 16 := fun d hd => by
    have := q4 d hd
    rw [lineW_eq] at this
    obtain ⟨s, e, h4⟩ := blocks_mem 16 d this
    exact ib16 e h4
  have hdq : 0 ≤ dr / (wt : Int) := Int.ediv_nonneg hdb.1 (Int.natCast_nonneg wt)
  have hdq2 : dr / (wt : Int) ≤ dr := Int.ediv_le_self _ hdb.1
  refine s15 ho hfd hbd B X T hw1 (by omega) hdb.1 hdb.2 hw3' q3 hds3 v2.symm ?hq ?hwd dc7 hA hB hgw F N ?_
  case hq => exact Nat.lt_of_lt_of_le (nal hdq (Int.lt_of_le_of_lt hdq2 hdb.2)) (by decide)
  case hwd => exact ap_back hds3 q6 (by rw [v1]; exact Int.natAbs_of_nonneg hdq)
  intro h tk m t57' t64' R hA hB F N
  exact hQ _ _ _ _ _ _ _ _ _ _ _ _ _ _ hA hB F N
end

section
theorem off_S17 : True ∧ True := by
  w_top off
  walk1
  all_goals trivial

theorem lk142 (w : World) : ∃ o, (hd.heap_1 w.params).lookup 142 = some o := ⟨_, by k_is⟩
theorem tab_has {P : Addr} {ln col : Nat} {qual : Str} {tb : List (Addr × Obj)} (h : TabSt P ln col qual tb) : ∃ ps, (P, tabObj ps) ∈ tb := by
  cases h with
  | fresh => exact ⟨_, .head _⟩
  | used a b c => exact ⟨_, .head _⟩
theorem led_start {L : Nat} {o1 o2 o3 o4 o5 o6 o7 : Obj} : ∀ p ∈ led L o1 o2 o3 o4 o5 o6 o7 #[] [(57, tabObj #[])] [(64, tabObj #[])] [], p ∈ ([((L + 1 + 1 + 1 + 1 + 1 + 1 + 1 : Nat), o7), ((L + 1 + 1 + 1 + 1 + 1 + 1 : Nat), o6), ((L + 1 + 1 + 1 + 1 + 1 : Nat), o5), ((L + 1 + 1 + 1 + 1 : Nat), o4), ((L + 1 + 1 + 1 : Nat), o3), ((L + 1 + 1 : Nat), o2), ((L + 1 : Nat), o1), (97, tabObj #[]), (64, tabObj #[]), (57, tabObj #[])] : List (Addr × Obj)) := by
  unfold led
  repeat (refine List.forall_mem_cons.mpr ⟨by (repeat (first | exact List.Mem.head _ | refine List.Mem.tail _ ?_)), ?_⟩)
  first | exact List.forall_mem_nil _ | exact fun p hp => by (repeat (first | exact hp | refine List.Mem.tail _ ?_))
set_option maxHeartbeats 8000000 in
theorem lawT : PySem.Challenge.rw_ta0033_01.Holds := by
  apply hd
  k_go0
  rename World => w
  rename_i hh tk c7 c6 c5 c4 c3 c2 c1 e7 e6 e5 e4 e3 e2 e1 X0 X1 T1 K1 F1 ch1 ch2 N1 l0
  obtain ⟨o, ho⟩ := lk142 w
  have eo := lk_inj ho (by k_is)
  subst eo
  refine' sAll (o1 := c1) (o2 := c2) (o3 := c3) (o4 := c4) (o5 := c5) (o6 := c6) (o7 := c7) ho rfl rfl ?B ?X ?T ?hE ?d1 ?d2 ?d3 ?d4 ?d5 ?d6 ?d7 ?hlb ?hvs ?hn ?F ?N ?next
  case B => k_asm
  case X => k_asm
  case T => k_asm
  case d1 => exact e1
  case d2 => exact e2
  case d3 => exact e3
  case d4 => exact e4
  case d5 => exact e5
  case d6 => exact e6
  case d7 => exact e7
  case hE => passes_own
  case hlb => assumption
  case hvs => assumption
  case hn => omega
  case F => k_asm
  case N =>
    refine cb_drop N1 fun p hp => ?_
    exact led_start p hp
  case next =>
    intro h tk9 m9 p1 p2 p3 p4 p5 p6 p7 ps a b R hA hB F9 N9
    refine ⟨?_, ?_⟩
    · kc_close
    · have m97 : GrownAt 97 h := ⟨ps, (N9 (97, tabObj ps) (by unfold led; simp)).1⟩
      obtain ⟨t5, k5⟩ := tab_has hA
      obtain ⟨t6, k6⟩ := tab_has hB
      exact ⟨m97, ⟨t6, (N9 (64, tabObj t6) (by unfold led; simp [k6])).1⟩, ⟨t5, (N9 (57, tabObj t5) (by unfold led; simp [k5])).1⟩, trivial⟩
end

end
end Mine

theorem PySem.Challenge.cw_ta0033_01_holds : PySem.Challenge.rw_ta0033_01.Holds :=
  Mine.lawT
