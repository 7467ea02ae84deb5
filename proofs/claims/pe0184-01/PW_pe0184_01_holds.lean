import PyProof.Rows.All
import Wide.All
import OpenK.AllK
import Wide.FinOn
import PySem.Challenge.RW_pe0184_01
open PySem PySem.W PyProof.Rows PySem.Spec PySem.Calls
set_option Elab.async false
set_option maxRecDepth 100000
set_option maxHeartbeats 8000000
namespace Mine
/-- the text without its two rows that set the module's name -/
noncomputable def vw : Program := view PySem.Challenge.pw_pe0184_01 ((List.range 63).filter fun i => i != 0 && i != 56)
noncomputable abbrev lsx : List PySem.Str := [Str.ofString "EXACT_TOKEN_TYPES"]
noncomputable abbrev xt (s : Shared) : Bool := xlAt vw [] s && recOk (RowW.records PySem.Challenge.rw_pe0184_01.row.toRowW) s
theorem head_both {H : Hook} {d : DefRec} {kwd : List (PySem.Str × PySem.Expr)} (k1 : PySem.Challenge.rw_pe0184_01.row.wellSaid = true) (hdef : defOf vw PySem.Challenge.rw_pe0184_01.row.name = some (d, kwd)) (hp : PySem.Challenge.rw_pe0184_01.row.prog.theDef PySem.Challenge.rw_pe0184_01.row.name = some (d.params, d.body, d.scope)) (hk : kwWritten? d.params.kwonlyargs d.params.kw_defaults = some kwd)
    (hw : PySem.Challenge.rw_pe0184_01.row.toRowW.promised) (hc : LeftO PySem.Challenge.pw_pe0184_01 vw lsx xt (Hook.obs H) (Hook.val H) 3706 ∧ WalkO vw lsx (XL vw []) (Hook.says H) PySem.Challenge.rw_pe0184_01.row.toRowW d kwd fun f vs => PySem.call f vs) : PySem.Challenge.rw_pe0184_01.row.Holds :=
  holds_open (q := vw) (loose := lsx) (Xt := xt) (XP := XL vw []) (Yf := Hook.obs H) (Ya := Hook.val H) (YP := Hook.says H) (N := 3706) hc.1
    (Hook.of H) (Hook.keeps H) (fun _ e => xl_of _ (Bool.and_eq_true_iff.mp e).1) XL.keeps hdef hp hk (fun _ e => recFacts_of (Bool.and_eq_true_iff.mp e).2) (by rfl) k1 (by decide +kernel) ⟨rfl, rfl, rfl, rfl, rfl, by decide +kernel⟩ hw hc.2
local macro_rules | `(tactic| o_head $H) => `(tactic| refine head_both (H := $H) (by assumption) (by rfl) (by rfl) (by rfl) ?hw ?hc)
open_top hd for PySem.Challenge.rw_pe0184_01
noncomputable abbrev HK : Hook := kmHook hd.heap_39 [2, 3, 6, 15, 17, 18, 20, 21, 22, 24, 25, 27, 28, 29, 31, 32, 34, 35, 36, 38, 39, 41, 42, 43, 45, 46, 48, 49,
  50, 53, 55, 56, 58, 59, 60, 62, 63, 65, 66, 67, 70, 71, 72, 75, 76, 77, 80, 81, 82, 84, 85, 87, 88] (fun _ => by kernel_rfl) [37, 30]
/-- an object of the written part -/
noncomputable def topObj (P : Params) (a : Addr) : Obj := @Option.rec Obj (fun _ => Obj) ⟨.none, none, .plain, #[]⟩ (fun o => o) (List.lookup a (hd.heap_39 P))
noncomputable def topDef (o : Obj) : Obj := match o.data with
  | .func f => ⟨.none, none, .func { name := f.name, qualname := f.qualname, params := f.params, body := f.body, scope := f.scope, globals := 0, closure := [], defaults := .none, kwdefaults := .none }, #[]⟩
  | _ => o
noncomputable def topPart (o : Obj) (i j : Nat) : Obj := match o.data with
  | .dict es _ => ⟨.type "dict", none, .dict (List.toArray ((es.toList.drop i).take j)) j, #[]⟩
  | _ => o
noncomputable def topTab (vs : List Value) : Obj := ⟨.none, none, .fields (List.toArray vs), #[]⟩
noncomputable abbrev topInt (i : Int) : Value := .int i 0
noncomputable def topRows : List (Int × Nat) := [(3, 20), (19, 27), (29, 34), (45, 41), (54, 48), (115, 58), (119, 65), (125, 70), (138, 75), (140, 80), (156, 87)]
/-- the objects behind the text's top, told by the written part -/
noncomputable def TopHeap (P : Params) : Heap := ⟨List.toArray [boot_o_0 P, boot_o_1 P, topObj P 2, topObj P 3, boot_o_4 P, boot_o_5 P, topObj P 6, boot_o_7 P, boot_o_8 P, boot_o_9 P, boot_o_10 P,
  ⟨.type "tuple", none, .seq #[] 0, #[]⟩, topTab (topRows.flatMap fun p => [topInt p.1, topInt 0, .ref p.2]),
  ⟨.type "code", none, .fields #[.str "<module>" 182, .str "<module>" 183, .str "/claim/cut.py" 184, topInt 1, topInt 0, topInt 0, topInt 0, topInt 0, .ref 11, .bool false, topInt 181, .ref 12, .none, .none, .none, .none, topInt 185, topInt 1, .str "/claim/cut.py" 186], #[]⟩,
  ⟨.type "frame", none, .plain, #[some (.ref 13), some (.ref 3), some (.ref 3), none, some (.str "__main__" 164), none, some (.ref 0)]⟩,
  topObj P 15, topTab [], topObj P 17, topObj P 18, topDef (topObj P 21), topObj P 20, topObj P 21, topObj P 22, topTab [], topObj P 24, topObj P 25, topDef (topObj P 28), topObj P 27, topObj P 28, topObj P 29, topTab [], topObj P 31, topObj P 32, topDef (topObj P 35), topObj P 34, topObj P 35, topObj P 36, topTab [],
  topObj P 38, topObj P 39, topDef (topObj P 42), topObj P 41, topObj P 42, topObj P 43, topTab [], topObj P 45, topObj P 46, topDef (topObj P 49), topObj P 48, topObj P 49, topObj P 50, topPart (topObj P 50) 17 17, topPart (topObj P 50) 34 14,
  topObj P 53, topTab [], topObj P 55, topObj P 56, topDef (topObj P 59), topObj P 58, topObj P 59, topObj P 60, topTab [], topObj P 62, topObj P 63, topDef (topObj P 66), topObj P 65, topObj P 66, topObj P 67, topTab [], topDef (topObj P 71), topObj P 70, topObj P 71, topObj P 72, topTab [], topDef (topObj P 76), topObj P 75, topObj P 76,
  topObj P 77, topTab [], topDef (topObj P 81), topObj P 80, topObj P 81, topObj P 82, topTab [], topObj P 84, topObj P 85, topDef (topObj P 88), topObj P 87, topObj P 88], {}⟩
noncomputable abbrev TopShared (P : Params) (os : OsState) : Shared := ⟨TopHeap P, Array.mk [], {}, 503, os⟩
theorem top_objs (w : World) (os : OsState) : Hook.obs HK (TopShared w.params os) = Hook.val HK w := by kernel_rfl
theorem top_seen1 (P : Params) (os : OsState) : seen ((recsOf vw).map (·.name)) (ownsOf vw) [] { TopShared P os with gens := #[] } = expectedOf vw := by kernel_rfl
theorem top_seen2 (P : Params) (os : OsState) : (TopShared P os).heap.bltView = bltViewBooted := by kernel_rfl
theorem top_seen3 (P : Params) (os : OsState) : ((TopShared P os).heap.keysOk (looseW vw lsx) ((recsOf vw).map (·.name)) ((litsOf vw).map (·.1)) ((clssOf vw (looseW vw lsx)).map (·.name)) && (TopShared P os).heap.accountedOkI [] && (TopShared P os).heap.isNs mainGlobals && (TopShared P os).heap.isNs builtinsNs && tablesOk vw (TopShared P os).heap && xt (TopShared P os) && (if true then (TopShared P os).gens.size == 0 else !leftWithCleanup (TopShared P os).gens)) = true := by kernel_rfl
theorem top_seen4 (P : Params) (os : OsState) : tabsOk vw (TopShared P os) = true := by kernel_rfl
theorem top_seen5 (P : Params) (os : OsState) : pinSeenD vw (drecsOf vw) (TopShared P os) = pinGoodD (drecsOf vw) := by kernel_rfl
theorem top_seen6 (P : Params) (os : OsState) : plainSeenE vw (looseW vw lsx) (TopShared P os) = plainGoodE vw (looseW vw lsx) := by kernel_rfl
theorem top_seen7 (P : Params) (os : OsState) : plainSeenD vw lsx (TopShared P os) = plainGoodD vw lsx := by kernel_rfl
theorem top_seen8 (P : Params) (os : OsState) : wideSeen vw (TopShared P os) = wideGood vw := by kernel_rfl
theorem top_seen9 (P : Params) (os : OsState) : clsSeenW vw lsx (TopShared P os) = clsGoodW vw lsx := by kernel_rfl
theorem top_nine {A B C D E F G H I : Type} {a a' : A} {b b' : B} {c c' : C} {d d' : D} {e e' : E} {f f' : F} {g g' : G} {h h' : H} {i i' : I} (e1 : a = a') (e2 : b = b') (e3 : c = c') (e4 : d = d') (e5 : e = e') (e6 : f = f') (e7 : g = g') (e8 : h = h') (e9 : i = i') :
    (a, b, c, d, e, f, g, h, i) = (a', b', c', d', e', f', g', h', i') := by rw [e1, e2, e3, e4, e5, e6, e7, e8, e9]
theorem top_seen (P : Params) (os : OsState) : openSeen vw lsx [] xt true (TopShared P os) = openGood vw lsx := by
  have := top_nine (top_seen1 P os) (top_seen2 P os) (top_seen3 P os) (top_seen4 P os) (top_seen5 P os) (top_seen6 P os) (top_seen7 P os) (top_seen8 P os) (top_seen9 P os)
  exact this
noncomputable abbrev TopRuns (w : World) : Prop := ∀ os : OsState, topRun treeTable PySem.Challenge.pw_pe0184_01 w 11 (some (.ref 6)) 3706 ⟨boot_heap w.params, Array.mk [], boot_drawn, boot_toks, os⟩ (topStub PySem.Challenge.pw_pe0184_01) = some (TopShared w.params os)
theorem top_run_f (w : World) : TopRuns (w.withFollow "special-get-raises" false) := fun os => by kernel_rfl
theorem top_run_t (w : World) : TopRuns (w.withFollow "special-get-raises" true) := fun os => by kernel_rfl
theorem top_size (w : World) : ((boot_heap w.params).isNs mainGlobals && (Array.mk [] : Array GenState).size == 0, (boot_heap w.params).objs.size, (boot_heap w.params).nsMap mainGlobals "__annotations__") = (true, 11, some (Value.ref 6)) := by kernel_rfl
theorem top_kept (P : Params) (os : OsState) : (staticsOk [] (boot_heap P) (TopHeap P) && namesBound PySem.Challenge.pw_pe0184_01 (TopHeap P) && gensDone (TopShared P os) && laidKept (boot_heap P) (TopHeap P)) = true := by kernel_rfl
theorem left_all : LeftO PySem.Challenge.pw_pe0184_01 vw lsx xt (Hook.obs HK) (Hook.val HK) 3706 :=
  LeftO.of_pieces (H₀ := boot_heap) (H₁ := TopHeap) (gs₀ := Array.mk []) (gs₁ := Array.mk []) (d₀ := boot_drawn) (d₁ := {}) (k₀ := boot_toks) (k₁ := 503) (m₀ := 11) (ann := some (.ref 6)) (M := 3706)
    (boot_open (by kernel_rfl) (by kernel_rfl) (fun s => by kernel_rfl)) top_size (byRow2 "special-get-raises" (P := TopRuns) top_run_f top_run_t) (by kernel_rfl)
    fun w => funext fun os => Prod.ext (top_kept w.params os) (Prod.ext (top_seen w.params os) (top_objs w os))
theorem kfill0 : (hd.heap_39 = hd.heap_39 ∧ PySem.Challenge.rw_pe0184_01 = PySem.Challenge.rw_pe0184_01) := by w_top off; k_fill; exact ⟨rfl, rfl⟩
end Mine
-- Mn0
namespace Mine
noncomputable abbrev PG : Program := PySem.Challenge.rw_pe0184_01.row.prog
noncomputable abbrev LS : List PySem.Str := looseW vw [Str.ofString "EXACT_TOKEN_TYPES"] ++ List.map (fun x => x.name) (recsOf vw) ++
        List.map (fun x => x.fst) (litsOf vw) ++
      List.map (fun x => x.name) (clssOf vw (looseW vw [Str.ofString "EXACT_TOKEN_TYPES"]))
noncomputable abbrev KK (w : World) : Frag := hd.heap_39 w.params

/-- a call's contract: `R` lists what comes back (value, new objects) -/
noncomputable abbrev Ctr (w : World) (mean : ExcName → Option Value) (mg mb : PySem.Str → Option Value) (f : Addr) (dneed uneed : Nat) (news : List (Addr × Obj)) (vs : List Value)
    (ret : (h₀ : Heap) → (L : Addr) → (m : PySem.Str → Option Value) → Shared → (Value → Shared → Prop) → Prop) : Prop :=
  ∀ (dp un : Nat) (gd : Option (List Code)) (cn : PySem.Str) (cs : Scope) (a : Addr) (ccd : Value) (cl : List (PySem.Str × Addr)) (outer : List Env) (A₀ : Around) (base h₀ : Heap) (L : Addr) (m : PySem.Str → Option Value) (s : Shared) (Q E : Value → Shared → Prop),
    Below A₀ base outer h₀ → Fr h₀ L s.heap m → (hd.heap_39 w.params).In h₀ → News h₀ L s.heap news → Top topProg LS mean mg mb h₀ → cs.kind = .function →
    dp + dneed < recursionLimit → un + uneed < cLine → ret h₀ L m s Q →
      wpAny (model PySem.Challenge.rw_pe0184_01.row.prog w) (ktrTop dp un gd cn cs L a ccd cl outer) (call (.ref f) vs) Q E s
/-- the same with a word on the base -/
noncomputable abbrev CtrP (w : World) (mean : ExcName → Option Value) (mg mb : PySem.Str → Option Value) (pre : Heap → Prop) (f : Addr) (dneed uneed : Nat) (news : List (Addr × Obj)) (vs : List Value)
    (ret : (h₀ : Heap) → (L : Addr) → (m : PySem.Str → Option Value) → Shared → (Value → Shared → Prop) → Prop) : Prop :=
  ∀ (dp un : Nat) (gd : Option (List Code)) (cn : PySem.Str) (cs : Scope) (a : Addr) (ccd : Value) (cl : List (PySem.Str × Addr)) (outer : List Env) (A₀ : Around) (base h₀ : Heap) (L : Addr) (m : PySem.Str → Option Value) (s : Shared) (Q E : Value → Shared → Prop),
    Below A₀ base outer h₀ → Fr h₀ L s.heap m → (hd.heap_39 w.params).In h₀ → News h₀ L s.heap news → Top topProg LS mean mg mb h₀ → cs.kind = .function → pre h₀ →
    dp + dneed < recursionLimit → un + uneed < cLine → ret h₀ L m s Q →
      wpAny (model PySem.Challenge.rw_pe0184_01.row.prog w) (ktrTop dp un gd cn cs L a ccd cl outer) (call (.ref f) vs) Q E s
end Mine
-- MLib
namespace Mine
open LCg LCt

/-- a step that leaves the ledger as it was -/
def SameEnd (h₀ : Heap) (L : Addr) (m : PySem.Str → Option Value) (s₁ : Shared) (led : List (Addr × Obj)) (s₂ : Shared) : Prop :=
  ∃ h' tk, s₂ = { s₁ with heap := h', toks := tk } ∧ Fr h₀ L h' m ∧ News h₀ L h' led
theorem SameEnd.mk {h₀ : Heap} {L : Addr} {m : PySem.Str → Option Value} {s₁ : Shared} {led : List (Addr × Obj)} {h' : Heap} {tk : Nat} (F : Fr h₀ L h' m) (N : News h₀ L h' led) :
    SameEnd h₀ L m s₁ led { s₁ with heap := h', toks := tk } := ⟨h', tk, rfl, F, N⟩

section
variable {prog : Program} {w : World} {A : Around} {E : Value → Shared → Prop} {s : Shared} {h₀ : Heap} {L : Addr} {m : PySem.Str → Option Value} {env : Env}

/-- a comprehension with one test, whose turns leave the ledger as it was -/
theorem restT_filter {ct elt : PySem.Expr} {x : PySem.Str} {scope : Scope} {cl : List (PySem.Str × Addr)} {S : List (Addr × Obj) → Prop} {P : Nat → Value → Prop} {Fin : List Value → List (Addr × Obj) → Prop} {news : List (Addr × Obj)} {n : Nat}
    (pz : Nat → Bool) (RV : Nat → Value → Prop) (hS : S news)
    (turn : ∀ i v I oI C oC D m₂ ys h tk (E' : Value → Shared → Prop), i < n → P i v → NsObj oC m₂ → m₂ x = some v → Fr h₀ L h m → News h₀ L h ((I, oI) :: (C, oC) :: (D, lst ys) :: news) → Off3 I C D news → ((@Ne Nat I C) ∧ (@Ne Nat I D) ∧ (@Ne Nat C D)) →
      wpAny (model prog w) A (isTrue ct (compEnvC scope cl C env) (eval ct (compEnvC scope cl C env))) (fun ok s' => ok = pz i ∧ SameEnd h₀ L m { s with heap := h, toks := tk } ((I, oI) :: (C, oC) :: (D, lst ys) :: news) s') E' { s with heap := h, toks := tk })
    (elem : ∀ i v I oI C oC D m₂ ys h tk (E' : Value → Shared → Prop), i < n → pz i = true → P i v → NsObj oC m₂ → m₂ x = some v → Fr h₀ L h m → News h₀ L h ((I, oI) :: (C, oC) :: (D, lst ys) :: news) → Off3 I C D news → ((@Ne Nat I C) ∧ (@Ne Nat I D) ∧ (@Ne Nat C D)) →
      wpAny (model prog w) A (eval elt (compEnvC scope cl C env)) (fun y s' => RV i y ∧ SameEnd h₀ L m { s with heap := h, toks := tk } ((I, oI) :: (C, oC) :: (D, lst ys) :: news) s') E' { s with heap := h, toks := tk })
    (fin : ∀ ys, Paired RV ((List.range n).filter pz) ys → Fin ys news) :
    CompRestT prog w A h₀ L m env ct elt x scope cl s S P Fin n 0 [] news := by
  have key : ∀ (j i : Nat) (ys : List Value), i + j = n → Paired RV ((List.range i).filter pz) ys → CompRestT prog w A h₀ L m env ct elt x scope cl s S P Fin j i ys news := by
    intro j
    induction j with
    | zero =>
      intro i ys hi hy
      have e : i = n := by omega
      subst e
      exact CompRestT.zero (fin ys hy)
    | succ j ih =>
      intro i ys hi hy
      refine CompRestT.succ ?_
      intro v I oI C oC D m₂ h tk E' hv hC hx F N off ne
      refine wpAny_mono (turn i v I oI C oC D m₂ ys h tk E' (by omega) hv hC hx F N off ne) (fun ok s₂ hq => ?_) fun _ _ e => e
      obtain ⟨rfl, h', tk', rfl, F', N'⟩ := hq
      cases hp : pz i with
      | true =>
        simp only [if_true]
        refine wpAny_mono (elem i v I oI C oC D m₂ ys h' tk' E' (by omega) hp hv hC hx F' N' off ne) (fun y s₃ hy3 => ?_) fun _ _ e => e
        obtain ⟨hr, h3, tk3, rfl, F3, N3⟩ := hy3
        refine ⟨h3, tk3, news, rfl, F3, N3, off, hS, ih (i + 1) _ (by omega) ?_⟩
        rw [List.range_succ, List.filter_append]
        simp only [List.filter_cons, hp, List.filter_nil, if_true]
        exact Paired.snoc hy hr
      | false =>
        simp only [Bool.false_eq_true, if_false]
        refine ⟨h', tk', news, rfl, F', N', off, hS, ih (i + 1) _ (by omega) ?_⟩
        rw [List.range_succ, List.filter_append]
        simp only [List.filter_cons, hp, List.filter_nil, List.append_nil, Bool.false_eq_true, if_false]
        exact hy
  exact key n 0 [] (by omega) .nil

/-- a comprehension without a test, whose turns may grow the ledger's tail: `G i ys tl` says what holds ahead of turn i -/
theorem restU_map {elt : PySem.Expr} {x : PySem.Str} {scope : Scope} {cl : List (PySem.Str × Addr)} {S : List (Addr × Obj) → Prop} {P : Nat → Value → Prop} {Fin : List Value → List (Addr × Obj) → Prop} {news : List (Addr × Obj)} {n : Nat}
    (G : Nat → List Value → List (Addr × Obj) → Prop) (h0 : G 0 [] news)
    (turn : ∀ i v I oI C oC D m₂ ys nw h tk (E' : Value → Shared → Prop), i < n → P i v → G i ys nw → NsObj oC m₂ → m₂ x = some v → Fr h₀ L h m → News h₀ L h ((I, oI) :: (C, oC) :: (D, lst ys) :: nw) → Off3 I C D nw → ((@Ne Nat I C) ∧ (@Ne Nat I D) ∧ (@Ne Nat C D)) →
      wpAny (model prog w) A (eval elt (compEnvC scope cl C env)) (CompEnd h₀ L m { s with heap := h, toks := tk } I oI C oC D (lst ys) S (fun y nw' => G (i + 1) (ys ++ [y]) nw')) E' { s with heap := h, toks := tk })
    (fin : ∀ ys nw, G n ys nw → Fin ys nw) :
    CompRest prog w A h₀ L m env elt x scope cl s S P Fin n 0 [] news := by
  have key : ∀ (j i : Nat) (ys : List Value) (nw : List (Addr × Obj)), i + j = n → G i ys nw → CompRest prog w A h₀ L m env elt x scope cl s S P Fin j i ys nw := by
    intro j
    induction j with
    | zero =>
      intro i ys nw hi hy
      have e : i = n := by omega
      subst e
      exact CompRest.zero (fin ys nw hy)
    | succ j ih =>
      intro i ys nw hi hy
      refine CompRest.succ ?_
      intro v I oI C oC D m₂ h tk E' hv hC hx F N off ne
      refine wpAny_mono (turn i v I oI C oC D m₂ ys nw h tk E' (by omega) hv hy hC hx F N off ne) (fun y s₂ hq => ?_) fun _ _ e => e
      obtain ⟨h', tk', nw', e, F', N', off', hS, hg⟩ := hq
      exact ⟨h', tk', nw', e, F', N', off', hS, ih (i + 1) _ _ (by omega) hg⟩
  exact key n 0 [] news (by omega) h0

/-- the end of a for's turn -/
def FEnd (h₀ : Heap) (L I : Addr) (oI : Obj) (S : List (Addr × Obj) → Prop) (J : (PySem.Str → Option Value) → List (Addr × Obj) → Prop) (s₁ : Shared) (f : Flow) (s₂ : Shared) : Prop :=
  f = .next ∧ ∃ h' tk m' news', s₂ = { s₁ with heap := h', toks := tk } ∧ Fr h₀ L h' m' ∧ News h₀ L h' ((I, oI) :: news') ∧ (∀ p ∈ news', p.1 ≠ I) ∧ S news' ∧ J m' news'

theorem forJ {x : PySem.Str} {px : Pos} {body : List Stmt} {I : Addr} {fp : List Addr} {n : Nat} {P : Nat → Value → Prop} {St : Nat → Heap → Prop} {S : List (Addr × Obj) → Prop} {news : List (Addr × Obj)} {R : Result → Shared → Prop}
    (W : Walks prog w A I fp [I] n P St) (hIo : ∀ i h, St i h → ∃ o, h.get? I = some o)
    (hSt : ∀ i h h' o nw, St i h → h.get? I = some o → h'.get? I = some o → (∀ b o, h₀.get? b = some o → h'.get? b = some o) → News h₀ L h' nw → S nw → St i h')
    (hst : St 0 s.heap) (F : Fr h₀ L s.heap m) (N : News h₀ L s.heap news) (hIL : L ≠ I) (hI₀ : h₀.get? I = none) (off : ∀ p ∈ news, p.1 ≠ I) (hS : S news)
    (J : Nat → (PySem.Str → Option Value) → List (Addr × Obj) → Prop) (h0 : J 0 m news)
    (turn : ∀ i v oI m₁ nw h tk (E' : Value → Shared → Prop), i < n → P i v → J i m₁ nw → S nw → (∀ p ∈ nw, p.1 ≠ I) → Fr h₀ L h m₁ → News h₀ L h ((I, oI) :: nw) →
      wpAny (model prog w) A (storeName env x v) (fun _ s' => wpAny (model prog w) A (execs body env) (FEnd h₀ L I oI S (J (i + 1)) { s with heap := h, toks := tk }) E' s') E' { s with heap := h, toks := tk })
    (done : ∀ m₁ nw h tk, J n m₁ nw → Fr h₀ L h m₁ → News h₀ L h nw → R (.ok .next) { s with heap := h, toks := tk }) :
    codeAny (model prog w) A (.forLoop (.Name x px) (.ref I) body [] env) R s := by
  refine codeAny_forLoop
    (fun k s' => ∃ h' tk m' nw i, s' = { s with heap := h', toks := tk } ∧ St i h' ∧ Fr h₀ L h' m' ∧ News h₀ L h' nw ∧ (∀ p ∈ nw, p.1 ≠ I) ∧ S nw ∧ J i m' nw ∧ i ≤ n ∧ k = n + 1 - i) ?_ (n + 1)
    ⟨s.heap, s.toks, m, news, 0, rfl, hst, F, N, off, hS, h0, Nat.zero_le _, rfl⟩
  rintro k s' ⟨h', tk, m', nw, i, rfl, hst', F', N', off', hS', hJ, hi, rfl⟩
  by_cases hlt : i < n
  · refine W.item i _ _ _ hlt hst' fun v h₁ tk₁ hP hst₁ hk₁ => ?_
    have F₁ := fr_but F' hk₁ hIL hI₀
    have N₁ := news_but N' hk₁ off'
    obtain ⟨oI, heI⟩ := hIo _ _ hst₁
    have N₂ : News h₀ L h₁ ((I, oI) :: nw) := fun p hp => by
      rcases List.mem_cons.mp hp with rfl | hp
      · exact ⟨heI, Ne.symm hIL, hI₀⟩
      · exact N₁ p hp
    refine wpAny_assign_Name (wpAny_mono (turn i v oI m' nw h₁ tk₁ _ hlt hP hJ hS' off' F₁ N₂) (fun _ s₂ h₂ => wpAny_mono h₂ (fun f s₃ h₃ => ?_) fun _ _ e => e) fun _ _ e => e)
    obtain ⟨rfl, h₃', tk₃, m₂, nw₂, rfl, F₃, N₃, off₃, hS₃, hJ₃⟩ := h₃
    exact ⟨n + 1 - (i + 1), by omega, h₃', tk₃, m₂, nw₂, i + 1, rfl, hSt _ _ _ _ _ hst₁ heI (N₃ _ List.mem_cons_self).1 F₃.keep (fun p hp => N₃ p (List.mem_cons_of_mem _ hp)) hS₃, F₃,
      fun p hp => N₃ p (List.mem_cons_of_mem _ hp), off₃, hS₃, hJ₃, hlt, rfl⟩
  · have hin : i = n := by omega
    subst hin
    refine W.done _ _ _ hst' fun h₁ tk₁ hk₁ => wpAny_execs_nil ?_
    exact done m' nw h₁ tk₁ hJ (fr_but F' hk₁ hIL hI₀) (news_but N' hk₁ off')

/-- for over a list that stands in the base or in the ledger -/
theorem forJ_list {x : PySem.Str} {px : Pos} {body : List Stmt} {ax : Addr} {its : Array Value} {news : List (Addr × Obj)} {R : Result → Shared → Prop}
    (hh : A.handled = none) (F : Fr h₀ L s.heap m) (N : News h₀ L s.heap news) (S : SrcAt h₀ ax its news)
    (J : (PySem.Str → Option Value) → Nat → (PySem.Str → Option Value) → List (Addr × Obj) → Prop) (h0 : J m 0 m news)
    (turn : ∀ I i v oI m₁ nw h tk (E' : Value → Shared → Prop), i < its.size → its[i]? = some v → J m i m₁ nw → SrcAt h₀ ax its nw → (∀ p ∈ nw, p.1 ≠ I) → Fr h₀ L h m₁ → News h₀ L h ((I, oI) :: nw) →
      wpAny (model prog w) A (storeName env x v) (fun _ s' => wpAny (model prog w) A (execs body env) (FEnd h₀ L I oI (SrcAt h₀ ax its) (J m (i + 1)) { s with heap := h, toks := tk }) E' s') E' { s with heap := h, toks := tk })
    (done : ∀ m₁ nw h tk, J m its.size m₁ nw → Fr h₀ L h m₁ → News h₀ L h nw → R (.ok .next) { s with heap := h, toks := tk }) :
    wpAny (model prog w) A (pyIter (.ref ax)) (fun it s₂ => codeAny (model prog w) A (.forLoop (.Name x px) it body [] env) R s₂) E s := by
  have hl := S.list F.keep N
  have hlt : ax < s.heap.objs.size := by obtain ⟨_, e, _⟩ := hl; exact Heap.lt_size e
  refine wpAny_pyIter_list hl ?_
  have up : ∀ b o, s.heap.get? b = some o → (s.heap.push { cls := .type "list_iterator", data := .fields #[.ref ax, .int 0 0] }).get? b = some o := fun b o e => Heap.get?_push_of_some _ e
  exact forJ (Walks.list hh s.heap.objs.size ax (Nat.ne_of_lt hlt) its) (fun i h st => by obtain ⟨o, e, _⟩ := st.1; exact ⟨o, e⟩) list_st ⟨⟨_, Heap.get?_push_size _ rfl, rfl, rfl⟩, hl.push _⟩
    (F.keeps up) (N.grown up) (Nat.ne_of_lt F.ns.lt) (next_is_new F) (fun p hp => Nat.ne_of_lt (Heap.lt_size (N p hp).1)) S (J m) h0 (turn _) done

theorem rev_st {ax I : Addr} {its : Array Value} : ∀ i (h h' : Heap) (o : Obj) (nw : List (Addr × Obj)), (i ≤ its.size ∧ h.IsRevIter I ax ((its.size : Int) - 1 - (i : Int)) ∧ h.IsList ax its) → h.get? I = some o → h'.get? I = some o → (∀ b o, h₀.get? b = some o → h'.get? b = some o) → News h₀ L h' nw → SrcAt h₀ ax its nw → (i ≤ its.size ∧ h'.IsRevIter I ax ((its.size : Int) - 1 - (i : Int)) ∧ h'.IsList ax its) :=
  fun i h h' o nw st e e' k N S => ⟨st.1, by obtain ⟨o', q, r⟩ := st.2.1; rw [e] at q; cases q; exact ⟨o, e', r⟩, S.list k N⟩
/-- for over reversed(a list) -/
theorem forJ_rev {x : PySem.Str} {px : Pos} {body : List Stmt} {I ax : Addr} {vs : List Value} {news : List (Addr × Obj)} {R : Result → Shared → Prop}
    (hh : A.handled = none) (F : Fr h₀ L s.heap m) (N : News h₀ L s.heap ((I, revObj ax ((vs.length : Int) - 1)) :: news)) (off : ∀ p ∈ news, p.1 ≠ I) (S : SrcAt h₀ ax vs.toArray news)
    (J : (PySem.Str → Option Value) → Nat → (PySem.Str → Option Value) → List (Addr × Obj) → Prop) (h0 : J m 0 m news)
    (turn : ∀ i v oI m₁ nw h tk (E' : Value → Shared → Prop), i < vs.length → vs.reverse[i]? = some v → J m i m₁ nw → SrcAt h₀ ax vs.toArray nw → (∀ p ∈ nw, p.1 ≠ I) → Fr h₀ L h m₁ → News h₀ L h ((I, oI) :: nw) →
      wpAny (model prog w) A (storeName env x v) (fun _ s' => wpAny (model prog w) A (execs body env) (FEnd h₀ L I oI (SrcAt h₀ ax vs.toArray) (J m (i + 1)) { s with heap := h, toks := tk }) E' s') E' { s with heap := h, toks := tk })
    (done : ∀ m₁ nw h tk, J m vs.length m₁ nw → Fr h₀ L h m₁ → News h₀ L h nw → R (.ok .next) { s with heap := h, toks := tk }) :
    wpAny (model prog w) A (pyIter (.ref I)) (fun it s₂ => codeAny (model prog w) A (.forLoop (.Name x px) it body [] env) R s₂) E s := by
  have N' : News h₀ L s.heap news := fun p hp => N p (List.mem_cons_of_mem _ hp)
  have hIx := N _ List.mem_cons_self
  have hl := S.list F.keep N'
  have hne : ax ≠ I := by
    rintro rfl
    obtain ⟨o, e, c, _⟩ := hl
    rw [hIx.1] at e
    cases e
    simp [revObj] at c
  have hit : s.heap.IsRevIter I ax ((vs.length : Int) - 1) := ⟨_, hIx.1, rfl, rfl⟩
  refine wpAny_pyIter_revIter hit ?_
  have hlen : vs.toArray.size = vs.length := by simp
  refine forJ (n := vs.length) (hlen ▸ Walks.listRev hh I ax hne vs.toArray) (fun i h st => by obtain ⟨o, e, _⟩ := st.2.1; exact ⟨o, e⟩) rev_st ⟨Nat.zero_le _, ?_, hl⟩
    F N' hIx.2.1.symm hIx.2.2 off S (J m) h0 (fun i v oI m₁ nw h tk E' hi hP hJ hS off F' N' => turn i v oI m₁ nw h tk E' hi ?_ hJ hS off F' N') done
  · rw [hlen]
    have e : (vs.length : Int) - 1 - ((0 : Nat) : Int) = (vs.length : Int) - 1 := by omega
    rw [e]
    exact hit
  · rw [List.getElem?_reverse hi]
    simpa using hP

theorem forJ_range {x : PySem.Str} {px : Pos} {body : List Stmt} {r : Addr} {a b : Int} {t u v : Tok} {n : Nat} {news : List (Addr × Obj)} {R : Result → Shared → Prop}
    (hh : A.handled = none) (F : Fr h₀ L s.heap m) (N : News h₀ L s.heap news) (hr : IsRange s.heap r a b 1 t u v) (hsm : Builtin.Range.small a b 1 = true) (hn : Builtin.Range.rangeSize a b 1 = ((n : Nat) : Int))
    (J : (PySem.Str → Option Value) → Nat → (PySem.Str → Option Value) → List (Addr × Obj) → Prop) (h0 : J m 0 m news)
    (turn : ∀ I i tv oI m₁ nw h tk (E' : Value → Shared → Prop), i < n → J m i m₁ nw → (∀ p ∈ nw, p.1 ≠ I) → Fr h₀ L h m₁ → News h₀ L h ((I, oI) :: nw) →
      wpAny (model prog w) A (storeName env x (.int (a + (i : Int)) tv)) (fun _ s' => wpAny (model prog w) A (execs body env) (FEnd h₀ L I oI (fun _ => True) (J m (i + 1)) { s with heap := h, toks := tk }) E' s') E' { s with heap := h, toks := tk })
    (done : ∀ m₁ nw h tk, J m n m₁ nw → Fr h₀ L h m₁ → News h₀ L h nw → R (.ok .next) { s with heap := h, toks := tk }) :
    wpAny (model prog w) A (pyIter (.ref r)) (fun it s₂ => codeAny (model prog w) A (.forLoop (.Name x px) it body [] env) R s₂) E s := by
  refine wpAny_pyIter_range hr hsm ?_
  refine forJ (range_walks hh a n) (fun i h st => ⟨_, st⟩) range_st (by show IsRangeIter _ _ _ _ _; rw [hn]; simpa using Heap.get?_push_size _ rfl)
      (F.keeps fun _ _ e => Heap.get?_push_of_some _ e) (N.grown fun _ _ e => Heap.get?_push_of_some _ e) (Nat.ne_of_lt F.ns.lt) (next_is_new F) (fun p hp => Nat.ne_of_lt (Heap.lt_size (N p hp).1)) trivial (J m) h0 (fun i v oI m₁ nw h tk E' hi hP hJ _ off F' N' => ?_) done
  obtain ⟨t, rfl⟩ := hP
  exact turn _ i t oI m₁ nw h tk E' hi hJ off F' N'
end

theorem sub_cons' {α : Type} {a : α} {r l : List α} (h1 : a ∈ l) (h2 : ∀ p ∈ r, p ∈ l) : ∀ p ∈ a :: r, p ∈ l := fun p hp => by
  rcases List.mem_cons.mp hp with rfl | hp
  · exact h1
  · exact h2 p hp
theorem sub_tail' {α : Type} {b : α} {r l : List α} (h : ∀ p ∈ r, p ∈ l) : ∀ p ∈ r, p ∈ b :: l := fun p hp => List.mem_cons_of_mem _ (h p hp)
theorem off_head {d I : Addr} {o o' : Obj} {r : List (Addr × Obj)} (h : ∀ p ∈ (d, o) :: r, p.1 ≠ I) : ∀ p ∈ (d, o') :: r, p.1 ≠ I := fun p hp => by
  rcases List.mem_cons.mp hp with rfl | hp
  · exact h (d, o) List.mem_cons_self
  · exact h p (List.mem_cons_of_mem _ hp)
theorem allLt_ne {d : Nat} : ∀ {l : List (Addr × Obj)}, AllLt d l → ∀ p ∈ l, p.1 ≠ d
  | [], _, _, h => nomatch h
  | _ :: _, ⟨a, r⟩, p, h => by
    rcases List.mem_cons.mp h with rfl | h
    · exact Nat.ne_of_lt a
    · exact allLt_ne r p h
section
variable {prog : Program} {w : World} {A : Around} {E : Value → Shared → Prop} {s : Shared} {a b v : Int} {t u : Tok} {Q : Value → Shared → Prop}
theorem rshift_to (hn : 0 ≤ b) (e : a.fdiv (2 ^ b.toNat) = v) (h : Q (.int v s.toks) { s with toks := s.toks + 1 }) : wpAny (model prog w) A (binaryOp .RShift (.int a t) (.int b u)) Q E s := rshift_int hn (e ▸ h)
theorem add_to (e : a + b = v) (h : Q (.int v s.toks) { s with toks := s.toks + 1 }) : wpAny (model prog w) A (binaryOp .Add (.int a t) (.int b u)) Q E s := add_int (e ▸ h)
theorem mul_to (hm : IntMulOk a b) (e : a * b = v) (h : Q (.int v s.toks) { s with toks := s.toks + 1 }) : wpAny (model prog w) A (binaryOp .Mult (.int a t) (.int b u)) Q E s := mul_int (e ▸ h) hm
theorem lshift_to (hn : 0 ≤ b) (hsz : (Builtin.Int.intBits a : Int) + b ≤ 2 ^ 27) (e : a * 2 ^ b.toNat = v) (h : Q (.int v s.toks) { s with toks := s.toks + 1 }) : wpAny (model prog w) A (binaryOp .LShift (.int a t) (.int b u)) Q E s := lshift_int hn hsz (e ▸ h)
end
theorem codeRecQ {h₀ h : Heap} {L c : Addr} {oc : Obj} {vs : Array Value} {q q' : PySem.Str} {t : Tok} {news : List (Addr × Obj)} (N : News h₀ L h news) (hm : (c, oc) ∈ news) (hd : oc.data = .fields vs) (hv : vs[1]? = some (.str q' t)) (e : q' = q) : h.CodeRec (.ref c) q := e ▸ codeRec_news N hm hd hv
/-- a ledger's tail lies below an address -/
def TailLt (d : Nat) (l : List (Addr × Obj)) : Prop := ∀ p ∈ l, p.1 < d
theorem TailLt.of {d : Nat} {l : List (Addr × Obj)} (h : AllLt d l) : TailLt d l := kst_ltOf h
theorem TailLt.ne {d e : Nat} {l : List (Addr × Obj)} (h : TailLt d l) (hde : d ≤ e) : ∀ p ∈ l, p.1 ≠ e := fun p hp q => Nat.lt_irrefl _ (Nat.lt_of_lt_of_le (q ▸ h p hp) hde)
/-- the map of a frame with one name's value apart -/
theorem map_open (m : PySem.Str → Option Value) (x : PySem.Str) : m = fun y => if y = x then m x else m y := by
  funext y; by_cases h : y = x <;> simp [h]
def upd3 (x₁ x₂ x₃ : PySem.Str) (v₁ v₂ v₃ : Option Value) (m : PySem.Str → Option Value) : PySem.Str → Option Value := fun y => if y = x₁ then v₁ else if y = x₂ then v₂ else if y = x₃ then v₃ else m y
theorem map_open3 (m : PySem.Str → Option Value) (x₁ x₂ x₃ : PySem.Str) : m = upd3 x₁ x₂ x₃ (m x₁) (m x₂) (m x₃) m := by
  funext y
  unfold upd3
  by_cases h1 : y = x₁
  · rw [if_pos h1, h1]
  · rw [if_neg h1]
    by_cases h2 : y = x₂
    · rw [if_pos h2, h2]
    · rw [if_neg h2]
      by_cases h3 : y = x₃
      · rw [if_pos h3, h3]
      · rw [if_neg h3]
theorem map_again3 {m : PySem.Str → Option Value} {x₁ x₂ x₃ : PySem.Str} {u₁ u₂ u₃ v₁ v₂ v₃ : Option Value} : (fun y => if y = x₁ then v₁ else if y = x₂ then v₂ else if y = x₃ then v₃ else (fun y => if y = x₁ then u₁ else if y = x₂ then u₂ else if y = x₃ then u₃ else m y) y) = upd3 x₁ x₂ x₃ v₁ v₂ v₃ m := by
  funext y
  unfold upd3
  by_cases h1 : y = x₁
  · rw [if_pos h1, if_pos h1]
  · rw [if_neg h1, if_neg h1]
    by_cases h2 : y = x₂
    · rw [if_pos h2, if_pos h2]
    · rw [if_neg h2, if_neg h2]
      by_cases h3 : y = x₃
      · rw [if_pos h3, if_pos h3]
      · rw [if_neg h3, if_neg h3]
        simp only [h1, h2, h3, if_false]
theorem map_again {m : PySem.Str → Option Value} {x : PySem.Str} {u v : Option Value} : (fun y => if y = x then v else if y = x then u else m y) = fun y => if y = x then v else m y := by
  funext y; by_cases h : y = x <;> simp [h]
end Mine
-- MText
namespace Mine
/-- a text by its signs' numbers -/
def ofL (l : List Nat) : PySem.Str := ⟨l.toArray⟩
theorem ofL_inj {a b : List Nat} (h : ofL a = ofL b) : a = b := by
  have := congrArg (fun s : PySem.Str => s.cps.toList) h
  simpa [ofL] using this
theorem ofL_append (a b : List Nat) : ofL a ++ ofL b = ofL (a ++ b) := by
  show (⟨a.toArray ++ b.toArray⟩ : PySem.Str) = ⟨(a ++ b).toArray⟩
  simp
theorem ofL_length (a : List Nat) : (ofL a).length = a.length := by
  show (ofL a).cps.size = _
  simp [ofL]
theorem small_of {a b : Int} (h0 : 0 ≤ a) (h1 : a < 1000) (h2 : 0 ≤ b) (h3 : b < 1000) : Builtin.Range.small a b 1 = true := by
  unfold Builtin.Range.small Builtin.Range.rangeSize
  simp only [show (1 : Int) > 0 by decide, if_true, Int.ediv_one]
  unfold Builtin.Range.rangeFitsLong
  simp only [Bool.and_eq_true, decide_eq_true_eq, Bool.or_eq_true, beq_iff_eq]
  split <;> omega
theorem size_of {a b : Int} {n : Nat} (h : a + n = b) : Builtin.Range.rangeSize a b 1 = (n : Int) := by
  unfold Builtin.Range.rangeSize
  simp only [show (1 : Int) > 0 by decide, if_true, Int.ediv_one]
  split <;> omega
end Mine
-- MPure
namespace Mine
abbrev Tx := List Nat
def TB : List (Tx × Nat) := [([33], 54), ([33, 61], 28), ([37], 24), ([37, 61], 40), ([38], 19), ([38, 61], 41), ([40], 7), ([41], 8), ([42], 16), ([42, 42], 35), ([42, 42, 61], 46), ([42, 61], 38), ([43], 14), ([43, 61], 36), ([44], 12), ([45], 15), ([45, 61], 37), ([45, 62], 51), ([46], 23), ([46, 46, 46], 52), ([47], 17), ([47, 47], 47), ([47, 47, 61], 48), ([47, 61], 39), ([58], 11), ([58, 61], 53), ([59], 13), ([60], 20), ([60, 60], 33), ([60, 60, 61], 44), ([60, 61], 29), ([61], 22), ([61, 61], 27), ([62], 21), ([62, 61], 30), ([62, 62], 34), ([62, 62, 61], 45), ([64], 49), ([64, 61], 50), ([91], 9), ([93], 10), ([94], 32), ([94, 61], 43), ([123], 25), ([124], 18), ([124, 61], 42), ([125], 26), ([126], 31)]
def NB : List (Tx × Nat) := [([40], 7), ([41], 8), ([91], 9), ([93], 10), ([58], 11), ([44], 12), ([59], 13), ([43], 14), ([45], 15), ([42], 16), ([47], 17), ([124], 18), ([38], 19), ([60], 20), ([62], 21), ([61], 22), ([46], 23), ([37], 24), ([123], 25), ([125], 26), ([61, 61], 27), ([33, 61], 28), ([60, 61], 29), ([62, 61], 30), ([126], 31), ([94], 32), ([60, 60], 33), ([62, 62], 34), ([42, 42], 35), ([43, 61], 36), ([45, 61], 37), ([42, 61], 38), ([47, 61], 39), ([37, 61], 40), ([38, 61], 41), ([124, 61], 42), ([94, 61], 43), ([60, 60, 61], 44), ([62, 62, 61], 45), ([42, 42, 61], 46), ([47, 47], 47), ([47, 47, 61], 48), ([64], 49), ([64, 61], 50), ([45, 62], 51), ([46, 46, 46], 52), ([58, 61], 53), ([33], 54)]
def pool : List Nat := [45, 62, 42, 47, 60, 33, 37, 38, 43, 58, 64, 94, 124, 40, 41, 91, 93, 123, 125, 44, 59, 126]
/-- the number under a text, none if it has none -/
def look (l : Tx) : List (Tx × Nat) → Option Nat
  | [] => none
  | p :: r => if p.1 = l then some p.2 else look l r
/-- a dict's pairs bear a table of numbers -/
def Bears (kvs : List (PySem.Str × Value)) (tb : List (Tx × Nat)) : Prop := Paired (fun (kv : PySem.Str × Value) (p : Tx × Nat) => kv.1 = ofL p.1 ∧ ∃ t, kv.2 = .int (p.2 : Int) t) kvs tb
theorem Bears.some {l : Tx} {n : Nat} : ∀ {kvs : List (PySem.Str × Value)} {tb : List (Tx × Nat)}, Bears kvs tb → look l tb = some n → ∃ t, valueAt kvs (ofL l) = some (.int (n : Int) t)
  | _, _, .nil, h => by cases h
  | kv :: kvs, p :: tb, .cons ⟨h1, t, h2⟩ r, h => by
    unfold look at h
    by_cases e : p.1 = l
    · rw [if_pos e] at h
      cases h
      refine ⟨t, ?_⟩
      unfold valueAt
      rw [List.find?_cons_of_pos (by simp [h1, e])]
      simp [h2]
    · rw [if_neg e] at h
      obtain ⟨t, ht⟩ := Bears.some r h
      refine ⟨t, ?_⟩
      unfold valueAt at ht ⊢
      rw [List.find?_cons_of_neg (by simp only [h1, decide_eq_true_eq]; exact fun q => e (ofL_inj q))]
      exact ht
theorem Bears.none {l : Tx} : ∀ {kvs : List (PySem.Str × Value)} {tb : List (Tx × Nat)}, Bears kvs tb → look l tb = none → valueAt kvs (ofL l) = none
  | _, _, .nil, _ => rfl
  | kv :: kvs, p :: tb, .cons ⟨h1, t, h2⟩ r, h => by
    unfold look at h
    by_cases e : p.1 = l
    · rw [if_pos e] at h; cases h
    · rw [if_neg e] at h
      have ht := Bears.none r h
      unfold valueAt at ht ⊢
      rw [List.find?_cons_of_neg (by simp only [h1, decide_eq_true_eq]; exact fun q => e (ofL_inj q))]
      exact ht
theorem Bears.isSome {l : Tx} {kvs : List (PySem.Str × Value)} {tb : List (Tx × Nat)} (h : Bears kvs tb) : (valueAt kvs (ofL l)).isSome = (look l tb).isSome := by
  cases e : look l tb with
  | none => rw [h.none e]; rfl
  | some n => obtain ⟨t, ht⟩ := h.some e; rw [ht]; rfl

theorem slice_to (l : List Nat) {k : Int} (h0 : 0 ≤ k) : Txt.slice (ofL l) none (some k) = ofL (l.take k.toNat) := by
  by_cases hk : k ≤ l.length
  · have := beq_iff_eq.mp (slice_closes_to (x := ofL l) (j := k) ⟨h0, by simpa [ofL] using hk⟩)
    rw [this]
    simp [ofL]
  · have e : Txt.slice (ofL l) none (some k) = ofL l := by
      unfold Txt.slice
      rw [if_pos]
      rw [ofL_length]
      have e2 : (PySem.Builtin.Str.strSliceIndices none (some k) 1 l.length).length = l.length := by
        unfold PySem.Builtin.Str.strSliceIndices sliceRange
        simp only [show (1 : Int) > 0 by decide, if_true, List.length_map, List.length_range]
        have : ¬ k < 0 := by omega
        simp only [this, if_false]
        rw [Int.min_eq_right (by omega), Int.max_eq_right (by omega)]
        split <;> omega
      rw [e2]; simp
    rw [e, List.take_of_length_le (by omega)]
theorem slice_from (l : List Nat) {k : Int} (h0 : 0 ≤ k) (h1 : k ≤ l.length) : Txt.slice (ofL l) (some k) none = ofL (l.drop k.toNat) := by
  rw [slice_from_eq (b := ((ofL l).length : Int)) h0 (by rw [ofL_length]; exact h1) rfl, ofL_length]
  have e : (ofL l).cps.toList = l := by simp [ofL]
  rw [e, List.take_of_length_le (by simp; omega)]
  rfl
end Mine
-- MEtt
namespace Mine
/-- one row of the written table -/
def EntB (P : Params) (e : DictEntry) (p : Tx × Nat) : Prop := (∃ t, e.key = .str (ofL p.1) t) ∧ e.hash = PyData.keyHash P (ofL p.1) ∧ ∃ t, e.val = .int (p.2 : Int) t
theorem EntB.of {P : Params} {x : PySem.Str} {l : Tx} {n : Nat} {t u : Tok} (h : x = ofL l) : EntB P ⟨PyData.keyHash P x, .str x t, .int (n : Int) u⟩ (l, n) := by subst h; exact ⟨⟨t, rfl⟩, rfl, ⟨u, rfl⟩⟩
theorem ett_rows (P : Params) : ∃ es : List DictEntry, (hd.heap_39 P).lookup 50 = some ⟨.type "dict", none, .dict es.toArray 48, #[]⟩ ∧ Paired (EntB P) es TB := by
  refine ⟨_, rfl, ?_⟩
  unfold TB
  repeat (first | exact Paired.nil | refine Paired.cons (EntB.of (by decide +kernel)) ?_)
theorem tb_nodup : (TB.map (fun p => ofL p.1)).Nodup := by decide +kernel
theorem pairs_of {prog : Program} {w : World} : ∀ {es : List DictEntry} {tb : List (Tx × Nat)}, Paired (EntB w.params) es tb → Pairs (strKind prog w) es (es.map fun e => ((match e.key with | .str x _ => x | _ => ofL []), e.val)) ∧ Bears (es.map fun e => ((match e.key with | .str x _ => x | _ => ofL []), e.val)) tb
  | _, _, .nil => ⟨.nil, .nil⟩
  | e :: es, p :: tb, .cons ⟨⟨t, h1⟩, h2, u, h3⟩ r => by
    have ih := pairs_of (prog := prog) r
    refine ⟨.cons ?_ rfl ih.1, .cons ⟨?_, u, h3⟩ ih.2⟩
    · show (strKind prog w).is (match e.key with | .str x _ => x | _ => ofL []) e.key = true
      rw [h1]; exact strKind_is prog w _ t
    · show (match e.key with | .str x _ => x | _ => ofL []) = _
      rw [h1]
theorem keys_of {prog : Program} {w : World} : ∀ {es : List DictEntry} {tb : List (Tx × Nat)}, Paired (EntB w.params) es tb → ∀ e ∈ es, ∃ k, (strKind prog w).is k e.key = true ∧ e.hash = (strKind prog w).hash k
  | _, _, .nil, _, h => by cases h
  | e :: es, p :: tb, .cons ⟨⟨t, h1⟩, h2, _⟩ r, x, h => by
    rcases List.mem_cons.mp h with rfl | h
    · exact ⟨ofL p.1, by rw [h1]; exact strKind_is prog w _ t, h2⟩
    · exact keys_of r x h
theorem bears_keys : ∀ {kvs : List (PySem.Str × Value)} {tb : List (Tx × Nat)}, Bears kvs tb → kvs.map (·.1) = tb.map (fun p => ofL p.1)
  | _, _, .nil => rfl
  | _, _, .cons h r => by simp only [List.map_cons, bears_keys r, h.1]
/-- EXACT_TOKEN_TYPES stands at 50 -/
theorem ett_at {prog : Program} {w : World} {h : Heap} (X : (hd.heap_39 w.params).In h) : ∃ kvs, h.DictAt (strKind prog w) 50 kvs 48 ∧ Bears kvs TB := by
  obtain ⟨es, hl, hp⟩ := ett_rows w.params
  have z := pairs_of (prog := prog) hp
  refine ⟨_, ⟨_, es.toArray, X _ _ hl, ⟨rfl, rfl, rfl⟩, rfl, fun e he => keys_of hp e (by simpa using he), z.1, ?_⟩, z.2⟩
  rw [bears_keys z.2]
  exact tb_nodup
theorem dictAt_of {prog : Program} {w : World} {h : Heap} {a : Addr} {kvs : List (PySem.Str × Value)} {ep : Nat} (x : h.DictAt (strKind prog w) a kvs ep) : h.DictOf (strKind prog w) a kvs := let ⟨o, es, r⟩ := x; ⟨o, es, ep, r⟩

section
variable {prog : Program} {w : World} {A : Around} {E : Value → Shared → Prop} {s : Shared} {h₀ : Heap} {L : Addr} {m : PySem.Str → Option Value}
/-- a store into a dict of the ledger -/
theorem setItem_led {d : Addr} {o : Obj} {kvs : List (PySem.Str × Value)} {news : List (Addr × Obj)} {g : Obj → List (Addr × Obj)} {k : PySem.Str} {t : Tok} {v : Value} {Q : Unit → Shared → Prop}
    (F : Fr h₀ L s.heap m) (N : News h₀ L s.heap news) (U : UpdF d o news g) (hd : Obj.IsDictOf (strKind prog w) o kvs) (hsz : kvs.length ≤ sizeLine)
    (h : ∀ o' h', Obj.IsDictOf (strKind prog w) o' (stored kvs k v) → Fr h₀ L h' m → News h₀ L h' (g o') → Q () { s with heap := h', toks := s.toks + 1 }) :
    wpAny (model prog w) A (setItem (.ref d) (.str k t) v) Q E s := by
  obtain ⟨pre, post, rfl, hg, h1, h2⟩ := U.split
  have D := N (d, o) (by simp)
  refine wpAny_setItem_pairs (strKind_is prog w k t) (Heap.dictOf_iff.mpr ⟨o, D.1, hd⟩) (fun h' hD' hs' => ?_) hsz
  obtain ⟨o', ho', hdo'⟩ := Heap.dictOf_iff.mp hD'
  refine h o' h' hdo' (F.change hs' D.2.1 D.2.2) ?_
  rw [hg]
  exact news_set N h1 h2 hs' ho'
/-- an item of a dict of the ledger -/
theorem getItem_led {d : Addr} {o : Obj} {kvs : List (PySem.Str × Value)} {news : List (Addr × Obj)} {k : PySem.Str} {t : Tok} {v : Value} {Q : Value → Shared → Prop} {value slice : PySem.Expr}
    (N : News h₀ L s.heap news) (hm : (d, o) ∈ news) (hd : Obj.IsDictOf (strKind prog w) o kvs) (hv : valueAt kvs k = some v)
    (h : Q v { s with toks := s.toks + 1 })
    (hs : subscripted slice false (.ref d) (.str k t) = operate [.ref d, .str k t] (getItem (.ref d) (.str k t)) := by with_unfolding_all rfl) :
    wpAny (model prog w) A (subscriptTail value slice (.ref d) (.str k t)) Q E s :=
  have hD : s.heap.DictOf (strKind prog w) d kvs := Heap.dictOf_iff.mpr ⟨o, (N _ hm).1, hd⟩
  tail_any hD.mapOf.typeIs slot_dict_getitem.lookup (wpAny_getItem_of (strKind_is prog w k t) hD.mapOf hv h) hs
/-- «text in» a dict of the ledger -/
theorem in_led {d : Addr} {o : Obj} {kvs : List (PySem.Str × Value)} {news : List (Addr × Obj)} {k : PySem.Str} {t : Tok} {Q : Value → Shared → Prop}
    (N : News h₀ L s.heap news) (hm : (d, o) ∈ news) (hd : Obj.IsDictOf (strKind prog w) o kvs) (lo : (d == sysModules) = false)
    (h : Q (.bool (valueAt kvs k).isSome) { s with toks := s.toks + 1 }) :
    wpAny (model prog w) A (compareOp .In (.str k t) (.ref d)) Q E s :=
  have hD : s.heap.DictOf (strKind prog w) d kvs := Heap.dictOf_iff.mpr ⟨o, (N _ hm).1, hd⟩
  wpAny_in_of (strKind_is prog w k t) lo hD.mapOf h
end
theorem stored_new {kvs : List (PySem.Str × Value)} {k : PySem.Str} {v : Value} (h : valueAt kvs k = none) : stored kvs k v = kvs ++ [(k, v)] := by
  unfold stored
  rw [if_neg]
  intro q
  unfold valueAt at h
  rw [Option.map_eq_none_iff, List.find?_eq_none] at h
  obtain ⟨x, hx, e⟩ := List.any_eq_true.mp q
  exact h x hx e
theorem Bears.snoc {kvs : List (PySem.Str × Value)} {tb : List (Tx × Nat)} {l : Tx} {n : Nat} {t : Tok} (h : Bears kvs tb) : Bears (kvs ++ [(ofL l, .int (n : Int) t)]) (tb ++ [(l, n)]) := Paired.snoc h ⟨rfl, t, rfl⟩
end Mine
-- MInts
namespace Mine
/-- the number whose digits these are, the lowest first -/
def horner (n : Nat) : List Int → Int
  | [] => 0
  | d :: r => d + 2 ^ n * horner n r
theorem horner_one {n : Nat} {ds : List Int} {lo : Nat} (h : lo < ds.length) : ds.getD lo 0 = horner n ((ds.drop lo).take 1) := by
  rw [List.drop_eq_getElem_cons h, List.take_succ_cons, List.take_zero]
  simp [horner, List.getD_eq_getElem?_getD, h]
theorem horner_append (n : Nat) (a b : List Int) : horner n (a ++ b) = horner n a + 2 ^ (a.length * n) * horner n b := by
  induction a with
  | nil => simp [horner]
  | cons d r ih =>
    simp only [List.cons_append, horner, ih, List.length_cons]
    rw [Int.mul_add, Nat.add_mul, Nat.one_mul, Nat.add_comm (r.length * n) n, Int.pow_add, Int.mul_assoc, Int.add_assoc]
theorem mid_eq (lo k : Nat) : Int.fdiv ((lo : Int) + ((lo + k : Nat) : Int)) (2 ^ (1 : Int).toNat) = ((lo + k / 2 : Nat) : Int) := by
  rw [show ((2 : Int) ^ (1 : Int).toNat) = 2 from rfl, Int.fdiv_eq_ediv_of_nonneg _ (by decide)]
  omega
theorem shift_room {a : Int} {k : Nat} (h : Builtin.Int.intBits a ≤ 10000000) (hk : k ≤ 100 * 10000) : (Builtin.Int.intBits a : Int) + ((k : Nat) : Int) ≤ 2 ^ 27 := by
  show _ ≤ (134217728 : Int)
  omega
theorem horner_cut {n lo k : Nat} {ds : List Int} (h : lo + k ≤ ds.length) : 2 ^ (k / 2 * n) * horner n ((ds.drop (lo + k / 2)).take (k - k / 2)) + horner n ((ds.drop lo).take (k / 2)) = horner n ((ds.drop lo).take k) := by
  have e : (ds.drop lo).take k = (ds.drop lo).take (k / 2) ++ (ds.drop (lo + k / 2)).take (k - k / 2) := by
    have := List.take_add (l := ds.drop lo) (i := k / 2) (j := k - k / 2)
    rw [show k / 2 + (k - k / 2) = k by omega, List.drop_drop] at this
    exact this
  rw [e, horner_append, Int.add_comm]
  have l : ((ds.drop lo).take (k / 2)).length = k / 2 := by rw [List.length_take, List.length_drop]; omega
  rw [l]
/-- the inner def's qualified name, and the code table behind its first making -/
def QD : PySem.Str := PySem.Str.ofString "_digits2int.<locals>.inner"
abbrev tabD (c' : Addr) : Array Value := #[rawInt ((47 : Nat) : Int), rawInt ((4 : Nat) : Int), .ref c']
/-- x's k digits of n bits, the lowest first; the last one takes all that is left -/
def digs (n : Nat) : Nat → Nat → List Int
  | 0, _ => []
  | k + 1, x => if k = 0 then [(x : Int)] else ((x % 2 ^ n : Nat) : Int) :: digs n k (x / 2 ^ n)
def QI : PySem.Str := PySem.Str.ofString "_int2digits.<locals>.inner"
theorem mul_one (v : Value) (k : Nat) : List.foldl (fun x1 x2 => x1 ++ x2) #[] (List.replicate (if (#[v] : Array Value).isEmpty = true then 0 else k) #[v]) = (List.replicate k v).toArray := by
  have h : (if (#[v] : Array Value).isEmpty = true then 0 else k) = k := by simp
  rw [h]
  have key : ∀ (k : Nat) (a : Array Value), List.foldl (fun x1 x2 => x1 ++ x2) a (List.replicate k #[v]) = a ++ (List.replicate k v).toArray := by
    intro k
    induction k with
    | zero => intro a; simp
    | succ k ih =>
      intro a
      rw [List.replicate_succ, List.foldl_cons, ih, List.replicate_succ, Array.append_assoc]
      congr 1
      simp
  simpa using key k #[]
theorem mul_led {prog : Program} {w : World} {A : Around} {E : Value → Shared → Prop} {s : Shared} {h₀ : Heap} {L l₀ : Addr} {m : PySem.Str → Option Value} {news : List (Addr × Obj)} {v : Value} {e K : Nat} {u : Tok} {Q : Value → Shared → Prop}
    (F : Fr h₀ L s.heap m) (N : News h₀ L s.heap news) (hm : (l₀, W.listOf #[v] e) ∈ news) (hK : K ≤ 1000)
    (h : ∀ l h', Fr h₀ L h' m → News h₀ L h' ((l, W.listOf (List.replicate K v).toArray 0) :: news) → (∀ p ∈ news, p.1 < l) → Q (.ref l) { s with heap := h' }) :
    wpAny (model prog w) A (binaryOp .Mult (.ref l₀) (.int (K : Int) u)) Q E s := by
  refine mul_list F N (News.get N hm) (by omega) (by show (K : Int) < 9223372036854775808; omega) (by show 1 * (K : Int).toNat ≤ 16777216; omega) ?_
  intro h' F' N'
  rw [mul_one, Int.toNat_natCast] at N'
  exact h _ h' F' N' fun p hp => Heap.lt_size (N p hp).1
theorem news_front {h₀ h : Heap} {L : Addr} {a b c l : Addr × Obj} {rest : List (Addr × Obj)} (N : News h₀ L h (a :: b :: l :: c :: rest)) : News h₀ L h (l :: a :: b :: rest) := fun p hp => N p (by
  simp only [List.mem_cons] at hp ⊢
  rcases hp with h | h | h | h
  · exact .inr (.inr (.inl h))
  · exact .inl h
  · exact .inr (.inl h)
  · exact .inr (.inr (.inr (.inr h))))
theorem news_front2 {h₀ h : Heap} {L : Addr} {a c l : Addr × Obj} {rest : List (Addr × Obj)} (N : News h₀ L h (a :: l :: c :: rest)) : News h₀ L h (l :: a :: rest) := fun p hp => N p (by
  simp only [List.mem_cons] at hp ⊢
  rcases hp with h | h | h
  · exact .inr (.inl h)
  · exact .inl h
  · exact .inr (.inr (.inr h)))
/-- digits laid at a place -/
def putAt (ns : List Int) (lo : Nat) (ds : List Int) : List Int := ns.take lo ++ ds ++ ns.drop (lo + ds.length)
theorem put_one {n x lo : Nat} {ns : List Int} (h : lo < ns.length) : ns.set lo (x : Int) = putAt ns lo (digs n 1 x) := by
  unfold putAt digs
  simp only [if_true, List.length_singleton]
  rw [List.set_eq_take_append_cons_drop, if_pos h]
  simp
theorem shr_eq (x k : Nat) : Int.fdiv (x : Int) (2 ^ ((k : Nat) : Int).toNat) = ((x / 2 ^ k : Nat) : Int) := by
  rw [Int.toNat_natCast, Int.fdiv_eq_ediv_of_nonneg _ (Int.le_of_lt (Int.pow_pos (by decide))), Int.natCast_ediv]
  simp
theorem and_top (x k : Nat) : x &&& (x / 2 ^ k * 2 ^ k) = x / 2 ^ k * 2 ^ k := by
  rw [← Nat.shiftRight_eq_div_pow, ← Nat.shiftLeft_eq]
  apply Nat.eq_of_testBit_eq
  intro i
  rw [Nat.testBit_and, Nat.testBit_shiftLeft, Nat.testBit_shiftRight]
  by_cases h : i ≥ k
  · simp only [h, decide_true, Bool.true_and]
    rw [show k + (i - k) = i by omega]
    simp
  · simp [h]
theorem xor_eq (x k : Nat) : Builtin.bitXor (x : Int) ((x / 2 ^ k * 2 ^ k : Nat) : Int) = ((x % 2 ^ k : Nat) : Int) := by
  rw [bitXor_and]
  have e : Builtin.bitAnd (x : Int) ((x / 2 ^ k * 2 ^ k : Nat) : Int) = ((x / 2 ^ k * 2 ^ k : Nat) : Int) := by
    unfold Builtin.bitAnd
    rw [decide_eq_true (Int.natCast_nonneg _), decide_eq_true (Int.natCast_nonneg _)]
    show (((x : Int).toNat &&& ((x / 2 ^ k * 2 ^ k : Nat) : Int).toNat : Nat) : Int) = _
    rw [Int.toNat_natCast, Int.toNat_natCast, and_top]
  rw [e]
  have h := Nat.div_add_mod x (2 ^ k)
  rw [Nat.mul_comm] at h
  omega
theorem xor_to {prog : Program} {w : World} {A : Around} {E : Value → Shared → Prop} {s : Shared} {a b v : Int} {t u : Tok} {Q : Value → Shared → Prop} (e : Builtin.bitXor a b = v) (h : Q (.int v s.toks) { s with toks := s.toks + 1 }) : wpAny (model prog w) A (binaryOp .BitXor (.int a t) (.int b u)) Q E s := xor_int (e ▸ h)
theorem digs_length (n : Nat) : ∀ (k x : Nat), (digs n k x).length = k
  | 0, _ => rfl
  | k + 1, x => by
    unfold digs
    split
    · rename_i h; subst h; rfl
    · simp [digs_length n k]
theorem digs_add {n : Nat} : ∀ (a b x : Nat), 1 ≤ b → digs n (a + b) x = digs n a (x % 2 ^ (a * n)) ++ digs n b (x / 2 ^ (a * n)) := by
  intro a
  induction a with
  | zero => intro b x _; simp [digs]
  | succ a ih =>
    intro b x hb
    rw [show a + 1 + b = (a + b) + 1 by omega]
    have e1 : digs n (a + b + 1) x = ((x % 2 ^ n : Nat) : Int) :: digs n (a + b) (x / 2 ^ n) := by
      conv => lhs; unfold digs
      rw [if_neg (by omega)]
    rw [e1, ih b _ hb]
    have e2 : x / 2 ^ n / 2 ^ (a * n) = x / 2 ^ ((a + 1) * n) := by
      rw [Nat.div_div_eq_div_mul, ← Nat.pow_add, Nat.add_mul, Nat.one_mul, Nat.add_comm]
    rw [e2]
    by_cases h0 : a = 0
    · subst h0
      simp only [Nat.zero_mul, Nat.pow_zero, Nat.mod_one, Nat.zero_add, Nat.one_mul, digs, List.nil_append, if_true, List.cons_append]
    · have e3 : digs n (a + 1) (x % 2 ^ ((a + 1) * n)) = ((x % 2 ^ n : Nat) : Int) :: digs n a (x / 2 ^ n % 2 ^ (a * n)) := by
        conv => lhs; unfold digs
        rw [if_neg h0]
        have hp : 2 ^ ((a + 1) * n) = 2 ^ n * 2 ^ (a * n) := by rw [← Nat.pow_add, Nat.add_mul, Nat.one_mul, Nat.add_comm]
        rw [hp, Nat.mod_mul_right_mod, Nat.mod_mul_right_div_self]
      rw [e3]
      rfl
theorem put_length {ns : List Int} {lo n k x : Nat} (h : lo + k ≤ ns.length) : (putAt ns lo (digs n k x)).length = ns.length := by
  unfold putAt
  rw [digs_length, List.length_append, List.length_append, digs_length, List.length_take, List.length_drop]
  omega
theorem put_put {ns : List Int} {lo n k x : Nat} (hk : 2 ≤ k) (h : lo + k ≤ ns.length) :
    putAt (putAt ns lo (digs n (k / 2) (x % 2 ^ (k / 2 * n)))) (lo + k / 2) (digs n (k - k / 2) (x / 2 ^ (k / 2 * n))) = putAt ns lo (digs n k x) := by
  have e : digs n k x = digs n (k / 2) (x % 2 ^ (k / 2 * n)) ++ digs n (k - k / 2) (x / 2 ^ (k / 2 * n)) := by
    have := digs_add (n := n) (k / 2) (k - k / 2) x (by omega)
    rwa [show k / 2 + (k - k / 2) = k by omega] at this
  rw [e]
  generalize hA : digs n (k / 2) (x % 2 ^ (k / 2 * n)) = A
  generalize hB : digs n (k - k / 2) (x / 2 ^ (k / 2 * n)) = B
  have lA : A.length = k / 2 := by rw [← hA, digs_length]
  have lB : B.length = k - k / 2 := by rw [← hB, digs_length]
  unfold putAt
  have lt : (ns.take lo).length = lo := by rw [List.length_take]; omega
  have t1 : (ns.take lo ++ A ++ ns.drop (lo + A.length)).take (lo + k / 2) = ns.take lo ++ A := by
    rw [List.take_append_of_le_length (by rw [List.length_append, lt, lA]; omega), List.take_of_length_le (by rw [List.length_append, lt, lA]; omega)]
  have t2 : (ns.take lo ++ A ++ ns.drop (lo + A.length)).drop (lo + k / 2 + B.length) = ns.drop (lo + (A ++ B).length) := by
    rw [List.drop_append, List.drop_of_length_le (by rw [List.length_append, lt, lA]; omega), List.nil_append, List.drop_drop, List.length_append, List.length_append, lt, lA]
    congr 1
    omega
  rw [t1, t2, List.append_assoc, List.append_assoc, List.append_assoc]
  simp only [List.append_assoc]
theorem ints_rep (t : Tok) : ∀ k : Nat, IntsAre (List.replicate k (.int 0 t)) (List.replicate k 0)
  | 0 => .nil
  | k + 1 => .cons 0 t (ints_rep t k)
abbrev tabI (c' : Addr) : Array Value := #[rawInt ((32 : Nat) : Int), rawInt ((4 : Nat) : Int), .ref c']
theorem put_all {n x : Nat} (k : Nat) : putAt (List.replicate k 0) 0 (digs n k x) = digs n k x := by
  unfold putAt
  rw [digs_length]
  simp
def growF (a b : Tx) : Bool := (List.range (3 - a.length)).any fun i => (look ((a ++ b).take (a.length + 1 + i)) TB).isSome
end Mine
-- MDpPure
namespace Mine
theorem horner_bound {W n : Nat} : ∀ {ds : List Int}, (∀ d ∈ ds, d.natAbs < 2 ^ W) → (horner n ds).natAbs < 2 ^ (W + (n + 1) * ds.length)
  | [], _ => by simp [horner]; exact Nat.two_pow_pos W
  | d :: r, h => by
    have ih := horner_bound (ds := r) (n := n) (W := W) fun x hx => h x (List.mem_cons_of_mem _ hx)
    have hd := h d List.mem_cons_self
    have h1 : (horner n (d :: r)).natAbs ≤ d.natAbs + 2 ^ n * (horner n r).natAbs := by
      show (d + 2 ^ n * horner n r).natAbs ≤ _
      refine Nat.le_trans (Int.natAbs_add_le _ _) ?_
      rw [Int.natAbs_mul, Int.natAbs_pow]
      exact Nat.le_refl _
    have h2 : 2 ^ W ≤ 2 ^ n * 2 ^ (W + (n + 1) * r.length) := by
      rw [← Nat.pow_add]
      exact Nat.pow_le_pow_right (by decide) (by omega)
    have h3 : 2 ^ n * (horner n r).natAbs ≤ 2 ^ n * 2 ^ (W + (n + 1) * r.length) := Nat.mul_le_mul_left _ (Nat.le_of_lt ih)
    have h4 : 2 ^ (W + (n + 1) * (d :: r).length) = 2 ^ n * 2 ^ (W + (n + 1) * r.length) * 2 := by
      rw [← Nat.pow_add, ← Nat.pow_succ, List.length_cons]
      congr 1
      rw [Nat.mul_add]
      omega
    rw [h4]
    omega
theorem horner_bits {W n : Nat} {ds : List Int} (h : ∀ d ∈ ds, d.natAbs < 2 ^ W) (hW : W ≤ 1000000) (hn : n ≤ 10000) (hl : ds.length ≤ 100) (lo k : Nat) : Builtin.Int.intBits (horner n ((ds.drop lo).take k)) ≤ 10000000 := by
  have hb := horner_bound (n := n) (W := W) (ds := (ds.drop lo).take k) fun d hd => h d (List.mem_of_mem_drop (List.mem_of_mem_take hd))
  refine intBits_le_iff.mpr (Nat.lt_of_lt_of_le hb (Nat.pow_le_pow_right (by decide) ?_))
  have h1 : ((ds.drop lo).take k).length ≤ 100 := by rw [List.length_take, List.length_drop]; omega
  have h2 : (n + 1) * ((ds.drop lo).take k).length ≤ 10001 * 100 := Nat.mul_le_mul (by omega) h1
  omega
theorem snocInd {P : List Nat → Prop} (nil : P []) (snoc : ∀ ds d, P ds → P (ds ++ [d])) : ∀ ds, P ds := by
  have h : ∀ l : List Nat, P l.reverse := by
    intro l
    induction l with
    | nil => exact nil
    | cons d r ih => rw [List.reverse_cons]; exact snoc _ _ ih
  intro ds
  have := h ds.reverse
  rwa [List.reverse_reverse] at this
/-- one step of the division, the high digit first -/
def stepD (b : Nat) (n : Nat) (st : Nat × List Nat) (d : Nat) : Nat × List Nat := ((st.1 * 2 ^ n + d) % b, st.2 ++ [(st.1 * 2 ^ n + d) / b])
def runD (b n : Nat) (ds : List Nat) : Nat × List Nat := ds.foldl (stepD b n) (0, [])
/-- a number by its digits, the high one first -/
def bigE (n : Nat) (ds : List Nat) : Nat := ds.foldl (fun a d => a * 2 ^ n + d) 0
theorem bigE_snoc (n : Nat) (ds : List Nat) (d : Nat) : bigE n (ds ++ [d]) = bigE n ds * 2 ^ n + d := by simp [bigE]
theorem runD_snoc (b n : Nat) (ds : List Nat) (d : Nat) : runD b n (ds ++ [d]) = stepD b n (runD b n ds) d := by simp [runD]
theorem runD_spec {b n : Nat} (hb : 0 < b) (ds : List Nat) : bigE n ds = bigE n (runD b n ds).2 * b + (runD b n ds).1 ∧ (runD b n ds).1 < b ∧ (runD b n ds).2.length = ds.length := by
  revert ds
  refine snocInd ?_ ?_
  · exact ⟨by simp [bigE, runD], by simpa [runD] using hb, by simp [runD]⟩
  · intro ds d ih
    rw [runD_snoc, bigE_snoc]
    obtain ⟨h1, h2, h3⟩ := ih
    refine ⟨?_, Nat.mod_lt _ hb, ?_⟩
    · show _ = bigE n ((runD b n ds).2 ++ [((runD b n ds).1 * 2 ^ n + d) / b]) * b + ((runD b n ds).1 * 2 ^ n + d) % b
      rw [bigE_snoc, h1]
      generalize (runD b n ds).1 = r
      generalize bigE n (runD b n ds).2 = q
      have := Nat.div_add_mod (r * 2 ^ n + d) b
      rw [Nat.add_mul, Nat.add_mul]
      rw [Nat.mul_comm b] at this
      rw [Nat.mul_right_comm q b]
      omega
    · simp [stepD, h3]
theorem runD_small {b n : Nat} (hb : 0 < b) : ∀ (ds : List Nat), (∀ d ∈ ds, d < 2 ^ n) → ∀ q ∈ (runD b n ds).2, q < 2 ^ n := by
  refine snocInd ?_ ?_
  · intro _ q hq; simp [runD] at hq
  · intro ds d ih hd
    rw [runD_snoc]
    intro q hq
    rcases List.mem_append.mp (show q ∈ (runD b n ds).2 ++ [((runD b n ds).1 * 2 ^ n + d) / b] from hq) with h | h
    · exact ih (fun x hx => hd x (List.mem_append_left _ hx)) q h
    · rw [List.mem_singleton.mp h]
      have h1 := (runD_spec (n := n) hb ds).2.1
      have h2 := hd d (by simp)
      rw [Nat.div_lt_iff_lt_mul hb]
      have h3 : ((runD b n ds).1 + 1) * 2 ^ n ≤ b * 2 ^ n := Nat.mul_le_mul_right _ h1
      rw [Nat.add_mul, Nat.one_mul, Nat.mul_comm b] at h3
      omega
theorem horner_rev (n : Nat) (ds : List Nat) : horner n ((ds.reverse).map fun d : Nat => (d : Int)) = ((bigE n ds : Nat) : Int) := by
  revert ds
  refine snocInd ?_ ?_
  · rfl
  · intro ds d ih
    rw [List.reverse_append, bigE_snoc]
    simp only [List.reverse_cons, List.reverse_nil, List.nil_append, List.singleton_append, List.map_cons, horner, ih]
    rw [Int.natCast_add, Int.natCast_mul, Int.natCast_pow]
    show (d : Int) + 2 ^ n * _ = _ * 2 ^ n + (d : Int)
    rw [Int.mul_comm, Int.add_comm]
/-- the digits as numbers -/
def digsN (n : Nat) : Nat → Nat → List Nat
  | 0, _ => []
  | k + 1, x => if k = 0 then [x] else (x % 2 ^ n) :: digsN n k (x / 2 ^ n)
theorem digs_eq (n : Nat) : ∀ (k x : Nat), digs n k x = (digsN n k x).map fun d : Nat => (d : Int)
  | 0, _ => rfl
  | k + 1, x => by
    unfold digs digsN
    split
    · rfl
    · rw [digs_eq n k]; rfl
theorem digsN_small {n : Nat} : ∀ (k x : Nat), x < 2 ^ (k * n) → ∀ d ∈ digsN n k x, d < 2 ^ n
  | 0, _, _, d, h => by simp [digsN] at h
  | k + 1, x, hx, d, h => by
    unfold digsN at h
    split at h
    · rename_i h0
      subst h0
      rw [List.mem_singleton.mp h]
      simpa using hx
    · rcases List.mem_cons.mp h with rfl | h
      · exact Nat.mod_lt _ (Nat.two_pow_pos n)
      · refine digsN_small k _ ?_ d h
        rw [Nat.div_lt_iff_lt_mul (Nat.two_pow_pos n), ← Nat.pow_add]
        rw [Nat.add_mul, Nat.one_mul] at hx
        exact hx
theorem bigE_cons (n d : Nat) (ds : List Nat) : bigE n ((d :: ds).reverse) = bigE n ds.reverse * 2 ^ n + d := by
  rw [List.reverse_cons, bigE_snoc]
theorem digsN_val {n : Nat} : ∀ (k x : Nat), 0 < k → bigE n (digsN n k x).reverse = x
  | 0, _, h => absurd h (Nat.lt_irrefl _)
  | k + 1, x, _ => by
    unfold digsN
    split
    · simp [bigE]
    · rename_i h0
      rw [bigE_cons, digsN_val k _ (Nat.pos_of_ne_zero h0), Nat.mul_comm]
      exact Nat.div_add_mod x (2 ^ n)
theorem digsN_length (n : Nat) : ∀ (k x : Nat), (digsN n k x).length = k
  | 0, _ => rfl
  | k + 1, x => by
    unfold digsN
    split
    · rename_i h; subst h; rfl
    · simp [digsN_length n k]
theorem run_all {b n k x : Nat} (hb : 0 < b) (hk : 0 < k) : bigE n (runD b n (digsN n k x).reverse).2 = x / b ∧ (runD b n (digsN n k x).reverse).1 = x % b := by
  obtain ⟨h1, h2, _⟩ := runD_spec (n := n) hb (digsN n k x).reverse
  rw [digsN_val k x hk] at h1
  generalize bigE n (runD b n (digsN n k x).reverse).2 = q at h1 ⊢
  generalize (runD b n (digsN n k x).reverse).1 = r at h1 h2 ⊢
  subst h1
  rw [Nat.mul_comm q b, Nat.mul_add_div hb, Nat.mul_add_mod, Nat.div_eq_of_lt h2, Nat.mod_eq_of_lt h2]
  exact ⟨by omega, rfl⟩
end Mine
-- MRead
namespace Mine
/-- all texts of n signs -/
def layerF (sg : List Nat) : Nat → List Tx
  | 0 => [[]]
  | n + 1 => sg.flatMap fun c => (layerF sg n).map (c :: ·)
/-- the longest operator at the front -/
def frontF (t : Tx) : Tx := if (look (t.take 3) NB).isSome then t.take 3 else if (look (t.take 2) NB).isSome then t.take 2 else t.take 1
def numF (t : Tx) : Nat := (look t NB).getD 0
def toldN : Nat → Tx → Nat × Nat
  | 0, _ => (0, 1)
  | _ + 1, [] => (0, 1)
  | n + 1, c :: r => ((toldN n ((c :: r).drop (frontF (c :: r)).length)).1 + 1, (toldN n ((c :: r).drop (frontF (c :: r)).length)).2 * numF (frontF (c :: r)))
def toldF (t : Tx) : Nat × Nat := toldN t.length t
theorem frontF_len (c : Nat) (r : Tx) : 1 ≤ (frontF (c :: r)).length ∧ (frontF (c :: r)).length ≤ (c :: r).length := by
  unfold frontF
  split
  · simp [List.length_take]; omega
  · split <;> simp [List.length_take] ; omega
theorem frontF_take (t : Tx) : ∃ k, k ≤ 3 ∧ frontF t = t.take k := by
  unfold frontF
  split
  · exact ⟨3, by omega, rfl⟩
  · split
    · exact ⟨2, by omega, rfl⟩
    · exact ⟨1, by omega, rfl⟩
theorem toldN_more : ∀ (n m : Nat) (t : Tx), t.length ≤ n → t.length ≤ m → toldN n t = toldN m t
  | 0, 0, _, _, _ => rfl
  | 0, _ + 1, [], _, _ => rfl
  | 0, _ + 1, _ :: _, h, _ => by simp at h
  | _ + 1, 0, [], _, _ => rfl
  | _ + 1, 0, _ :: _, _, h => by simp at h
  | _ + 1, _ + 1, [], _, _ => rfl
  | n + 1, m + 1, c :: r, h1, h2 => by
    have hl := (frontF_len c r).1
    have hd : ((c :: r).drop (frontF (c :: r)).length).length ≤ r.length := by rw [List.length_drop, List.length_cons]; omega
    have ih := toldN_more n m ((c :: r).drop (frontF (c :: r)).length) (by simp at h1; omega) (by simp at h2; omega)
    simp only [toldN, ih]
theorem toldF_nil : toldF [] = (0, 1) := rfl
theorem toldF_cons (t : Tx) (h : 1 ≤ t.length) : toldF t = ((toldF (t.drop (frontF t).length)).1 + 1, (toldF (t.drop (frontF t).length)).2 * numF (frontF t)) := by
  cases t with
  | nil => simp at h
  | cons c r =>
    have hl := (frontF_len c r).1
    have e : toldN r.length ((c :: r).drop (frontF (c :: r)).length) = toldF ((c :: r).drop (frontF (c :: r)).length) := toldN_more _ _ _ (by rw [List.length_drop, List.length_cons]; omega) (Nat.le_refl _)
    rw [← e]
    rfl
theorem nb_small : (NB.all fun p => decide (p.2 ≤ 54)) = true := by decide +kernel
theorem look_mem {l : Tx} {n : Nat} : ∀ {tb : List (Tx × Nat)}, look l tb = some n → (l, n) ∈ tb
  | [], h => by cases h
  | p :: tb, h => by
    unfold look at h
    by_cases e : p.1 = l
    · rw [if_pos e] at h; cases h; subst e; exact List.mem_cons_self
    · rw [if_neg e] at h; exact List.mem_cons_of_mem _ (look_mem h)
theorem numF_le (t : Tx) : numF t ≤ 54 := by
  unfold numF
  cases e : look t NB with
  | none => simp
  | some n => exact of_decide_eq_true (List.all_eq_true.mp nb_small _ (look_mem e))
theorem toldN_le : ∀ (n : Nat) (t : Tx), (toldN n t).1 ≤ n ∧ (toldN n t).2 ≤ 54 ^ n
  | 0, _ => ⟨Nat.le_refl _, Nat.le_refl _⟩
  | _ + 1, [] => ⟨Nat.zero_le _, Nat.one_le_pow _ _ (by decide)⟩
  | n + 1, c :: r => by
    have ih := toldN_le n ((c :: r).drop (frontF (c :: r)).length)
    simp only [toldN]
    exact ⟨Nat.succ_le_succ ih.1, by rw [Nat.pow_succ]; exact Nat.mul_le_mul ih.2 (numF_le _)⟩
theorem toldF_le (t : Tx) : (toldF t).1 ≤ t.length ∧ (toldF t).2 ≤ 54 ^ t.length := toldN_le _ _
theorem layer_len {sg : List Nat} : ∀ {n : Nat} {t : Tx}, t ∈ layerF sg n → t.length = n
  | 0, t, h => by simp [layerF] at h; simp [h]
  | n + 1, t, h => by
    simp only [layerF, List.mem_flatMap, List.mem_map] at h
    obtain ⟨c, _, r, hr, rfl⟩ := h
    rw [List.length_cons, layer_len hr]
theorem layer_drop {sg : List Nat} : ∀ {k n : Nat} {t : Tx}, t ∈ layerF sg n → k ≤ n → t.drop k ∈ layerF sg (n - k)
  | 0, n, t, h, _ => by simpa using h
  | k + 1, 0, t, h, hk => absurd hk (by omega)
  | k + 1, n + 1, t, h, hk => by
    simp only [layerF, List.mem_flatMap, List.mem_map] at h
    obtain ⟨c, _, r, hr, rfl⟩ := h
    rw [List.drop_succ_cons, Nat.succ_sub_succ]
    exact layer_drop hr (by omega)
theorem layer_head {sg : List Nat} {n : Nat} {t : Tx} (h : t ∈ layerF sg (n + 1)) : ∃ c ∈ sg, t.take 1 = [c] := by
  simp only [layerF, List.mem_flatMap, List.mem_map] at h
  obtain ⟨c, hc, r, hr, rfl⟩ := h
  exact ⟨c, hc, rfl⟩
/-- the texts told so far -/
def doneF (sg : List Nat) (n i : Nat) : List Tx := (List.range n).flatMap (layerF sg) ++ (layerF sg n).take i
theorem done_next (sg : List Nat) (n : Nat) : doneF sg n (layerF sg n).length = doneF sg (n + 1) 0 := by
  unfold doneF
  rw [List.take_length, List.range_succ, List.flatMap_append]
  simp
theorem done_drop {sg : List Nat} {n i k : Nat} {t : Tx} (h : t ∈ layerF sg n) (h1 : 1 ≤ k) (h2 : k ≤ n) : t.drop k ∈ doneF sg n i :=
  List.mem_append_left _ (List.mem_flatMap.mpr ⟨n - k, List.mem_range.mpr (by omega), layer_drop h h2⟩)
theorem done_succ {sg : List Nat} {n i : Nat} {t : Tx} (h : (layerF sg n)[i]? = some t) : doneF sg n (i + 1) = doneF sg n i ++ [t] := by
  unfold doneF
  rw [List.take_add_one, h, List.append_assoc]
  rfl
/-- one text's share -/
def bumpF (n : Nat) (fs : List Int) (t : Tx) : List Int := fs.set (44 - 11 * n + (toldF t).1) (fs.getD (44 - 11 * n + (toldF t).1) 0 + ((toldF t).2 : Int))
def readN (sg : List Nat) : Nat → List Int
  | 0 => List.replicate 44 0 ++ [1]
  | n + 1 => (layerF sg (n + 1)).foldl (bumpF (n + 1)) (readN sg n)
def partF (sg : List Nat) (n i : Nat) : List Int := ((layerF sg n).take i).foldl (bumpF n) (readN sg (n - 1))
theorem foldl_bump_len (n : Nat) : ∀ (ts : List Tx) (fs : List Int), (ts.foldl (bumpF n) fs).length = fs.length
  | [], _ => rfl
  | t :: ts, fs => by rw [List.foldl_cons, foldl_bump_len n ts]; simp [bumpF]
theorem readN_len (sg : List Nat) : ∀ n, (readN sg n).length = 45
  | 0 => by simp [readN]
  | n + 1 => by simp only [readN]; rw [foldl_bump_len, readN_len sg n]
theorem partF_len (sg : List Nat) (n i : Nat) : (partF sg n i).length = 45 := by unfold partF; rw [foldl_bump_len, readN_len]
theorem part_zero (sg : List Nat) (n : Nat) : partF sg (n + 1) 0 = readN sg n := rfl
theorem part_all (sg : List Nat) (n : Nat) : partF sg (n + 1) (layerF sg (n + 1)).length = readN sg (n + 1) := by unfold partF; rw [List.take_length]; rfl
theorem part_succ {sg : List Nat} {n i : Nat} {t : Tx} (h : (layerF sg n)[i]? = some t) : partF sg n (i + 1) = bumpF n (partF sg n i) t := by
  unfold partF
  rw [List.take_add_one, h, List.foldl_append]
  rfl
theorem front_first {t : Tx} {ys : List Value} (h : Paired (fun i y => ∃ k, y = Value.str (ofL (t.take (3 - i))) k) ((List.range 3).filter fun i => (look (t.take (3 - i)) NB).isSome) ys) (h1 : (look (t.take 1) NB).isSome = true) :
    ∃ k r, ys = .str (ofL (frontF t)) k :: r := by
  have e : List.range 3 = [0, 1, 2] := rfl
  rw [e] at h
  unfold frontF
  by_cases a : (look (t.take 3) NB).isSome = true
  · rw [List.filter_cons_of_pos (by simpa using a)] at h
    rw [if_pos a]
    cases h with
    | cons p r => obtain ⟨k, rfl⟩ := p; exact ⟨k, _, rfl⟩
  · rw [List.filter_cons_of_neg (by simpa using a)] at h
    rw [if_neg a]
    by_cases b : (look (t.take 2) NB).isSome = true
    · rw [List.filter_cons_of_pos (by simpa using b)] at h
      rw [if_pos b]
      cases h with
      | cons p r => obtain ⟨k, rfl⟩ := p; exact ⟨k, _, rfl⟩
    · rw [List.filter_cons_of_neg (by simpa using b), List.filter_cons_of_pos (by simpa using h1)] at h
      rw [if_neg b]
      cases h with
      | cons p r => obtain ⟨k, rfl⟩ := p; exact ⟨k, _, rfl⟩
theorem frontF_some {t : Tx} (h1 : (look (t.take 1) NB).isSome = true) : look (frontF t) NB = some (numF (frontF t)) := by
  have e : (look (frontF t) NB).isSome = true := by
    unfold frontF
    split
    · assumption
    · split
      · assumption
      · exact h1
  unfold numF
  cases q : look (frontF t) NB with
  | none => rw [q] at e; cases e
  | some n => rfl
/-- what the dict of the texts told holds -/
abbrev tupO (a b : Int) (ta tb : Tok) : Obj := { cls := .type "tuple", data := .seq #[.int a ta, .int b tb] }
def Told (kvs : List (PySem.Str × Value)) (tl : List (Addr × Obj)) (D : List Tx) : Prop := ∀ t ∈ D, ∃ a ta tb, valueAt kvs (ofL t) = some (.ref a) ∧ (a, tupO ((toldF t).1 : Int) ((toldF t).2 : Int) ta tb) ∈ tl
end Mine
-- MShare
namespace Mine
def upd4 (x₁ x₂ x₃ x₄ : PySem.Str) (v₁ v₂ v₃ v₄ : Option Value) (m : PySem.Str → Option Value) : PySem.Str → Option Value := fun y => if y = x₁ then v₁ else if y = x₂ then v₂ else if y = x₃ then v₃ else if y = x₄ then v₄ else m y
theorem map_open4 (m : PySem.Str → Option Value) (x₁ x₂ x₃ x₄ : PySem.Str) : m = upd4 x₁ x₂ x₃ x₄ (m x₁) (m x₂) (m x₃) (m x₄) m := by
  funext y
  unfold upd4
  by_cases h1 : y = x₁
  · rw [if_pos h1, h1]
  · rw [if_neg h1]
    by_cases h2 : y = x₂
    · rw [if_pos h2, h2]
    · rw [if_neg h2]
      by_cases h3 : y = x₃
      · rw [if_pos h3, h3]
      · rw [if_neg h3]
        by_cases h4 : y = x₄
        · rw [if_pos h4, h4]
        · rw [if_neg h4]
theorem map_again34 {m : PySem.Str → Option Value} {x₁ x₂ x₃ x₄ : PySem.Str} {u₁ u₂ u₃ u₄ v₁ v₂ v₃ v₄ : Option Value} : upd3 x₁ x₂ x₃ v₁ v₂ v₃ (fun y => if y = x₄ then v₄ else if y = x₁ then u₁ else if y = x₂ then u₂ else if y = x₃ then u₃ else if y = x₄ then u₄ else m y) = upd4 x₁ x₂ x₃ x₄ v₁ v₂ v₃ v₄ m := by
  funext y
  unfold upd3 upd4
  by_cases h1 : y = x₁
  · rw [if_pos h1, if_pos h1]
  · rw [if_neg h1, if_neg h1]
    by_cases h2 : y = x₂
    · rw [if_pos h2, if_pos h2]
    · rw [if_neg h2, if_neg h2]
      by_cases h3 : y = x₃
      · rw [if_pos h3, if_pos h3]
      · rw [if_neg h3, if_neg h3]
        dsimp only
        by_cases h4 : y = x₄
        · rw [if_pos h4, if_pos h4]
        · rw [if_neg h4, if_neg h4]
          simp only [h1, h2, h3, h4, if_false]
/-- a text as a value -/
def TxV (t : Tx) (v : Value) : Prop := ∃ k, v = .str (ofL t) k
theorem layer_size (c1 c2 c3 : Nat) : ∀ n, n ≤ 4 → (layerF [c1, c2, c3] n).length ≤ 81
  | 0, _ => by simp [layerF]
  | 1, _ => by simp [layerF]
  | 2, _ => by simp [layerF]
  | 3, _ => by simp [layerF]
  | 4, _ => by simp [layerF]
  | _ + 5, h => by omega
theorem layer_getD_len (sg : List Nat) (n j : Nat) : ((layerF sg n).getD j []).length ≤ n := by
  rw [List.getD_eq_getElem?_getD]
  cases h : (layerF sg n)[j]? with
  | none => simp
  | some t => exact Nat.le_of_eq (layer_len (List.mem_of_getElem? h))
theorem sign_at {c1 c2 c3 : Nat} {t1 t2 t3 : Tok} {i : Nat} {v : Value} (h : (#[.str (ofL [c1]) t1, .str (ofL [c2]) t2, .str (ofL [c3]) t3] : Array Value)[i]? = some v) : ∃ k, v = .str (ofL [[c1, c2, c3].getD i 0]) k := by
  match i, h with
  | 0, h => exact ⟨t1, by simpa using h.symm⟩
  | 1, h => exact ⟨t2, by simpa using h.symm⟩
  | 2, h => exact ⟨t3, by simpa using h.symm⟩
  | _ + 3, h => simp at h
theorem paired_at {α β : Type} {F : α → β → Prop} : ∀ {l : List α} {m : List β}, Paired F l m → ∀ {j : Nat} {y : β}, m[j]? = some y → ∃ x, l[j]? = some x ∧ F x y
  | _, _, .nil, j, y, h => by simp at h
  | x :: _, _, .cons a r, 0, y, h => by
    simp only [List.getElem?_cons_zero, Option.some.injEq] at h
    subst h
    exact ⟨x, rfl, a⟩
  | _, _, .cons a r, j + 1, y, h => by
    rw [List.getElem?_cons_succ] at h
    obtain ⟨x, h1, h2⟩ := paired_at r h
    exact ⟨x, by rw [List.getElem?_cons_succ]; exact h1, h2⟩
theorem text_at {ts : List Tx} {ys : List Value} (hp : Paired TxV ts ys) {j : Nat} {v : Value} (h : ys.toArray[j]? = some v) : ∃ k, v = .str (ofL (ts.getD j [])) k := by
  rw [List.getElem?_toArray] at h
  obtain ⟨x, h1, k, rfl⟩ := paired_at hp h
  exact ⟨k, by rw [List.getD_eq_getElem?_getD, h1]; rfl⟩
theorem Paired.maps {α β γ : Type} {F : β → γ → Prop} {g : α → β} : ∀ {l : List α} {m : List γ}, Paired (fun a y => F (g a) y) l m → Paired F (l.map g) m
  | _, _, .nil => .nil
  | _, _, .cons a r => .cons a (Paired.maps r)
theorem range_getD {α : Type} (d : α) : ∀ l : List α, (List.range l.length).map (fun j => l.getD j d) = l := by
  intro l
  apply List.ext_getElem
  · simp
  · intro n h1 h2
    simp [List.getElem?_eq_getElem h2]
theorem layer_next (c1 c2 c3 : Nat) (n m : Nat) (hm : m = (layerF [c1, c2, c3] n).length) : ((List.range 3).flatMap fun i => (List.range m).map fun j => (i, j)).map (fun p => [c1, c2, c3].getD p.1 0 :: (layerF [c1, c2, c3] n).getD p.2 []) = layerF [c1, c2, c3] (n + 1) := by
  subst hm
  have e : List.range 3 = [0, 1, 2] := rfl
  have e2 : ∀ c : Nat, (List.range (layerF [c1, c2, c3] n).length).map (fun j => c :: (layerF [c1, c2, c3] n).getD j []) = (layerF [c1, c2, c3] n).map (c :: ·) := fun c => by
    conv => rhs; rw [← range_getD [] (layerF [c1, c2, c3] n)]
    rw [List.map_map]
    simp
  rw [e]
  simp only [layerF, List.flatMap_cons, List.flatMap_nil, List.append_nil, List.map_append, List.map_map, Function.comp_def]
  rw [← e2 c1, ← e2 c2, ← e2 c3]
  rfl
theorem ints_rep0 (a : Tok) : ∀ n, IntsAre (List.replicate n (Value.int 0 a)) (List.replicate n 0)
  | 0 => .nil
  | n + 1 => .cons 0 a (ints_rep0 a n)
theorem ints_start (sg : List Nat) (a b : Tok) : IntsAre [Value.int 0 a, Value.int 0 a, Value.int 0 a, Value.int 0 a, Value.int 0 a, Value.int 0 a, Value.int 0 a, Value.int 0 a, Value.int 0 a, Value.int 0 a, Value.int 0 a, Value.int 0 a, Value.int 0 a, Value.int 0 a, Value.int 0 a, Value.int 0 a, Value.int 0 a, Value.int 0 a, Value.int 0 a, Value.int 0 a, Value.int 0 a, Value.int 0 a, Value.int 0 a, Value.int 0 a, Value.int 0 a, Value.int 0 a, Value.int 0 a, Value.int 0 a, Value.int 0 a, Value.int 0 a, Value.int 0 a, Value.int 0 a, Value.int 0 a, Value.int 0 a, Value.int 0 a, Value.int 0 a, Value.int 0 a, Value.int 0 a, Value.int 0 a, Value.int 0 a, Value.int 0 a, Value.int 0 a, Value.int 0 a, Value.int 0 a, Value.int 1 b] (readN sg 0) :=
  show IntsAre (List.replicate 44 (Value.int 0 a) ++ [Value.int 1 b]) (List.replicate 44 0 ++ [1]) from IntsAre.append (ints_rep0 a 44) (.cons 1 b .nil)
theorem three_at {a b c : Tok} {i : Nat} {v : Value} (h : (#[.int 3 a, .int 2 b, .int 1 c] : Array Value)[i]? = some v) : ∃ k, v = .int ((3 - i : Nat) : Int) k := by
  match i, h with
  | 0, h => exact ⟨a, by simpa using h.symm⟩
  | 1, h => exact ⟨b, by simpa using h.symm⟩
  | 2, h => exact ⟨c, by simpa using h.symm⟩
  | _ + 3, h => simp at h
theorem frontF_len' {t : Tx} (h : 1 ≤ t.length) : 1 ≤ (frontF t).length ∧ (frontF t).length ≤ t.length := by
  cases t with
  | nil => simp at h
  | cons c r => exact frontF_len c r
theorem news_too {h₀ h : Heap} {L a : Addr} {o : Obj} {news : List (Addr × Obj)} (N : News h₀ L h news) (hm : (a, o) ∈ news) : News h₀ L h ((a, o) :: news) := fun p hp => by
  rcases List.mem_cons.mp hp with rfl | hp
  · exact N _ hm
  · exact N p hp
theorem idx_lt {i a b : Nat} (h1 : a ≤ b) (h2 : b = i + 1) (hi : i < 4) : 44 - 11 * (i + 1) + a < 45 := by omega
theorem idx_eq {i a : Nat} {b : Int} (hi : i < 4) (h : (a : Int) = b + 1) : 44 - 11 * (1 + (i : Int)) + b + 1 = ((44 - 11 * (i + 1) + a : Nat) : Int) := by omega
theorem layer_len3 (c1 c2 c3 : Nat) : ∀ n, (layerF [c1, c2, c3] n).length = 3 ^ n
  | 0 => rfl
  | n + 1 => by
    have ih := layer_len3 c1 c2 c3 n
    simp only [layerF, List.flatMap_cons, List.flatMap_nil, List.append_nil, List.length_append, List.length_map, ih]
    rw [Nat.pow_succ]
    omega
theorem done_size (c1 c2 c3 i j : Nat) (hi : i < 4) : (doneF [c1, c2, c3] (i + 1) j).length ≤ 200 := by
  unfold doneF
  have h1 : ((layerF [c1, c2, c3] (i + 1)).take j).length ≤ 81 := by
    refine Nat.le_trans (List.length_take_le' _ _) ?_
    rw [layer_len3]
    exact Nat.pow_le_pow_right (by decide) (by omega : i + 1 ≤ 4)
  have h2 : ((List.range (i + 1)).flatMap (layerF [c1, c2, c3])).length ≤ 40 := by
    rw [List.length_flatMap]
    simp only [layer_len3]
    match i, hi with
    | 0, _ => decide
    | 1, _ => decide
    | 2, _ => decide
    | 3, _ => decide
  rw [List.length_append]
  omega
theorem stored_len (kvs : List (PySem.Str × Value)) (k : PySem.Str) (v : Value) : (stored kvs k v).length ≤ kvs.length + 1 := by
  unfold stored
  split <;> simp
theorem stored_same {k' : PySem.Str} {v : Value} : ∀ (kvs : List (PySem.Str × Value)), kvs.any (fun kv => decide (kv.1 = k')) = true → valueAt (kvs.map fun kv => if kv.1 = k' then (kv.1, v) else kv) k' = some v
  | [], h => by simp at h
  | kv :: r, h => by
    by_cases q : kv.1 = k'
    · simp [valueAt, q]
    · rw [List.any_cons, decide_eq_false q, Bool.false_or] at h
      have := stored_same (v := v) r h
      unfold valueAt at this ⊢
      rw [List.map_cons, if_neg q, List.find?_cons_of_neg (by simpa using q)]
      exact this
theorem stored_else {k k' : PySem.Str} {v : Value} (e : ¬ k' = k) : ∀ (kvs : List (PySem.Str × Value)), valueAt (kvs.map fun kv => if kv.1 = k then (kv.1, v) else kv) k' = valueAt kvs k'
  | [] => rfl
  | kv :: r => by
    have ih := stored_else (v := v) e r
    unfold valueAt at ih ⊢
    rw [List.map_cons]
    by_cases q : kv.1 = k
    · rw [if_pos q, List.find?_cons_of_neg (by simpa [q] using fun x => e x.symm), List.find?_cons_of_neg (by simpa [q] using fun x => e x.symm)]
      exact ih
    · rw [if_neg q]
      by_cases z : kv.1 = k'
      · rw [List.find?_cons_of_pos (by simpa using z), List.find?_cons_of_pos (by simpa using z)]
      · rw [List.find?_cons_of_neg (by simpa using z), List.find?_cons_of_neg (by simpa using z)]
        exact ih
theorem stored_val (kvs : List (PySem.Str × Value)) (k k' : PySem.Str) (v : Value) : valueAt (stored kvs k v) k' = if k' = k then some v else valueAt kvs k' := by
  unfold stored
  split
  · rename_i h
    by_cases e : k' = k
    · subst e
      rw [if_pos rfl]
      exact stored_same kvs h
    · rw [if_neg e]
      exact stored_else e kvs
  · rename_i h
    unfold valueAt
    rw [List.find?_append]
    by_cases e : k' = k
    · subst e
      rw [if_pos rfl]
      have : kvs.find? (fun kv => decide (kv.1 = k')) = none := by
        rw [List.find?_eq_none]
        intro x hx q
        exact h (List.any_eq_true.mpr ⟨x, hx, q⟩)
      rw [this]
      simp
    · rw [if_neg e]
      have : List.find? (fun kv => decide (kv.1 = k')) [(k, v)] = none := List.find?_cons_of_neg (by simpa using fun x => e x.symm)
      rw [this]
      simp
theorem off_cons {a x : Nat} {o : Obj} {r : List (Addr × Obj)} (h : a ≠ x) (hr : ∀ p ∈ r, p.1 ≠ x) : ∀ p ∈ (a, o) :: r, p.1 ≠ x := fun p hp => by
  rcases List.mem_cons.mp hp with rfl | hp
  · exact h
  · exact hr p hp
/-- the tail of the ledger stands apart -/
structure ReadL (L' : Nat) (lY dT lF : Nat) (tl news : List (Addr × Obj)) : Prop where
  a1 : ∀ p ∈ tl, p.1 ≠ L' + 1 + 1 + 1
  a2 : ∀ p ∈ tl, p.1 ≠ L' + 1 + 1
  a3 : ∀ p ∈ tl, p.1 ≠ dT
  a4 : ∀ p ∈ tl, p.1 ≠ lF
  b1 : lY ≠ L' + 1 + 1 + 1
  b2 : lY ≠ L' + 1 + 1
  b3 : lY ≠ dT
  b4 : lY ≠ lF
  c : ∀ p ∈ news, p ∈ tl
theorem ReadL.cons {L' lY dT lF a : Nat} {o : Obj} {tl news : List (Addr × Obj)} (h : ReadL L' lY dT lF tl news) (q1 : a ≠ L' + 1 + 1 + 1) (q2 : a ≠ L' + 1 + 1) (q3 : a ≠ dT) (q4 : a ≠ lF) : ReadL L' lY dT lF ((a, o) :: tl) news :=
  ⟨off_cons q1 h.a1, off_cons q2 h.a2, off_cons q3 h.a3, off_cons q4 h.a4, h.b1, h.b2, h.b3, h.b4, fun p hp => List.mem_cons_of_mem _ (h.c p hp)⟩
theorem told_snoc {kvs : List (PySem.Str × Value)} {tl : List (Addr × Obj)} {D : List Tx} {t : Tx} {a : Addr} {ta tb : Tok} (h : Told kvs tl D) : Told (stored kvs (ofL t) (.ref a)) ((a, tupO ((toldF t).1 : Int) ((toldF t).2 : Int) ta tb) :: tl) (D ++ [t]) := by
  intro t' ht'
  by_cases e : t' = t
  · subst e
    exact ⟨a, ta, tb, by rw [stored_val, if_pos rfl], List.mem_cons_self⟩
  · have hD : t' ∈ D := by
      rcases List.mem_append.mp ht' with h1 | h1
      · exact h1
      · exact absurd (List.mem_singleton.mp h1) e
    obtain ⟨a', ta', tb', hv, hm⟩ := h t' hD
    exact ⟨a', ta', tb', by rw [stored_val, if_neg (fun q => e (ofL_inj q))]; exact hv, List.mem_cons_of_mem _ hm⟩

end Mine
-- MComp2
namespace Mine
open LCg LCt
section
variable {prog : Program} {w : World} {A : Around} {E : Value → Shared → Prop} {R : Result → Shared → Prop} {s : Shared}

/-- the inner clause of a comprehension of two clauses -/
theorem compLoop_in {elt t1 i1 t2 i2 : PySem.Expr} {scope : Scope} {pos : Pos} {it acc : Value} {env : Env} (I : Nat → Shared → Prop)
    (turn : ∀ n s, I n s → wpAny (model prog w) A (pyNext it) (fun r s₁ => match r with
      | none => R (.ok .next) s₁
      | some v => wpAny (model prog w) A (assign t2 env v) (fun _ s₂ => wpAny (model prog w) A (eval elt env) (fun x s₄ =>
          wpAny (model prog w) A (call (.builtin "list.append") [acc, x]) (fun _ s₅ => ∃ m, m < n ∧ I m s₅) (notedBy (model prog w) A env fun e s' => R (.error e) s') s₄) (notedBy (model prog w) A env fun e s' => R (.error e) s') s₂) (notedBy (model prog w) A env fun e s' => R (.error e) s') s₁) (notedBy (model prog w) A env fun e s' => R (.error e) s') s)
    (n : Nat) (h : I n s) (ht : ∀ v, letOwnedTupleGo t2 it v = pure () := by intro _; rfl) :
    codeAny (model prog w) A (.compLoop (.ListComp elt [⟨t1, i1, [], 0⟩, ⟨t2, i2, [], 0⟩] scope pos) 1 it acc env) R s := by
  refine codeAny_loop rfl I (fun n s hI => ?_) n h
  show wpAny _ A ((compTurn (.ListComp elt [⟨t1, i1, [], 0⟩, ⟨t2, i2, [], 0⟩] scope pos) 1 it acc env).onRaise (fun x => do noteFrame x env; theTreesLotGoes x)) _ _ s
  refine wpAny_noted ?_
  have e : compTurn (.ListComp elt [⟨t1, i1, [], 0⟩, ⟨t2, i2, [], 0⟩] scope pos) 1 it acc env = (standAt i2.pos >>= fun _ => pyNext it >>= fun r => match r with
      | none => pure (.done .next)
      | some v => letOwnedTupleGo t2 it v >>= fun _ => assign t2 env v >>= fun _ =>
        (eval elt env >>= fun x => call (.builtin "list.append") [acc, x] >>= fun _ => pure ()) >>= fun _ =>
          again (.compLoop (.ListComp elt [⟨t1, i1, [], 0⟩, ⟨t2, i2, [], 0⟩] scope pos) 1 it acc env)) := by rfl
  rw [e]
  refine wpAny_bind (wpAny_standAt (wpAny_bind (wpAny_mono (turn n s hI) (fun r s₁ h₁ => ?_) fun _ _ h' => h')))
  cases r with
  | none => exact wpAny_pure h₁
  | some v =>
    refine wpAny_bind (wpAny_of_eq (ht v) ?_)
    exact wpAny_bind (wpAny_mono h₁ (fun _ s₂ h₂ => wpAny_bind (wpAny_bind (wpAny_mono h₂ (fun x s₄ h₄ => wpAny_bind (wpAny_mono h₄ (fun _ s₅ h₅ => wpAny_pure (wpAny_pure ⟨rfl, h₅⟩)) fun _ _ h' => h')) fun _ _ h' => h'))) fun _ _ h' => h')

theorem compStart_in {elt t1 i1 t2 i2 : PySem.Expr} {scope : Scope} {pos : Pos} {it acc : Value} {env : Env}
    (h0 : codeAny (model prog w) A (.compLoop (.ListComp elt [⟨t1, i1, [], 0⟩, ⟨t2, i2, [], 0⟩] scope pos) 1 it acc env) R s)
    (h : wpAny (model prog w) A (pyIter it) (fun it' s' => codeAny (model prog w) A (.compLoop (.ListComp elt [⟨t1, i1, [], 0⟩, ⟨t2, i2, [], 0⟩] scope pos) 1 it' acc env) R s')
      (notedBy (model prog w) A env fun x s' => R (.error x) s') s) :
    codeAny (model prog w) A (.compStart (.ListComp elt [⟨t1, i1, [], 0⟩, ⟨t2, i2, [], 0⟩] scope pos) 1 it acc env) R s := by
  refine codeAny_of_tree ?_
  show wpAny _ _ ((compStart (.ListComp elt [⟨t1, i1, [], 0⟩, ⟨t2, i2, [], 0⟩] scope pos) 1 it acc env).onRaise (fun x => do noteFrame x env; standAt theWindowsPlace)) _ _ s
  refine wpAny_notedAt ?_
  unfold compStart
  show wpAny _ _ (ask >>= _) _ _ s
  refine wpAny_bind (wpAny_askSetting (wpAny_ite ?_))
  split
  · first
      | exact wpAny_bind (wpAny_pure (wpAny_pure (And.intro rfl h0)))
      | exact wpAny_pure (And.intro rfl h0)
  · refine wpAny_bind (wpAny_rule ?_)
    show wpAny _ _ (standAt i2.pos >>= _) _ _ s
    refine wpAny_bind (wpAny_standAt ?_)
    exact wpAny_bind (wpAny_mono h (fun it' s' h' => wpAny_pure (And.intro rfl h')) fun _ _ x => x)

/-- the outer clause -/
theorem compLoop_out {elt t1 i1 t2 i2 : PySem.Expr} {scope : Scope} {pos : Pos} {it acc : Value} {env : Env} (I : Nat → Shared → Prop)
    (hs : ∀ x, foldedSetIterable i2 env x = pure x)
    (turn : ∀ n s, I n s → wpAny (model prog w) A (pyNext it) (fun r s₁ => match r with
      | none => R (.ok .next) s₁
      | some v => wpAny (model prog w) A (assign t1 env v) (fun _ s₂ => wpAny (model prog w) A (eval i2 env) (fun xv s₃ => wpAny (model prog w) A (pyIter xv) (fun it2 s₄ =>
          codeAny (model prog w) A (.compStart (.ListComp elt [⟨t1, i1, [], 0⟩, ⟨t2, i2, [], 0⟩] scope pos) 1 it2 acc env) (fun r s' => match r with | .ok _ => ∃ m, m < n ∧ I m s' | .error _ => False) s₄) (fun _ _ => False) s₃) (fun _ _ => False) s₂) (fun _ _ => False) s₁) (fun _ _ => False) s)
    (n : Nat) (h : I n s) (ht : ∀ v, letOwnedTupleGo t1 it v = pure () := by intro _; rfl) :
    codeAny (model prog w) A (.compLoop (.ListComp elt [⟨t1, i1, [], 0⟩, ⟨t2, i2, [], 0⟩] scope pos) 0 it acc env) R s := by
  refine codeAny_loop rfl I (fun n s hI => ?_) n h
  show wpAny _ A ((compTurn (.ListComp elt [⟨t1, i1, [], 0⟩, ⟨t2, i2, [], 0⟩] scope pos) 0 it acc env).onRaise (fun x => do noteFrame x env; theTreesLotGoes x)) _ _ s
  refine wpAny_noted ?_
  have e : compTurn (.ListComp elt [⟨t1, i1, [], 0⟩, ⟨t2, i2, [], 0⟩] scope pos) 0 it acc env = (standAt i1.pos >>= fun _ => pyNext it >>= fun r => match r with
      | none => pure (.done .next)
      | some v => letOwnedTupleGo t1 it v >>= fun _ => assign t1 env v >>= fun _ =>
        eval i2 env >>= fun x => standAt i2.pos >>= fun _ => foldedSetIterable i2 env x >>= fun x => holding [x] (pyIter x) >>= fun it2 =>
          runOwn (.compStart (.ListComp elt [⟨t1, i1, [], 0⟩, ⟨t2, i2, [], 0⟩] scope pos) 1 it2 acc env) env >>= fun _ =>
        again (.compLoop (.ListComp elt [⟨t1, i1, [], 0⟩, ⟨t2, i2, [], 0⟩] scope pos) 0 it acc env)) := by rfl
  rw [e]
  refine wpAny_bind (wpAny_standAt (wpAny_bind (wpAny_mono (turn n s hI) (fun r s₁ h₁ => ?_) fun _ _ h' => h'.elim)))
  cases r with
  | none => exact wpAny_pure h₁
  | some v =>
    refine wpAny_bind (wpAny_of_eq (ht v) ?_)
    refine wpAny_bind (wpAny_mono h₁ (fun _ s₂ h₂ => wpAny_bind (wpAny_mono h₂ (fun xv s₃ h₃ => wpAny_bind (wpAny_standAt (wpAny_bind (wpAny_of_eq (hs xv) (wpAny_bind (wpAny_holding (wpAny_mono h₃ (fun it2 s₄ h₄ => ?_) fun _ _ h' => h'.elim)))))) ) fun _ _ h' => h'.elim)) fun _ _ h' => h'.elim)
    refine wpAny_bind (wpAny_runOwn (codeAny_mono h₄ fun r s' hr => ?_))
    cases r with
    | ok f => exact wpAny_pure ⟨rfl, hr⟩
    | error e => exact hr.elim
end
end Mine
-- MComp3
namespace Mine
open LCg LCt
/-- what a comprehension of two clauses over two lists wants -/
structure Src2 (prog : Program) (w : World) (A : Around) (h₀ : Heap) (L : Addr) (m : PySem.Str → Option Value) (env : Env) (elt i2 : PySem.Expr) (x1 x2 : PySem.Str) (scope : Scope) (cl : List (PySem.Str × Addr)) (Q : Value → Shared → Prop)
    (RV : Nat → Nat → Value → Prop) (a1 a2 : Addr) (its1 its2 : Array Value) (news : List (Addr × Obj)) (s : Shared) : Prop where
  hh : A.handled = none
  F : Fr h₀ L s.heap m
  N : News h₀ L s.heap news
  S1 : SrcAt h₀ a1 its1 news
  S2 : SrcAt h₀ a2 its2 news
  sz : its1.size * its2.size ≤ sizeLine
  iter2 : ∀ I oI C oC D ys m₂ h tk (E' : Value → Shared → Prop), NsObj oC m₂ → Fr h₀ L h m → News h₀ L h ((I, oI) :: (C, oC) :: (D, lst ys) :: news) →
    wpAny (model prog w) A (eval i2 (compEnvC scope cl C env)) (fun xv s' => xv = .ref a2 ∧ SameEnd h₀ L m { s with heap := h, toks := tk } ((I, oI) :: (C, oC) :: (D, lst ys) :: news) s') E' { s with heap := h, toks := tk }
  elem : ∀ i j v1 v2 J oJ I oI C oC D ys m₂ h tk (E' : Value → Shared → Prop), its1[i]? = some v1 → its2[j]? = some v2 → NsObj oC m₂ → m₂ x1 = some v1 → m₂ x2 = some v2 → Fr h₀ L h m → News h₀ L h ((J, oJ) :: (I, oI) :: (C, oC) :: (D, lst ys) :: news) →
    wpAny (model prog w) A (eval elt (compEnvC scope cl C env)) (fun y s' => RV i j y ∧ SameEnd h₀ L m { s with heap := h, toks := tk } ((J, oJ) :: (I, oI) :: (C, oC) :: (D, lst ys) :: news) s') E' { s with heap := h, toks := tk }
  fin : ∀ ys, Paired (fun (p : Nat × Nat) y => RV p.1 p.2 y) ((List.range its1.size).flatMap fun i => (List.range its2.size).map fun j => (i, j)) ys → ∀ h tk D, Fr h₀ L h m → News h₀ L h ((D, lst ys) :: news) → (∀ p ∈ news, p.1 ≠ D) → Q (.ref D) { s with heap := h, toks := tk }

theorem Paired.append {α β : Type} {F : α → β → Prop} : ∀ {l₁ l₂ : List α} {m₁ m₂ : List β}, Paired F l₁ m₁ → Paired F l₂ m₂ → Paired F (l₁ ++ l₂) (m₁ ++ m₂)
  | _, _, _, _, .nil, h => h
  | _, _, _, _, .cons a r, h => .cons a (Paired.append r h)

section
variable {prog : Program} {w : World} {A : Around} {E : Value → Shared → Prop} {s : Shared} {h₀ : Heap} {L : Addr} {m : PySem.Str → Option Value} {env : Env}
/-- addresses apart -/
structure Apart (I C D L : Addr) (h₀ : Heap) (news : List (Addr × Obj)) : Prop where
  IC : I ≠ C
  ID : I ≠ D
  CD : C ≠ D
  IL : I ≠ L
  CL : C ≠ L
  DL : D ≠ L
  I0 : h₀.get? I = none
  C0 : h₀.get? C = none
  D0 : h₀.get? D = none
  nw : ∀ p ∈ news, p.1 ≠ I ∧ p.1 ≠ C ∧ p.1 ≠ D

theorem inner2 {elt i1 i2 : PySem.Expr} {x1 x2 : PySem.Str} {p1 p2 : Pos} {scope : Scope} {cl : List (PySem.Str × Addr)} {pos : Pos} {Q : Value → Shared → Prop} {RV : Nat → Nat → Value → Prop} {a1 a2 : Addr} {its1 its2 : Array Value} {news : List (Addr × Obj)}
    (S : Src2 prog w A h₀ L m env elt i2 x1 x2 scope cl Q RV a1 a2 its1 its2 news s) (hkind : scope.kind = .function) (hx1 : scope.names.lookup x1 = some .local) (hx2 : scope.names.lookup x2 = some .local) (hxx : x1 ≠ x2)
    {I1 C D : Addr} {oI1 : Obj} (P : Apart I1 C D L h₀ news) {i : Nat} {v1 : Value} (hv1 : its1[i]? = some v1) {ys₀ : List Value} (hys : ys₀.length + its2.size ≤ sizeLine) {R : Result → Shared → Prop}
    (hR : ∀ h tk m' ys, Paired (fun j y => RV i j y) (List.range its2.size) ys → Fr h₀ L h m → h.Ns C m' → News h₀ L h ((I1, oI1) :: (D, lst (ys₀ ++ ys)) :: news) → R (.ok .next) { s with heap := h, toks := tk })
    {h : Heap} {tk : Nat} {m₂ : PySem.Str → Option Value} (F : Fr h₀ L h m) (hn : h.Ns C m₂) (hm1 : m₂ x1 = some v1) (N : News h₀ L h ((I1, oI1) :: (D, lst ys₀) :: news)) :
    wpAny (model prog w) A (pyIter (.ref a2)) (fun it2 s₄ => codeAny (model prog w) A (.compStart (.ListComp elt [⟨.Name x1 p1, i1, [], 0⟩, ⟨.Name x2 p2, i2, [], 0⟩] scope pos) 1 it2 (.ref D) (compEnvC scope cl C env)) R s₄) (fun _ _ => False) { s with heap := h, toks := tk } := by
  have Nn : News h₀ L h news := fun p hp => N p (List.mem_cons_of_mem _ (List.mem_cons_of_mem _ hp))
  have hl : h.IsList a2 its2 := S.S2.list F.keep Nn
  have hlt : a2 < h.objs.size := by obtain ⟨_, e, _⟩ := hl; exact Heap.lt_size e
  refine wpAny_pyIter_list (s := { s with heap := h, toks := tk }) hl ?_
  have hI2 : ∀ b o, h.get? b = some o → b ≠ h.objs.size := fun b o e => Nat.ne_of_lt (Heap.lt_size e)
  have eI1 := (N (I1, oI1) List.mem_cons_self).1
  have eD := (N (D, lst ys₀) (List.mem_cons_of_mem _ List.mem_cons_self)).1
  obtain ⟨oC, eC, _⟩ := ns_obj hn
  obtain ⟨oL, _, _, eL, _⟩ := id F.ns
  have nI1 : I1 ≠ h.objs.size := hI2 _ _ eI1
  have nD : D ≠ h.objs.size := hI2 _ _ eD
  have nC : C ≠ h.objs.size := hI2 _ _ eC
  have nL : L ≠ h.objs.size := hI2 _ _ eL
  have n0 : h₀.get? h.objs.size = none := next_is_new F
  have nN : ∀ p ∈ news, p.1 ≠ h.objs.size := fun p hp => hI2 _ _ (Nn p hp).1
  have W := Walks.list (prog := prog) (w := w) S.hh h.objs.size a2 (Nat.ne_of_lt hlt) its2
  have up : ∀ b o, h.get? b = some o → (h.push { cls := .type "list_iterator", data := .fields #[.ref a2, .int 0 0] }).get? b = some o := fun b o e => Heap.get?_push_of_some _ e
  have loop : codeAny (model prog w) A (.compLoop (.ListComp elt [⟨.Name x1 p1, i1, [], 0⟩, ⟨.Name x2 p2, i2, [], 0⟩] scope pos) 1 (.ref h.objs.size) (.ref D) (compEnvC scope cl C env)) R
      { s with heap := h.push { cls := .type "list_iterator", data := .fields #[.ref a2, .int 0 0] }, toks := tk } := by
    refine compLoop_in (fun k s' => ∃ h' tk' j ys m', s' = { s with heap := h', toks := tk' } ∧ j ≤ its2.size ∧ k = its2.size + 1 - j ∧ (h'.IsListIter h.objs.size a2 j ∧ h'.IsList a2 its2) ∧ Fr h₀ L h' m ∧ h'.Ns C m' ∧ m' x1 = some v1 ∧
        Paired (fun j y => RV i j y) (List.range j) ys ∧ News h₀ L h' ((I1, oI1) :: (D, lst (ys₀ ++ ys)) :: news)) ?_ (its2.size + 1)
      ⟨_, tk, 0, [], m₂, rfl, Nat.zero_le _, rfl, ⟨⟨_, Heap.get?_push_size _ rfl, rfl, rfl⟩, hl.push _⟩, F.keeps up, hn.at' fun o e => up _ o e, hm1, .nil, by rw [List.append_nil]; exact N.grown up⟩
    rintro k s' ⟨h', tk', j, ys, m', rfl, hj, rfl, hst, F', hn', hm', hp, N'⟩
    by_cases hlt' : j < its2.size
    · refine W.item j _ _ _ hlt' hst fun v2 h₁ tk₁ hv2 hst₁ hk₁ => ?_
      have F₁ : Fr h₀ L h₁ m := fr_but F' hk₁ nL n0
      have hoff : ∀ p ∈ (I1, oI1) :: (D, lst (ys₀ ++ ys)) :: news, p.1 ≠ h.objs.size := fun p hp => by
        rcases List.mem_cons.mp hp with rfl | hp
        · exact nI1
        · rcases List.mem_cons.mp hp with rfl | hp
          · exact nD
          · exact nN p hp
      have N₁ : News h₀ L h₁ ((I1, oI1) :: (D, lst (ys₀ ++ ys)) :: news) := news_but N' hk₁ hoff
      have hn₁ : h₁.Ns C m' := hn'.at' fun o e => hk₁ _ o (by simpa using nC) e
      refine wpAny_assign_Name (wpAny_storeName_local (lookup_relabel_local hx2) hn₁ (fun h₃ hn₃ hs₃ => ?_) (by simp [compEnvC, relabel, hkind]))
      have F₃ : Fr h₀ L h₃ m := F₁.change hs₃ P.CL P.C0
      obtain ⟨oC, heC, hoC⟩ := ns_obj hn₃
      have hst₃ : h₃.IsListIter h.objs.size a2 (j + 1) ∧ h₃.IsList a2 its2 := W.frame _ _ _ hst₁ fun b hb o e => hs₃.extBut b o (fun q => by
        have q' : b = C := q
        rcases List.mem_cons.mp hb with e1 | hb
        · exact nC (q'.symm.trans e1)
        · have e2 := List.mem_singleton.mp hb
          obtain ⟨o', e', _, _, hd'⟩ := hst₁.2
          obtain ⟨oC', e'', _⟩ := ns_obj hn₁
          obtain ⟨es, ep, hdd, _⟩ := ‹NsObj oC' m'›
          rw [← e2, q', e''] at e'
          cases e'
          rw [hd'] at hdd
          cases hdd) e
      have N₃ : News h₀ L h₃ ((I1, oI1) :: (C, oC) :: (D, lst (ys₀ ++ ys)) :: news) := fun p hp => by
        rcases List.mem_cons.mp hp with rfl | hp
        · have z := N₁ (I1, oI1) List.mem_cons_self
          exact ⟨hs₃.extBut _ _ P.IC z.1, z.2⟩
        · rcases List.mem_cons.mp hp with rfl | hp
          · exact ⟨heC, P.CL, P.C0⟩
          · have z := N₁ p (List.mem_cons_of_mem _ hp)
            refine ⟨hs₃.extBut _ _ ?_ z.1, z.2⟩
            rcases List.mem_cons.mp hp with rfl | hp
            · exact Ne.symm P.CD
            · exact (P.nw p hp).2.1
      obtain ⟨oI2, heI2, rI2⟩ := id hst₃.1
      have N₃' : News h₀ L h₃ ((h.objs.size, oI2) :: (I1, oI1) :: (C, oC) :: (D, lst (ys₀ ++ ys)) :: news) := fun p hp => by
        rcases List.mem_cons.mp hp with rfl | hp
        · exact ⟨heI2, Ne.symm nL, n0⟩
        · exact N₃ p hp
      refine wpAny_mono (S.elem i j v1 v2 h.objs.size oI2 I1 oI1 C oC D (ys₀ ++ ys) _ h₃ (tk₁ + 1) _ hv1 hv2 hoC (by simp only [hxx, if_false]; exact hm') (by simp) F₃ N₃') (fun y s₄ h₄ => ?_) fun _ _ e => e
      obtain ⟨hr, h₄, tk₄, rfl, F₄, N₄⟩ := h₄
      have zJ := (N₄ (h.objs.size, oI2) List.mem_cons_self).1
      have zC := (N₄ (C, oC) (List.mem_cons_of_mem _ (List.mem_cons_of_mem _ List.mem_cons_self))).1
      have zD := (N₄ (D, lst (ys₀ ++ ys)) (List.mem_cons_of_mem _ (List.mem_cons_of_mem _ (List.mem_cons_of_mem _ List.mem_cons_self)))).1
      have N₄' : News h₀ L h₄ news := fun p hp => N₄ p (List.mem_cons_of_mem _ (List.mem_cons_of_mem _ (List.mem_cons_of_mem _ (List.mem_cons_of_mem _ hp))))
      have hyl : ys.length = j := by have := Paired.length hp; simpa using this.symm
      refine append_at (hsz := by show (ys₀ ++ ys).toArray.size ≤ sizeLine; rw [List.size_toArray, List.length_append, hyl]; omega) zD fun h₅ hs₅ hD₅ => ?_
      refine ⟨its2.size + 1 - (j + 1), by omega, h₅, tk₄, j + 1, ys ++ [y], _, rfl, hlt', rfl, ⟨?_, ?_⟩, F₄.change hs₅ P.DL P.D0, (hoC.ns zC).sameBut hs₅ P.CD, by simp only [hxx, if_false]; exact hm', ?_, ?_⟩
      · exact ⟨oI2, hs₅.extBut _ _ (Ne.symm nD) zJ, rI2⟩
      · obtain ⟨o', e', r'⟩ := S.S2.list F₄.keep N₄'
        refine ⟨o', hs₅.extBut _ _ (fun q => ?_) e', r'⟩
        have q' : a2 = D := q
        rcases S.S2 with ⟨o, e, _⟩ | ⟨o, hm, _⟩
        · rw [q', P.D0] at e; cases e
        · exact (P.nw _ hm).2.2 q'
      · rw [List.range_succ]; exact Paired.snoc hp hr
      · intro p hp
        rcases List.mem_cons.mp hp with rfl | hp
        · have z := N₄ (I1, oI1) (List.mem_cons_of_mem _ List.mem_cons_self)
          exact ⟨hs₅.extBut _ _ P.ID z.1, z.2⟩
        · rcases List.mem_cons.mp hp with rfl | hp
          · refine ⟨?_, P.DL, P.D0⟩
            rw [← List.append_assoc]
            exact hD₅.trans (congrArg some (lst_snoc (ys₀ ++ ys) y))
          · exact ⟨hs₅.extBut _ _ (P.nw p hp).2.2 (N₄' p hp).1, (N₄' p hp).2⟩
    · obtain rfl : j = its2.size := Nat.le_antisymm hj (Nat.not_lt.mp hlt')
      refine W.done _ _ _ hst fun h₂ tk₂ hk₂ => ?_
      have hoff : ∀ p ∈ (I1, oI1) :: (D, lst (ys₀ ++ ys)) :: news, p.1 ≠ h.objs.size := fun p hp => by
        rcases List.mem_cons.mp hp with rfl | hp
        · exact nI1
        · rcases List.mem_cons.mp hp with rfl | hp
          · exact nD
          · exact nN p hp
      exact hR h₂ tk₂ m' ys hp (fr_but F' hk₂ nL n0) (hn'.at' fun o e => hk₂ _ o (by simpa using nC) e) (news_but N' hk₂ hoff)
  exact compStart_in loop (W.self 0 _ _ _ ⟨⟨_, Heap.get?_push_size _ rfl, rfl, rfl⟩, hl.push _⟩ loop)
end
end Mine
-- MComp4
namespace Mine
open LCg LCt
section
variable {prog : Program} {w : World} {A : Around} {E : Value → Shared → Prop} {s : Shared} {h₀ : Heap} {L : Addr} {m : PySem.Str → Option Value} {env : Env}

theorem flat_len (n k : Nat) : ((List.range n).flatMap fun i => (List.range k).map fun j => (i, j)).length = n * k := by
  induction n with
  | zero => simp
  | succ i ih => rw [List.range_succ, List.flatMap_append, List.length_append, ih]; simp [Nat.succ_mul]
theorem Paired.pairs {β : Type} {RV : Nat → Nat → β → Prop} {i : Nat} {l : List Nat} {ys : List β} (h : Paired (fun j y => RV i j y) l ys) : Paired (fun (p : Nat × Nat) y => RV p.1 p.2 y) (l.map fun j => (i, j)) ys := by
  induction h with
  | nil => exact .nil
  | cons a r ih => exact .cons a ih
theorem apart_of {I C D L : Nat} {h₀ : Heap} {news : List (Addr × Obj)} (hD : D = I + 1) (hC : C = D + 1) (hL : L < I) (fresh : ∀ a : Nat, I ≤ a → h₀.get? a = none) (nw : ∀ p ∈ news, @LT.lt Nat _ p.1 I) : Apart I C D L h₀ news := by
  subst hD; subst hC
  exact ⟨Nat.ne_of_lt (by omega), Nat.ne_of_lt (by omega), Nat.ne_of_gt (by omega), Nat.ne_of_gt (by omega), Nat.ne_of_gt (by omega), Nat.ne_of_gt (by omega), fresh _ (by omega), fresh _ (by omega), fresh _ (by omega),
    fun p hp => ⟨Nat.ne_of_lt (nw p hp), Nat.ne_of_lt (by have := nw p hp; omega), Nat.ne_of_lt (by have := nw p hp; omega)⟩⟩

theorem ListComp_2 {elt i1 i2 : PySem.Expr} {x1 x2 : PySem.Str} {p1 p2 : Pos} {scope : Scope} {cl : List (PySem.Str × Addr)} {pos : Pos} {Q : Value → Shared → Prop} {RV : Nat → Nat → Value → Prop}
    (F₀ : Fr h₀ L s.heap m)
    (hclos : closureFor scope env = pure cl) (hcell : ∀ y ∈ scope.names, y.2 ≠ .cell) (hkind : scope.kind = .function)
    (hnames : ∀ y ∈ scope.names, y.2 = .local → scope.names.lookup y.1 = some .local) (hx1 : scope.names.lookup x1 = some .local) (hx2 : scope.names.lookup x2 = some .local) (hxx : x1 ≠ x2)
    (h : wpAny (model prog w) A (eval i1 env) (fun xv s₁ => ∃ a1 a2 its1 its2 news, xv = .ref a1 ∧ Src2 prog w A h₀ L m env elt i2 x1 x2 scope cl Q RV a1 a2 its1 its2 news s₁) E s)
    (hs : ∀ x, foldedSetIterable i1 env x = pure x := by intro _; rfl)
    (hs2 : ∀ C x, foldedSetIterable i2 (compEnvC scope cl C env) x = pure x := by intro _ _; rfl) :
    wpAny (model prog w) A (eval (.ListComp elt [⟨.Name x1 p1, i1, [], 0⟩, ⟨.Name x2 p2, i2, [], 0⟩] scope pos) env) Q E s := by
  rw [eval_ListComp]
  refine wpAny_comprehension_free (use := none) rfl hs hclos hkind hnames (wpAny_mono h (fun xv s₁ h₁ => ?_) fun _ _ e => e)
  obtain ⟨a1, a2, its1, its2, news, rfl, S⟩ := h₁
  have F := S.F
  have N := S.N
  have hl := S.S1.list F.keep N
  have hlt : a1 < s₁.heap.objs.size := by obtain ⟨_, e, _⟩ := hl; exact Heap.lt_size e
  refine wpAny_pyIter_list hl ?_
  have W := Walks.list (prog := prog) (w := w) S.hh s₁.heap.objs.size a1 (Nat.ne_of_lt hlt) its1
  refine wpAny_newObj_type (wpAny_newFunctionEnv hcell (by intro y hy; simp at hy) (fun h₁ hns₁ hsb₁ => ?_) hkind)
  dsimp only at hns₁ hsb₁ ⊢
  generalize hH1 : s₁.heap.push { cls := .type "list_iterator", data := .fields #[.ref a1, .int 0 0] } = H1 at hns₁ hsb₁ ⊢
  generalize hH2 : H1.push { cls := .type "list", dict := none, data := .seq ([] : List Value).toArray } = H2 at hns₁ hsb₁ ⊢
  have hD : H1.objs.size = s₁.heap.objs.size + 1 := by rw [← hH1, Heap.size_push]
  have hC : H2.objs.size = H1.objs.size + 1 := by rw [← hH2, Heap.size_push]
  have old : ∀ b o, s₁.heap.get? b = some o → h₁.get? b = some o := fun b o e => hsb₁.extBut b o (by
    have z := Heap.lt_size e
    exact Nat.ne_of_lt (by rw [hC, hD]; exact Nat.lt_succ_of_lt (Nat.lt_succ_of_lt z))) (Heap.get?_push_of_some _ (hH2 ▸ Heap.get?_push_of_some _ (hH1 ▸ Heap.get?_push_of_some _ e)))
  have hacc : h₁.get? H1.objs.size = some (lst []) := hsb₁.extBut _ _ (by show H1.objs.size ≠ H2.objs.size; omega) (Heap.get?_push_of_some _ (hH2 ▸ Heap.get?_push_size _ rfl))
  have hit : h₁.get? s₁.heap.objs.size = some { cls := .type "list_iterator", data := .fields #[.ref a1, .int 0 0] } := hsb₁.extBut _ _ (by show s₁.heap.objs.size ≠ H2.objs.size; omega) (Heap.get?_push_of_some _ (hH2 ▸ Heap.get?_push_of_some _ (hH1 ▸ Heap.get?_push_size _ rfl)))
  have fresh₀ : ∀ a, s₁.heap.objs.size ≤ a → h₀.get? a = none := fun a ha => by
    cases e : h₀.get? a with
    | none => rfl
    | some o' => exact absurd (Heap.lt_size (F.keep a o' e)) (Nat.not_lt.mpr ha)
  have hLlt : L < s₁.heap.objs.size := F.ns.lt
  generalize hI1 : s₁.heap.objs.size = I1 at *
  generalize hDD : H1.objs.size = D at *
  generalize hCC : H2.objs.size = C at *
  have nwlt : ∀ p ∈ news, p.1 < I1 := fun p hp => hI1 ▸ Heap.lt_size (N p hp).1
  have P : Apart I1 C D L h₀ news := apart_of hD hC hLlt fresh₀ nwlt
  have hl₁ : h₁.IsList a1 its1 := by obtain ⟨o, e, r⟩ := hl; exact ⟨o, old _ _ e, r⟩
  have loop : ∀ s₃ : Shared, s₃ = { s₁ with heap := h₁, toks := s₁.toks + ([] : List (PySem.Str × Value)).length } →
      codeAny (model prog w) A (.compLoop (.ListComp elt [⟨.Name x1 p1, i1, [], 0⟩, ⟨.Name x2 p2, i2, [], 0⟩] scope pos) 0 (.ref I1) (.ref D) (compEnvC scope cl C env))
        (compPost (model prog w) A E none Q (.ref D) C) s₃ := by
    rintro s₃ rfl
    refine compLoop_out (hs := hs2 C) (fun k s' => ∃ h' tk i ys m', s' = { s₁ with heap := h', toks := tk } ∧ i ≤ its1.size ∧ k = its1.size + 1 - i ∧ (h'.IsListIter I1 a1 i ∧ h'.IsList a1 its1) ∧ Fr h₀ L h' m ∧ h'.Ns C m' ∧
        Paired (fun (p : Nat × Nat) y => RV p.1 p.2 y) ((List.range i).flatMap fun i => (List.range its2.size).map fun j => (i, j)) ys ∧ News h₀ L h' ((D, lst ys) :: news)) ?_ (its1.size + 1)
      ⟨h₁, _, 0, [], _, rfl, Nat.zero_le _, rfl, ⟨⟨_, hit, rfl, rfl⟩, hl₁⟩, F.keeps old, hns₁, .nil, fun p hp => ?_⟩
    · rintro k s' ⟨h', tk, i, ys, m', rfl, hi, rfl, hst, F', hn', hp, N'⟩
      have hoffI : ∀ p ∈ (D, lst ys) :: news, p.1 ≠ I1 := fun p hp => by
        rcases List.mem_cons.mp hp with rfl | hp
        · exact Ne.symm P.ID
        · exact (P.nw p hp).1
      have hyl : ys.length = i * its2.size := by
        have := Paired.length hp
        rw [← this, flat_len]
      by_cases hlt' : i < its1.size
      · refine W.item i _ _ _ hlt' hst fun v1 h₂ tk₂ hv1 hst₂ hk₂ => ?_
        have F₂ : Fr h₀ L h₂ m := fr_but F' hk₂ (Ne.symm P.IL) P.I0
        have N₂ : News h₀ L h₂ ((D, lst ys) :: news) := news_but N' hk₂ hoffI
        have hn₂ : h₂.Ns C m' := hn'.at' fun o e => hk₂ _ o (by simpa using Ne.symm P.IC) e
        refine wpAny_assign_Name (wpAny_storeName_local (lookup_relabel_local hx1) hn₂ (fun h₃ hn₃ hs₃ => ?_) (by simp [compEnvC, relabel, hkind]))
        have F₃ : Fr h₀ L h₃ m := F₂.change hs₃ P.CL P.C0
        obtain ⟨oC, heC, hoC⟩ := ns_obj hn₃
        obtain ⟨oI, heI, rI⟩ := id hst₂.1
        have heI₃ := hs₃.extBut _ _ (by exact P.IC) heI
        have N₃ : News h₀ L h₃ ((I1, oI) :: (C, oC) :: (D, lst ys) :: news) := fun p hp => by
          rcases List.mem_cons.mp hp with rfl | hp
          · exact ⟨heI₃, P.IL, P.I0⟩
          · rcases List.mem_cons.mp hp with rfl | hp
            · exact ⟨heC, P.CL, P.C0⟩
            · have z := N₂ p hp
              refine ⟨hs₃.extBut _ _ ?_ z.1, z.2⟩
              rcases List.mem_cons.mp hp with rfl | hp
              · exact Ne.symm P.CD
              · exact (P.nw p hp).2.1
        refine wpAny_mono (S.iter2 I1 oI C oC D ys _ h₃ (tk₂ + 1) _ hoC F₃ N₃) (fun xv s₄ h₄ => ?_) fun _ _ e => e
        obtain ⟨rfl, h₄, tk₄, rfl, F₄, N₄⟩ := h₄
        have zC := (N₄ (C, oC) (List.mem_cons_of_mem _ List.mem_cons_self)).1
        have N₄' : News h₀ L h₄ ((I1, oI) :: (D, lst ys) :: news) := fun p hp => N₄ p (by
          rcases List.mem_cons.mp hp with rfl | hp
          · exact List.mem_cons_self
          · exact List.mem_cons_of_mem _ (List.mem_cons_of_mem _ hp))
        have hmul : i * its2.size + its2.size ≤ sizeLine := by
          have h1 : (i + 1) * its2.size ≤ its1.size * its2.size := Nat.mul_le_mul_right _ hlt'
          rw [Nat.succ_mul] at h1
          exact Nat.le_trans h1 S.sz
        refine inner2 S hkind hx1 hx2 hxx P hv1 (ys₀ := ys) (by rw [hyl]; exact hmul) (R := fun r s' => match r with | .ok _ => ∃ m_1, m_1 < its1.size + 1 - i ∧ _ | .error _ => False) ?_ F₄ (hoC.ns zC) (by simp) N₄'
        intro h₅ tk₅ m₅ ys₅ hp₅ F₅ hn₅ N₅
        refine ⟨its1.size + 1 - (i + 1), by omega, h₅, tk₅, i + 1, ys ++ ys₅, m₅, rfl, hlt', rfl, ⟨?_, ?_⟩, F₅, hn₅, ?_, fun p hp => N₅ p (List.mem_cons_of_mem _ hp)⟩
        · exact ⟨oI, (N₅ (I1, oI) List.mem_cons_self).1, rI⟩
        · exact S.S1.list F₅.keep fun p hp => N₅ p (List.mem_cons_of_mem _ (List.mem_cons_of_mem _ hp))
        · rw [List.range_succ, List.flatMap_append]
          refine Paired.append hp ?_
          simp only [List.flatMap_cons, List.flatMap_nil, List.append_nil]
          exact Paired.pairs hp₅
      · obtain rfl : i = its1.size := Nat.le_antisymm hi (Nat.not_lt.mp hlt')
        refine W.done _ _ _ hst fun h₂ tk₂ hk₂ => ?_
        have F₂ : Fr h₀ L h₂ m := fr_but F' hk₂ (Ne.symm P.IL) P.I0
        have N₂ : News h₀ L h₂ ((D, lst ys) :: news) := news_but N' hk₂ hoffI
        refine ⟨m', hn'.at' fun o e => hk₂ _ o (by simpa using Ne.symm P.IC) e, fun h'' hs'' => S.fin ys hp h'' tk₂ D (F₂.change hs'' P.CL P.C0) (fun p hp => ?_) fun p hp => (P.nw p hp).2.2⟩
        refine ⟨hs''.extBut _ _ ?_ (N₂ p hp).1, (N₂ p hp).2⟩
        rcases List.mem_cons.mp hp with rfl | hp
        · exact Ne.symm P.CD
        · exact (P.nw p hp).2.1
    · rcases List.mem_cons.mp hp with rfl | hp
      · exact ⟨hacc, P.DL, P.D0⟩
      · exact ⟨old _ _ (N p hp).1, (N p hp).2⟩
  exact codeAny_compStart_list (loop _ rfl) (W.self 0 _ _ _ ⟨⟨_, hit, rfl, rfl⟩, hl₁⟩ (loop _ rfl))
end
end Mine
-- MComp5
namespace Mine
open LCg LCt
section
variable {prog : Program} {w : World} {A : Around} {E : Value → Shared → Prop} {s : Shared} {h₀ : Heap} {L : Addr} {m : PySem.Str → Option Value} {env : Env}
/-- an iterator that a comprehension with one test walks -/
def SrcW (prog : Program) (w : World) (A : Around) (h₀ : Heap) (L : Addr) (m : PySem.Str → Option Value) (env : Env) (ct elt : PySem.Expr) (x : PySem.Str) (scope : Scope) (cl : List (PySem.Str × Addr)) (Q : Value → Shared → Prop) (it : Value) (s₂ : Shared) : Prop :=
  ∃ I fp n P St S news, it = .ref I ∧ Walks prog w A I fp [I] n P St ∧ n ≤ sizeLine ∧ (∀ i h, St i h → ∃ o, h.get? I = some o) ∧
    (∀ i h h' o nw, St i h → h.get? I = some o → h'.get? I = some o → (∀ b o, h₀.get? b = some o → h'.get? b = some o) → News h₀ L h' nw → S nw → St i h') ∧
    St 0 s₂.heap ∧ (∀ b ∈ fp, b < s₂.heap.objs.size) ∧ Fr h₀ L s₂.heap m ∧ News h₀ L s₂.heap news ∧ L ≠ I ∧ h₀.get? I = none ∧ (∀ p ∈ news, p.1 ≠ I) ∧ S news ∧
    CompRestT prog w A h₀ L m env ct elt x scope cl s₂ S P (FinE h₀ L m s₂ Q) n 0 [] news
theorem ListComp_TG {ct elt iter : PySem.Expr} {x : PySem.Str} {px : Pos} {scope : Scope} {cl : List (PySem.Str × Addr)} {pos : Pos} {Q : Value → Shared → Prop} (F₀ : Fr h₀ L s.heap m)
    (hclos : closureFor scope env = pure cl) (hcell : ∀ y ∈ scope.names, y.2 ≠ .cell) (hkind : scope.kind = .function)
    (hnames : ∀ y ∈ scope.names, y.2 = .local → scope.names.lookup y.1 = some .local) (hx : scope.names.lookup x = some .local)
    (h : wpAny (model prog w) A (eval iter env) (fun xv s₁ => wpAny (model prog w) A (pyIter xv) (SrcW prog w A h₀ L m env ct elt x scope cl Q) E s₁) E s)
    (hs : ∀ x, foldedSetIterable iter env x = pure x := by intro _; rfl) :
    wpAny (model prog w) A (eval (.ListComp elt [⟨.Name x px, iter, [ct], 0⟩] scope pos) env) Q E s := by
  rw [eval_ListComp]
  refine wpAny_comprehension_free (use := none) rfl hs hclos hkind hnames (wpAny_mono h (fun xv s₁ h₁ => wpAny_mono h₁ (fun it s₂ h₂ => ?_) fun _ _ e => e) fun _ _ e => e)
  obtain ⟨I, fp, n, P, St, S, news, rfl, W, hsz, hIo, hSt, hst, hfp, F, N, hIL, hI₀, off, hS, R⟩ := h₂
  refine block_T W hsz hIo hSt hcell hkind hx hst hfp F N hIL hI₀ off hS R ?_
  intro D C h tk m' ys news' F' N' o1 hn hC₀ hD₀ hCL hDL hCD offC fin
  refine ⟨m', hn, fun h'' hs'' => fin D h'' tk (F'.change hs'' hCL hC₀) (fun p hp => ?_) o1⟩
  refine ⟨hs''.extBut _ _ ?_ (N' p hp).1, (N' p hp).2⟩
  rcases List.mem_cons.mp hp with rfl | hp
  · exact Ne.symm hCD
  · exact offC p hp

/-- a tuple of the ledger -/
theorem src_tuple {ct elt : PySem.Expr} {x : PySem.Str} {scope : Scope} {cl : List (PySem.Str × Addr)} {Q : Value → Shared → Prop} {ax : Addr} {its : Array Value} {k : Nat} {news : List (Addr × Obj)}
    (hh : A.handled = none) (F : Fr h₀ L s.heap m) (N : News h₀ L s.heap news) (hm : (ax, ({ cls := .type "tuple", data := .seq its k } : Obj)) ∈ news) (hsz : its.size ≤ sizeLine)
    (h : ∀ g, CompRestT prog w A h₀ L m env ct elt x scope cl { s with heap := g } (fun nw => (ax, ({ cls := .type "tuple", data := .seq its k } : Obj)) ∈ nw) (fun i v => its[i]? = some v) (FinE h₀ L m { s with heap := g } Q) its.size 0 [] news) :
    wpAny (model prog w) A (pyIter (.ref ax)) (SrcW prog w A h₀ L m env ct elt x scope cl Q) E s := by
  have ht : s.heap.IsTuple ax its := ⟨_, (N _ hm).1, rfl, _, rfl⟩
  have hlt : ax < s.heap.objs.size := Heap.lt_size (N _ hm).1
  refine wpAny_pyIter_tuple ht ?_
  have up : ∀ b o, s.heap.get? b = some o → (s.heap.push { cls := .type "tuple_iterator", data := .fields #[.ref ax, .int 0 0] }).get? b = some o := fun b o e => Heap.get?_push_of_some _ e
  refine ⟨_, _, _, _, _, (fun nw => (ax, ({ cls := .type "tuple", data := .seq its k } : Obj)) ∈ nw), news, rfl, Walks.tuple hh s.heap.objs.size ax (Nat.ne_of_lt hlt) its, hsz, fun i h st => by obtain ⟨o, e, _⟩ := st.1; exact ⟨o, e⟩, ?_,
    ⟨⟨_, Heap.get?_push_size _ rfl, rfl, rfl⟩, ⟨_, up _ _ (N _ hm).1, rfl, _, rfl⟩⟩, fun b hb => ?_, F.keeps up, N.grown up, Nat.ne_of_lt F.ns.lt, next_is_new F, fun p hp => Nat.ne_of_lt (Heap.lt_size (N p hp).1), hm, h _⟩
  · intro i h h' o nw st e e' _ N' S'
    exact ⟨by obtain ⟨o', q, r⟩ := st.1; rw [e] at q; cases q; exact ⟨o, e', r⟩, ⟨_, (N' _ S').1, rfl, _, rfl⟩⟩
  · show b < (s.heap.push _).objs.size
    rw [Heap.size_push]
    rcases List.mem_cons.mp hb with rfl | hb
    · exact Nat.lt_succ_self _
    · rw [List.mem_singleton.mp hb]; exact Nat.lt_succ_of_lt hlt

/-- the keys of a dict of the base -/
theorem src_keys {ct elt : PySem.Expr} {x : PySem.Str} {scope : Scope} {cl : List (PySem.Str × Addr)} {Q : Value → Shared → Prop} {d : Addr} {kvs : List (PySem.Str × Value)} {ep : Nat} {news : List (Addr × Obj)}
    (hh : A.handled = none) (F : Fr h₀ L s.heap m) (N : News h₀ L s.heap news) (lo : (d == sysModules) = false) (hd : h₀.DictAt (strKind prog w) d kvs ep) (hsz : kvs.length ≤ sizeLine)
    (h : ∀ g, CompRestT prog w A h₀ L m env ct elt x scope cl { s with heap := g } (fun _ => True) (fun i v => ∃ k x, kvs[i]? = some (k, x) ∧ (strKind prog w).is k v = true) (FinE h₀ L m { s with heap := g } Q) kvs.length 0 [] news) :
    wpAny (model prog w) A (pyIter (.ref d)) (SrcW prog w A h₀ L m env ct elt x scope cl Q) E s := by
  have ht : s.heap.DictAt (strKind prog w) d kvs ep := hd.at' fun o e => F.keep _ _ e
  have hlt : d < s.heap.objs.size := by obtain ⟨o, es, e, _⟩ := ht; exact Heap.lt_size e
  refine wpAny_pyIter_dict lo ht ?_
  have up : ∀ b o, s.heap.get? b = some o → (s.heap.push { cls := .type "dict_keyiterator", data := .fields #[.ref d, .int 0 0, .int kvs.length 0, .int ep 0] }).get? b = some o := fun b o e => Heap.get?_push_of_some _ e
  refine ⟨_, _, _, _, _, (fun _ => True), news, rfl, Walks.dictKeys (knd := strKind prog w) hh s.heap.objs.size d (Nat.ne_of_lt hlt) kvs ep, hsz, fun i h st => by obtain ⟨o, e, _⟩ := st.1; exact ⟨o, e⟩, ?_,
    ⟨⟨_, Heap.get?_push_size _ rfl, rfl, rfl⟩, ht.at' fun o e => up _ _ e⟩, fun b hb => ?_, F.keeps up, N.grown up, Nat.ne_of_lt F.ns.lt, next_is_new F, fun p hp => Nat.ne_of_lt (Heap.lt_size (N p hp).1), trivial, h _⟩
  · intro i h h' o nw st e e' k' N' S'
    exact ⟨by obtain ⟨o', q, r⟩ := st.1; rw [e] at q; cases q; exact ⟨o, e', r⟩, hd.at' fun o e => k' _ _ e⟩
  · show b < (s.heap.push _).objs.size
    rw [Heap.size_push]
    rcases List.mem_cons.mp hb with rfl | hb
    · exact Nat.lt_succ_self _
    · rw [List.mem_singleton.mp hb]; exact Nat.lt_succ_of_lt hlt

/-- the signs of a plain text -/
theorem src_ascii {ct elt : PySem.Expr} {x : PySem.Str} {scope : Scope} {cl : List (PySem.Str × Addr)} {Q : Value → Shared → Prop} {y : PySem.Str} {t : Tok} {news : List (Addr × Obj)}
    (hh : A.handled = none) (F : Fr h₀ L s.heap m) (N : News h₀ L s.heap news) (ha : y.cps.all (· < 128) = true) (hsz : y.cps.size ≤ sizeLine)
    (h : ∀ g, CompRestT prog w A h₀ L m env ct elt x scope cl { s with heap := g } (fun _ => True) (SignAt y) (FinE h₀ L m { s with heap := g } Q) y.cps.size 0 [] news) :
    wpAny (model prog w) A (pyIter (.str y t)) (SrcW prog w A h₀ L m env ct elt x scope cl Q) E s := by
  refine wpAny_pyIter_ascii ha ?_
  have up : ∀ b o, s.heap.get? b = some o → (s.heap.push { cls := .type "str_ascii_iterator", data := .fields #[.str y t, .int 0 0] }).get? b = some o := fun b o e => Heap.get?_push_of_some _ e
  refine ⟨_, _, _, _, _, (fun _ => True), news, rfl, Walks.strAscii hh s.heap.objs.size y t, hsz, fun i h st => by obtain ⟨o, e, _⟩ := st; exact ⟨o, e⟩, ?_,
    ⟨_, Heap.get?_push_size _ rfl, rfl, rfl⟩, fun b hb => ?_, F.keeps up, N.grown up, Nat.ne_of_lt F.ns.lt, next_is_new F, fun p hp => Nat.ne_of_lt (Heap.lt_size (N p hp).1), trivial, h _⟩
  · intro i h h' o nw st e e' k' N' S'
    obtain ⟨o', q, r⟩ := st; rw [e] at q; cases q; exact ⟨o, e', r⟩
  · rw [List.mem_singleton.mp hb]
    show s.heap.objs.size < (s.heap.push _).objs.size
    rw [Heap.size_push]; exact Nat.lt_succ_self _
end
end Mine
-- MComp6
namespace Mine
open LCg LCt
section
variable {prog : Program} {w : World} {A : Around} {E : Value → Shared → Prop} {s : Shared} {h₀ : Heap} {L : Addr} {m : PySem.Str → Option Value} {env : Env}
/-- a block's own frame with one cell -/
theorem newEnv_cell {scope : Scope} {globals : Addr} {cl : List (PySem.Str × Addr)} {qual : PySem.Str} {x : PySem.Str} {Q : Env → Shared → Prop}
    (hcs : ∀ k acc, cellsFrom k scope.names acc = (x, k) :: acc) (hpc : ∀ h : Heap, pushCells h scope.names = h.push { cls := .type "cell", data := .cell none })
    (hQ : Q (newEnv scope s.heap.objs.size globals ((x, s.heap.objs.size + 1) :: cl) qual none .none (some env) builtinsNs) { s with heap := (s.heap.push { cls := .type "dict", data := .dict #[] }).push { cls := .type "cell", data := .cell none } }) :
    wpAny (model prog w) A (newFunctionEnv scope globals cl [] qual none .none (some env)) Q E s := by
  simp only [newFunctionEnv, Option.isSome_some, if_true]
  refine wpAny_bind (wpAny_alloc ?_)
  refine wpAny_bind (wpAny_layCells _ (fun name kind cells => by cases hkc : kind == NameKind.cell <;> simp [hkc]) _ _ _ _ ?_)
  rw [hcs, hpc]
  refine wpAny_bind ?_
  rw [List.forIn_nil]
  refine wpAny_pure (wpAny_pure ?_)
  have e : ({ s with heap := s.heap.push { cls := .type "dict", data := .dict #[] } } : Shared).heap.objs.size = s.heap.objs.size + 1 := Heap.size_push ..
  rw [e]
  exact hQ

/-- addresses apart from a ledger -/
def Off4 (I C K D : Addr) (nw : List (Addr × Obj)) : Prop := ∀ p ∈ nw, (@Ne Nat p.1 I) ∧ (@Ne Nat p.1 C) ∧ (@Ne Nat p.1 K) ∧ (@Ne Nat p.1 D)
/-- the end of a turn -/
def KEnd (h₀ : Heap) (L : Addr) (m : PySem.Str → Option Value) (s₁ : Shared) (I : Addr) (oI : Obj) (C : Addr) (oC : Obj) (K : Addr) (oK : Obj) (D : Addr) (oD : Obj) (rest : Value → List (Addr × Obj) → Prop) (y : Value) (s₂ : Shared) : Prop :=
  ∃ h' tk nw', s₂ = { s₁ with heap := h', toks := tk } ∧ Fr h₀ L h' m ∧ News h₀ L h' ((I, oI) :: (C, oC) :: (K, oK) :: (D, oD) :: nw') ∧ Off4 I C K D nw' ∧ rest y nw'
/-- what a comprehension whose letter is captured wants, over a list -/
structure SrcK (prog : Program) (w : World) (A : Around) (h₀ : Heap) (L : Addr) (m : PySem.Str → Option Value) (env : Env) (elt : PySem.Expr) (x y : PySem.Str) (scope : Scope) (cl : List (PySem.Str × Addr)) (Q : Flow → Shared → Prop) (G : Nat → List Value → List (Addr × Obj) → Prop)
    (ax : Addr) (its : Array Value) (news : List (Addr × Obj)) (s : Shared) : Prop where
  hh : A.handled = none
  F : Fr h₀ L s.heap m
  N : News h₀ L s.heap news
  S : SrcAt h₀ ax its news
  sz : its.size ≤ sizeLine
  g0 : G 0 [] news
  turn : ∀ i v I oI C oC K oK D ys nw h tk m₂ (E' : Value → Shared → Prop), i < its.size → its[i]? = some v → G i ys nw → SrcAt h₀ ax its nw → NsObj oC m₂ → oK.data = .cell (some v) → Fr h₀ L h m → News h₀ L h ((I, oI) :: (C, oC) :: (K, oK) :: (D, lst ys) :: nw) → Off4 I C K D nw →
    wpAny (model prog w) A (eval elt (compEnvC scope ((x, K) :: cl) C env)) (KEnd h₀ L m { s with heap := h, toks := tk } I oI C oC K oK D (lst ys) (fun r nw' => SrcAt h₀ ax its nw' ∧ G (i + 1) (ys ++ [r]) nw')) E' { s with heap := h, toks := tk }
  fin : ∀ ys nw D h tk, G its.size ys nw → Fr h₀ L h (fun z => if z = y then some (.ref D) else m z) → News h₀ L h ((D, lst ys) :: nw) → (∀ p ∈ nw, p.1 ≠ D) → Q .next { s with heap := h, toks := tk }

theorem Assign_ListComp_K {elt iter : PySem.Expr} {x y : PySem.Str} {px py : Pos} {scope : Scope} {cl : List (PySem.Str × Addr)} {pos spos : Pos} {Q : Flow → Shared → Prop} {G : Nat → List Value → List (Addr × Obj) → Prop} (F₀ : Fr h₀ L s.heap m) (hLe : env.locals = L)
    (hsw : swapsWith (.ListComp elt [⟨.Name x px, iter, [], 0⟩] scope pos) (some (.Name y py)) spos.line env = pure true)
    (hclos : closureFor scope env = pure cl) (hcs : ∀ k acc, cellsFrom k scope.names acc = (x, k) :: acc) (hpc : ∀ h : Heap, pushCells h scope.names = h.push { cls := .type "cell", data := .cell none }) (hkind : scope.kind = .function)
    (hnames : ∀ z ∈ scope.names, z.2 = .local → scope.names.lookup z.1 = some .local) (hx : (relabel scope env).names.lookup x = some .cell)
    (hy : env.kindOf y = some .local) (hp : (env.scope.kind == .class || (env.scope.kind == .module && env.locals != env.globals)) = false)
    (h : wpAny (model prog w) A (eval iter env) (fun xv s₁ => ∃ ax its news, xv = .ref ax ∧ SrcK prog w A h₀ L m env elt x y scope cl Q G ax its news s₁) E s)
    (hs : ∀ x, foldedSetIterable iter env x = pure x := by intro _; rfl) :
    wpAny (model prog w) A (exec (.Assign [.Name y py] (.ListComp elt [⟨.Name x px, iter, [], 0⟩] scope pos) spos) env) Q E s := by
  subst hLe
  rw [exec_Assign_Name_used _ _ _ _ hsw]
  refine wpAny_bind (wpAny_standAt (wpAny_bind ?_))
  show wpAny _ A (do let _ ← comprehension (.ListComp elt [⟨.Name x px, iter, [], 0⟩] scope pos) scope env _ (newList []) false (eval iter env) (some (assign (.Name y py) env))) _ _ s
  refine wpAny_bind (wpAny_mono (wpAny_comprehension_free (use := some (assign (.Name y py) env)) (Q := fun _ s' => Q .next s') rfl hs hclos hkind hnames
    (wpAny_mono h (fun xv s₁ h₁ => ?_) fun _ _ e => e)) (fun _ s' hq => wpAny_pure (wpAny_pure hq)) fun _ _ e => e)
  obtain ⟨ax, its, news, rfl, Z⟩ := h₁
  have F := Z.F
  have N := Z.N
  have hl := Z.S.list F.keep N
  have hlt : ax < s₁.heap.objs.size := by obtain ⟨_, e, _⟩ := hl; exact Heap.lt_size e
  refine wpAny_pyIter_list hl ?_
  have W := Walks.list (prog := prog) (w := w) Z.hh s₁.heap.objs.size ax (Nat.ne_of_lt hlt) its
  refine wpAny_newObj_type (newEnv_cell hcs hpc ?_)
  dsimp only
  generalize hH1 : s₁.heap.push { cls := .type "list_iterator", data := .fields #[.ref ax, .int 0 0] } = H1
  generalize hH2 : H1.push { cls := .type "list", dict := none, data := .seq ([] : List Value).toArray } = H2
  generalize hH3 : H2.push { cls := .type "dict", data := .dict #[] } = H3
  generalize hH4 : H3.push { cls := .type "cell", data := .cell none } = H4
  have hD : H1.objs.size = s₁.heap.objs.size + 1 := by rw [← hH1, Heap.size_push]
  have hC : H2.objs.size = H1.objs.size + 1 := by rw [← hH2, Heap.size_push]
  have hK : H3.objs.size = H2.objs.size + 1 := by rw [← hH3, Heap.size_push]
  have u1 : ∀ b o, s₁.heap.get? b = some o → H1.get? b = some o := fun b o e => hH1 ▸ Heap.get?_push_of_some _ e
  have u2 : ∀ b o, H1.get? b = some o → H2.get? b = some o := fun b o e => hH2 ▸ Heap.get?_push_of_some _ e
  have u3 : ∀ b o, H2.get? b = some o → H3.get? b = some o := fun b o e => hH3 ▸ Heap.get?_push_of_some _ e
  have u4 : ∀ b o, H3.get? b = some o → H4.get? b = some o := fun b o e => hH4 ▸ Heap.get?_push_of_some _ e
  have old : ∀ b o, s₁.heap.get? b = some o → H4.get? b = some o := fun b o e => u4 _ _ (u3 _ _ (u2 _ _ (u1 _ _ e)))
  have hit : H4.get? s₁.heap.objs.size = some { cls := .type "list_iterator", data := .fields #[.ref ax, .int 0 0] } := u4 _ _ (u3 _ _ (u2 _ _ (hH1 ▸ Heap.get?_push_size _ rfl)))
  have hacc : H4.get? H1.objs.size = some (lst []) := u4 _ _ (u3 _ _ (hH2 ▸ Heap.get?_push_size _ rfl))
  have hn3 : H3.Ns H2.objs.size (fun _ => none) := hH3 ▸ Heap.Ns.new ..
  obtain ⟨oC0, hC3, hoC0⟩ := ns_obj hn3
  have hCo : H4.get? H2.objs.size = some oC0 := u4 _ _ hC3
  have hKo : H4.get? H3.objs.size = some { cls := .type "cell", data := .cell none } := hH4 ▸ Heap.get?_push_size _ rfl
  have fresh₀ : ∀ a, s₁.heap.objs.size ≤ a → h₀.get? a = none := fun a ha => by
    cases e : h₀.get? a with
    | none => rfl
    | some o' => exact absurd (Heap.lt_size (F.keep a o' e)) (Nat.not_lt.mpr ha)
  have hLlt : env.locals < s₁.heap.objs.size := F.ns.lt
  have nwlt : ∀ p ∈ news, p.1 < s₁.heap.objs.size := fun p hp => Heap.lt_size (N p hp).1
  rw [← hK]
  generalize hI1 : s₁.heap.objs.size = I at *
  generalize hDD : H1.objs.size = D at *
  generalize hCC : H2.objs.size = C at *
  generalize hKK : H3.objs.size = K at *
  have apart : @Ne Nat I D ∧ @Ne Nat I C ∧ @Ne Nat I K ∧ @Ne Nat D C ∧ @Ne Nat D K ∧ @Ne Nat C K ∧ @Ne Nat I env.locals ∧ @Ne Nat D env.locals ∧ @Ne Nat C env.locals ∧ @Ne Nat K env.locals := by
    have a1 : @Eq Nat D (I + 1) := hD
    have a2 : @Eq Nat C (D + 1) := hC
    have a3 : @Eq Nat K (C + 1) := hK
    have a4 : @LT.lt Nat _ env.locals I := hLlt
    omega
  obtain ⟨nID, nIC, nIK, nDC, nDK, nCK, nIL, nDL, nCL, nKL⟩ := apart
  have I0 : h₀.get? I = none := fresh₀ _ (Nat.le_refl _)
  have D0 : h₀.get? D = none := fresh₀ _ (by have a1 : @Eq Nat D (I + 1) := hD; show @LE.le Nat _ I D; omega)
  have C0 : h₀.get? C = none := fresh₀ _ (by have a1 : @Eq Nat D (I + 1) := hD; have a2 : @Eq Nat C (D + 1) := hC; show @LE.le Nat _ I C; omega)
  have K0 : h₀.get? K = none := fresh₀ _ (by have a1 : @Eq Nat D (I + 1) := hD; have a2 : @Eq Nat C (D + 1) := hC; have a3 : @Eq Nat K (C + 1) := hK; show @LE.le Nat _ I K; omega)
  have off0 : Off4 I C K D news := fun p hp => by
    have a0 : @LT.lt Nat _ p.1 I := nwlt p hp
    have a1 : @Eq Nat D (I + 1) := hD
    have a2 : @Eq Nat C (D + 1) := hC
    have a3 : @Eq Nat K (C + 1) := hK
    omega
  have hl₁ : H4.IsList ax its := by obtain ⟨o, e, r⟩ := hl; exact ⟨o, old _ _ e, r⟩
  have loop : ∀ s₃ : Shared, s₃ = { s₁ with heap := H4 } →
      codeAny (model prog w) A (.compLoop (.ListComp elt [⟨.Name x px, iter, [], 0⟩] scope pos) 0 (.ref I) (.ref D) (compEnvC scope ((x, K) :: cl) C env))
        (compPost (model prog w) A E (some (assign (.Name y py) env)) (fun _ s' => Q .next s') (.ref D) C) s₃ := by
    rintro s₃ rfl
    refine codeAny_compLoop_tests
      (fun k s' => ∃ h' tk i ys nw oC v₀, s' = { s₁ with heap := h', toks := tk } ∧ i ≤ its.size ∧ k = its.size + 1 - i ∧ ys.length = i ∧ (h'.IsListIter I ax i ∧ h'.IsList ax its) ∧ Fr h₀ env.locals h' m ∧ h'.get? C = some oC ∧ NsObj oC (fun _ => none) ∧ h'.IsCell K v₀ ∧
        News h₀ env.locals h' ((D, lst ys) :: nw) ∧ Off4 I C K D nw ∧ SrcAt h₀ ax its nw ∧ G i ys nw) ?_ (its.size + 1)
      ⟨H4, s₁.toks, 0, [], news, _, none, rfl, Nat.zero_le _, rfl, rfl, ⟨⟨_, hit, rfl, rfl⟩, hl₁⟩, F.keeps old, hCo, hoC0, ⟨_, hKo, rfl⟩, fun p hp => ?_, off0, Z.S, Z.g0⟩
    · rintro k s' ⟨h', tk, i, ys, nw, oC, v₀, rfl, hi, rfl, hyl, hst, F', eC, hoC, hcK, N', off', S', hG⟩
      have hoffI : ∀ p ∈ (D, lst ys) :: nw, p.1 ≠ I := fun p hp => by
        rcases List.mem_cons.mp hp with rfl | hp
        · exact Ne.symm nID
        · exact (off' p hp).1
      by_cases hlt' : i < its.size
      · refine W.item i _ _ _ hlt' hst fun v h₂ tk₂ hv hst₂ hk₂ => ?_
        have F₂ : Fr h₀ env.locals h₂ m := fr_but F' hk₂ (Ne.symm nIL) I0
        have N₂ : News h₀ env.locals h₂ ((D, lst ys) :: nw) := news_but N' hk₂ hoffI
        have eC₂ : h₂.get? C = some oC := hk₂ _ _ (by simpa using Ne.symm nIC) eC
        have hcK₂ : h₂.IsCell K v₀ := by obtain ⟨o, e, r⟩ := hcK; exact ⟨o, hk₂ _ _ (by simpa using Ne.symm nIK) e, r⟩
        refine wpAny_assign_Name (wpAny_storeName_cell (c := K) (by simp [compEnvC, relabel, hkind]) hx (by simp [compEnvC, List.lookup_cons]) hcK₂ fun h₃ hc₃ hs₃ => ?_)
        refine wpAny_tests_nil ?_
        simp only [if_true]
        have F₃ : Fr h₀ env.locals h₃ m := F₂.change hs₃ nKL K0
        obtain ⟨oK, eK, dK⟩ := hc₃
        obtain ⟨oI, eI, rI⟩ := id hst₂.1
        have eI₃ := hs₃.extBut _ _ nIK eI
        have N₃ : News h₀ env.locals h₃ ((I, oI) :: (C, oC) :: (K, oK) :: (D, lst ys) :: nw) := fun p hp => by
          rcases List.mem_cons.mp hp with rfl | hp
          · exact ⟨eI₃, nIL, I0⟩
          · rcases List.mem_cons.mp hp with rfl | hp
            · exact ⟨hs₃.extBut _ _ nCK eC₂, nCL, C0⟩
            · rcases List.mem_cons.mp hp with rfl | hp
              · exact ⟨eK, nKL, K0⟩
              · have z := N₂ p hp
                refine ⟨hs₃.extBut _ _ ?_ z.1, z.2⟩
                rcases List.mem_cons.mp hp with rfl | hp
                · exact nDK
                · exact (off' p hp).2.2.1
        refine wpAny_mono (Z.turn i v I oI C oC K oK D ys nw h₃ tk₂ _ _ hlt' hv hG S' hoC dK F₃ N₃ off') (fun r s₄ h₄ => ?_) fun _ _ e => e
        obtain ⟨h₄, tk₄, nw₄, rfl, F₄, N₄, off₄, S₄, hG₄⟩ := h₄
        have zI := (N₄ (I, oI) List.mem_cons_self).1
        have zC := (N₄ (C, oC) (.tail _ (.head _))).1
        have zK := (N₄ (K, oK) (.tail _ (.tail _ (.head _)))).1
        have zD := (N₄ (D, lst ys) (.tail _ (.tail _ (.tail _ (.head _))))).1
        have N₄' : News h₀ env.locals h₄ nw₄ := fun p hp => N₄ p (.tail _ (.tail _ (.tail _ (.tail _ hp))))
        refine append_at (hsz := by show ys.toArray.size ≤ sizeLine; rw [List.size_toArray, hyl]; exact Nat.le_trans hi Z.sz) zD fun h₅ hs₅ hD₅ => ?_
        refine ⟨its.size + 1 - (i + 1), by omega, h₅, tk₄, i + 1, ys ++ [r], nw₄, oC, _, rfl, hlt', rfl, by rw [List.length_append, List.length_singleton, hyl], ⟨?_, ?_⟩, F₄.change hs₅ nDL D0, hs₅.extBut _ _ (Ne.symm nDC) zC, hoC, ⟨oK, hs₅.extBut _ _ (Ne.symm nDK) zK, dK⟩, fun p hp => ?_, off₄, S₄, hG₄⟩
        · exact ⟨oI, hs₅.extBut _ _ nID zI, rI⟩
        · obtain ⟨o', e', r'⟩ := S₄.list F₄.keep N₄'
          refine ⟨o', hs₅.extBut _ _ (fun q => ?_) e', r'⟩
          have q' : ax = D := q
          rcases S₄ with ⟨o, e, _⟩ | ⟨o, hm, _⟩
          · rw [q', D0] at e; cases e
          · exact (off₄ _ hm).2.2.2 q'
        · rcases List.mem_cons.mp hp with rfl | hp
          · exact ⟨hD₅.trans (congrArg some (lst_snoc ys r)), nDL, D0⟩
          · exact ⟨hs₅.extBut _ _ (off₄ p hp).2.2.2 (N₄' p hp).1, (N₄' p hp).2⟩
      · obtain rfl : i = its.size := Nat.le_antisymm hi (Nat.not_lt.mp hlt')
        refine W.done _ _ _ hst fun h₂ tk₂ hk₂ => ?_
        have F₂ : Fr h₀ env.locals h₂ m := fr_but F' hk₂ (Ne.symm nIL) I0
        have N₂ : News h₀ env.locals h₂ ((D, lst ys) :: nw) := news_but N' hk₂ hoffI
        have eC₂ : h₂.get? C = some oC := hk₂ _ _ (by simpa using Ne.symm nIC) eC
        show wpAny _ A (assign (.Name y py) env (.ref D)) _ _ _
        refine wpAny_assign_Name (wpAny_storeName_local hy F₂.ns (fun h₃ hn₃ hs₃ => ?_) hp)
        have hL₀ : h₀.get? env.locals = none := Heap.get?_none_of_le F₂.above
        have F₃ : Fr h₀ env.locals h₃ (fun z => if z = y then some (.ref D) else m z) := ⟨hn₃, fun b o e => hs₃.extBut b o (fun q => by rw [q, hL₀] at e; cases e) (F₂.keep b o e), F₂.above⟩
        refine ⟨_, (hoC.ns eC₂).sameBut hs₃ nCL, fun h'' hs'' => Z.fin ys nw D h'' _ hG (F₃.change hs'' nCL C0) (fun p hp => ?_) fun p hp => (off' p hp).2.2.2⟩
        have z : h₃.get? p.1 = some p.2 := hs₃.extBut _ _ (N₂ p hp).2.1 (N₂ p hp).1
        refine ⟨hs''.extBut _ _ ?_ z, (N₂ p hp).2⟩
        rcases List.mem_cons.mp hp with rfl | hp
        · exact nDC
        · exact (off' p hp).2.1
    · rcases List.mem_cons.mp hp with rfl | hp
      · exact ⟨hacc, nDL, D0⟩
      · exact ⟨old _ _ (N p hp).1, (N p hp).2⟩
  exact codeAny_compStart_list (loop _ rfl) (W.self 0 _ _ _ ⟨⟨_, hit, rfl, rfl⟩, hl₁⟩ (loop _ rfl))
end
end Mine
-- MChain
namespace Mine
theorem strKind_of {prog : Program} {w : World} {k : PySem.Str} {v : Value} (h : (PySem.strKind prog w).is k v = true) : ∃ t, v = .str k t := by
  cases v with
  | str x t =>
    have e : x = k := by simpa [PySem.strKind, Value.isStrOf] using h
    exact ⟨t, by rw [e]⟩
  | _ => simp [PySem.strKind, Value.isStrOf] at h
/-- the pieces of the three signs -/
def piecesF (sg : List Nat) : List (Tx × Nat) := TB.filter fun p => p.1.all fun c => sg.contains c
theorem filter_range {α : Type} (d : α) (p : α → Bool) (l : List α) : ((List.range l.length).filter fun i => p (l.getD i d)).map (fun i => l.getD i d) = l.filter p := by
  conv => rhs; rw [← range_getD d l]
  rw [List.filter_map]
  rfl
theorem tb_len {p : Tx × Nat} (h : p ∈ TB) : 1 ≤ p.1.length ∧ p.1.length ≤ 3 ∧ (∀ c ∈ p.1, c < 128) ∧ p.2 ≤ 54 ∧ look p.1 TB = some p.2 := by
  have h0 : (TB.all fun p => decide (1 ≤ p.1.length) && decide (p.1.length ≤ 3) && (p.1.all fun c => decide (c < 128)) && decide (p.2 ≤ 54) && decide (look p.1 TB = some p.2)) = true := by decide +kernel
  have h1 := List.all_eq_true.mp h0 p h
  simp only [Bool.and_eq_true, decide_eq_true_eq, List.all_eq_true] at h1
  exact ⟨h1.1.1.1.1, h1.1.1.1.2, h1.1.1.2, h1.1.2, h1.2⟩
theorem empty_all {sg l : List Nat} {ys : List Value} {R : Nat → Value → Prop} (h : Paired R ((List.range l.length).filter fun i => !sg.contains (l.getD i 0)) ys) : decide (ys = []) = l.all fun c => sg.contains c := by
  have e : (List.filter (fun c => !sg.contains c) l).length = ys.length := by
    rw [← filter_range 0, List.length_map]
    exact Paired.length h
  by_cases q : ys = []
  · subst q
    rw [decide_eq_true rfl]
    have := List.eq_nil_of_length_eq_zero (show (List.filter (fun c => !sg.contains c) l).length = 0 from e)
    rw [List.filter_eq_nil_iff] at this
    exact (List.all_eq_true.mpr fun c hc => by simpa using this c hc).symm
  · rw [decide_eq_false q]
    cases b : l.all fun c => sg.contains c with
    | false => rfl
    | true =>
      exfalso
      apply q
      have : List.filter (fun c => !sg.contains c) l = [] := by
        rw [List.filter_eq_nil_iff]
        intro c hc
        have := List.all_eq_true.mp b c hc
        simp only [this]
        decide
      rw [this] at e
      exact List.eq_nil_of_length_eq_zero e.symm
/-- the pieces that grow with the piece at j -/
def aheadF (ps : List (Tx × Nat)) (j : Nat) : List Nat := (List.range ps.length).filter fun i => growF (ps.getD i ([], 0)).1 (ps.getD j ([], 0)).1
def worthF (ps : List (Tx × Nat)) (ends : List (List Int)) (n j : Nat) : Int :=
  if n = (ps.getD j ([], 0)).1.length then 1
  else if (ps.getD j ([], 0)).1.length < n then ((aheadF ps j).map fun i => (ends.getD (n - (ps.getD j ([], 0)).1.length - 1) []).getD i 0).sum
  else 0
def cellF (ps : List (Tx × Nat)) (ends : List (List Int)) (n j : Nat) : Int := -4294967296 * ((ps.getD j ([], 0)).2 : Int) * worthF ps ends n j
def rowF (ps : List (Tx × Nat)) (ends : List (List Int)) (n : Nat) : List Int := (List.range ps.length).map (cellF ps ends n)
def endsF (ps : List (Tx × Nat)) : Nat → List (List Int)
  | 0 => []
  | n + 1 => endsF ps n ++ [rowF ps (endsF ps n) (n + 1)]
/-- the five sums -/
def sumsF (ps : List (Tx × Nat)) (n : Nat) : List Int := 1 :: (endsF ps n).map List.sum
theorem endsF_len (ps : List (Tx × Nat)) : ∀ n, (endsF ps n).length = n
  | 0 => rfl
  | n + 1 => by rw [endsF, List.length_append, endsF_len ps n]; rfl
theorem rowF_len (ps : List (Tx × Nat)) (ends : List (List Int)) (n : Nat) : (rowF ps ends n).length = ps.length := by simp [rowF]
theorem endsF_row {ps : List (Tx × Nat)} : ∀ {n k : Nat} {r : List Int}, (endsF ps n)[k]? = some r → r.length = ps.length
  | 0, k, r, h => by simp [endsF] at h
  | n + 1, k, r, h => by
    rw [endsF, List.getElem?_append] at h
    split at h
    · exact endsF_row h
    · have : r ∈ [rowF ps (endsF ps n) (n + 1)] := List.mem_of_getElem? h
      rw [List.mem_singleton.mp this]
      exact rowF_len ..
theorem sumsF_succ (ps : List (Tx × Nat)) (n : Nat) : sumsF ps (n + 1) = sumsF ps n ++ [(rowF ps (endsF ps n) (n + 1)).sum] := by
  simp [sumsF, endsF]
theorem pieces_len (sg : List Nat) : (piecesF sg).length ≤ 48 := List.length_filter_le _ _
theorem pieces_tb {sg : List Nat} {j : Nat} (h : j < (piecesF sg).length) : (piecesF sg).getD j ([], 0) ∈ TB := by
  have : (piecesF sg)[j] ∈ TB := (List.mem_filter.mp (List.getElem_mem h)).1
  rw [List.getD_eq_getElem?_getD, List.getElem?_eq_getElem h]
  exact this
end Mine
-- MCheck
namespace Mine
/-- a text as one number -/
def codeF (t : Tx) : Nat := t.foldl (fun a c => 128 * a + c) 0
noncomputable def lookN (k : Nat) (tb : List (Nat × Nat)) : Nat := List.rec (motive := fun _ => Nat) 0 (fun p _ ih => cond (Nat.beq p.1 k) p.2 ih) tb
def codes (tb : List (Tx × Nat)) : List (Nat × Nat) := tb.map fun p => (codeF p.1, p.2)
section
variable (tb : List (Nat × Nat))
noncomputable def x1 (c : Nat) : Nat := 4294967296 * lookN c tb
noncomputable def x2 (c d : Nat) : Nat := cond (Nat.beq (lookN (128 * c + d) tb) 0) (x1 tb c * x1 tb d) (4294967296 * lookN (128 * c + d) tb)
noncomputable def front3 (c d e p q r : Nat) : Nat := cond (Nat.beq (lookN (128 * (128 * c + d) + e) tb) 0)
  (cond (Nat.beq (lookN (128 * c + d) tb) 0) (x1 tb c * r) (4294967296 * lookN (128 * c + d) tb * q)) (4294967296 * lookN (128 * (128 * c + d) + e) tb * p)
noncomputable def x3 (c d e : Nat) : Nat := front3 tb c d e 1 (x1 tb e) (x2 tb d e)
def sum3 (c1 c2 c3 : Nat) (f : Nat → Nat) : Nat := f c1 + f c2 + f c3
variable (c1 c2 c3 : Nat)
noncomputable def z1 : Nat := sum3 c1 c2 c3 (x1 tb)
noncomputable def z2 : Nat := sum3 c1 c2 c3 fun c => sum3 c1 c2 c3 fun d => x2 tb c d
noncomputable def z3 : Nat := sum3 c1 c2 c3 fun c => sum3 c1 c2 c3 fun d => sum3 c1 c2 c3 fun e => x3 tb c d e
noncomputable def y1 (c : Nat) : Nat := sum3 c1 c2 c3 fun d => x2 tb c d
noncomputable def y2 (c d : Nat) : Nat := sum3 c1 c2 c3 fun e => x3 tb c d e
noncomputable def z4 : Nat := sum3 c1 c2 c3 fun c => sum3 c1 c2 c3 fun d => sum3 c1 c2 c3 fun e => front3 tb c d e (z1 tb c1 c2 c3) (y1 tb c1 c2 c3 e) (y2 tb c1 c2 c3 d e)
end
noncomputable def growB (tb : List (Nat × Nat)) (a b : Tx) : Bool := (List.range (3 - a.length)).any fun i => !(Nat.beq (lookN (codeF ((a ++ b).take (a.length + 1 + i))) tb) 0)
noncomputable def aheadB (tb : List (Nat × Nat)) (ps : List (Tx × Nat)) (j : Nat) : List Nat := (List.range ps.length).filter fun i => growB tb (ps.getD i ([], 0)).1 (ps.getD j ([], 0)).1
noncomputable def worthB (tb : List (Nat × Nat)) (ps : List (Tx × Nat)) (ends : List (List Int)) (n j : Nat) : Int :=
  if n = (ps.getD j ([], 0)).1.length then 1
  else if (ps.getD j ([], 0)).1.length < n then ((aheadB tb ps j).map fun i => (ends.getD (n - (ps.getD j ([], 0)).1.length - 1) []).getD i 0).sum
  else 0
noncomputable def cellB (tb : List (Nat × Nat)) (ps : List (Tx × Nat)) (ends : List (List Int)) (n j : Nat) : Int := -4294967296 * ((ps.getD j ([], 0)).2 : Int) * worthB tb ps ends n j
noncomputable def rowB (tb : List (Nat × Nat)) (ps : List (Tx × Nat)) (ends : List (List Int)) (n : Nat) : List Int := (List.range ps.length).map (cellB tb ps ends n)
noncomputable def endsB (tb : List (Nat × Nat)) (ps : List (Tx × Nat)) : Nat → List (List Int)
  | 0 => []
  | n + 1 => endsB tb ps n ++ [rowB tb ps (endsB tb ps n) (n + 1)]
noncomputable def sumsB (tb : List (Nat × Nat)) (ps : List (Tx × Nat)) (n : Nat) : List Int := 1 :: (endsB tb ps n).map List.sum
def TBN : List (Nat × Nat) := codes TB
noncomputable def chkB (tb : List (Nat × Nat)) (ps : List (Tx × Nat)) (c1 c2 c3 : Nat) : Bool :=
  match horner 352 (sumsB tb ps 4).reverse with
  | .ofNat B => (sumsB tb ps 4).all (fun d => Nat.blt d.natAbs (2 ^ 400)) && Nat.ble (2 ^ 1407) B && Nat.blt B (2 ^ 1408) && Nat.beq ((2 ^ 2816 + B / 2) / B) (2 ^ 1408 + 2 ^ 1056 * z1 tb c1 c2 c3 + 2 ^ 704 * z2 tb c1 c2 c3 + 2 ^ 352 * z3 tb c1 c2 c3 + z4 tb c1 c2 c3)
  | .negSucc _ => false
def sgF (a b : Nat) : List Nat := [61, pool.getD a 0, (pool.eraseIdx a).getD b 0]
noncomputable def chkP (a b : Nat) : Bool := chkB (codes (piecesF (sgF a b))) (piecesF (sgF a b)) 61 (pool.getD a 0) ((pool.eraseIdx a).getD b 0)
end Mine
-- MGood
namespace Mine
def OkT (t : Tx) : Prop := ∀ c ∈ t, 1 ≤ c ∧ c < 128
def codeR : Tx → Nat
  | [] => 0
  | c :: r => 128 * codeR r + c
theorem codeF_eq (t : Tx) : codeF t = codeR t.reverse := by
  have h : ∀ l : Tx, codeR l = l.foldr (fun c a => 128 * a + c) 0 := by
    intro l
    induction l with
    | nil => rfl
    | cons c r ih => rw [codeR, ih]; rfl
  rw [h, List.foldr_reverse]
  rfl
theorem codeR_inj : ∀ {s t : Tx}, OkT s → OkT t → codeR s = codeR t → s = t
  | [], [], _, _, _ => rfl
  | [], c :: r, _, h, e => by have := (h c List.mem_cons_self).1; simp only [codeR] at e; omega
  | c :: r, [], h, _, e => by have := (h c List.mem_cons_self).1; simp only [codeR] at e; omega
  | c :: r, d :: q, h1, h2, e => by
    have a := h1 c List.mem_cons_self
    have b := h2 d List.mem_cons_self
    simp only [codeR] at e
    have e1 : c = d := by omega
    have e2 : codeR r = codeR q := by omega
    rw [e1, codeR_inj (fun x hx => h1 x (List.mem_cons_of_mem _ hx)) (fun x hx => h2 x (List.mem_cons_of_mem _ hx)) e2]
theorem codeF_inj {s t : Tx} (hs : OkT s) (ht : OkT t) (e : codeF s = codeF t) : s = t := by
  rw [codeF_eq, codeF_eq] at e
  have := codeR_inj (fun c hc => hs c (List.mem_reverse.mp hc)) (fun c hc => ht c (List.mem_reverse.mp hc)) e
  simpa using this
theorem lookN_cons (k : Nat) (p : Nat × Nat) (r : List (Nat × Nat)) : lookN k (p :: r) = cond (Nat.beq p.1 k) p.2 (lookN k r) := rfl
theorem lookN_eq {t : Tx} (ht : OkT t) : ∀ {tb : List (Tx × Nat)}, (∀ p ∈ tb, OkT p.1) → lookN (codeF t) (codes tb) = (look t tb).getD 0
  | [], _ => rfl
  | p :: tb, h => by
    have ih := lookN_eq ht (tb := tb) fun q hq => h q (List.mem_cons_of_mem _ hq)
    show cond (Nat.beq (codeF p.1) (codeF t)) p.2 (lookN (codeF t) (codes tb)) = _
    unfold look
    by_cases e : p.1 = t
    · rw [if_pos e, e, show Nat.beq (codeF t) (codeF t) = true from Nat.beq_refl _]
      rfl
    · rw [if_neg e, ih]
      have : Nat.beq (codeF p.1) (codeF t) = false := by
        cases q : Nat.beq (codeF p.1) (codeF t) with
        | false => rfl
        | true => exact absurd (codeF_inj (h p List.mem_cons_self) ht (Nat.eq_of_beq_eq_true q)) e
      rw [this]
      rfl
theorem look_filter {t : Tx} {q : Tx → Bool} (hq : q t = true) : ∀ tb : List (Tx × Nat), look t (tb.filter fun p => q p.1) = look t tb
  | [] => rfl
  | p :: tb => by
    have ih := look_filter hq tb
    by_cases e : p.1 = t
    · rw [List.filter_cons_of_pos (by simpa [e] using hq)]
      simp only [look, if_pos e]
    · cases h : q p.1 with
      | true => rw [List.filter_cons_of_pos (by simpa using h)]; simp only [look, if_neg e]; exact ih
      | false => rw [List.filter_cons_of_neg (by simp [h])]; simp only [look, if_neg e]; exact ih
theorem tb_nb : (TB.all fun p => decide (look p.1 NB = some p.2)) = true := by decide +kernel
theorem nb_tb : (NB.all fun p => decide (look p.1 TB = some p.2)) = true := by decide +kernel
theorem look_same (t : Tx) : look t TB = look t NB := by
  cases e : look t TB with
  | some n => exact (of_decide_eq_true (List.all_eq_true.mp tb_nb _ (look_mem e))).symm
  | none =>
    cases q : look t NB with
    | none => rfl
    | some n =>
      have := of_decide_eq_true (List.all_eq_true.mp nb_tb _ (look_mem q))
      rw [e] at this
      cases this
theorem nb_pos : (NB.all fun p => decide (0 < p.2)) = true := by decide +kernel
theorem some_iff (t : Tx) : (look t NB).isSome = !(Nat.beq ((look t NB).getD 0) 0) := by
  cases e : look t NB with
  | none => rfl
  | some n =>
    have : 0 < n := of_decide_eq_true (List.all_eq_true.mp nb_pos _ (look_mem e))
    show true = !(Nat.beq n 0)
    cases n with
    | zero => exact absurd this (Nat.lt_irrefl _)
    | succ n => rfl
theorem tb_ok : ∀ p ∈ TB, OkT p.1 := by
  have h0 : (TB.all fun p => p.1.all fun c => decide (1 ≤ c) && decide (c < 128)) = true := by decide +kernel
  intro p hp c hc
  have := List.all_eq_true.mp (List.all_eq_true.mp h0 p hp) c hc
  simpa using this
/-- the table of the three signs serves their texts -/
theorem serve {sg : List Nat} (hsg : OkT sg) {t : Tx} (ht : ∀ c ∈ t, c ∈ sg) : lookN (codeF t) (codes (piecesF sg)) = numF t := by
  have h1 : OkT t := fun c hc => hsg c (ht c hc)
  have h2 : look t (piecesF sg) = look t TB := look_filter (q := fun x => x.all fun c => sg.contains c) (t := t) (List.all_eq_true.mpr fun c hc => by simpa using ht c hc) TB
  have h3 : ∀ p ∈ piecesF sg, OkT p.1 := fun p hp => tb_ok p (List.mem_filter.mp hp).1
  rw [lookN_eq h1 h3, h2, look_same]
  rfl
theorem serve_some {sg : List Nat} (hsg : OkT sg) {t : Tx} (ht : ∀ c ∈ t, c ∈ sg) : (look t NB).isSome = !(Nat.beq (lookN (codeF t) (codes (piecesF sg))) 0) := by
  rw [serve hsg ht]; exact some_iff t
/-- a text's share as one number -/
def encF (t : Tx) : Nat := 4294967296 ^ (toldF t).1 * (toldF t).2
theorem encF_nil : encF [] = 1 := rfl
theorem encF_cons (t : Tx) (h : 1 ≤ t.length) : encF t = 4294967296 * numF (frontF t) * encF (t.drop (frontF t).length) := by
  unfold encF
  rw [toldF_cons t h]
  simp only [Nat.pow_succ]
  simp only [Nat.mul_comm, Nat.mul_left_comm, Nat.mul_assoc]
theorem encF_one (c : Nat) : encF [c] = 4294967296 * numF [c] := by
  have : frontF [c] = [c] := by unfold frontF; simp
  rw [encF_cons [c] (Nat.le_refl _), this]
  simp [encF_nil]
theorem encF_two (c d : Nat) : encF [c, d] = if (look [c, d] NB).isSome then 4294967296 * numF [c, d] else 4294967296 * numF [c] * encF [d] := by
  rw [encF_cons [c, d] (by simp)]
  unfold frontF
  simp only [List.take_succ_cons, List.take_zero, List.take_nil]
  split
  · simp [encF_nil]
  · simp
theorem encF_three (c d e : Nat) (u : Tx) : encF (c :: d :: e :: u) = if (look [c, d, e] NB).isSome then 4294967296 * numF [c, d, e] * encF u else if (look [c, d] NB).isSome then 4294967296 * numF [c, d] * encF (e :: u) else 4294967296 * numF [c] * encF (d :: e :: u) := by
  rw [encF_cons _ (by simp)]
  by_cases h3 : (look [c, d, e] NB).isSome = true
  · rw [if_pos h3, show frontF (c :: d :: e :: u) = [c, d, e] from if_pos h3]
    rfl
  · rw [if_neg h3]
    by_cases h2 : (look [c, d] NB).isSome = true
    · rw [if_pos h2, show frontF (c :: d :: e :: u) = [c, d] from (if_neg h3).trans (if_pos h2)]
      rfl
    · rw [if_neg h2, show frontF (c :: d :: e :: u) = [c] from (if_neg h3).trans (if_neg h2)]
      rfl
section
variable {c1 c2 c3 : Nat} (hsg : OkT [c1, c2, c3])
include hsg
theorem x1_eq {c : Nat} (hc : c ∈ [c1, c2, c3]) : x1 (codes (piecesF [c1, c2, c3])) c = encF [c] := by
  rw [encF_one, ← serve hsg (t := [c]) (by simpa using hc)]
  unfold x1 codeF
  simp
theorem x2_eq {c d : Nat} (hc : c ∈ [c1, c2, c3]) (hd : d ∈ [c1, c2, c3]) : x2 (codes (piecesF [c1, c2, c3])) c d = encF [c, d] := by
  have ht : ∀ x ∈ [c, d], x ∈ [c1, c2, c3] := by
    intro x hx
    rcases List.mem_cons.mp hx with rfl | hx
    · exact hc
    · rw [List.mem_singleton.mp hx]; exact hd
  have hk : codeF [c, d] = 128 * c + d := by simp [codeF]
  rw [encF_two, serve_some hsg ht, ← serve hsg ht, hk, ← encF_one, ← x1_eq hsg hc, ← x1_eq hsg hd]
  unfold x2
  cases Nat.beq (lookN (128 * c + d) (codes (piecesF [c1, c2, c3]))) 0 <;> simp
theorem front3_eq {c d e : Nat} (hc : c ∈ [c1, c2, c3]) (hd : d ∈ [c1, c2, c3]) (he : e ∈ [c1, c2, c3]) (p q r : Nat) : front3 (codes (piecesF [c1, c2, c3])) c d e p q r =
    if (look [c, d, e] NB).isSome then 4294967296 * numF [c, d, e] * p else if (look [c, d] NB).isSome then 4294967296 * numF [c, d] * q else 4294967296 * numF [c] * r := by
  have ht : ∀ x ∈ [c, d, e], x ∈ [c1, c2, c3] := by
    intro x hx
    rcases List.mem_cons.mp hx with rfl | hx
    · exact hc
    · rcases List.mem_cons.mp hx with rfl | hx
      · exact hd
      · rw [List.mem_singleton.mp hx]; exact he
  have ht2 : ∀ x ∈ [c, d], x ∈ [c1, c2, c3] := by
    intro x hx
    rcases List.mem_cons.mp hx with rfl | hx
    · exact hc
    · rw [List.mem_singleton.mp hx]; exact hd
  have hk : codeF [c, d, e] = 128 * (128 * c + d) + e := by simp [codeF]
  have hk2 : codeF [c, d] = 128 * c + d := by simp [codeF]
  rw [serve_some hsg ht, ← serve hsg ht, hk, serve_some hsg ht2, ← serve hsg ht2, hk2, ← encF_one, ← x1_eq hsg hc]
  unfold front3
  cases Nat.beq (lookN (128 * (128 * c + d) + e) (codes (piecesF [c1, c2, c3]))) 0 <;> cases Nat.beq (lookN (128 * c + d) (codes (piecesF [c1, c2, c3]))) 0 <;> simp
theorem x3_eq {c d e : Nat} (hc : c ∈ [c1, c2, c3]) (hd : d ∈ [c1, c2, c3]) (he : e ∈ [c1, c2, c3]) : x3 (codes (piecesF [c1, c2, c3])) c d e = encF [c, d, e] := by
  unfold x3
  rw [front3_eq hsg hc hd he, encF_three, x1_eq hsg he, x2_eq hsg hd he, encF_nil]
end
/-- the sum of a function over a layer -/
def layS (sg : List Nat) (n : Nat) (f : Tx → Nat) : Nat := ((layerF sg n).map f).sum
theorem layS_zero (sg : List Nat) (f : Tx → Nat) : layS sg 0 f = f [] := by simp [layS, layerF]
theorem layS_succ (c1 c2 c3 n : Nat) (f : Tx → Nat) : layS [c1, c2, c3] (n + 1) f = sum3 c1 c2 c3 fun c => layS [c1, c2, c3] n fun u => f (c :: u) := by
  unfold layS sum3
  simp only [layerF, List.flatMap_cons, List.flatMap_nil, List.append_nil, List.map_append, List.map_map, List.sum_append, Function.comp_def]
  exact (Nat.add_assoc _ _ _).symm
theorem layS_mul (sg : List Nat) (n k : Nat) (f : Tx → Nat) : layS sg n (fun u => k * f u) = k * layS sg n f := by
  unfold layS
  generalize layerF sg n = l
  induction l with
  | nil => simp
  | cons a r ih => simp only [List.map_cons, List.sum_cons, ih, Nat.mul_add]
theorem sum3_congr {c1 c2 c3 : Nat} {f g : Nat → Nat} (h : ∀ c ∈ [c1, c2, c3], f c = g c) : sum3 c1 c2 c3 f = sum3 c1 c2 c3 g := by
  unfold sum3
  rw [h c1 (by simp), h c2 (by simp), h c3 (by simp)]
section
variable {c1 c2 c3 : Nat} (hsg : OkT [c1, c2, c3])
include hsg
theorem z1_eq : z1 (codes (piecesF [c1, c2, c3])) c1 c2 c3 = layS [c1, c2, c3] 1 encF := by
  unfold z1
  rw [layS_succ]
  refine sum3_congr fun c hc => ?_
  rw [layS_zero, x1_eq hsg hc]
theorem y1_eq {e : Nat} (he : e ∈ [c1, c2, c3]) : y1 (codes (piecesF [c1, c2, c3])) c1 c2 c3 e = layS [c1, c2, c3] 1 fun u => encF (e :: u) := by
  unfold y1
  rw [layS_succ]
  refine sum3_congr fun c hc => ?_
  rw [layS_zero, x2_eq hsg he hc]
theorem y2_eq {d e : Nat} (hd : d ∈ [c1, c2, c3]) (he : e ∈ [c1, c2, c3]) : y2 (codes (piecesF [c1, c2, c3])) c1 c2 c3 d e = layS [c1, c2, c3] 1 fun u => encF (d :: e :: u) := by
  unfold y2
  rw [layS_succ]
  refine sum3_congr fun c hc => ?_
  rw [layS_zero, x3_eq hsg hd he hc]
theorem z2_eq : z2 (codes (piecesF [c1, c2, c3])) c1 c2 c3 = layS [c1, c2, c3] 2 encF := by
  unfold z2
  rw [layS_succ]
  refine sum3_congr fun c hc => ?_
  rw [← y1_eq hsg hc]
  rfl
theorem z3_eq : z3 (codes (piecesF [c1, c2, c3])) c1 c2 c3 = layS [c1, c2, c3] 3 encF := by
  unfold z3
  rw [layS_succ]
  refine sum3_congr fun c hc => ?_
  rw [layS_succ]
  refine sum3_congr fun d hd => ?_
  rw [← y2_eq hsg hc hd]
  rfl
theorem z4_eq : z4 (codes (piecesF [c1, c2, c3])) c1 c2 c3 = layS [c1, c2, c3] 4 encF := by
  unfold z4
  rw [layS_succ]
  refine sum3_congr fun c hc => ?_
  rw [layS_succ]
  refine sum3_congr fun d hd => ?_
  rw [layS_succ]
  refine sum3_congr fun e he => ?_
  rw [front3_eq hsg hc hd he, z1_eq hsg, y1_eq hsg he, y2_eq hsg hd he]
  simp only [encF_three]
  split
  · rw [layS_mul]
  · split
    · rw [layS_mul]
    · rw [layS_mul]
end
end Mine
-- MGood2
namespace Mine
theorem horner_set (n : Nat) (x : Int) : ∀ (fs : List Int) (i : Nat), i < fs.length → horner n (fs.set i (fs.getD i 0 + x)) = horner n fs + 2 ^ (n * i) * x
  | [], i, h => by simp at h
  | d :: r, 0, _ => by simp [horner]; omega
  | d :: r, i + 1, h => by
    have ih := horner_set n x r i (by simpa using h)
    rw [List.set_cons_succ, List.getD_cons_succ]
    simp only [horner]
    rw [ih, Int.mul_add, show n * (i + 1) = n + n * i from by rw [Nat.mul_add]; omega, Int.pow_add, Int.mul_assoc]
    omega
theorem horner_bump {n : Nat} {t : Tx} (hn : 1 ≤ n) (hn4 : n ≤ 4) (ht : t.length = n) {fs : List Int} (hf : fs.length = 45) : horner 32 (bumpF n fs t) = horner 32 fs + 2 ^ (32 * (44 - 11 * n)) * ((encF t : Nat) : Int) := by
  have hk := (toldF_le t).1
  unfold bumpF
  rw [horner_set _ _ _ _ (by rw [hf]; omega)]
  unfold encF
  have e : ∀ k : Nat, (2 : Int) ^ (32 * k) = ((4294967296 : Nat) : Int) ^ k := fun k => by
    rw [Int.pow_mul]
    rfl
  rw [Nat.mul_add, Int.pow_add, Int.natCast_mul, Int.natCast_pow, Int.mul_assoc, e (toldF t).1]
theorem horner_fold {n : Nat} (hn : 1 ≤ n) (hn4 : n ≤ 4) : ∀ (ts : List Tx) (fs : List Int), (∀ t ∈ ts, t.length = n) → fs.length = 45 → horner 32 (ts.foldl (bumpF n) fs) = horner 32 fs + 2 ^ (32 * (44 - 11 * n)) * (((ts.map encF).sum : Nat) : Int)
  | [], fs, _, _ => by simp
  | t :: ts, fs, h, hf => by
    rw [List.foldl_cons, horner_fold hn hn4 ts _ (fun t ht => h t (List.mem_cons_of_mem _ ht)) (by rw [bumpF, List.length_set]; exact hf), horner_bump hn hn4 (h t List.mem_cons_self) hf, List.map_cons, List.sum_cons, Int.natCast_add, Int.mul_add]
    omega
theorem horner_start : ∀ k, horner 32 (List.replicate k 0 ++ [1]) = 2 ^ (32 * k)
  | 0 => by simp [horner]
  | k + 1 => by
    rw [List.replicate_succ, List.cons_append, horner, horner_start k, Nat.mul_add, Nat.add_comm (32 * k), Int.pow_add]
    simp
theorem horner_read (sg : List Nat) {n : Nat} (h : n < 4) : horner 32 (readN sg (n + 1)) = horner 32 (readN sg n) + 2 ^ (32 * (44 - 11 * (n + 1))) * ((layS sg (n + 1) encF : Nat) : Int) :=
  horner_fold (by omega) (by omega) _ _ (fun t ht => layer_len ht) (readN_len sg n)
/-- figures within bounds -/
def InB (M : Int) (fs : List Int) : Prop := ∀ d ∈ fs, 0 ≤ d ∧ d ≤ M
theorem inB_fold {n : Nat} (hn4 : n ≤ 4) : ∀ (ts : List Tx) (fs : List Int) (M : Int), 0 ≤ M → (∀ t ∈ ts, t.length = n) → InB M fs → InB (M + 8503056 * (ts.length : Int)) (ts.foldl (bumpF n) fs)
  | [], fs, M, _, _, h => by simpa using h
  | t :: ts, fs, M, hM, ht, h => by
    rw [List.foldl_cons]
    have hw : (toldF t).2 ≤ 8503056 := by
      refine Nat.le_trans (toldF_le t).2 ?_
      rw [ht t List.mem_cons_self]
      exact Nat.pow_le_pow_right (by decide) hn4
    have h1 : InB (M + 8503056) (bumpF n fs t) := by
      intro d hd
      unfold bumpF at hd
      rcases List.mem_or_eq_of_mem_set hd with hd | rfl
      · have := h d hd; omega
      · have h0 : 0 ≤ fs.getD (44 - 11 * n + (toldF t).1) 0 ∧ fs.getD (44 - 11 * n + (toldF t).1) 0 ≤ M := by
          rw [List.getD_eq_getElem?_getD]
          cases e : fs[44 - 11 * n + (toldF t).1]? with
          | none => exact ⟨Int.le_refl _, hM⟩
          | some x => exact h x (List.mem_of_getElem? e)
        omega
    have := inB_fold hn4 ts _ (M + 8503056) (by omega) (fun t h => ht t (List.mem_cons_of_mem _ h)) h1
    intro d hd
    have h2 := this d hd
    rw [List.length_cons]
    omega
theorem inB_read (c1 c2 c3 : Nat) : InB 4294967295 (readN [c1, c2, c3] 4) := by
  have h0 : InB 1 (readN [c1, c2, c3] 0) := by
    intro d hd
    rcases List.mem_append.mp (show d ∈ List.replicate 44 0 ++ [1] from hd) with h | h
    · rw [List.eq_of_mem_replicate h]; decide
    · rw [List.mem_singleton.mp h]; decide
  have h1 := inB_fold (n := 1) (by decide) (layerF [c1, c2, c3] 1) _ _ (by decide) (fun t ht => layer_len ht) h0
  have h2 := inB_fold (n := 2) (by decide) (layerF [c1, c2, c3] 2) _ _ (by omega) (fun t ht => layer_len ht) h1
  have h3 := inB_fold (n := 3) (by decide) (layerF [c1, c2, c3] 3) _ _ (by omega) (fun t ht => layer_len ht) h2
  have h4 := inB_fold (n := 4) (by decide) (layerF [c1, c2, c3] 4) _ _ (by omega) (fun t ht => layer_len ht) h3
  simp only [layer_len3] at h4
  intro d hd
  have := h4 d hd
  omega
theorem digs_horner {n : Nat} : ∀ (ds : List Int), ds ≠ [] → (∀ d ∈ ds, 0 ≤ d ∧ d < 2 ^ n) → 0 ≤ horner n ds ∧ digs n ds.length (horner n ds).toNat = ds
  | [], h, _ => absurd rfl h
  | [d], _, h => by
    have hd := h d List.mem_cons_self
    have e : horner n [d] = d := by simp [horner]
    rw [e]
    refine ⟨hd.1, ?_⟩
    simp [digs, Int.toNat_of_nonneg hd.1]
  | d :: e :: r, _, h => by
    have hd := h d List.mem_cons_self
    obtain ⟨h0, ih⟩ := digs_horner (n := n) (e :: r) (by simp) fun x hx => h x (List.mem_cons_of_mem _ hx)
    rw [show horner n (d :: e :: r) = d + 2 ^ n * horner n (e :: r) from rfl]
    generalize hg : horner n (e :: r) = g at h0 ih
    obtain ⟨gn, rfl⟩ := Int.eq_ofNat_of_zero_le h0
    obtain ⟨dn, rfl⟩ := Int.eq_ofNat_of_zero_le hd.1
    have hlt : dn < 2 ^ n := by have := hd.2; exact_mod_cast this
    have e1 : ((dn : Int) + 2 ^ n * (gn : Int)) = ((dn + 2 ^ n * gn : Nat) : Int) := by simp
    rw [e1]
    refine ⟨Int.natCast_nonneg _, ?_⟩
    rw [Int.toNat_natCast]
    rw [Int.toNat_natCast] at ih
    have hp : 0 < 2 ^ n := Nat.two_pow_pos n
    have e2 : (dn + 2 ^ n * gn) % 2 ^ n = dn := by rw [Nat.add_mul_mod_self_left, Nat.mod_eq_of_lt hlt]
    have e3 : (dn + 2 ^ n * gn) / 2 ^ n = gn := by rw [Nat.add_mul_div_left _ _ hp, Nat.div_eq_of_lt hlt, Nat.zero_add]
    show digs n ((e :: r).length + 1) _ = _
    unfold digs
    rw [if_neg (by simp), e2, e3, ih]
end Mine
-- MGood3
namespace Mine
/-- what the law says of three signs -/
structure Good (sg : List Nat) (B A : Nat) : Prop where
  ok : ∀ c ∈ sg, (look [c] NB).isSome = true
  hB : horner 352 (sumsF (piecesF sg) 4).reverse = (B : Int)
  small : ∀ lo k, Builtin.Int.intBits (horner 352 (((sumsF (piecesF sg) 4).reverse.drop lo).take k)) ≤ 10000000
  pB : 0 < B
  pA : 0 < A
  bB : Builtin.Int.intBits (B : Int) = 1408
  hA : (2 : Int) ^ (2816 : Int).toNat + Int.fdiv (B : Int) 2 = (A : Int)
  bA : Builtin.Int.intBits (A : Int) = 2817
  pQ : 0 < A / B
  bQ : Builtin.Int.intBits ((A / B : Nat) : Int) ≤ 1410
  kQ : (Builtin.Int.intBits ((A / B : Nat) : Int) + 32 - 1) / 32 = 45
  read : digs 32 45 (A / B) = readN sg 4
theorem grow_same {sg : List Nat} (hsg : OkT sg) {a b : Tx} (ha : ∀ c ∈ a, c ∈ sg) (hb : ∀ c ∈ b, c ∈ sg) : growF a b = growB (codes (piecesF sg)) a b := by
  unfold growF growB
  congr 1
  funext i
  have ht : ∀ c ∈ (a ++ b).take (a.length + 1 + i), c ∈ sg := fun c hc => by
    rcases List.mem_append.mp (List.mem_of_mem_take hc) with h | h
    · exact ha c h
    · exact hb c h
  rw [← serve_some hsg ht, look_same]
theorem piece_in (sg : List Nat) (j : Nat) : ∀ c ∈ ((piecesF sg).getD j ([], 0)).1, c ∈ sg := by
  intro c hc
  rw [List.getD_eq_getElem?_getD] at hc
  cases e : (piecesF sg)[j]? with
  | none => rw [e] at hc; simp at hc
  | some p =>
    rw [e] at hc
    have hp := (List.mem_filter.mp (List.mem_of_getElem? e)).2
    simpa using List.all_eq_true.mp hp c hc
theorem ahead_same {sg : List Nat} (hsg : OkT sg) : aheadF (piecesF sg) = aheadB (codes (piecesF sg)) (piecesF sg) := by
  funext j
  unfold aheadF aheadB
  congr 1
  funext i
  exact grow_same hsg (piece_in sg i) (piece_in sg j)
theorem ends_same {tb : List (Nat × Nat)} {ps : List (Tx × Nat)} (h : aheadF ps = aheadB tb ps) : ∀ n, endsF ps n = endsB tb ps n
  | 0 => rfl
  | n + 1 => by
    have hc : ∀ ends m, rowF ps ends m = rowB tb ps ends m := by
      intro ends m
      unfold rowF rowB
      congr 1
      funext j
      unfold cellF cellB worthF worthB
      rw [h]
    rw [endsF, endsB, ends_same h n, hc]
theorem sums_same {sg : List Nat} (hsg : OkT sg) (n : Nat) : sumsF (piecesF sg) n = sumsB (codes (piecesF sg)) (piecesF sg) n := by
  unfold sumsF sumsB
  rw [ends_same (ahead_same hsg)]
/-- powers as opaque numbers -/
theorem bits_of {x : Nat} {m : Nat} (h1 : 2 ^ m ≤ x) (h2 : x < 2 ^ (m + 1)) : Builtin.Int.intBits (x : Int) = m + 1 := by
  apply Nat.le_antisymm
  · exact intBits_le_iff.mpr (by simpa using h2)
  · rcases Nat.lt_or_ge m (Builtin.Int.intBits (x : Int)) with h | h
    · exact h
    · have := intBits_le_iff.mp h
      rw [Int.natAbs_natCast] at this
      omega
theorem half_lem (n B : Nat) : (2 : Int) ^ n + Int.fdiv (B : Int) 2 = ((2 ^ n + B / 2 : Nat) : Int) := by
  rw [Int.fdiv_eq_ediv_of_nonneg _ (by decide)]
  simp
theorem cast_lem (a b c d l1 l2 l3 l4 : Nat) : ((2 ^ a + 2 ^ b * l1 + 2 ^ c * l2 + 2 ^ d * l3 + l4 : Nat) : Int) = 2 ^ a + 2 ^ b * (l1 : Int) + 2 ^ c * (l2 : Int) + 2 ^ d * (l3 : Int) + 2 ^ 0 * (l4 : Int) := by simp
theorem top_lt {a b B : Nat} (h : B < 2 ^ a) (hab : a ≤ b) : 2 ^ b + B / 2 < 2 ^ (b + 1) := by
  have h1 : 2 ^ a ≤ 2 ^ b := Nat.pow_le_pow_right (by decide) hab
  rw [Nat.pow_succ]
  omega
theorem quo_lt {a b B A : Nat} (h : 2 ^ a ≤ B) (hA : A < 2 ^ (a + b)) : A / B < 2 ^ b := by
  refine Nat.div_lt_of_lt_mul (Nat.lt_of_lt_of_le hA ?_)
  rw [Nat.pow_add]
  exact Nat.mul_le_mul_right _ h
theorem bits_two {x m : Nat} (h1 : 2 ^ m ≤ x) (h2 : x < 2 ^ (m + 2)) : m + 1 ≤ Builtin.Int.intBits (x : Int) ∧ Builtin.Int.intBits (x : Int) ≤ m + 2 := by
  refine ⟨?_, intBits_le_iff.mpr (by simpa using h2)⟩
  rcases Nat.lt_or_ge m (Builtin.Int.intBits (x : Int)) with h | h
  · exact h
  · have := intBits_le_iff.mp h
    rw [Int.natAbs_natCast] at this
    omega
theorem good_of {c1 c2 c3 : Nat} (hsg : OkT [c1, c2, c3]) (hok : ∀ c ∈ [c1, c2, c3], (look [c] NB).isSome = true) (h : chkB (codes (piecesF [c1, c2, c3])) (piecesF [c1, c2, c3]) c1 c2 c3 = true) : ∃ B A, Good [c1, c2, c3] B A := by
  unfold chkB at h
  rw [z1_eq hsg, z2_eq hsg, z3_eq hsg, z4_eq hsg, ← sums_same hsg] at h
  have hS : horner 32 (readN [c1, c2, c3] 4) = 2 ^ 1408 + 2 ^ 1056 * ((layS [c1, c2, c3] 1 encF : Nat) : Int) + 2 ^ 704 * ((layS [c1, c2, c3] 2 encF : Nat) : Int) + 2 ^ 352 * ((layS [c1, c2, c3] 3 encF : Nat) : Int) + 2 ^ 0 * ((layS [c1, c2, c3] 4 encF : Nat) : Int) := by
    rw [horner_read _ (n := 3) (by decide), horner_read _ (n := 2) (by decide), horner_read _ (n := 1) (by decide), horner_read _ (n := 0) (by decide)]
    rw [show horner 32 (readN [c1, c2, c3] 0) = 2 ^ (32 * 44) from horner_start 44]
  generalize layS [c1, c2, c3] 1 encF = l1 at h hS
  generalize layS [c1, c2, c3] 2 encF = l2 at h hS
  generalize layS [c1, c2, c3] 3 encF = l3 at h hS
  generalize layS [c1, c2, c3] 4 encF = l4 at h hS
  cases hb : horner 352 (sumsF (piecesF [c1, c2, c3]) 4).reverse with
  | negSucc b => rw [hb] at h; cases h
  | ofNat B =>
    rw [hb] at h
    simp only [Bool.and_eq_true] at h
    obtain ⟨⟨⟨ha, h1⟩, h2⟩, h3⟩ := h
    have h1 := Nat.le_of_ble_eq_true h1
    have h2 : B < 2 ^ 1408 := Nat.le_of_ble_eq_true h2
    have h3 := Nat.eq_of_beq_eq_true h3
    have hT := top_lt (b := 2816) h2 (by decide)
    have hq1 : 2 ^ 1408 ≤ (2 ^ 2816 + B / 2) / B := by
      rw [h3]
      exact Nat.le_trans (Nat.le_trans (Nat.le_trans (Nat.le_add_right _ _) (Nat.le_add_right _ _)) (Nat.le_add_right _ _)) (Nat.le_add_right _ _)
    have hq2 : (2 ^ 2816 + B / 2) / B < 2 ^ 1410 := quo_lt (a := 1407) (b := 1410) h1 hT
    obtain ⟨hb1, hb2⟩ := bits_two (m := 1408) hq1 hq2
    have hh : horner 32 (readN [c1, c2, c3] 4) = (((2 ^ 2816 + B / 2) / B : Nat) : Int) := by
      rw [h3, hS]
      exact (cast_lem 1408 1056 704 352 l1 l2 l3 l4).symm
    have hl := readN_len [c1, c2, c3] 4
    have hd := (digs_horner (n := 32) (readN [c1, c2, c3] 4) (by intro q; rw [q] at hl; cases hl) (fun d hd => by
      have := inB_read c1 c2 c3 d hd
      exact ⟨this.1, Int.lt_of_le_of_lt this.2 (by decide)⟩)).2
    rw [hh, hl, Int.toNat_natCast] at hd
    have hW := horner_bits (W := 400) (n := 352) (ds := (sumsF (piecesF [c1, c2, c3]) 4).reverse) (fun d hd => Nat.le_of_ble_eq_true (List.all_eq_true.mp ha d (List.mem_reverse.mp hd))) (by decide) (by decide) (by rw [List.length_reverse]; simp only [sumsF, List.length_cons, List.length_map, endsF_len]; decide)
    have hP : 0 < 2 ^ 1407 := Nat.two_pow_pos _
    have hP2 : 0 < 2 ^ 2816 := Nat.two_pow_pos _
    have hP3 : 0 < 2 ^ 1408 := Nat.two_pow_pos _
    refine ⟨B, 2 ^ 2816 + B / 2, hok, hb, hW, Nat.lt_of_lt_of_le hP h1, Nat.lt_of_lt_of_le hP2 (Nat.le_add_right _ _), bits_of (m := 1407) h1 h2, half_lem 2816 B, bits_of (m := 2816) (Nat.le_add_right _ _) hT, Nat.lt_of_lt_of_le hP3 hq1, hb2, ?_, hd⟩
    generalize Builtin.Int.intBits _ = x at hb1 hb2
    omega
end Mine
-- MFin
namespace Mine
theorem row_0 : ((List.range 21).all (chkP 0)) = true := by decide +kernel
theorem row_1 : ((List.range 21).all (chkP 1)) = true := by decide +kernel
theorem row_2 : ((List.range 21).all (chkP 2)) = true := by decide +kernel
theorem row_3 : ((List.range 21).all (chkP 3)) = true := by decide +kernel
theorem row_4 : ((List.range 21).all (chkP 4)) = true := by decide +kernel
theorem row_5 : ((List.range 21).all (chkP 5)) = true := by decide +kernel
theorem row_6 : ((List.range 21).all (chkP 6)) = true := by decide +kernel
theorem row_7 : ((List.range 21).all (chkP 7)) = true := by decide +kernel
theorem row_8 : ((List.range 21).all (chkP 8)) = true := by decide +kernel
theorem row_9 : ((List.range 21).all (chkP 9)) = true := by decide +kernel
theorem row_10 : ((List.range 21).all (chkP 10)) = true := by decide +kernel
theorem row_11 : ((List.range 21).all (chkP 11)) = true := by decide +kernel
theorem row_12 : ((List.range 21).all (chkP 12)) = true := by decide +kernel
theorem row_13 : ((List.range 21).all (chkP 13)) = true := by decide +kernel
theorem row_14 : ((List.range 21).all (chkP 14)) = true := by decide +kernel
theorem row_15 : ((List.range 21).all (chkP 15)) = true := by decide +kernel
theorem row_16 : ((List.range 21).all (chkP 16)) = true := by decide +kernel
theorem row_17 : ((List.range 21).all (chkP 17)) = true := by decide +kernel
theorem row_18 : ((List.range 21).all (chkP 18)) = true := by decide +kernel
theorem row_19 : ((List.range 21).all (chkP 19)) = true := by decide +kernel
theorem row_20 : ((List.range 21).all (chkP 20)) = true := by decide +kernel
theorem row_21 : ((List.range 21).all (chkP 21)) = true := by decide +kernel
theorem chk_all : ∀ a, a < 22 → ((List.range 21).all (chkP a)) = true
  | 0, _ => row_0
  | 1, _ => row_1
  | 2, _ => row_2
  | 3, _ => row_3
  | 4, _ => row_4
  | 5, _ => row_5
  | 6, _ => row_6
  | 7, _ => row_7
  | 8, _ => row_8
  | 9, _ => row_9
  | 10, _ => row_10
  | 11, _ => row_11
  | 12, _ => row_12
  | 13, _ => row_13
  | 14, _ => row_14
  | 15, _ => row_15
  | 16, _ => row_16
  | 17, _ => row_17
  | 18, _ => row_18
  | 19, _ => row_19
  | 20, _ => row_20
  | 21, _ => row_21
  | n + 22, h => absurd h (by omega)
theorem pool_ok : (pool.all fun c => (look [c] NB).isSome && decide (1 ≤ c) && decide (c < 128)) = true := by decide +kernel
theorem good_all (a : Nat) (ha : a < 22) (b : Nat) (hb : b < 21) : ∃ B A, Good (sgF a b) B A := by
  have h := List.all_eq_true.mp (chk_all a ha) b (List.mem_range.mpr hb)
  have h1 : pool.getD a 0 ∈ pool := by
    rw [List.getD_eq_getElem?_getD, List.getElem?_eq_getElem (show a < pool.length from ha)]
    exact List.getElem_mem _
  have h2 : (pool.eraseIdx a).getD b 0 ∈ pool := by
    have hl : b < (pool.eraseIdx a).length := by rw [List.length_eraseIdx_of_lt (show a < pool.length from ha)]; exact hb
    rw [List.getD_eq_getElem?_getD, List.getElem?_eq_getElem hl]
    exact List.mem_of_mem_eraseIdx (List.getElem_mem hl)
  have hp : ∀ c ∈ pool, (look [c] NB).isSome = true ∧ 1 ≤ c ∧ c < 128 := fun c hc => by
    have := List.all_eq_true.mp pool_ok c hc
    simp only [Bool.and_eq_true, decide_eq_true_eq] at this
    exact ⟨this.1.1, this.1.2, this.2⟩
  have hall : ∀ c ∈ sgF a b, (look [c] NB).isSome = true ∧ 1 ≤ c ∧ c < 128 := by
    intro c hc
    rcases List.mem_cons.mp (show c ∈ [61, pool.getD a 0, (pool.eraseIdx a).getD b 0] from hc) with rfl | hc
    · exact ⟨by decide +kernel, by decide, by decide⟩
    · rcases List.mem_cons.mp hc with rfl | hc
      · exact hp _ h1
      · rw [List.mem_singleton.mp hc]; exact hp _ h2
  exact good_of (fun c hc => (hall c hc).2) (fun c hc => (hall c hc).1) h
end Mine
namespace Mine
local macro_rules | `(tactic| k_all) => `(tactic| first | assumption | exact TailLt.ne (by assumption) (by omega))
local macro_rules | `(tactic| walk_at "m enterC") => `(tactic| (refine' code_defC ?k1 ?k2 ?k3 ?k4 ?k5 ?kA ?kF ?kK ?k6 ?k7 ?k8 ?k9 ?kB ?kD ?_ ?c2 ?c3 ?c4; (case kA => exact rfl); (case kF => exact rfl); (case kK => assumption); (case k1 => k_asm); (case k2 => k_asm); (case k3 => k_asm); (case k4 => k_asm); (case k5 => k_asm); (case k6 => k_is); (case k7 => k_is); (case k8 => ktr_room); (case k9 => exact BindsTo.of_eq rfl); (case kB => exact rfl); (case kD => decide +kernel); (case c2 => exact rfl); (case c3 => exact rfl); (case c4 => exact rfl); k_whole; intro g' L' h' tk' cells' FG' F' N' Y' B' X' T' l1; (try k_lt l1); k_cells Y'; (try simp only [List.cons_append, List.nil_append] at N'); (try dsimp only); (try k_lift B'); (try k_fold)))
local macro_rules | `(tactic| walk_at "m enterN") => `(tactic| (refine' code_nest ?k1 ?k2 ?k3 ?k4 ?k5 ?kA ?kF ?kK ?k6 ?k7 ?k8 ?k9 ?kB ?_ ?c2 ?c3 ?c4 ?c5; (case kA => exact rfl); (case kF => exact rfl); (case kK => assumption); (case k1 => k_asm); (case k2 => k_asm); (case k3 => k_asm); (case k4 => k_asm); (case k5 => k_asm); (case k6 => k_mem); (case k7 => exact codeRecQ (by k_asm) (by k_mem) (by assumption) (by assumption) (by first | rfl | kernel_rfl)); (case k8 => ktr_room); (case k9 => exact BindsTo.of_eq rfl); (case c5 => decide); (case kB => exact locs rfl); (case c2 => exact rfl); (case c3 => exact rfl); (case c4 => exact rfl); k_whole; intro g' L' h' FG' F' N' B' X' T'; (try dsimp only); (try k_lift B'); (try k_fold)))
local macro_rules | `(tactic| kcj_all) => `(tactic| ((repeat' (first | exact List.Mem.head _ | refine sub_cons' ?_ ?_ | refine List.Mem.tail _ ?_ | exact fun _ h => h | refine sub_tail' ?_)); done))
-- CGrow
section

theorem ints_of {f : Nat → Int} : ∀ {ks : List Nat} {ys : List Value}, Paired (fun i v => ∃ t, v = .int (f i) t) ks ys → IntsAre ys (ks.map f)
  | _, _, .nil => .nil
  | _, _, .cons ⟨t, h⟩ r => by subst h; exact .cons _ t (ints_of r)


/-- «text in EXACT_TOKEN_TYPES» -/
theorem in_ett {prog : Program} {w : World} {A : Around} {E : Value → Shared → Prop} {s : Shared} {l : Tx} {x : PySem.Str} {t : Tok} {Q : Value → Shared → Prop} (X : (hd.heap_39 w.params).In s.heap) (hx : x = ofL l) (h : Q (.bool (look l TB).isSome) { s with toks := s.toks + 1 }) :
    wpAny (model prog w) A (compareOp .In (.str x t) (.ref 50)) Q E s := by
  subst hx
  obtain ⟨kvs, hd, hb⟩ := ett_at (prog := prog) X
  refine wpAny_in_of (f := valueAt kvs) (strKind_is prog w _ t) rfl ?_ ?_
  · exact (dictAt_of hd).mapOf
  · rw [hb.isSome]; exact h

theorem grow_eq (f : Nat → Int) (p : Nat → Bool) (l : List Nat) : (!decide (List.map f (List.filter p l) = [])) = l.any p := by
  induction l with
  | nil => rfl
  | cons x r ih =>
    rw [List.any_cons, ← ih, List.filter_cons]
    cases p x <;> simp
theorem grow {w : World} {mean : ExcName → Option Value} {mg mb : PySem.Str → Option Value} {news : List (Addr × Obj)} {a b : Tx} {t1 t2 : Tok} (h1 : 1 ≤ a.length) (h2 : a.length ≤ 3) (h3 : b.length ≤ 3) :
   Ctr w mean mg mb 76 1 100 news [.str (ofL a) t1, .str (ofL b) t2] (fun h₀ L m s Q =>
    ∀ (h' : Heap) (tk' : Nat), Fr h₀ L h' m → News h₀ L h' news → Q (.bool (growF a b)) { s with heap := h', toks := tk' }) := by
  intro dp un gd cn cs ad ccd cl outer A₀ base h₀ L m s Q E B F X N T hk hd hu hret
  have l1 := ofL_length a
  have l2 := ofL_length b
  refine wpAny_call ?_
  k_dflt (walk_at "m enterC")
  iterate 3 walk1
  k_dflt (refine LCt.ListComp_T (F₀ := by k_asm) (by with_unfolding_all rfl) (by decide) (by rfl) (by decide) (by rfl) ?_)
  iterate 18 (first | walk1 | (dsimp only; walk1))
  k_dflt (refine LCt.CompSrcT.range (n := 3 - a.length) (by rfl) (by k_asm) (by k_asm) (by assumption) (small_of (by omega) (by omega) (by omega) (by omega)) (size_of (by omega)) (by size_fits) ?_)
  intro g9
  refine restT_filter (fun i => (look ((a ++ b).take (a.length + 1 + i)) TB).isSome) (fun i v => ∃ t, v = .int ((ofL a).length + 1 + i) t) trivial ?_ ?_ ?_
  · intro i v I oI C oC D m₂ ys h tk E' hi hv hC hx F9 N9 off9 ne9
    obtain ⟨t9, rfl⟩ := hv
    iterate 12 (first | walk1 | (dsimp only; walk1))
    try dsimp only
    walk1
    walk1
    try dsimp only
    k_dflt (refine in_ett (l := (a ++ b).take (a.length + 1 + i)) (by k_in) (by rw [ofL_append, slice_to _ (by omega), l1]; exact congrArg (fun k => ofL (List.take k (a ++ b))) (by omega)) ?_)
    try dsimp only
    walk1
    try dsimp only
    exact ⟨rfl, SameEnd.mk (by k_asm) (by k_asm)⟩
  · intro i v I oI C oC D m₂ ys h tk E' hi hp hv hC hx F9 N9 off9 ne9
    obtain ⟨t9, rfl⟩ := hv
    try dsimp only
    walk1
    try dsimp only
    exact ⟨⟨_, rfl⟩, SameEnd.mk (by k_asm) (by k_asm)⟩
  · intro ys hys D h tk F9 N9 off9
    have hI := ints_of hys
    try dsimp only
    iterate 3 (first | walk1 | (dsimp only; walk1))
    k_dflt (refine ne_intsK (by is_list) hI (by is_list) IntsAre.nil (by units_room) ?_)
    walk1
    try dsimp only
    have e : (!decide (List.map (fun i : Nat => ((ofL a).length : Int) + 1 + (i : Int)) (List.filter (fun i => (look (List.take (List.length a + 1 + i) (a ++ b)) TB).isSome) (List.range (3 - List.length a))) = [])) = growF a b := grow_eq _ _ _
    rw [e]
    exact hret _ _ (by k_asm) (by refine' cb_drop ?cbN ?cbS; (case cbN => assumption); (case cbS => kcj_all))
end
-- CNum
section
theorem nb_rows : ((List.range 48).all fun i => match NB[i]? with | some p => (look p.1 (NB.take i)).isNone && p.2 == 7 + i | none => false) = true := by decide +kernel
theorem nb_row {i : Nat} (h : i < 48) : ∃ l, NB[i]? = some (l, 7 + i) ∧ look l (NB.take i) = none := by
  have := List.all_eq_true.mp nb_rows i (List.mem_range.mpr h)
  cases e : NB[i]? with
  | none => rw [e] at this; cases this
  | some p =>
    rw [e] at this
    obtain ⟨l, n⟩ := p
    simp only [Bool.and_eq_true, Option.isNone_iff_eq_none, beq_iff_eq] at this
    obtain ⟨h1, rfl⟩ := this
    exact ⟨l, rfl, h1⟩
theorem row_at {l' : List (PySem.Str × Tok)} (hw : List.map (fun x => x.fst) l' = NB.map (fun p => ofL p.1)) {i : Nat} {l : Tx} {n : Nat} (h : NB[i]? = some (l, n)) : ∃ t, (strValues l')[i]? = some (.str (ofL l) t) := by
  have e : (List.map (fun x => x.fst) l')[i]? = some (ofL l) := by rw [hw, List.getElem?_map, h]; rfl
  rw [List.getElem?_map] at e
  cases q : l'[i]? with
  | none => rw [q] at e; cases e
  | some x =>
    rw [q] at e
    obtain ⟨a, t⟩ := x
    simp only [Option.map_some, Option.some.injEq] at e
    subst e
    exact ⟨t, by simp [strValues, q]⟩
theorem numbers {w : World} {mean : ExcName → Option Value} {mg mb : PySem.Str → Option Value} {news : List (Addr × Obj)} :
   Ctr w mean mg mb 66 1 100 news [] (fun h₀ L m s Q =>
    ∀ (d : Addr) (o : Obj) (kvs : List (PySem.Str × Value)) (h' : Heap) (tk' : Nat), o.IsDictOf (strKind PG w) kvs → Bears kvs NB → (d == sysModules) = false → Fr h₀ L h' m → News h₀ L h' ((d, o) :: news) → (∀ p ∈ news, p.1 ≠ d) → Q (.ref d) { s with heap := h', toks := tk' }) := by
  intro dp un gd cn cs ad ccd cl outer A₀ base h₀ L m s Q E B F X N T hk hd hu hret
  refine wpAny_call ?_
  k_dflt cell_enter
  iterate 14 (first | walk1 | (dsimp only; walk1))
  refine wpAny_For ?_ (by intro _; rfl)
  rename_i D' l' h1 k' hw hS lD h2 d' h3 o' lo' hs' fs' hi' fi' ld h4 F4 N4
  have hw2 : List.map (fun x => x.fst) l' = NB.map (fun p => ofL p.1) := by rw [hw]; decide +kernel
  have hll : l'.length = 48 := by have := congrArg List.length hw2; simpa [NB] using this
  iterate 10 (first | walk1 | (dsimp only; walk1))
  k_dflt (refine PyProof.Rows.len_list (by is_list) (by simp [strValues, hll]) ?_)
  have hsz : ((strValues l').toArray.size : Int) = 48 := by simp [strValues, hll]
  rw [hsz]
  iterate 2 (first | walk1 | (dsimp only; walk1))
  k_dflt (refine forJ_range (n := 48) (fun m₀ i m₁ nw => ∃ u o kvs, m₁ = (fun y => if y = Str.ofString "k" then u else m₀ y) ∧ nw = (d', o) :: (D', W.listOf (strValues l').toArray 0) :: news ∧ Obj.IsDictOf (strKind PG w) o kvs ∧ Bears kvs (NB.take i)) (hh := rfl) (F := by k_asm) (N := by k_asm) (hr := by assumption) (hsm := by decide) (hn := by decide) (h0 := ?_) (turn := ?_) (done := ?_))
  · exact ⟨_, o', [], map_open _ _, rfl, hs', .nil⟩
  · intro I i tv oI m₁ nw h tk E' hi hJ off F9 N9
    obtain ⟨u, o, kvs, rfl, rfl, hd9, hb9⟩ := hJ
    try dsimp only
    have nI : @Ne Nat d' I := off (d', o) (by simp)
    have nD : ∀ p ∈ news, p.1 ≠ d' := allLt_ne ld.2
    obtain ⟨l9, hnb, hfr⟩ := nb_row hi
    obtain ⟨t9, hrow⟩ := row_at hw2 hnb
    iterate 12 (first | walk1 | (dsimp only; walk1))
    try dsimp only
    k_dflt (refine item_listL (by is_list) ?e0 ?e3 (x := .str (ofL l9) t9) ?e1 ?_)
    case e0 => omega
    case e3 => show (0 : Int) + (i : Int) < 9223372036854775808; omega
    case e1 => rw [show ((0 : Int) + (i : Int)).toNat = i by omega]; exact hrow
    try dsimp only
    k_dflt (refine setItem_led (kvs := kvs) (by k_asm) (by k_asm) (by k_updF) hd9 ?e2 ?_)
    case e2 => exact Nat.le_trans (Nat.le_of_eq (Paired.length hb9)) (Nat.le_trans (List.length_take_le _ _) (by rw [sizeLine_eq]; omega))
    intro o2 h2' hd2 F2 N2
    rw [stored_new (hb9.none hfr)] at hd2
    try dsimp only
    refine wpAny_execs_nil ?_
    refine ⟨rfl, h2', _, _, _, rfl, F2, N2, off_head off, trivial, _, o2, _, map_again, rfl, hd2, ?_⟩
    rw [List.take_add_one, hnb]
    rw [show (7 + (0 + (i : Int))) = ((7 + i : Nat) : Int) by omega]
    exact hb9.snoc
  · intro m₁ nw h tk hJ F9 N9
    obtain ⟨u, o, kvs, rfl, rfl, hd9, hb9⟩ := hJ
    try dsimp only
    iterate 3 (first | walk1 | (dsimp only; walk1))
    try dsimp only
    walk1
    exact hret d' o kvs _ _ hd9 hb9 lo' (by k_asm) (by refine' cb_drop ?cbN ?cbS; (case cbN => assumption); (case cbS => kcj_all)) (allLt_ne ld.2)
end
-- CSigns
section
theorem signs_of {ys : List Value} (h : CarriedAll ys (List.map PyData.str (PyProof.Rows.signs (PySem.Str.ofString "->*/<!%&+:@^|()[]{},;~")))) : Paired (fun c v => ∃ t, v = .str (ofL [c]) t) pool ys := by
  have e : PyProof.Rows.signs (PySem.Str.ofString "->*/<!%&+:@^|()[]{},;~") = pool.map fun c => ofL [c] := by decide +kernel
  rw [e] at h
  clear e
  generalize pool = ps at h
  induction ps generalizing ys with
  | nil => cases h; exact .nil
  | cons c r ih =>
    cases h with
    | cons a b =>
      refine .cons ?_ (ih b)
      cases a with
      | str x t => exact ⟨t, rfl⟩
theorem cut_at {l : List Value} {k : Nat} (h : k < l.length) : ∃ v, l[k]? = some v ∧ kl_cut l k = some (l.take k, v, l.drop (k + 1)) := by
  refine ⟨l[k], by simp [h], ?_⟩
  induction l generalizing k with
  | nil => cases h
  | cons x r ih =>
    cases k with
    | zero => rfl
    | succ k =>
      have := ih (k := k) (by simpa using h)
      unfold kl_cut
      rw [this]
      rfl
theorem pop_pair {R : Nat → Value → Prop} : ∀ {ps : List Nat} {ys : List Value} {k : Nat} {v : Value}, Paired R ps ys → ys[k]? = some v → R (ps.getD k 0) v ∧ Paired R (ps.eraseIdx k) (ys.eraseIdx k)
  | _, _, _, _, .nil, h => by cases h
  | _ :: ps, _ :: ys, 0, v, .cons a r, h => by
    simp only [List.getElem?_cons_zero, Option.some.injEq] at h
    subst h
    exact ⟨a, r⟩
  | p :: ps, y :: ys, k + 1, v, .cons a r, h => by
    obtain ⟨z1, z2⟩ := pop_pair (k := k) r (by simpa using h)
    exact ⟨by simpa using z1, .cons a z2⟩
theorem fits_small {i : Int} (h0 : 0 ≤ i) (h1 : i < 1000) : Builtin.List.listFitsIndex i = true := by
  unfold Builtin.List.listFitsIndex
  simp only [Bool.and_eq_true, decide_eq_true_eq]
  omega
theorem idx_small {i : Int} {n : Nat} (h0 : 0 ≤ i) (h1 : i < n) : seqIndex? i n = some i.toNat := by
  unfold seqIndex?
  have : ¬ i < 0 := by omega
  simp only [this, if_false]
  rw [if_pos (by simp only [Bool.and_eq_true, decide_eq_true_eq]; omega)]
theorem signs {w : World} {mean : ExcName → Option Value} {mg mb : PySem.Str → Option Value} {news : List (Addr × Obj)} {x y : Int} {tx ty : Tok} :
   Ctr w mean mg mb 59 1 100 news [.int x tx, .int y ty] (fun h₀ L m s Q =>
    ∀ (d : Addr) (a b : Nat) (t1 t2 t3 : Tok) (h' : Heap) (tk' : Nat), a < 22 → b < 21 → Fr h₀ L h' m → News h₀ L h' ((d, W.listOf #[.str (ofL [61]) t1, .str (ofL [pool.getD a 0]) t2, .str (ofL [(pool.eraseIdx a).getD b 0]) t3] 0) :: news) → (∀ p ∈ news, p.1 < d) → Q (.ref d) { s with heap := h', toks := tk' }) := by
  intro dp un gd cn cs ad ccd cl outer A₀ base h₀ L m s Q E B F X N T hk hd hu hret
  refine wpAny_call ?_
  k_dflt cell_enter
  iterate 10 (first | walk1 | (dsimp only; walk1))
  (with_reducible rename NewPlain _ _ _ _ => np)
  have hne := np.2
  k_made
  (rename List Value => ys5)
  (with_reducible rename CarriedAll _ _ => hc5)
  have hP : Paired (fun c v => ∃ t, v = .str (ofL [c]) t) pool ys5 := signs_of hc5
  have hln : ys5.length = 22 := (Paired.length hP).symm
  have hx0 : 0 ≤ x.fmod 22 ∧ x.fmod 22 < 22 := ⟨Int.fmod_nonneg_of_pos x (by decide), Int.fmod_lt_of_pos x (by decide)⟩
  have hy0 : 0 ≤ y.fmod 21 ∧ y.fmod 21 < 21 := ⟨Int.fmod_nonneg_of_pos y (by decide), Int.fmod_lt_of_pos y (by decide)⟩
  obtain ⟨v1, hv1, hc1⟩ := cut_at (l := ys5) (k := (x.fmod 22).toNat) (by omega)
  obtain ⟨⟨t1, e1⟩, hP1⟩ := pop_pair hP hv1
  repeat (first | walk1 | (dsimp only; walk1))
  k_dflt (refine kl_popAt (k := (x.fmod 22).toNat) (by k_asm) (by k_asm) ?f1 ?f2 (by exact hc1) (by k_upd) ?f3 ?_)
  case f1 => exact fits_small hx0.1 (by omega)
  case f2 => exact idx_small hx0.1 (by rw [List.size_toArray]; omega)
  case f3 => rw [sizeLine_eq]; simp only; omega
  intro h6 F6 N6
  rw [← List.eraseIdx_eq_take_drop_succ] at N6
  subst e1
  have hl6 : (ys5.eraseIdx (x.fmod 22).toNat).length = 21 := by rw [List.length_eraseIdx]; split <;> omega
  obtain ⟨v2, hv2, hc2⟩ := cut_at (l := ys5.eraseIdx (x.fmod 22).toNat) (k := (y.fmod 21).toNat) (by omega)
  obtain ⟨⟨t2, e2⟩, hP2⟩ := pop_pair hP1 hv2
  repeat (first | walk1 | (dsimp only; walk1))
  k_dflt (refine kl_popAt (k := (y.fmod 21).toNat) (by k_asm) (by k_asm) ?f1 ?f2 (by exact hc2) (by k_upd) ?f3 ?_)
  case f1 => exact fits_small hy0.1 (by omega)
  case f2 => exact idx_small hy0.1 (by rw [List.size_toArray]; omega)
  case f3 => rw [sizeLine_eq]; simp only; omega
  intro h7 F7 N7
  subst e2
  iterate 2 (first | walk1 | (dsimp only; walk1))
  (with_reducible rename News _ _ _ _ => N8)
  rw [show PySem.Str.ofString "=" = ofL [61] from by decide +kernel] at N8
  (with_reducible rename _ ∧ AllLt _ _ => l8)
  walk1
  exact hret _ (x.fmod 22).toNat (y.fmod 21).toNat _ t1 t2 _ _ (by omega) (by omega) (by k_asm) (by refine' cb_drop ?cbN ?cbS; (case cbN => assumption); (case cbS => kcj_all)) (kst_ltOf l8.2)
end
-- CDiv
section
theorem div2n1n {w : World} {mean : ExcName → Option Value} {mg mb : PySem.Str → Option Value} {news : List (Addr × Obj)} {a b n : Int} {ta tb tn : Tok}
   (hb : 0 < b) (hl : b.natAbs.log2 < 9000) (hbl : (Builtin.Int.intBits a : Int) - n ≤ 4000) :
   Ctr w mean mg mb 21 1 100 news [.int a ta, .int b tb, .int n tn] (fun h₀ L m s Q =>
    ∀ (t : Addr) (tq tr : Tok) (h' : Heap) (tk' : Nat), Fr h₀ L h' m → News h₀ L h' ((t, { cls := .type "tuple", data := .seq #[.int (a.fdiv b) tq, .int (a.fmod b) tr] }) :: news) → (∀ p ∈ news, p.1 < t) → Q (.ref t) { s with heap := h', toks := tk' }) := by
  intro dp un gd cn cs ad ccd cl outer A₀ base h₀ L m s Q E B F X N T hk hd hu hret
  refine wpAny_call ?_
  k_dflt cell_enter
  repeat (first | walk1 | (dsimp only; walk1))
  k_dflt (refine divmod_N (by k_asm) (by k_asm) (by omega) ?_ (Or.inl (PyProof.noPylong_of_log2 hl)))
  intro h5 F5 N5
  have l5 : ∀ p ∈ news, p.1 < _ := fun p hp => Heap.lt_size (News.get (by assumption) hp)
  try dsimp only
  walk1
  exact hret _ _ _ _ _ (by k_asm) (by k_asm) l5
end
-- CD2i
section
theorem d2i {w : World} {mean : ExcName → Option Value} {mg mb : PySem.Str → Option Value} {news : List (Addr × Obj)} {l : Addr} {its : List Value} {ds : List Int} {e : Nat} {n : Nat} {tn : Tok} (hI : IntsAre its ds) (hl : 0 < ds.length) (hl2 : ds.length ≤ 100) (hn : n ≤ 10000) (hB : ∀ lo k, Builtin.Int.intBits (horner n ((ds.drop lo).take k)) ≤ 10000000) (n1 : @Ne Nat l 37) (n2 : ∀ p ∈ news, p.1 ≠ 37) :
   CtrP w mean mg mb (fun h => CodeHd h 41 37) 42 150 1000 ((l, W.listOf its.toArray e) :: (37, tabObj #[]) :: news) [.ref l, .int (n : Int) tn] (fun h₀ L m s Q =>
    ∀ (t : Tok) (h' : Heap) (tk' : Nat) (c' : Addr) (oc : Obj) (vs : Array Value) (tq : Tok), oc.data = .fields vs → vs[1]? = some (.str QD tq) → l < c' → 37 < c' → (∀ p ∈ news, p.1 < c') → Fr h₀ L h' m →
      News h₀ L h' ((l, W.listOf its.toArray e) :: (37, tabObj (tabD c')) :: (c', oc) :: news) → Q (.int (horner n ds) t) { s with heap := h', toks := tk' }) := by
  intro dp un gd cn cs ad ccd cl outer A₀ base h₀ L m s Q E B F X N T hk hC hd hu hret
  refine wpAny_call ?_
  k_dflt (walk_at "m enterC")
  have hC' : CodeHd _ 41 37 := hC.keeps (Fr.keep (by assumption))
  (with_reducible rename _ ∧ _ ∧ AllLt _ _ => l1x)
  have hTL := TailLt.of l1x.2.2
  iterate 3 (first | walk1 | (dsimp only; walk1))
  (with_reducible rename News _ _ _ _ => N1)
  rw [Array.empty_append] at N1
  (rename _ = Data.cell (some (Value.ref _)) => dI)
  obtain ⟨led, hled, Nl⟩ : ∃ led, led = _ ∧ News _ _ _ led := ⟨_, rfl, N1⟩
  rename_i f' c' oc' vs' t' ct' dc' h4 tk4 d1 d2 l1 l2 h5 oI F5
  have key : ∀ (k lo : Nat) (t1 t2 : Tok), 1 ≤ k → lo + k ≤ ds.length → CtrP w mean mg mb (fun h => CodeHd h 41 37) f' k (3 * k + 100) led [.int (lo : Int) t1, .int ((lo + k : Nat) : Int) t2] (fun h₀ L m s Q =>
     ∀ (t : Tok) (h' : Heap) (tk' : Nat), Fr h₀ L h' m → News h₀ L h' led → Q (.int (horner n ((ds.drop lo).take k)) t) { s with heap := h', toks := tk' }) := by
    intro k
    induction k using Nat.strongRecOn with
    | ind k ih =>
      intro lo t1 t2 hk1 hk2 dp un gd cn cs ad ccd cl outer A₀ base h₀ L m s Q E B F X N T hk hC hd hu hret
      subst hled
      refine wpAny_call ?_
      k_dflt (walk_at "m enterN")
      iterate 12 (first | walk1 | (dsimp only; walk1))
      · iterate 6 (first | walk1 | (dsimp only; walk1))
        have hk' : k = 1 := by omega
        subst hk'
        obtain ⟨td, htd⟩ := hI.get lo (ds.getD lo 0) (by rw [List.getD_eq_getElem?_getD, List.getElem?_eq_getElem (by omega)]; rfl)
        k_dflt (refine item_listL (by is_list) ?e0 ?e3 (x := .int (ds.getD lo 0) td) ?e1 ?_)
        case e0 => omega
        case e3 => show (lo : Int) < 9223372036854775808; omega
        case e1 => exact htd
        try dsimp only
        rw [show ds.getD lo 0 = horner n ((ds.drop lo).take 1) from horner_one (by omega)]
        walk1
        exact hret _ _ _ (by k_asm) (by k_asm)
      · iterate 10 (first | walk1 | (dsimp only; walk1))
        k_dflt (refine rshift_to (v := ((lo + k / 2 : Nat) : Int)) (by decide) (mid_eq lo k) ?_)
        iterate 9 (first | walk1 | (dsimp only; walk1))
        k_dflt (refine mul_to (v := ((k / 2 * n : Nat) : Int)) ?m1 ?m2 ?_)
        case m1 => exact IntMulOk.of_right (intBits_le_iff.mpr (Nat.lt_of_le_of_lt (show (n : Int).natAbs ≤ 10000 by omega) (by decide)))
        case m2 => rw [show ((lo + k / 2 : Nat) : Int) - (lo : Int) = ((k / 2 : Nat) : Int) by omega, Int.natCast_mul]
        iterate 13 (first | walk1 | (dsimp only; walk1))
        refine ⟨by k_dflt (exact FnAt.of (by k_asm) (by k_mem)), ?_⟩
        try dsimp only [List.nil_append]
        have h1 := fun t1 t2 => ih (k - k / 2) (by omega) (lo + k / 2) t1 t2 (by omega) (by omega)
        rw [show lo + k / 2 + (k - k / 2) = lo + k by omega] at h1
        k_dflt (refine' h1 _ _ _ _ _ _ _ _ _ _ _ _ _ _ _ _ _ _ _ ?kB ?kF ?kX ?kN ?kT ?kK ?kC ?kd ?ku ?_)
        case kB => k_asm
        case kF => k_asm
        case kX => k_asm
        case kN => k_asm
        case kT => k_asm
        case kK => exact rfl
        case kC => exact hC.keeps (Fr.keep (by assumption))
        case kd => show dp + 1 + (k - k / 2) < _; omega
        case ku => show un + 3 + _ < _; omega
        intro t9 h9 tk9 F9 N9
        try dsimp only
        walk1
        k_dflt (refine lshift_to (v := 2 ^ (k / 2 * n) * horner n ((ds.drop (lo + k / 2)).take (k - k / 2))) ?s1 ?s2 ?s3 ?_)
        case s1 => omega
        case s2 => exact shift_room (hB _ _) (Nat.mul_le_mul (show k / 2 ≤ 100 by omega) hn)
        case s3 => rw [Int.toNat_natCast, Int.mul_comm]
        iterate 8 (first | walk1 | (dsimp only; walk1))
        refine ⟨by k_dflt (exact FnAt.of (by k_asm) (by k_mem)), ?_⟩
        try dsimp only [List.nil_append]
        have h2 := fun t1 t2 => ih (k / 2) (by omega) lo t1 t2 (by omega) (by omega)
        k_dflt (refine' h2 _ _ _ _ _ _ _ _ _ _ _ _ _ _ _ _ _ _ _ ?kB ?kF ?kX ?kN ?kT ?kK ?kC ?kd ?ku ?_)
        case kB => k_asm
        case kF => k_asm
        case kX => k_asm
        case kN => k_asm
        case kT => k_asm
        case kK => exact rfl
        case kC => exact hC.keeps (Fr.keep (by assumption))
        case kd => show dp + 1 + (k / 2) < _; omega
        case ku => show un + 3 + _ < _; omega
        intro t10 h10 tk10 F10 N10
        try dsimp only
        walk1
        rw [show 2 ^ (k / 2 * n) * horner n ((ds.drop (lo + k / 2)).take (k - k / 2)) + horner n ((ds.drop lo).take (k / 2)) = horner n ((ds.drop lo).take k) from horner_cut (by omega)]
        try dsimp only
        walk1
        exact hret _ _ _ (by k_asm) (by k_asm)
  subst hled
  iterate 5 (first | walk1 | (dsimp only; walk1))
  k_dflt (refine truthy_ints_fit (by is_list) hI (by omega) ?_)
  rw [decide_eq_true hl]
  try dsimp only
  walk1
  iterate 12 (first | walk1 | (dsimp only; walk1))
  have hsz : its.toArray.size = 0 + ds.length := by rw [List.size_toArray, hI.length, Nat.zero_add]
  k_dflt (refine PyProof.Rows.len_list (items := its.toArray) (by is_list) (by rw [hsz]; show _ < (9223372036854775808 : Int); omega) ?_)
  rw [hsz]
  try dsimp only
  walk1
  refine ⟨by k_dflt (exact FnAt.of (by k_asm) (by k_mem)), ?_⟩
  try dsimp only [List.nil_append]
  have h1 := fun t1 t2 => key ds.length 0 t1 t2 hl (by omega)
  k_dflt (refine' h1 _ _ _ _ _ _ _ _ _ _ _ _ _ _ _ _ _ _ _ ?kB ?kF ?kX ?kN ?kT ?kK ?kC ?kd ?ku ?_)
  case kB => k_asm
  case kF => k_asm
  case kX => k_asm
  case kN => k_asm
  case kT => k_asm
  case kK => exact rfl
  case kC => exact hC.keeps (Fr.keep (by assumption))
  case kd => show dp + 1 + ds.length < _; omega
  case ku => show un + 3 + _ < _; omega
  intro t10 h10 tk10 F10 N10
  rw [List.drop_zero, List.take_length]
  try dsimp only
  walk1
  exact hret _ _ _ c' oc' vs' t' d1 (by rw [d2]; exact congrArg (fun x => some (Value.str x t')) (by first | kernel_rfl | (with_unfolding_all rfl))) l1.2.2.2.1 l1.2.2.2.2.1 (kst_ltOf l1.2.2.2.2.2) (by k_asm) (by refine' cb_drop ?cbN ?cbS; (case cbN => assumption); (case cbS => kcj_all))
end
-- CD2j
section
theorem d2i2 {w : World} {mean : ExcName → Option Value} {mg mb : PySem.Str → Option Value} {news : List (Addr × Obj)} {l : Addr} {its : List Value} {ds : List Int} {e : Nat} {n : Nat} {tn : Tok} (hI : IntsAre its ds) (hl : 0 < ds.length) (hl2 : ds.length ≤ 100) (hn : n ≤ 10000) (hB : ∀ lo k, Builtin.Int.intBits (horner n ((ds.drop lo).take k)) ≤ 10000000) (n1 : @Ne Nat l 37) (n2 : ∀ p ∈ news, p.1 ≠ 37) {c' : Addr} {oc' : Obj} {vs' : Array Value} {t' : Tok} (d1 : oc'.data = .fields vs') (d2 : vs'[1]? = some (.str QD t')) :
   CtrP w mean mg mb (fun h => CodeHd h 41 37) 42 150 1000 ((l, W.listOf its.toArray e) :: (37, tabObj (tabD c')) :: (c', oc') :: news) [.ref l, .int (n : Int) tn] (fun h₀ L m s Q =>
    ∀ (t : Tok) (h' : Heap) (tk' : Nat), Fr h₀ L h' m → News h₀ L h' ((l, W.listOf its.toArray e) :: (37, tabObj (tabD c')) :: (c', oc') :: news) → Q (.int (horner n ds) t) { s with heap := h', toks := tk' }) := by
  intro dp un gd cn cs ad ccd cl outer A₀ base h₀ L m s Q E B F X N T hk hC hd hu hret
  refine wpAny_call ?_
  k_dflt (walk_at "m enterC")
  have hC' : CodeHd _ 41 37 := hC.keeps (Fr.keep (by assumption))
  (with_reducible rename _ ∧ _ ∧ _ ∧ AllLt _ _ => l1x)
  have hTL := TailLt.of l1x.2.2.2
  iterate 3 (first | walk1 | (dsimp only; walk1))
  (with_reducible rename News _ _ _ _ => N1)
  (rename _ = Data.cell (some (Value.ref _)) => dI)
  obtain ⟨led, hled, Nl⟩ : ∃ led, led = _ ∧ News _ _ _ led := ⟨_, rfl, N1⟩
  rename_i f' ct' dc' h4 tk4 l2 h5 oI F5
  have key : ∀ (k lo : Nat) (t1 t2 : Tok), 1 ≤ k → lo + k ≤ ds.length → CtrP w mean mg mb (fun h => CodeHd h 41 37) f' k (3 * k + 100) led [.int (lo : Int) t1, .int ((lo + k : Nat) : Int) t2] (fun h₀ L m s Q =>
     ∀ (t : Tok) (h' : Heap) (tk' : Nat), Fr h₀ L h' m → News h₀ L h' led → Q (.int (horner n ((ds.drop lo).take k)) t) { s with heap := h', toks := tk' }) := by
    intro k
    induction k using Nat.strongRecOn with
    | ind k ih =>
      intro lo t1 t2 hk1 hk2 dp un gd cn cs ad ccd cl outer A₀ base h₀ L m s Q E B F X N T hk hC hd hu hret
      subst hled
      refine wpAny_call ?_
      k_dflt (walk_at "m enterN")
      iterate 12 (first | walk1 | (dsimp only; walk1))
      · iterate 6 (first | walk1 | (dsimp only; walk1))
        have hk' : k = 1 := by omega
        subst hk'
        obtain ⟨td, htd⟩ := hI.get lo (ds.getD lo 0) (by rw [List.getD_eq_getElem?_getD, List.getElem?_eq_getElem (by omega)]; rfl)
        k_dflt (refine item_listL (by is_list) ?e0 ?e3 (x := .int (ds.getD lo 0) td) ?e1 ?_)
        case e0 => omega
        case e3 => show (lo : Int) < 9223372036854775808; omega
        case e1 => exact htd
        try dsimp only
        rw [show ds.getD lo 0 = horner n ((ds.drop lo).take 1) from horner_one (by omega)]
        walk1
        exact hret _ _ _ (by k_asm) (by k_asm)
      · iterate 10 (first | walk1 | (dsimp only; walk1))
        k_dflt (refine rshift_to (v := ((lo + k / 2 : Nat) : Int)) (by decide) (mid_eq lo k) ?_)
        iterate 9 (first | walk1 | (dsimp only; walk1))
        k_dflt (refine mul_to (v := ((k / 2 * n : Nat) : Int)) ?m1 ?m2 ?_)
        case m1 => exact IntMulOk.of_right (intBits_le_iff.mpr (Nat.lt_of_le_of_lt (show (n : Int).natAbs ≤ 10000 by omega) (by decide)))
        case m2 => rw [show ((lo + k / 2 : Nat) : Int) - (lo : Int) = ((k / 2 : Nat) : Int) by omega, Int.natCast_mul]
        iterate 13 (first | walk1 | (dsimp only; walk1))
        refine ⟨by k_dflt (exact FnAt.of (by k_asm) (by k_mem)), ?_⟩
        try dsimp only [List.nil_append]
        have h1 := fun t1 t2 => ih (k - k / 2) (by omega) (lo + k / 2) t1 t2 (by omega) (by omega)
        rw [show lo + k / 2 + (k - k / 2) = lo + k by omega] at h1
        k_dflt (refine' h1 _ _ _ _ _ _ _ _ _ _ _ _ _ _ _ _ _ _ _ ?kB ?kF ?kX ?kN ?kT ?kK ?kC ?kd ?ku ?_)
        case kB => k_asm
        case kF => k_asm
        case kX => k_asm
        case kN => k_asm
        case kT => k_asm
        case kK => exact rfl
        case kC => exact hC.keeps (Fr.keep (by assumption))
        case kd => show dp + 1 + (k - k / 2) < _; omega
        case ku => show un + 3 + _ < _; omega
        intro t9 h9 tk9 F9 N9
        try dsimp only
        walk1
        k_dflt (refine lshift_to (v := 2 ^ (k / 2 * n) * horner n ((ds.drop (lo + k / 2)).take (k - k / 2))) ?s1 ?s2 ?s3 ?_)
        case s1 => omega
        case s2 => exact shift_room (hB _ _) (Nat.mul_le_mul (show k / 2 ≤ 100 by omega) hn)
        case s3 => rw [Int.toNat_natCast, Int.mul_comm]
        iterate 8 (first | walk1 | (dsimp only; walk1))
        refine ⟨by k_dflt (exact FnAt.of (by k_asm) (by k_mem)), ?_⟩
        try dsimp only [List.nil_append]
        have h2 := fun t1 t2 => ih (k / 2) (by omega) lo t1 t2 (by omega) (by omega)
        k_dflt (refine' h2 _ _ _ _ _ _ _ _ _ _ _ _ _ _ _ _ _ _ _ ?kB ?kF ?kX ?kN ?kT ?kK ?kC ?kd ?ku ?_)
        case kB => k_asm
        case kF => k_asm
        case kX => k_asm
        case kN => k_asm
        case kT => k_asm
        case kK => exact rfl
        case kC => exact hC.keeps (Fr.keep (by assumption))
        case kd => show dp + 1 + (k / 2) < _; omega
        case ku => show un + 3 + _ < _; omega
        intro t10 h10 tk10 F10 N10
        try dsimp only
        walk1
        rw [show 2 ^ (k / 2 * n) * horner n ((ds.drop (lo + k / 2)).take (k - k / 2)) + horner n ((ds.drop lo).take (k / 2)) = horner n ((ds.drop lo).take k) from horner_cut (by omega)]
        try dsimp only
        walk1
        exact hret _ _ _ (by k_asm) (by k_asm)
  subst hled
  iterate 5 (first | walk1 | (dsimp only; walk1))
  k_dflt (refine truthy_ints_fit (by is_list) hI (by omega) ?_)
  rw [decide_eq_true hl]
  try dsimp only
  walk1
  iterate 12 (first | walk1 | (dsimp only; walk1))
  have hsz : its.toArray.size = 0 + ds.length := by rw [List.size_toArray, hI.length, Nat.zero_add]
  k_dflt (refine PyProof.Rows.len_list (items := its.toArray) (by is_list) (by rw [hsz]; show _ < (9223372036854775808 : Int); omega) ?_)
  rw [hsz]
  try dsimp only
  walk1
  refine ⟨by k_dflt (exact FnAt.of (by k_asm) (by k_mem)), ?_⟩
  try dsimp only [List.nil_append]
  have h1 := fun t1 t2 => key ds.length 0 t1 t2 hl (by omega)
  k_dflt (refine' h1 _ _ _ _ _ _ _ _ _ _ _ _ _ _ _ _ _ _ _ ?kB ?kF ?kX ?kN ?kT ?kK ?kC ?kd ?ku ?_)
  case kB => k_asm
  case kF => k_asm
  case kX => k_asm
  case kN => k_asm
  case kT => k_asm
  case kK => exact rfl
  case kC => exact hC.keeps (Fr.keep (by assumption))
  case kd => show dp + 1 + ds.length < _; omega
  case ku => show un + 3 + _ < _; omega
  intro t10 h10 tk10 F10 N10
  rw [List.drop_zero, List.take_length]
  try dsimp only
  walk1
  exact hret _ _ _ (by k_asm) (by refine' cb_drop ?cbN ?cbS; (case cbN => assumption); (case cbS => kcj_all))
end
-- CI2d
section
theorem i2d {w : World} {mean : ExcName → Option Value} {mg mb : PySem.Str → Option Value} {news : List (Addr × Obj)} {x n K : Nat} {tx tn : Tok} (hx : 0 < x) (hn0 : 0 < n) (hn : n ≤ 10000) (hK : (Builtin.Int.intBits (x : Int) + n - 1) / n = K) (hK0 : 0 < K) (hK1 : K ≤ 100) (hB : Builtin.Int.intBits (x : Int) ≤ 10000000) (n2 : ∀ p ∈ news, p.1 ≠ 30) :
   CtrP w mean mg mb (fun h => CodeHd h 34 30) 35 150 1000 ((30, tabObj #[]) :: news) [.int (x : Int) tx, .int (n : Int) tn] (fun h₀ L m s Q =>
    ∀ (l : Addr) (its : List Value) (h' : Heap) (tk' : Nat) (c' : Addr) (oc : Obj) (vs : Array Value) (tq : Tok), IntsAre its (digs n K x) → oc.data = .fields vs → vs[1]? = some (.str QI tq) → 30 < l → (∀ p ∈ news, p.1 < l) → l < c' → Fr h₀ L h' m →
      News h₀ L h' ((l, W.listOf its.toArray 0) :: (30, tabObj (tabI c')) :: (c', oc) :: news) → Q (.ref l) { s with heap := h', toks := tk' }) := by
  intro dp un gd cn cs ad ccd cl outer A₀ base h₀ L m s Q E B F X N T hk hC hd hu hret
  refine wpAny_call ?_
  k_dflt (walk_at "m enterC")
  have hC' : CodeHd _ 34 30 := hC.keeps (Fr.keep (by assumption))
  (with_reducible rename _ ∧ AllLt _ _ => l1x)
  have hTL := TailLt.of l1x.2
  iterate 22 (first | walk1 | (dsimp only; walk1))
  have hfd : ((Builtin.Int.intBits (x : Int) : Int) + (n : Int) - 1).fdiv (n : Int) = (K : Int) := by
    rw [Int.fdiv_eq_ediv_of_nonneg _ (by omega), ← hK]
    rw [Int.natCast_ediv]
    congr 1
    omega
  rw [hfd]
  try dsimp only
  k_dflt (refine mul_led (by k_asm) (by k_asm) (by k_mem) (by omega) ?_)
  intro l h3 F3 N3 lt3
  k_lt lt3
  iterate 5 (first | walk1 | (dsimp only; walk1))
  (with_reducible rename News _ _ _ _ => N1)
  rw [Array.empty_append] at N1
  (rename _ = Data.cell (some (Value.ref _)) => dI)
  rename_i f' c' oc' vs' t' ct' dc' h4 tk4 d1 d2 l1 l2 h5 oI F5
  obtain ⟨rest, hrest, Nl⟩ : ∃ rest, rest = _ ∧ News _ _ _ (_ :: rest) := ⟨_, rfl, news_front N1⟩
  have key : ∀ (k lo x : Nat) (its : List Value) (ns : List Int) (tx t1 t2 : Tok), 1 ≤ k → lo + k ≤ ns.length → ns.length ≤ 100 → IntsAre its ns → Builtin.Int.intBits (x : Int) ≤ 10000000 →
     CtrP w mean mg mb (fun h => CodeHd h 34 30) f' k (3 * k + 100) ((l, W.listOf its.toArray 0) :: rest) [.int (x : Int) tx, .int (lo : Int) t1, .int ((lo + k : Nat) : Int) t2] (fun h₀ L m s Q =>
     ∀ (its' : List Value) (h' : Heap) (tk' : Nat), IntsAre its' (putAt ns lo (digs n k x)) → Fr h₀ L h' m → News h₀ L h' ((l, W.listOf its'.toArray 0) :: rest) → Q .none { s with heap := h', toks := tk' }) := by
    intro k
    induction k using Nat.strongRecOn with
    | ind k ih =>
      intro lo x its ns tx t1 t2 hk1 hk2 hns hI hx dp un gd cn cs ad ccd cl outer A₀ base h₀ L m s Q E B F X N T hk hC hd hu hret
      subst hrest
      refine wpAny_call ?_
      k_dflt (walk_at "m enterN")
      iterate 12 (first | walk1 | (dsimp only; walk1))
      · iterate 6 (first | walk1 | (dsimp only; walk1))
        have hk' : k = 1 := by omega
        subst hk'
        k_dflt (refine ksa_set (by k_asm) (by k_asm) (by k_upd) hI ?e0 ?e1 ?e2 ?_)
        case e0 => omega
        case e1 => omega
        case e2 => show (lo : Int) < 9223372036854775808; omega
        intro h6 F6 N6 hI6 _ _
        rw [Int.toNat_natCast] at hI6 N6
        rw [put_one (n := n) (by omega)] at hI6
        iterate 3 (first | walk1 | (dsimp only; walk1))
        exact hret _ _ _ hI6 (by k_asm) (by k_asm)
      · iterate 10 (first | walk1 | (dsimp only; walk1))
        k_dflt (refine rshift_to (v := ((lo + k / 2 : Nat) : Int)) (by decide) (mid_eq lo k) ?_)
        iterate 9 (first | walk1 | (dsimp only; walk1))
        k_dflt (refine mul_to (v := ((k / 2 * n : Nat) : Int)) ?m1 ?m2 ?_)
        case m1 => exact IntMulOk.of_right (intBits_le_iff.mpr (Nat.lt_of_le_of_lt (show (n : Int).natAbs ≤ 10000 by omega) (by decide)))
        case m2 => rw [show ((lo + k / 2 : Nat) : Int) - (lo : Int) = ((k / 2 : Nat) : Int) by omega, Int.natCast_mul]
        iterate 6 (first | walk1 | (dsimp only; walk1))
        k_dflt (refine rshift_to (v := ((x / 2 ^ (k / 2 * n) : Nat) : Int)) (by omega) (shr_eq x _) ?_)
        iterate 8 (first | walk1 | (dsimp only; walk1))
        k_dflt (refine lshift_to (v := ((x / 2 ^ (k / 2 * n) * 2 ^ (k / 2 * n) : Nat) : Int)) ?s1 ?s2 ?s3 ?_)
        case s1 => omega
        case s2 => exact shift_room (Nat.le_trans (intBits_le_of_natAbs (by simp only [Int.natAbs_natCast]; exact Nat.div_le_self _ _) (Nat.le_refl _)) hx) (Nat.mul_le_mul (show k / 2 ≤ 100 by omega) hn)
        case s3 => rw [Int.toNat_natCast]; simp
        k_dflt (refine xor_to (v := ((x % 2 ^ (k / 2 * n) : Nat) : Int)) (xor_eq x _) ?_)
        iterate 13 (first | walk1 | (dsimp only; walk1))
        refine ⟨by k_dflt (exact FnAt.of (by k_asm) (by k_mem)), ?_⟩
        try dsimp only [List.nil_append]
        have h1 := fun tx t1 t2 => ih (k / 2) (by omega) lo (x % 2 ^ (k / 2 * n)) its ns tx t1 t2 (by omega) (by omega) hns hI (Nat.le_trans (intBits_le_of_natAbs (by simp only [Int.natAbs_natCast]; exact Nat.mod_le _ _) (Nat.le_refl _)) hx)
        k_dflt (refine' h1 _ _ _ _ _ _ _ _ _ _ _ _ _ _ _ _ _ _ _ _ ?kB ?kF ?kX ?kN ?kT ?kK ?kC ?kd ?ku ?_)
        case kB => k_asm
        case kF => k_asm
        case kX => k_asm
        case kN => k_asm
        case kT => k_asm
        case kK => exact rfl
        case kC => exact hC.keeps (Fr.keep (by assumption))
        case kd => show dp + 1 + (k / 2) < _; omega
        case ku => show un + 3 + _ < _; omega
        intro its9 h9 tk9 hI9 F9 N9
        iterate 12 (first | walk1 | (dsimp only; walk1))
        refine ⟨by k_dflt (exact FnAt.of (by k_asm) (by k_mem)), ?_⟩
        try dsimp only [List.nil_append]
        have hl9 := put_length (ns := ns) (lo := lo) (n := n) (k := k / 2) (x := x % 2 ^ (k / 2 * n)) (by omega)
        have h2 := fun tx t1 t2 => ih (k - k / 2) (by omega) (lo + k / 2) (x / 2 ^ (k / 2 * n)) its9 _ tx t1 t2 (by omega) (by rw [hl9]; omega) (by rw [hl9]; exact hns) hI9 (Nat.le_trans (intBits_le_of_natAbs (by simp only [Int.natAbs_natCast]; exact Nat.div_le_self _ _) (Nat.le_refl _)) hx)
        rw [show lo + k / 2 + (k - k / 2) = lo + k by omega] at h2
        k_dflt (refine' h2 _ _ _ _ _ _ _ _ _ _ _ _ _ _ _ _ _ _ _ _ ?kB ?kF ?kX ?kN ?kT ?kK ?kC ?kd ?ku ?_)
        case kB => k_asm
        case kF => k_asm
        case kX => k_asm
        case kN => k_asm
        case kT => k_asm
        case kK => exact rfl
        case kC => exact hC.keeps (Fr.keep (by assumption))
        case kd => show dp + 1 + (k - k / 2) < _; omega
        case ku => show un + 3 + _ < _; omega
        intro its10 h10 tk10 hI10 F10 N10
        rw [put_put (by omega) (by omega)] at hI10
        iterate 2 (first | walk1 | (dsimp only; walk1))
        exact hret _ _ _ hI10 (by k_asm) (by k_asm)
  subst hrest
  iterate 22 (first | walk1 | (dsimp only; walk1))
  k_dflt (refine PyProof.Rows.len_list (by is_list) ?z1 ?_)
  case z1 => rw [List.size_toArray, List.length_replicate]; show _ < (9223372036854775808 : Int); omega
  rw [List.size_toArray, List.length_replicate, show K = 0 + K from (Nat.zero_add K).symm]
  try dsimp only
  walk1
  refine ⟨by k_dflt (exact FnAt.of (by k_asm) (by k_mem)), ?_⟩
  try dsimp only [List.nil_append]
  have hrl : (List.replicate K (0 : Int)).length = K := List.length_replicate
  have h1 := fun tv tx t1 t2 => key K 0 x (List.replicate K (.int 0 tv)) (List.replicate K 0) tx t1 t2 hK0 (by omega) (by omega) (ints_rep tv K) hB
  k_dflt (refine' h1 _ _ _ _ _ _ _ _ _ _ _ _ _ _ _ _ _ _ _ _ _ ?kB ?kF ?kX ?kN ?kT ?kK ?kC ?kd ?ku ?_)
  case kB => k_asm
  case kF => k_asm
  case kX => k_asm
  case kN => exact news_front (by assumption)
  case kT => k_asm
  case kK => exact rfl
  case kC => exact hC.keeps (Fr.keep (by assumption))
  case kd => show dp + 1 + K < _; omega
  case ku => show un + 3 + _ < _; omega
  intro its10 h10 tk10 hI10 F10 N10
  rw [put_all] at hI10
  iterate 5 (first | walk1 | (dsimp only; walk1))
  exact hret l its10 _ _ c' oc' vs' t' hI10 d1 (by rw [d2]; exact congrArg (fun x => some (Value.str x t')) (by first | kernel_rfl | (with_unfolding_all rfl))) lt3.2.2.2.2.1 (kst_ltOf lt3.2.2.2.2.2) l1.1 (by k_asm) (by refine' cb_drop ?cbN ?cbS; (case cbN => assumption); (case cbS => kcj_all))
  all_goals (exfalso; first | omega | (simp_all; done) | (simp_all; omega))
end
-- CI2j
section
theorem i2d2 {w : World} {mean : ExcName → Option Value} {mg mb : PySem.Str → Option Value} {news : List (Addr × Obj)} {x n K : Nat} {tx tn : Tok} (hx : 0 < x) (hn0 : 0 < n) (hn : n ≤ 10000) (hK : (Builtin.Int.intBits (x : Int) + n - 1) / n = K) (hK0 : 0 < K) (hK1 : K ≤ 100) (hB : Builtin.Int.intBits (x : Int) ≤ 10000000) (n2 : ∀ p ∈ news, p.1 ≠ 30) {c' : Addr} {oc' : Obj} {vs' : Array Value} {t' : Tok} (d1 : oc'.data = .fields vs') (d2 : vs'[1]? = some (.str QI t')) :
   CtrP w mean mg mb (fun h => CodeHd h 34 30) 35 150 1000 ((30, tabObj (tabI c')) :: (c', oc') :: news) [.int (x : Int) tx, .int (n : Int) tn] (fun h₀ L m s Q =>
    ∀ (l : Addr) (its : List Value) (h' : Heap) (tk' : Nat), IntsAre its (digs n K x) → 30 < l → c' < l → (∀ p ∈ news, p.1 < l) → Fr h₀ L h' m →
      News h₀ L h' ((l, W.listOf its.toArray 0) :: (30, tabObj (tabI c')) :: (c', oc') :: news) → Q (.ref l) { s with heap := h', toks := tk' }) := by
  intro dp un gd cn cs ad ccd cl outer A₀ base h₀ L m s Q E B F X N T hk hC hd hu hret
  refine wpAny_call ?_
  k_dflt (walk_at "m enterC")
  have hC' : CodeHd _ 34 30 := hC.keeps (Fr.keep (by assumption))
  (with_reducible rename _ ∧ _ ∧ AllLt _ _ => l1x)
  have hTL := TailLt.of l1x.2.2
  iterate 22 (first | walk1 | (dsimp only; walk1))
  have hfd : ((Builtin.Int.intBits (x : Int) : Int) + (n : Int) - 1).fdiv (n : Int) = (K : Int) := by
    rw [Int.fdiv_eq_ediv_of_nonneg _ (by omega), ← hK]
    rw [Int.natCast_ediv]
    congr 1
    omega
  rw [hfd]
  try dsimp only
  k_dflt (refine mul_led (by k_asm) (by k_asm) (by k_mem) (by omega) ?_)
  intro l h3 F3 N3 lt3
  k_lt lt3
  iterate 5 (first | walk1 | (dsimp only; walk1))
  (with_reducible rename News _ _ _ _ => N1)
  (rename _ = Data.cell (some (Value.ref _)) => dI)
  rename_i f' ct' dc' h4 tk4 l2 h5 oI F5
  obtain ⟨rest, hrest, Nl⟩ : ∃ rest, rest = _ ∧ News _ _ _ (_ :: rest) := ⟨_, rfl, news_front2 N1⟩
  have key : ∀ (k lo x : Nat) (its : List Value) (ns : List Int) (tx t1 t2 : Tok), 1 ≤ k → lo + k ≤ ns.length → ns.length ≤ 100 → IntsAre its ns → Builtin.Int.intBits (x : Int) ≤ 10000000 →
     CtrP w mean mg mb (fun h => CodeHd h 34 30) f' k (3 * k + 100) ((l, W.listOf its.toArray 0) :: rest) [.int (x : Int) tx, .int (lo : Int) t1, .int ((lo + k : Nat) : Int) t2] (fun h₀ L m s Q =>
     ∀ (its' : List Value) (h' : Heap) (tk' : Nat), IntsAre its' (putAt ns lo (digs n k x)) → Fr h₀ L h' m → News h₀ L h' ((l, W.listOf its'.toArray 0) :: rest) → Q .none { s with heap := h', toks := tk' }) := by
    intro k
    induction k using Nat.strongRecOn with
    | ind k ih =>
      intro lo x its ns tx t1 t2 hk1 hk2 hns hI hx dp un gd cn cs ad ccd cl outer A₀ base h₀ L m s Q E B F X N T hk hC hd hu hret
      subst hrest
      refine wpAny_call ?_
      k_dflt (walk_at "m enterN")
      iterate 12 (first | walk1 | (dsimp only; walk1))
      · iterate 6 (first | walk1 | (dsimp only; walk1))
        have hk' : k = 1 := by omega
        subst hk'
        k_dflt (refine ksa_set (by k_asm) (by k_asm) (by k_upd) hI ?e0 ?e1 ?e2 ?_)
        case e0 => omega
        case e1 => omega
        case e2 => show (lo : Int) < 9223372036854775808; omega
        intro h6 F6 N6 hI6 _ _
        rw [Int.toNat_natCast] at hI6 N6
        rw [put_one (n := n) (by omega)] at hI6
        iterate 3 (first | walk1 | (dsimp only; walk1))
        exact hret _ _ _ hI6 (by k_asm) (by k_asm)
      · iterate 10 (first | walk1 | (dsimp only; walk1))
        k_dflt (refine rshift_to (v := ((lo + k / 2 : Nat) : Int)) (by decide) (mid_eq lo k) ?_)
        iterate 9 (first | walk1 | (dsimp only; walk1))
        k_dflt (refine mul_to (v := ((k / 2 * n : Nat) : Int)) ?m1 ?m2 ?_)
        case m1 => exact IntMulOk.of_right (intBits_le_iff.mpr (Nat.lt_of_le_of_lt (show (n : Int).natAbs ≤ 10000 by omega) (by decide)))
        case m2 => rw [show ((lo + k / 2 : Nat) : Int) - (lo : Int) = ((k / 2 : Nat) : Int) by omega, Int.natCast_mul]
        iterate 6 (first | walk1 | (dsimp only; walk1))
        k_dflt (refine rshift_to (v := ((x / 2 ^ (k / 2 * n) : Nat) : Int)) (by omega) (shr_eq x _) ?_)
        iterate 8 (first | walk1 | (dsimp only; walk1))
        k_dflt (refine lshift_to (v := ((x / 2 ^ (k / 2 * n) * 2 ^ (k / 2 * n) : Nat) : Int)) ?s1 ?s2 ?s3 ?_)
        case s1 => omega
        case s2 => exact shift_room (Nat.le_trans (intBits_le_of_natAbs (by simp only [Int.natAbs_natCast]; exact Nat.div_le_self _ _) (Nat.le_refl _)) hx) (Nat.mul_le_mul (show k / 2 ≤ 100 by omega) hn)
        case s3 => rw [Int.toNat_natCast]; simp
        k_dflt (refine xor_to (v := ((x % 2 ^ (k / 2 * n) : Nat) : Int)) (xor_eq x _) ?_)
        iterate 13 (first | walk1 | (dsimp only; walk1))
        refine ⟨by k_dflt (exact FnAt.of (by k_asm) (by k_mem)), ?_⟩
        try dsimp only [List.nil_append]
        have h1 := fun tx t1 t2 => ih (k / 2) (by omega) lo (x % 2 ^ (k / 2 * n)) its ns tx t1 t2 (by omega) (by omega) hns hI (Nat.le_trans (intBits_le_of_natAbs (by simp only [Int.natAbs_natCast]; exact Nat.mod_le _ _) (Nat.le_refl _)) hx)
        k_dflt (refine' h1 _ _ _ _ _ _ _ _ _ _ _ _ _ _ _ _ _ _ _ _ ?kB ?kF ?kX ?kN ?kT ?kK ?kC ?kd ?ku ?_)
        case kB => k_asm
        case kF => k_asm
        case kX => k_asm
        case kN => k_asm
        case kT => k_asm
        case kK => exact rfl
        case kC => exact hC.keeps (Fr.keep (by assumption))
        case kd => show dp + 1 + (k / 2) < _; omega
        case ku => show un + 3 + _ < _; omega
        intro its9 h9 tk9 hI9 F9 N9
        iterate 12 (first | walk1 | (dsimp only; walk1))
        refine ⟨by k_dflt (exact FnAt.of (by k_asm) (by k_mem)), ?_⟩
        try dsimp only [List.nil_append]
        have hl9 := put_length (ns := ns) (lo := lo) (n := n) (k := k / 2) (x := x % 2 ^ (k / 2 * n)) (by omega)
        have h2 := fun tx t1 t2 => ih (k - k / 2) (by omega) (lo + k / 2) (x / 2 ^ (k / 2 * n)) its9 _ tx t1 t2 (by omega) (by rw [hl9]; omega) (by rw [hl9]; exact hns) hI9 (Nat.le_trans (intBits_le_of_natAbs (by simp only [Int.natAbs_natCast]; exact Nat.div_le_self _ _) (Nat.le_refl _)) hx)
        rw [show lo + k / 2 + (k - k / 2) = lo + k by omega] at h2
        k_dflt (refine' h2 _ _ _ _ _ _ _ _ _ _ _ _ _ _ _ _ _ _ _ _ ?kB ?kF ?kX ?kN ?kT ?kK ?kC ?kd ?ku ?_)
        case kB => k_asm
        case kF => k_asm
        case kX => k_asm
        case kN => k_asm
        case kT => k_asm
        case kK => exact rfl
        case kC => exact hC.keeps (Fr.keep (by assumption))
        case kd => show dp + 1 + (k - k / 2) < _; omega
        case ku => show un + 3 + _ < _; omega
        intro its10 h10 tk10 hI10 F10 N10
        rw [put_put (by omega) (by omega)] at hI10
        iterate 2 (first | walk1 | (dsimp only; walk1))
        exact hret _ _ _ hI10 (by k_asm) (by k_asm)
  subst hrest
  iterate 22 (first | walk1 | (dsimp only; walk1))
  k_dflt (refine PyProof.Rows.len_list (by is_list) ?z1 ?_)
  case z1 => rw [List.size_toArray, List.length_replicate]; show _ < (9223372036854775808 : Int); omega
  rw [List.size_toArray, List.length_replicate, show K = 0 + K from (Nat.zero_add K).symm]
  try dsimp only
  walk1
  refine ⟨by k_dflt (exact FnAt.of (by k_asm) (by k_mem)), ?_⟩
  try dsimp only [List.nil_append]
  have hrl : (List.replicate K (0 : Int)).length = K := List.length_replicate
  have h1 := fun tv tx t1 t2 => key K 0 x (List.replicate K (.int 0 tv)) (List.replicate K 0) tx t1 t2 hK0 (by omega) (by omega) (ints_rep tv K) hB
  k_dflt (refine' h1 _ _ _ _ _ _ _ _ _ _ _ _ _ _ _ _ _ _ _ _ _ ?kB ?kF ?kX ?kN ?kT ?kK ?kC ?kd ?ku ?_)
  case kB => k_asm
  case kF => k_asm
  case kX => k_asm
  case kN => exact news_front2 (by assumption)
  case kT => k_asm
  case kK => exact rfl
  case kC => exact hC.keeps (Fr.keep (by assumption))
  case kd => show dp + 1 + K < _; omega
  case ku => show un + 3 + _ < _; omega
  intro its10 h10 tk10 hI10 F10 N10
  rw [put_all] at hI10
  iterate 5 (first | walk1 | (dsimp only; walk1))
  exact hret l its10 _ _ hI10 lt3.2.2.2.2.1 lt3.2.2.2.2.2.1 (kst_ltOf lt3.2.2.2.2.2.2) (by k_asm) (by refine' cb_drop ?cbN ?cbS; (case cbN => assumption); (case cbS => kcj_all))
  all_goals (exfalso; first | omega | (simp_all; done) | (simp_all; omega))
end
-- CDp
section

theorem rev_item {its : List Value} {ds : List Nat} (h : IntsAre its (ds.map fun d : Nat => (d : Int))) : ∀ (i : Nat) (v : Value), its.reverse[i]? = some v → ∃ d t, ds.reverse[i]? = some d ∧ v = .int ((d : Nat) : Int) t := by
  have hl : its.length = ds.length := by rw [h.length, List.length_map]
  intro i v hv
  have hi : i < its.length := by
    have := (List.getElem?_eq_some_iff.mp hv).1
    rwa [List.length_reverse] at this
  rw [List.getElem?_reverse hi] at hv
  rw [List.getElem?_reverse (by omega), ← hl]
  have hj : its.length - 1 - i < ds.length := by omega
  obtain ⟨t, ht⟩ := h.get (its.length - 1 - i) ((ds[its.length - 1 - i] : Nat) : Int) (by simp [hj])
  rw [hv] at ht
  exact ⟨ds[its.length - 1 - i], t, by simp [hj], Option.some.inj ht⟩
theorem fdiv_nat (a b : Nat) : Int.fdiv (a : Int) (b : Int) = ((a / b : Nat) : Int) := by rw [Int.fdiv_eq_ediv_of_nonneg _ (by omega), Int.natCast_ediv]
theorem fmod_nat (a b : Nat) : Int.fmod (a : Int) (b : Int) = ((a % b : Nat) : Int) := by rw [Int.fmod_eq_emod_of_nonneg _ (by omega), Int.natCast_emod]
theorem ints_rev : ∀ {vs : List Value} {ns : List Int}, IntsAre vs ns → IntsAre vs.reverse ns.reverse
  | _, _, .nil => .nil
  | _, _, .cons i t r => by
    rw [List.reverse_cons, List.reverse_cons]
    exact IntsAre.append (ints_rev r) (.cons i t .nil)
theorem bits_fit {x n K : Nat} (hK : (Builtin.Int.intBits (x : Int) + n - 1) / n = K) (hn : 0 < n) : x < 2 ^ (K * n) := by
  have h1 : Builtin.Int.intBits (x : Int) ≤ K * n := by
    have := Nat.lt_mul_div_succ (Builtin.Int.intBits (x : Int) + n - 1) hn
    rw [hK, Nat.mul_add, Nat.mul_one, Nat.mul_comm] at this
    omega
  simpa using intBits_le_iff.mp h1
theorem dpos {w : World} {mean : ExcName → Option Value} {mg mb : PySem.Str → Option Value} {news : List (Addr × Obj)} {x b n K : Nat} {tx tb : Tok} (hx : 0 < x) (hb : 0 < b) (hn : Builtin.Int.intBits (b : Int) = n) (hn1 : n ≤ 4000) (hK : (Builtin.Int.intBits (x : Int) + n - 1) / n = K) (hK0 : 0 < K) (hK1 : K ≤ 100) (hB : Builtin.Int.intBits (x : Int) ≤ 400000)
   (n1 : ∀ p ∈ news, p.1 ≠ 30) (n2 : ∀ p ∈ news, p.1 ≠ 37) {cD : Addr} {ocD : Obj} {vsD : Array Value} {tD : Tok} (d1 : ocD.data = .fields vsD) (d2 : vsD[1]? = some (.str QD tD)) (n3 : @Ne Nat cD 30) (n4 : @Ne Nat cD 37) (n5 : ∀ p ∈ news, p.1 ≠ cD) :
   CtrP w mean mg mb (fun h => CodeHd h 34 30 ∧ CodeHd h 41 37) 49 250 2000 ((30, tabObj #[]) :: (37, tabObj (tabD cD)) :: (cD, ocD) :: news) [.int (x : Int) tx, .int (b : Int) tb] (fun h₀ L m s Q =>
    ∀ (t : Addr) (tq tr : Tok) (h' : Heap) (tk' : Nat) (cI : Addr) (ocI : Obj) (vsI : Array Value) (tI : Tok), ocI.data = .fields vsI → vsI[1]? = some (.str QI tI) → Fr h₀ L h' m →
      News h₀ L h' ((t, { cls := .type "tuple", data := .seq #[.int ((x / b : Nat) : Int) tq, .int ((x % b : Nat) : Int) tr] }) :: (30, tabObj (tabI cI)) :: (cI, ocI) :: (37, tabObj (tabD cD)) :: (cD, ocD) :: news) →
      Q (.ref t) { s with heap := h', toks := tk' }) := by
  intro dp un gd cn cs ad ccd cl outer A₀ base h₀ L m s Q E B F X N T hk hC hd hu hret
  refine wpAny_call ?_
  k_dflt cell_enter
  iterate 8 (first | walk1 | (dsimp only; walk1))
  rw [hn]
  iterate 12 (first | walk1 | (dsimp only; walk1))
  have hn0 : 0 < n := by
    have : ¬ Builtin.Int.intBits (b : Int) ≤ 0 := by rw [intBits_le_iff]; simp; omega
    omega
  have m30 : ∀ p ∈ ((37, tabObj (tabD cD)) :: (cD, ocD) :: news : List (Addr × Obj)), p.1 ≠ 30 := by
    intro p hp
    rcases List.mem_cons.mp hp with rfl | hp
    · exact (by decide : (37 : Nat) ≠ 30)
    · rcases List.mem_cons.mp hp with rfl | hp
      · exact n3
      · exact n1 p hp
  k_dflt (refine' i2d (x := x) (n := n) (K := K) (news := (37, tabObj (tabD cD)) :: (cD, ocD) :: news) hx hn0 (by omega) hK hK0 hK1 (by omega) m30 _ _ _ _ _ _ _ _ _ _ _ _ _ _ _ _ _ ?kB ?kF ?kX ?kN ?kT ?kK ?kC ?kd ?ku ?_)
  case kB => k_asm
  case kF => k_asm
  case kX => k_asm
  case kN => k_asm
  case kT => k_asm
  case kK => exact rfl
  case kC => exact hC.1.keeps (Fr.keep (by assumption))
  case kd => show dp + 1 + 150 < _; omega
  case ku => show un + 3 + _ < _; omega
  intro l its h3 tk3 cI ocI vsI tI hI e1 e2 l30 lN lcI F3 N3
  k_lt lN
  iterate 14 (first | walk1 | (dsimp only; walk1))
  refine wpAny_For ?_ (by intro _; rfl)
  iterate 7 (first | walk1 | (dsimp only; walk1))
  rename_i lq h4 lq1 h5 D9 h6 F6 N6 lD
  have hTL := TailLt.of lq1.2.2.2.2.2
  have hR : ∀ (i : Nat) (v : Value), its.reverse[i]? = some v → ∃ d t, (digsN n K x).reverse[i]? = some d ∧ v = .int ((d : Nat) : Int) t := rev_item (digs_eq n K x ▸ hI)
  have hdl : ∀ d ∈ (digsN n K x).reverse, d < 2 ^ n := fun d hd => digsN_small K x (bits_fit hK hn0) d (List.mem_reverse.mp hd)
  have hbn : b < 2 ^ n := by
    have := (intBits_le_iff (x := (b : Int)) (m := n)).mp (Nat.le_of_eq hn)
    simpa using this
  have hlen : its.length = K := by rw [hI.length, digs_length]
  k_dflt (refine forJ_rev (fun m₀ i m₁ nw => ∃ uq ua tr its' e', m₁ = upd3 (Str.ofString "r") (Str.ofString "q_digit") (Str.ofString "a_digit") (some (.int (((runD b n ((digsN n K x).reverse.take i)).1 : Nat) : Int) tr)) uq ua m₀ ∧
      nw = (lq, W.listOf its'.toArray e') :: (l, W.listOf its.toArray 0) :: (30, tabObj (tabI cI)) :: (cI, ocI) :: (37, tabObj (tabD cD)) :: (cD, ocD) :: news ∧ IntsAre its' ((runD b n ((digsN n K x).reverse.take i)).2.map fun d : Nat => (d : Int))) (hh := rfl) (F := F6) (N := N6) (off := ?_) (S := ?_) (h0 := ?_) (turn := ?_) (done := ?_))
  · exact TailLt.ne (kst_ltOf (show AllLt D9 _ from ⟨lD.1, lD.2.1, lD.2.2.1, lD.2.2.2.1, lD.2.2.2.2.1, lD.2.2.2.2.2.1, lD.2.2.2.2.2.2⟩)) (Nat.le_refl _)
  · exact .inr ⟨W.listOf its.toArray 0, List.mem_cons_of_mem _ List.mem_cons_self, rfl, 0, rfl⟩
  · exact ⟨_, _, _, [], 0, map_open3 _ _ _ _, rfl, .nil⟩
  · intro i v oI m₁ nw h tk E' hi hv hJ hS off F9 N9
    obtain ⟨uq, ua, tr, its', e', rfl, rfl, hI'⟩ := hJ
    obtain ⟨d, td, hd9, rfl⟩ := hR i v hv
    unfold upd3 at F9
    have nI : @Ne Nat lq D9 := off (lq, W.listOf its'.toArray e') List.mem_cons_self
    have hrb := (runD_spec (n := n) hb ((digsN n K x).reverse.take i)).2.1
    have htk : (digsN n K x).reverse.take (i + 1) = (digsN n K x).reverse.take i ++ [d] := by rw [List.take_add_one, hd9]; rfl
    have hst : runD b n ((digsN n K x).reverse.take (i + 1)) = stepD b n (runD b n ((digsN n K x).reverse.take i)) d := by rw [htk, runD_snoc]
    rw [hst]
    generalize hro : runD b n ((digsN n K x).reverse.take i) = ro at hrb hI' F9 ⊢
    obtain ⟨r, qs⟩ := ro
    have hd2 : d < 2 ^ n := hdl d (List.mem_of_getElem? hd9)
    have hr2 : r < 2 ^ n := Nat.lt_trans hrb hbn
    have hsz : r * 2 ^ n + d < 2 ^ (2 * n) := by
      have h1 : (r + 1) * 2 ^ n ≤ 2 ^ n * 2 ^ n := Nat.mul_le_mul_right _ hr2
      rw [Nat.add_mul, Nat.one_mul, ← Nat.pow_add, ← Nat.two_mul] at h1
      omega
    dsimp only at F9
    iterate 12 (first | walk1 | (dsimp only; walk1))
    k_dflt (refine lshift_to (v := ((r * 2 ^ n : Nat) : Int)) ?s1 ?s2 ?s3 ?_)
    case s1 => omega
    case s2 =>
      have : Builtin.Int.intBits (r : Int) ≤ n := intBits_le_iff.mpr (by simpa using hr2)
      show _ ≤ (134217728 : Int)
      omega
    case s3 => rw [Int.toNat_natCast]; simp
    iterate 1 (first | walk1 | (dsimp only; walk1))
    k_dflt (refine add_to (v := ((r * 2 ^ n + d : Nat) : Int)) (by simp) ?_)
    iterate 5 (first | walk1 | (dsimp only; walk1))
    refine ⟨by k_in, ?_⟩
    try dsimp only [List.nil_append]
    have hbl : (Builtin.Int.intBits ((r * 2 ^ n + d : Nat) : Int) : Int) - (n : Int) ≤ 4000 := by
      have : Builtin.Int.intBits ((r * 2 ^ n + d : Nat) : Int) ≤ 2 * n := intBits_le_iff.mpr (by rw [Int.natAbs_natCast]; exact hsz)
      omega
    have hlg : (b : Int).natAbs.log2 < 9000 := by
      rw [Int.natAbs_natCast]
      exact Nat.lt_of_lt_of_le ((Nat.log2_lt (by omega)).mpr hbn) (by omega)
    k_dflt (refine' div2n1n (a := ((r * 2 ^ n + d : Nat) : Int)) (b := (b : Int)) (n := (n : Int)) (by omega) hlg hbl _ _ _ _ _ _ _ _ _ _ _ _ _ _ _ _ _ ?kB ?kF ?kX ?kN ?kT ?kK ?kd ?ku ?_)
    case kB => k_asm
    case kF => k_asm
    case kX => k_asm
    case kN => k_asm
    case kT => k_asm
    case kK => exact rfl
    case kd => show dp + 1 + 1 < _; omega
    case ku => show un + 3 + _ < _; omega
    intro t9 tq9 tr9 h9 tk9 F10 N10 l10
    rw [fdiv_nat, fmod_nat] at N10
    k_lt l10
    iterate 18 (first | walk1 | (dsimp only; walk1))
    have hlq : its'.length = qs.length := by rw [hI'.length, List.length_map]
    have hql : qs.length ≤ 100 := by
      have h1 := (runD_spec (n := n) hb ((digsN n K x).reverse.take i)).2.2
      rw [hro] at h1
      have h2 : ((digsN n K x).reverse.take i).length ≤ K := by rw [List.length_take, List.length_reverse, digsN_length]; omega
      simp only at h1
      omega
    k_dflt (refine append_K (by k_asm) (by k_asm) (by k_upd) ?_ (by rw [List.size_toArray, sizeLine_eq]; omega))
    intro h11 F11 N11
    rw [List.push_toArray] at N11
    try dsimp only
    refine wpAny_execs_nil ?_
    refine ⟨rfl, h11, _, _, _, rfl, F11, cb_drop N11 (by kcj_all), off_head off, .inr ⟨W.listOf its.toArray 0, List.mem_cons_of_mem _ List.mem_cons_self, rfl, 0, rfl⟩, _, _, tr9, its' ++ [.int (((r * 2 ^ n + d) / b : Nat) : Int) tq9], e' + 1, map_again3, rfl, ?_⟩
    rw [show (stepD b n (r, qs) d).2 = qs ++ [(r * 2 ^ n + d) / b] from rfl, List.map_append]
    exact IntsAre.append hI' (.cons _ _ .nil)
  · intro m₁ nw h tk hJ F9 N9
    obtain ⟨uq, ua, tr, its', e', rfl, rfl, hI'⟩ := hJ
    unfold upd3 at F9
    rw [hlen, List.take_of_length_le (by rw [List.length_reverse, digsN_length]; exact Nat.le_refl _)] at hI' F9
    obtain ⟨hq9, hr9⟩ := run_all (n := n) (k := K) (x := x) hb hK0
    have hq8 := runD_small (n := n) hb (digsN n K x).reverse hdl
    have hq7 := (runD_spec (n := n) hb (digsN n K x).reverse).2.2
    rw [List.length_reverse, digsN_length] at hq7
    rw [hr9] at F9
    generalize (runD b n (digsN n K x).reverse).2 = qs at hI' hq9 hq8 hq7
    try dsimp only
    iterate 6 (first | walk1 | (dsimp only; walk1))
    try dsimp only
    have hlq : its'.length = K := by rw [hI'.length, List.length_map, hq7]
    k_dflt (refine kl_reverse (l := its'.reverse) (by k_asm) (by k_asm) ?e1 (by k_upd) ?e2 ?_)
    case e1 => rfl
    case e2 => rw [sizeLine_eq]; simp only; omega
    intro h11 F11 N11
    have hI2 : IntsAre its'.reverse (qs.reverse.map fun d : Nat => (d : Int)) := by
      have := ints_rev hI'
      rwa [← List.map_reverse] at this
    have hB2 := horner_bits (W := n) (n := n) (ds := qs.reverse.map fun d : Nat => (d : Int)) (by
      intro d hd
      obtain ⟨q, hq, rfl⟩ := List.mem_map.mp hd
      simpa using hq8 q (List.mem_reverse.mp hq)) (by omega) (by omega) (by rw [List.length_map, List.length_reverse]; omega)
    have hval : horner n (qs.reverse.map fun d : Nat => (d : Int)) = ((x / b : Nat) : Int) := by rw [horner_rev, hq9]
    iterate 11 (first | walk1 | (dsimp only; walk1))
    have m37 : ∀ p ∈ ((l, W.listOf its.toArray 0) :: (30, tabObj (tabI cI)) :: (cI, ocI) :: news : List (Addr × Obj)), p.1 ≠ 37 := by
      intro p hp
      rcases List.mem_cons.mp hp with rfl | hp
      · exact Nat.ne_of_gt lN.1
      · rcases List.mem_cons.mp hp with rfl | hp
        · exact (by decide : (30 : Nat) ≠ 37)
        · rcases List.mem_cons.mp hp with rfl | hp
          · exact Nat.ne_of_gt (Nat.lt_trans lN.1 lcI)
          · exact n2 p hp
    k_dflt (refine' d2i2 (news := (l, W.listOf its.toArray 0) :: (30, tabObj (tabI cI)) :: (cI, ocI) :: news) (c' := cD) (oc' := ocD) hI2 (by rw [List.length_map, List.length_reverse]; omega) (by rw [List.length_map, List.length_reverse]; omega) (by omega) hB2 (Nat.ne_of_gt lq1.2.2.2.1) m37 d1 d2 _ _ _ _ _ _ _ _ _ _ _ _ _ _ _ _ _ ?kB ?kF ?kX ?kN ?kT ?kK ?kC ?kd ?ku ?_)
    case kB => k_asm
    case kF => k_asm
    case kX => k_asm
    case kN => refine' cb_drop ?cbN ?cbS; (case cbN => assumption); (case cbS => kcj_all)
    case kT => k_asm
    case kK => exact rfl
    case kC => exact hC.2.keeps (Fr.keep (by assumption))
    case kd => show dp + 1 + 150 < _; omega
    case ku => show un + 3 + _ < _; omega
    intro t12 h12 tk12 F12 N12
    rw [hval]
    iterate 12 (first | walk1 | (dsimp only; walk1))
    exact hret _ _ _ _ _ cI ocI vsI tI e1 e2 (by k_asm) (by refine' cb_drop ?cbN ?cbS; (case cbN => assumption); (case cbS => kcj_all))
end
-- TRead
section

local macro_rules | `(tactic| k_ne) => `(tactic| (refine neN ?_; (try dsimp only); first | assumption | (refine Ne.symm ?_; assumption)))
theorem read {w : World} {mean : ExcName → Option Value} {mg mb : PySem.Str → Option Value} {news : List (Addr × Obj)} {l : Addr} {c1 c2 c3 : Nat} {t1 t2 t3 : Tok} {e : Nat} (hsg : ∀ c ∈ [c1, c2, c3], (look [c] NB).isSome = true) :
   Ctr w mean mg mb 71 3 300 ((l, W.listOf #[.str (ofL [c1]) t1, .str (ofL [c2]) t2, .str (ofL [c3]) t3] e) :: news) [.ref l] (fun h₀ L m s Q =>
    ∀ (d : Addr) (vs : List Value) (eF : Nat) (h' : Heap) (tk' : Nat), IntsAre vs (readN [c1, c2, c3] 4) → Fr h₀ L h' m → News h₀ L h' ((d, W.listOf vs.toArray eF) :: news) → Q (.ref d) { s with heap := h', toks := tk' }) := by
  intro dp un gd cn cs ad ccd cl outer A₀ base h₀ L m s Q E B F X N T hk hd hu hret
  refine wpAny_call ?_
  k_dflt (walk_at "m enterC")
  rename_i g' L' h' tk' FG' F' B' X' T' l1 o' o2' o3' d1' d2' d3' N'
  have hTL0 := TailLt.of l1.2
  iterate 5 (first | walk1 | (dsimp only; walk1))
  k_dflt (refine' numbers _ _ _ _ _ _ _ _ _ _ _ _ _ _ _ _ _ ?kB ?kF ?kX ?kN ?kT ?kK ?kd ?ku ?_)
  case kB => k_asm
  case kF => k_asm
  case kX => k_asm
  case kN => k_asm
  case kT => k_asm
  case kK => exact rfl
  case kd => show dp + 1 + 1 < _; omega
  case ku => show un + 3 + _ < _; omega
  intro dN oN kN hN tkN isN beN loN FN NN apN
  have aN1 : @Ne Nat (L' + 1 + 1 + 1) dN := apN (_, o') (.head _)
  have aN2 : @Ne Nat (L' + 1 + 1) dN := apN (_, o2') (.tail _ (.head _))
  have aN3 : @Ne Nat (L' + 1) dN := apN (_, o3') (.tail _ (.tail _ (.head _)))
  have aN4 : @Ne Nat l dN := apN (l, _) (.tail _ (.tail _ (.tail _ (.head _))))
  have aN5 : ∀ p ∈ news, p.1 ≠ dN := fun p hp => apN p (.tail _ (.tail _ (.tail _ (.tail _ hp))))
  try dsimp only
  iterate 20 (first | walk1 | (dsimp only; walk1))
  iterate 3 (first | walk1 | (dsimp only; walk1))
  try dsimp only
  k_dflt (refine' kdn_str ?q ?F ?N ?b ?a ?l ?e ?n ?_; (case q => rfl); (case F => k_asm); (case N => k_asm); (case b => exact Top.nolimit (by k_asm)); (case a => rfl); (case l => rfl); (case e => exact List.cons_ne_nil _ _); (case n => exact Nat.le_of_ble_eq_true rfl))
  intro dT hT0 oT FT NT lT loT hdT
  k_lt lT
  iterate 23 (first | walk1 | (dsimp only; walk1))
  rename_i h1 oCN dCN tk1 la hla lal Db hDb i1 n1 s1 e1 e2 e3 Dbl lc hlc lcl lF hlF lFl hF tkF dt0 hA ltA hB oT1 hdT1 hC tkC lY hD lYl hE oCL FE NE dCL
  refine wpAny_For ?_ (by intro _; rfl)
  iterate 9 (first | walk1 | (dsimp only; walk1))
  (with_reducible rename News g' L' _ _ => NZ)
  have NX := show News g' L' _ ((L' + 1 + 1 + 1, o') :: (lY, W.listOf (List.toArray [.str (Str.ofString "") tkC]) 0) :: (L' + 1 + 1, oCL) :: (dT, oT1) :: (lF, W.listOf (List.toArray [Value.int 0 tk1, Value.int 0 tk1, Value.int 0 tk1, Value.int 0 tk1, Value.int 0 tk1, Value.int 0 tk1, Value.int 0 tk1, Value.int 0 tk1, Value.int 0 tk1, Value.int 0 tk1, Value.int 0 tk1, Value.int 0 tk1, Value.int 0 tk1, Value.int 0 tk1, Value.int 0 tk1, Value.int 0 tk1, Value.int 0 tk1, Value.int 0 tk1, Value.int 0 tk1, Value.int 0 tk1, Value.int 0 tk1, Value.int 0 tk1, Value.int 0 tk1, Value.int 0 tk1, Value.int 0 tk1, Value.int 0 tk1, Value.int 0 tk1, Value.int 0 tk1, Value.int 0 tk1, Value.int 0 tk1, Value.int 0 tk1, Value.int 0 tk1, Value.int 0 tk1, Value.int 0 tk1, Value.int 0 tk1, Value.int 0 tk1, Value.int 0 tk1, Value.int 0 tk1, Value.int 0 tk1, Value.int 0 tk1, Value.int 0 tk1, Value.int 0 tk1, Value.int 0 tk1, Value.int 0 tk1, Value.int 1 (tk1 + 1 + 1)]) 0) :: (dN, oN) :: (L' + 1, oCN) ::
        (l, W.listOf #[.str (ofL [c1]) t1, .str (ofL [c2]) t2, .str (ofL [c3]) t3] e) :: (dt0, { cls := .type "tuple", data := .seq #[.int 0 (tkF + 1), .int 1 (tkF + 1 + 1)] }) :: news) from cb_drop NZ (by kcj_all)
  k_dflt (refine forJ_range (n := 4) (fun m₀ i m₁ nw => ∃ uw ub uf un oCT ct lY ys eY oCL oT kvs fs eF tl,
      m₁ = upd4 (Str.ofString "worth") (Str.ofString "behind") (Str.ofString "front") (Str.ofString "n") uw ub uf un m₀ ∧
      nw = (L' + 1 + 1 + 1, oCT) :: (lY, W.listOf (List.toArray ys) eY) :: (L' + 1 + 1, oCL) :: (dT, oT) :: (lF, W.listOf (List.toArray fs) eF) :: (dN, oN) :: (L' + 1, oCN) ::
        (l, W.listOf #[.str (ofL [c1]) t1, .str (ofL [c2]) t2, .str (ofL [c3]) t3] e) :: tl ∧
      oCT.data = .cell ct ∧ oCL.data = .cell (some (.ref lY)) ∧ Paired TxV (layerF [c1, c2, c3] i) ys ∧ Obj.IsDictOf (strKind PG w) oT kvs ∧ ReadL L' lY dT lF tl news ∧
      kvs.length ≤ (doneF [c1, c2, c3] (i + 1) 0).length ∧ Told kvs tl (doneF [c1, c2, c3] (i + 1) 0) ∧ IntsAre fs (readN [c1, c2, c3] i)) (hh := rfl) (F := by k_asm) (N := NX) (hr := by assumption) (hsm := by decide) (hn := by decide) (h0 := ?_) (turn := ?_) (done := ?_))
  · have p1 : @LT.lt Nat _ (L' + 1 + 1 + 1) lF := lFl.2.2.2.2.1
    have p2 : @LT.lt Nat _ lF dT := lT.1
    have p3 : @LT.lt Nat _ dT dt0 := ltA.1
    have p4 : @LT.lt Nat _ dt0 lY := lYl.1
    refine ⟨_, _, _, _, o', _, lY, _, 0, oCL, oT1, _, _, 0, _, map_open4 _ _ _ _ _, rfl, d1', dCL, .cons ⟨tkC, rfl⟩ .nil, hdT1, ?_, ?_, ?_, ?_⟩
    · have ha : ∀ x : Nat, @LT.lt Nat _ x dt0 → @LE.le Nat _ L' x → ∀ p ∈ ((dt0, ({ cls := .type "tuple", data := .seq #[.int 0 (tkF + 1), .int 1 (tkF + 1 + 1)] } : Obj)) :: news : List (Addr × Obj)), p.1 ≠ x := by
        intro x h1 h2 p hp
        rcases List.mem_cons.mp hp with rfl | hp
        · exact Nat.ne_of_gt h1
        · exact TailLt.ne hTL0 h2 p hp
      exact ⟨ha (L' + 1 + 1 + 1) (by omega) (by omega), ha (L' + 1 + 1) (by omega) (by omega), ha dT (by omega) (by omega), ha lF (by omega) (by omega), by omega, by omega, by omega, by omega, fun p hp => List.mem_cons_of_mem _ hp⟩
    · exact Nat.le_refl 1
    · intro t ht
      have ht0 : t = [] := by simpa [doneF, layerF] using ht
      subst ht0
      exact ⟨dt0, _, _, rfl, List.mem_cons_self⟩
    · exact ints_start _ _ _
  · intro I i tv oI m₁ nw h tk E' hi hJ off F9 N9
    obtain ⟨uw, ub, uf, un, oCT, ct, lY, ys, eY, oCL, oT, kvs, fs, eF, tl, rfl, rfl, dCT, dCL, hys, hdo, RL, hlen, htold, hfs⟩ := hJ
    unfold upd4 at F9
    have nI1 : @Ne Nat (L' + 1 + 1 + 1) I := off (_, oCT) (.head _)
    have nI2 : @Ne Nat lY I := off (lY, _) (.tail _ (.head _))
    have nI3 : @Ne Nat (L' + 1 + 1) I := off (_, oCL) (.tail _ (.tail _ (.head _)))
    have nI4 : @Ne Nat dT I := off (dT, oT) (.tail _ (.tail _ (.tail _ (.head _))))
    have nI5 : @Ne Nat lF I := off (lF, _) (.tail _ (.tail _ (.tail _ (.tail _ (.head _)))))
    have nI6 : @Ne Nat dN I := off (dN, _) (.tail _ (.tail _ (.tail _ (.tail _ (.tail _ (.head _))))))
    have nI7 : @Ne Nat (L' + 1) I := off (L' + 1, _) (.tail _ (.tail _ (.tail _ (.tail _ (.tail _ (.tail _ (.head _)))))))
    have nI8 : @Ne Nat l I := off (l, _) (.tail _ (.tail _ (.tail _ (.tail _ (.tail _ (.tail _ (.tail _ (.head _))))))))
    have nI9 : ∀ p ∈ tl, p.1 ≠ I := fun p hp => off p (.tail _ (.tail _ (.tail _ (.tail _ (.tail _ (.tail _ (.tail _ (.tail _ hp))))))))
    have ra1 := RL.a1
    have ra2 := RL.a2
    have ra3 := RL.a3
    have ra4 := RL.a4
    have rb1 := RL.b1
    have rb2 := RL.b2
    have rb3 := RL.b3
    have rb4 := RL.b4
    iterate 4 (first | walk1 | (dsimp only; walk1))
    k_dflt (refine ListComp_2 (RV := fun i' j y => ∃ k, y = .str (ofL ([c1, c2, c3].getD i' 0 :: (layerF [c1, c2, c3] i).getD j [])) k) (F₀ := by k_asm) (by with_unfolding_all rfl) (by decide) (by rfl) (by decide) (by rfl) (by rfl) (by decide) ?_)
    iterate 1 (first | walk1 | (dsimp only; walk1))
    refine' ⟨l, lY, #[.str (ofL [c1]) t1, .str (ofL [c2]) t2, .str (ofL [c3]) t3], ys.toArray, _, rfl, ⟨rfl, ?F, ?N, ?S1, ?S2, ?sz, ?it, ?el, ?fi⟩⟩
    case F => k_asm
    case N => k_asm
    case S1 => exact .inr ⟨_, by k_mem, rfl, _, rfl⟩
    case S2 => exact .inr ⟨_, by k_mem, rfl, _, rfl⟩
    case sz =>
      have := Paired.length hys
      have h81 := layer_size c1 c2 c3 i (by omega)
      rw [sizeLine_eq]
      simp only [List.size_toArray, ← this]
      show 3 * _ ≤ _
      omega
    case it =>
      intro I2 oI2 C oC D ys2 m₂ h2 tk2 E2 hC2 F2 N2
      iterate 1 (first | walk1 | (dsimp only; walk1))
      exact ⟨rfl, SameEnd.mk (by k_asm) (by k_asm)⟩
    case el =>
      intro i' j v1 v2 J2 oJ2 I2 oI2 C oC D ys2 m₂ h2 tk2 E2 hv1 hv2 hC2 hm1 hm2 F2 N2
      obtain ⟨k1, rfl⟩ := sign_at hv1
      obtain ⟨k2, rfl⟩ := text_at hys hv2
      have q1 := ofL_length [[c1, c2, c3].getD i' 0]
      have q2 := ofL_length ((layerF [c1, c2, c3] i).getD j [])
      have q3 := layer_getD_len [c1, c2, c3] i j
      simp only [List.length_singleton] at q1
      iterate 4 (first | walk1 | (dsimp only; walk1))
      dsimp only
      refine ⟨⟨_, congrArg (fun x => Value.str x _) (ofL_append _ _)⟩, SameEnd.mk (by k_asm) (by k_asm)⟩
    case fi =>
      intro ys2 hp2 h2 tk2 D2 F2 N2 ap2
      have hys2 : Paired TxV (layerF [c1, c2, c3] (i + 1)) ys2 := by
        rw [← layer_next c1 c2 c3 i ys.toArray.size (by rw [List.size_toArray]; exact (Paired.length hys).symm)]
        exact Paired.maps hp2
      have nD0 : @Ne Nat I D2 := ap2 (_, oI) (.head _)
      have nD1 : @Ne Nat (L' + 1 + 1 + 1) D2 := ap2 (_, oCT) (.tail _ (.head _))
      have nD3 : @Ne Nat (L' + 1 + 1) D2 := ap2 (_, oCL) (.tail _ (.tail _ (.tail _ (.head _))))
      have nD4 : @Ne Nat dT D2 := ap2 (dT, oT) (.tail _ (.tail _ (.tail _ (.tail _ (.head _)))))
      have nD5 : @Ne Nat lF D2 := ap2 (lF, _) (.tail _ (.tail _ (.tail _ (.tail _ (.tail _ (.head _))))))
      iterate 2 (first | walk1 | (dsimp only; walk1))
      rename_i hL3 oCL2 F3 N3 dCL2
      refine wpAny_For ?_ (by intro _; rfl)
      iterate 1 (first | walk1 | (dsimp only; walk1))
      (with_reducible rename News g' L' _ _ => NZ2)
      have NX2 := show News g' L' _ ((L' + 1 + 1 + 1, oCT) :: (D2, LCg.lst ys2) :: (L' + 1 + 1, oCL2) :: (dT, oT) :: (lF, W.listOf (List.toArray fs) eF) :: (dN, oN) :: (L' + 1, oCN) ::
        (l, W.listOf #[.str (ofL [c1]) t1, .str (ofL [c2]) t2, .str (ofL [c3]) t3] e) :: (I, oI) :: tl) from cb_drop NZ2 (by kcj_all)
      k_dflt (refine forJ_list (fun m₀ j m₁ nw => ∃ uw ub uf oCT ct oT kvs fs eF tl, m₁ = upd3 (Str.ofString "worth") (Str.ofString "behind") (Str.ofString "front") uw ub uf m₀ ∧
        nw = (L' + 1 + 1 + 1, oCT) :: (D2, LCg.lst ys2) :: (L' + 1 + 1, oCL2) :: (dT, oT) :: (lF, W.listOf (List.toArray fs) eF) :: (dN, oN) :: (L' + 1, oCN) ::
          (l, W.listOf #[.str (ofL [c1]) t1, .str (ofL [c2]) t2, .str (ofL [c3]) t3] e) :: (I, oI) :: tl ∧
        oCT.data = .cell ct ∧ Obj.IsDictOf (strKind PG w) oT kvs ∧ ReadL L' D2 dT lF tl news ∧ (∀ p ∈ tl, p.1 ≠ I) ∧
        kvs.length ≤ (doneF [c1, c2, c3] (i + 1) j).length ∧ Told kvs tl (doneF [c1, c2, c3] (i + 1) j) ∧ IntsAre fs (partF [c1, c2, c3] (i + 1) j)) (hh := rfl) (F := by k_asm) (N := NX2) (S := .inr ⟨_, List.mem_cons_of_mem _ List.mem_cons_self, rfl, _, rfl⟩) (h0 := ?_) (turn := ?_) (done := ?_))
      · exact ⟨_, _, _, oCT, ct, oT, kvs, fs, eF, tl, map_open3 _ _ _ _, rfl, dCT, hdo, ⟨ra1, ra2, ra3, ra4, Ne.symm nD1, Ne.symm nD3, Ne.symm nD4, Ne.symm nD5, RL.c⟩, nI9, hlen, htold, hfs⟩
      · intro I2 j v oI2 m₁ nw h tk E' hj hv hJ hS off2 F9 N9
        obtain ⟨uw, ub, uf, oCT, ct, oT, kvs, fs, eF, tl, rfl, rfl, dCT, hdo, RL, nI9, hlen, htold, hfs⟩ := hJ
        rw [List.getElem?_toArray] at hv
        obtain ⟨t, ht, k0, rfl⟩ := paired_at hys2 hv
        unfold upd3 at F9
        have m1 : @Ne Nat (L' + 1 + 1 + 1) I2 := off2 (_, oCT) (.head _)
        have m2 : @Ne Nat D2 I2 := off2 (D2, _) (.tail _ (.head _))
        have m3 : @Ne Nat (L' + 1 + 1) I2 := off2 (_, oCL2) (.tail _ (.tail _ (.head _)))
        have m4 : @Ne Nat dT I2 := off2 (dT, oT) (.tail _ (.tail _ (.tail _ (.head _))))
        have m5 : @Ne Nat lF I2 := off2 (lF, _) (.tail _ (.tail _ (.tail _ (.tail _ (.head _)))))
        have m6 : @Ne Nat dN I2 := off2 (dN, _) (.tail _ (.tail _ (.tail _ (.tail _ (.tail _ (.head _))))))
        have m7 : @Ne Nat (L' + 1) I2 := off2 (L' + 1, _) (.tail _ (.tail _ (.tail _ (.tail _ (.tail _ (.tail _ (.head _)))))))
        have m8 : @Ne Nat l I2 := off2 (l, _) (.tail _ (.tail _ (.tail _ (.tail _ (.tail _ (.tail _ (.tail _ (.head _))))))))
        have m9 : @Ne Nat I I2 := off2 (I, _) (.tail _ (.tail _ (.tail _ (.tail _ (.tail _ (.tail _ (.tail _ (.tail _ (.head _)))))))))
        have m10 : ∀ p ∈ tl, p.1 ≠ I2 := fun p hp => off2 p (.tail _ (.tail _ (.tail _ (.tail _ (.tail _ (.tail _ (.tail _ (.tail _ (.tail _ hp)))))))))
        have ra1 := RL.a1
        have ra2 := RL.a2
        have ra3 := RL.a3
        have ra4 := RL.a4
        have htl := layer_len (List.mem_of_getElem? ht)
        have hszT : (ofL t).length ≤ sizeLine := by rw [ofL_length, sizeLine_eq]; omega
        iterate 5 (first | walk1 | (dsimp only; walk1))
        k_dflt (refine ListComp_TG (F₀ := by k_asm) (by with_unfolding_all rfl) (by decide) (by rfl) (by decide) (by rfl) ?_)
        iterate 9 (first | walk1 | (dsimp only; walk1))
        k_dflt (refine src_tuple (by rfl) (by k_asm) (by k_asm) (by k_mem) (by rw [sizeLine_eq]; show 3 ≤ _; omega) ?_)
        intro g9
        refine restT_filter (fun i => (look (t.take (3 - i)) NB).isSome) (fun i y => ∃ k, y = Value.str (ofL (t.take (3 - i))) k) (by k_mem) ?_ ?_ ?_
        · intro i' v I3 oI3 C oC D m₂ ys3 h3 tk3 E3 hi3 hv3 hC3 hx3 F10 N10 off10 ne10
          obtain ⟨k3, rfl⟩ := three_at hv3
          try dsimp only
          iterate 8 (first | walk1 | (dsimp only; walk1))
          k_dflt (refine slice_strN_ns (hsz := hszT) (s := ⟨_, _, _, _, _⟩) (by k_asm) (by k_asm) ?_)
          intro h11 t11 k11 F11 N11
          rw [slice_to _ (by omega), Int.toNat_natCast]
          walk1
          k_dflt (refine in_led (kvs := kN) (by k_asm) (by k_mem) isN loN ?_)
          rw [beN.isSome]
          try dsimp only
          walk1
          try dsimp only
          exact ⟨rfl, SameEnd.mk (by k_asm) (by k_asm)⟩
        · intro i' v I3 oI3 C oC D m₂ ys3 h3 tk3 E3 hi3 hp3 hv3 hC3 hx3 F10 N10 off10 ne10
          obtain ⟨k3, rfl⟩ := three_at hv3
          try dsimp only
          iterate 7 (first | walk1 | (dsimp only; walk1))
          k_dflt (refine slice_strN_ns (hsz := hszT) (s := ⟨_, _, _, _, _⟩) (by k_asm) (by k_asm) ?_)
          intro h11 t11 k11 F11 N11
          rw [slice_to _ (by omega), Int.toNat_natCast]
          exact ⟨⟨_, rfl⟩, SameEnd.mk (by k_asm) (by k_asm)⟩
        · intro ys3 hys3 D3 h3 tk3 F10 N10 off10
          try dsimp only
          iterate 2 (first | walk1 | (dsimp only; walk1))
          obtain ⟨c0, hc0, hc1⟩ := layer_head (List.mem_of_getElem? ht)
          have hs1 : (look (t.take 1) NB).isSome = true := by rw [hc1]; exact hsg c0 hc0
          obtain ⟨kf, rest3, rfl⟩ := front_first hys3 hs1
          k_dflt (refine item_listL (by is_list) (by decide) (by decide) (x := .str (ofL (frontF t)) kf) rfl ?_)
          try dsimp only
          iterate 10 (first | walk1 | (dsimp only; walk1))
          have hfl := frontF_len' (t := t) (by omega)
          have hfo := ofL_length (frontF t)
          iterate 9 (first | walk1 | (dsimp only; walk1))
          k_dflt (refine slice_strN_sn (hsz := hszT) (s := ⟨_, _, _, _, _⟩) (by k_asm) (by k_asm) ?_)
          intro h11 t11 k11 F11 N11
          rw [slice_from _ (by omega) (by omega), Int.toNat_natCast, hfo]
          obtain ⟨aT, ta, tb, hvT, hmT⟩ := htold _ (done_drop (i := j) (List.mem_of_getElem? ht) hfl.1 (by omega))
          k_dflt (refine getItem_led (kvs := kvs) (by k_asm) (by k_mem) hdo hvT ?_)
          try dsimp only
          have N12 := news_too N11 (.tail _ (.tail _ (.tail _ (.tail _ (.tail _ (.tail _ (.tail _ (.tail _ (.tail _ (.tail _ (.tail _ (.tail _ hmT))))))))))))
          unfold tupO at N12
          clear N11
          iterate 23 (first | walk1 | (dsimp only; walk1))
          obtain ⟨tn, hvN⟩ := beN.some (frontF_some hs1)
          k_dflt (refine getItem_led (kvs := kN) (by k_asm) (by k_mem) isN hvN ?_)
          try dsimp only
          have hT1 : ((toldF t).1 : Int) = ((toldF (t.drop (frontF t).length)).1 : Int) + 1 := by rw [toldF_cons t (by omega)]; simp
          have hT2 : ((toldF (t.drop (frontF t).length)).2 : Int) * (numF (frontF t) : Int) = ((toldF t).2 : Int) := by rw [toldF_cons t (by omega)]; simp
          have hMok : IntMulOk ((toldF (t.drop (frontF t).length)).2 : Int) (numF (frontF t) : Int) := IntMulOk.of_right (intBits_le_iff.mpr (Nat.lt_of_le_of_lt (show ((numF (frontF t) : Nat) : Int).natAbs ≤ 54 by have := numF_le (frontF t); omega) (by decide)))
          k_dflt (refine mul_to (v := ((toldF t).2 : Int)) hMok hT2 ?_)
          iterate 4 (first | walk1 | (dsimp only; walk1))
          have ntT : @Ne Nat aT dT := ra3 _ hmT
          have ntF : @Ne Nat aT lF := ra4 _ hmT
          have d3T : @Ne Nat D3 dT := Ne.symm off10.2.2.2.2.2.1
          have d3F : @Ne Nat D3 lF := Ne.symm off10.2.2.2.2.2.2.1
          rename_i D4 hX4 FX4 NX4 lDN
          k_dflt (refine setItem_led (kvs := kvs) (by k_asm) (by k_asm) (by k_updF) hdo ?e2 ?_)
          case e2 => exact Nat.le_trans hlen (Nat.le_trans (done_size c1 c2 c3 i j hi) (by rw [sizeLine_eq]; decide))
          intro oT2 h13 hdo2 F13 N13
          iterate 17 (first | walk1 | (dsimp only; walk1))
          try dsimp only
          have htl1 := (toldF_le t).1
          have hkI2 := idx_lt htl1 htl hi
          have hkI := idx_eq (i := i) hi hT1
          rw [hkI]
          have hpl := partF_len [c1, c2, c3] (i + 1) j
          k_dflt (refine ksa_get (by k_asm) (by k_mem) hfs (Int.natCast_nonneg _) ?g1 ?g2 ?_)
          case g1 => rw [hpl]; exact Int.ofNat_lt.mpr hkI2
          case g2 => exact Int.lt_trans (Int.ofNat_lt.mpr hkI2) (by decide)
          intro tg
          rw [Int.toNat_natCast]
          iterate 5 (first | walk1 | (dsimp only; walk1))
          k_dflt (refine getItem_led (kvs := kN) (by k_asm) (by k_mem) isN hvN ?_)
          try dsimp only
          k_dflt (refine mul_to (v := ((toldF t).2 : Int)) hMok hT2 ?_)
          walk1
          k_dflt (refine ksa_set (by k_asm) (by k_asm) (by k_upd) hfs (Int.natCast_nonneg _) ?g1 ?g2 ?_)
          case g1 => rw [hpl]; exact Int.ofNat_lt.mpr hkI2
          case g2 => exact Int.lt_trans (Int.ofNat_lt.mpr hkI2) (by decide)
          intro h14 F14 N14 hI14 _ _
          rw [Int.toNat_natCast] at hI14 N14
          rw [← hT1] at N14
          try dsimp only
          refine wpAny_execs_nil ?_
          have ndI : @Ne Nat D4 I := Nat.ne_of_gt lDN.2.2.2.2.2.2.2.2.2.2.2.2.1
          refine ⟨rfl, h14, _, _, _, rfl, F14, cb_drop N14 (by kcj_all), off_cons m1 (off_cons m2 (off_cons m3 (off_cons m4 (off_cons m5 (off_cons m6 (off_cons m7 (off_cons m8 (off_cons m9 (off_cons (Nat.ne_of_gt lDN.2.2.2.1) m10))))))))), .inr ⟨_, List.mem_cons_of_mem _ List.mem_cons_self, rfl, _, rfl⟩,
            _, _, _, _, _, oT2, _, _, eF, (D4, tupO ((toldF t).1 : Int) ((toldF t).2 : Int) _ _) :: tl, map_again3, rfl, by assumption, hdo2, RL.cons (Nat.ne_of_gt lDN.2.2.2.2.1) (Nat.ne_of_gt lDN.2.2.2.2.2.2.1) (Nat.ne_of_gt lDN.2.2.2.2.2.2.2.1) (Nat.ne_of_gt lDN.2.2.2.2.2.2.2.2.1), off_cons ndI nI9, ?_, ?_, ?_⟩
          · rw [done_succ ht, List.length_append, List.length_singleton]
            exact Nat.le_trans (stored_len _ _ _) (Nat.succ_le_succ hlen)
          · rw [done_succ ht]
            exact told_snoc htold
          · rw [part_succ ht]
            exact hI14
      · intro m₁ nw h tk hJ F9 N9
        obtain ⟨uw, ub, uf, oCT, ct, oT, kvs, fs, eF, tl, rfl, rfl, dCT, hdo, RL, nI9, hlen, htold, hfs⟩ := hJ
        rw [List.size_toArray, ← Paired.length hys2] at hlen htold hfs
        rw [done_next] at hlen htold
        rw [part_all] at hfs
        refine wpAny_execs_nil ?_
        refine ⟨rfl, h, _, _, _, rfl, F9, cb_drop N9 (by kcj_all), off_cons nI1 (off_cons (Ne.symm nD0) (off_cons nI3 (off_cons nI4 (off_cons nI5 (off_cons nI6 (off_cons nI7 (off_cons nI8 nI9))))))), trivial,
          _, _, _, _, oCT, ct, D2, ys2, ys2.length, oCL2, oT, kvs, fs, eF, tl, map_again34, rfl, dCT, dCL2, hys2, hdo, RL, hlen, htold, hfs⟩
  · intro m₁ nw h tk hJ F9 N9
    obtain ⟨uw, ub, uf, un, oCT, ct, lY, ys, eY, oCL, oT, kvs, fs, eF, tl, rfl, rfl, dCT, dCL, hys, hdo, RL, hlen, htold, hfs⟩ := hJ
    unfold upd4 at F9
    try dsimp only
    iterate 4 (first | walk1 | (dsimp only; walk1))
    (with_reducible rename News h₀ L _ _ => N99)
    exact hret lF fs eF _ _ hfs (by k_asm) (fun p hp => N99 p (by
      rcases List.mem_cons.mp hp with rfl | hp
      · exact .tail _ (.tail _ (.tail _ (.tail _ (.head _))))
      · exact .tail _ (.tail _ (.tail _ (.tail _ (.tail _ (.tail _ (.tail _ (.tail _ (RL.c p hp))))))))))
end
-- CChains
section

local macro_rules | `(tactic| walk_at "callWith builtin:list.append") => `(tactic| k_dflt (refine callWith_method1 ?_))
local macro_rules | `(tactic| k_ne) => `(tactic| (refine neN ?_; (try dsimp only); first | assumption | (refine Ne.symm ?_; assumption)))
theorem strs_contains (c1 c2 c3 c : Nat) : (!([ofL [c1], ofL [c2], ofL [c3]].any (· == (⟨#[c]⟩ : PySem.Str)))) = !([c1, c2, c3].contains c) := by
  have e : ∀ a : Nat, (ofL [a] == (⟨#[c]⟩ : PySem.Str)) = (c == a) := fun a => by
    rw [Bool.eq_iff_iff, beq_iff_eq, beq_iff_eq]
    exact ⟨fun h => (List.cons.inj (ofL_inj (a := [a]) (b := [c]) h)).1.symm, fun h => by subst h; rfl⟩
  simp only [List.any_cons, List.any_nil, List.contains_cons, List.contains_nil, e]
theorem eq_emptyK {prog : Program} {w : World} {A : Around} {E : Value → Shared → Prop} {s : Shared} {a b : Addr} {vs : List Value} {Q : Value → Shared → Prop} (hl : s.heap.IsList a vs.toArray) (hb : s.heap.IsList b #[]) (hu : A.units + 64 < cLine)
    (h : Q (.bool (decide (vs = []))) s) : wpAny (model prog w) A (compareOp .Eq (.ref a) (.ref b)) Q E s := by
  cases vs with
  | nil => exact PySem.SeqAt.eq_listAt (e := fun _ => true) hl hb rfl (by omega) (fun j h1 _ => absurd h1 (Nat.not_lt_zero _)) (by simpa using h)
  | cons x r => exact PySem.SeqAt.eq_list_lengthsAt hl hb rfl (by omega) (by simpa using h)
/-- values that stand for lists of ints in a ledger -/
def RowsIn (f : Nat → List Int) (n : Nat) (ys : List Value) (tl : List (Addr × Obj)) : Prop := ys.length = n ∧ ∀ j, j < n → ∃ a vs e, ys[j]? = some (.ref a) ∧ (a, W.listOf (List.toArray vs) e) ∈ tl ∧ IntsAre vs (f j)
theorem news_perm1 {h₀ h : Heap} {L : Addr} {a b c d e f g i j k r : Addr × Obj} {tl : List (Addr × Obj)} (N : News h₀ L h (a :: r :: b :: c :: d :: e :: f :: g :: i :: j :: k :: tl)) : News h₀ L h (k :: a :: b :: c :: d :: e :: f :: g :: i :: j :: r :: tl) := fun p hp => N p (by
  simp only [List.mem_cons] at hp ⊢
  rcases hp with h | h | h | h | h | h | h | h | h | h | h | h <;> simp [h])
theorem news_perm2 {h₀ h : Heap} {L : Addr} {a b c d e f g i j k r : Addr × Obj} {tl : List (Addr × Obj)} (N : News h₀ L h (r :: k :: a :: b :: c :: d :: e :: f :: g :: i :: j :: tl)) : News h₀ L h (a :: r :: b :: c :: d :: e :: f :: g :: i :: j :: k :: tl) := fun p hp => N p (by
  simp only [List.mem_cons] at hp ⊢
  rcases hp with h | h | h | h | h | h | h | h | h | h | h | h <;> simp [h])
theorem off1_mem {D : Addr} : ∀ {l : List (Addr × Obj)}, LCg.Off1 D l → ∀ p ∈ l, p.1 ≠ D
  | [], _, _, h => nomatch h
  | _ :: _, ⟨a, r⟩, p, h => by
    rcases List.mem_cons.mp h with rfl | h
    · exact a
    · exact off1_mem r p h
theorem rows_snoc {f : Nat → List Int} {n : Nat} {ys : List Value} {tl : List (Addr × Obj)} {a : Addr} {vs : List Value} {e : Nat} (h : RowsIn f n ys tl) (hI : IntsAre vs (f n)) : RowsIn f (n + 1) (ys ++ [.ref a]) ((a, W.listOf (List.toArray vs) e) :: tl) := by
  obtain ⟨hl, hr⟩ := h
  refine ⟨by rw [List.length_append, hl]; rfl, fun j hj => ?_⟩
  by_cases q : j = n
  · subst q
    exact ⟨a, vs, e, by rw [List.getElem?_append_right (by omega), hl, Nat.sub_self]; rfl, List.mem_cons_self, hI⟩
  · obtain ⟨a', vs', e', h1, h2, h3⟩ := hr j (by omega)
    exact ⟨a', vs', e', by rw [List.getElem?_append_left (by omega)]; exact h1, List.mem_cons_of_mem _ h2, h3⟩
structure ChT (L' lE lS : Nat) (tl news : List (Addr × Obj)) : Prop where
  a4 : ∀ p ∈ tl, p.1 ≠ L' + 1 + 1 + 1 + 1
  aE : ∀ p ∈ tl, p.1 ≠ lE
  aS : ∀ p ∈ tl, p.1 ≠ lS
  c : ∀ p ∈ news, p ∈ tl
theorem ChT.cons {L' lE lS a : Nat} {o : Obj} {tl news : List (Addr × Obj)} (h : ChT L' lE lS tl news) (q1 : a ≠ L' + 1 + 1 + 1 + 1) (q2 : a ≠ lE) (q3 : a ≠ lS) : ChT L' lE lS ((a, o) :: tl) news :=
  ⟨off_cons q1 h.a4, off_cons q2 h.aE, off_cons q3 h.aS, fun p hp => List.mem_cons_of_mem _ (h.c p hp)⟩
/-- EXACT_TOKEN_TYPES[text] -/
theorem getItem_ett {prog : Program} {w : World} {A : Around} {E : Value → Shared → Prop} {s : Shared} {l : Tx} {n : Nat} {t : Tok} {Q : Value → Shared → Prop} {value slice : PySem.Expr} (X : (Mine.hd.heap_39 w.params).In s.heap) (hl : look l TB = some n)
    (h : ∀ u, Q (.int (n : Int) u) { s with toks := s.toks + 1 })
    (hs : subscripted slice false (.ref 50) (.str (ofL l) t) = operate [.ref 50, .str (ofL l) t] (getItem (.ref 50) (.str (ofL l) t)) := by with_unfolding_all rfl) :
    wpAny (model prog w) A (subscriptTail value slice (.ref 50) (.str (ofL l) t)) Q E s := by
  obtain ⟨kvs, hd, hb⟩ := ett_at (prog := prog) X
  obtain ⟨u, hu⟩ := hb.some hl
  exact tail_any (dictAt_of hd).mapOf.typeIs slot_dict_getitem.lookup (wpAny_getItem_of (strKind_is prog w _ t) (dictAt_of hd).mapOf hu (h u)) hs
theorem num_bits {n : Nat} (h : n ≤ 54) : Builtin.Int.intBits (n : Int) ≤ 64 := intBits_le_iff.mpr (Nat.lt_of_le_of_lt (show (n : Int).natAbs ≤ 54 by omega) (by decide))
theorem neg_bits {n : Nat} (h : n ≤ 54) : Builtin.Int.intBits (-4294967296 * (n : Int)) ≤ 64 := intBits_le_iff.mpr (Nat.lt_of_le_of_lt (show (-4294967296 * (n : Int)).natAbs ≤ 300000000000 by omega) (by decide))
theorem worth_one {ps : List (Tx × Nat)} {ends : List (List Int)} {n j : Nat} (h : n = (ps.getD j ([], 0)).1.length) : 1 = worthF ps ends n j := by unfold worthF; rw [if_pos h]
theorem worth_none {ps : List (Tx × Nat)} {ends : List (List Int)} {n j : Nat} (h : n < (ps.getD j ([], 0)).1.length) : 0 = worthF ps ends n j := by unfold worthF; rw [if_neg (by omega), if_neg (by omega)]
theorem worth_sum {ps : List (Tx × Nat)} {ends : List (List Int)} {n j k : Nat} (h : (ps.getD j ([], 0)).1.length < n) (hk : k = (aheadF ps j).length) : ((List.range k).map fun i => (ends.getD (n - (ps.getD j ([], 0)).1.length - 1) []).getD ((aheadF ps j).getD i 0) 0).sum = worthF ps ends n j := by
  unfold worthF
  rw [if_neg (by omega), if_pos h]
  subst hk
  conv => rhs; rw [← range_getD 0 (aheadF ps j)]
  rw [List.map_map]
  rfl
theorem map_ch2 {m : PySem.Str → Option Value} {x₁ x₂ x₃ : PySem.Str} {u₁ u₂ v₁ v₂ v₃ : Option Value} : (fun y => if y = x₁ then v₁ else if y = x₂ then v₂ else if y = x₁ then u₁ else if y = x₂ then u₂ else if y = x₃ then v₃ else m y) = upd3 x₁ x₂ x₃ v₁ v₂ v₃ m := by
  funext y
  unfold upd3
  by_cases h1 : y = x₁
  · subst h1; simp [*]
  · by_cases h2 : y = x₂
    · subst h2; simp [*]
    · simp [*]
theorem map_ch3 {m : PySem.Str → Option Value} {x₁ x₂ x₃ : PySem.Str} {w₁ u₁ u₂ v₁ v₂ v₃ : Option Value} : (fun y => if y = x₁ then v₁ else if y = x₁ then w₁ else if y = x₂ then v₂ else if y = x₁ then u₁ else if y = x₂ then u₂ else if y = x₃ then v₃ else m y) = upd3 x₁ x₂ x₃ v₁ v₂ v₃ m := by
  funext y
  unfold upd3
  by_cases h1 : y = x₁
  · subst h1; simp [*]
  · by_cases h2 : y = x₂
    · subst h2; simp [*]
    · simp [*]
theorem map_ch4 {m : PySem.Str → Option Value} {x₁ x₂ x₃ x₄ : PySem.Str} {w₃ u₁ u₂ u₃ u₄ v₁ v₂ v₃ v₄ : Option Value} : upd3 x₁ x₂ x₃ v₁ v₂ v₃ (fun y => if y = x₃ then w₃ else if y = x₄ then v₄ else if y = x₁ then u₁ else if y = x₂ then u₂ else if y = x₃ then u₃ else if y = x₄ then u₄ else m y) = upd4 x₁ x₂ x₃ x₄ v₁ v₂ v₃ v₄ m := by
  funext y
  unfold upd3 upd4
  by_cases h1 : y = x₁
  · subst h1; simp [*]
  · by_cases h2 : y = x₂
    · subst h2; simp [*]
    · by_cases h3 : y = x₃
      · subst h3; simp [*]
      · by_cases h4 : y = x₄
        · subst h4; simp [*]
        · simp [*]
theorem endsF_getD (ps : List (Tx × Nat)) : ∀ {n k : Nat}, k < n → (endsF ps n).getD k [] = rowF ps (endsF ps k) (k + 1)
  | 0, _, h => absurd h (Nat.not_lt_zero _)
  | n + 1, k, h => by
    rw [endsF, List.getD_eq_getElem?_getD]
    by_cases q : k < n
    · rw [List.getElem?_append_left (by rw [endsF_len]; exact q), ← List.getD_eq_getElem?_getD]
      exact endsF_getD ps q
    · have : k = n := by omega
      subst this
      rw [List.getElem?_append_right (by rw [endsF_len]; exact Nat.le_refl _), endsF_len, Nat.sub_self]
      rfl
/-- a comprehension without a test whose turns leave the ledger as it was -/
theorem restM {prog : Program} {w : World} {A : Around} {s : Shared} {h₀ : Heap} {L : Addr} {m : PySem.Str → Option Value} {env : Env} {elt : PySem.Expr} {x : PySem.Str} {scope : Scope} {cl : List (PySem.Str × Addr)} {S : List (Addr × Obj) → Prop} {P : Nat → Value → Prop} {Fin : List Value → List (Addr × Obj) → Prop} {news : List (Addr × Obj)} {n : Nat}
    (RV : Nat → Value → Prop) (hS : S news)
    (turn : ∀ i v I oI C oC D m₂ ys h tk (E' : Value → Shared → Prop), i < n → P i v → LCg.NsObj oC m₂ → m₂ x = some v → Fr h₀ L h m → News h₀ L h ((I, oI) :: (C, oC) :: (D, LCg.lst ys) :: news) → LCg.Off3 I C D news → ((@Ne Nat I C) ∧ (@Ne Nat I D) ∧ (@Ne Nat C D)) →
      wpAny (model prog w) A (eval elt (compEnvC scope cl C env)) (fun y s' => RV i y ∧ SameEnd h₀ L m { s with heap := h, toks := tk } ((I, oI) :: (C, oC) :: (D, LCg.lst ys) :: news) s') E' { s with heap := h, toks := tk })
    (fin : ∀ ys, Paired RV (List.range n) ys → Fin ys news) :
    LCg.CompRest prog w A h₀ L m env elt x scope cl s S P Fin n 0 [] news := by
  refine restU_map (fun i ys nw => nw = news ∧ Paired RV (List.range i) ys) ⟨rfl, .nil⟩ ?_ ?_
  · rintro i v I oI C oC D m₂ ys nw h tk E' hi hP ⟨rfl, hp⟩ hC hx F N off ne
    refine wpAny_mono (turn i v I oI C oC D m₂ ys h tk E' hi hP hC hx F N off ne) (fun y s₂ hq => ?_) fun _ _ e => e
    obtain ⟨hr, h', tk', rfl, F', N'⟩ := hq
    refine ⟨h', tk', nw, rfl, F', N', off, hS, rfl, ?_⟩
    rw [List.range_succ]
    exact Paired.snoc hp hr
  · rintro ys nw ⟨rfl, hp⟩
    exact fin ys hp
theorem rows_more {f : Nat → List Int} {n : Nat} {ys : List Value} {tl : List (Addr × Obj)} {p : Addr × Obj} (h : RowsIn f n ys tl) : RowsIn f n ys (p :: tl) :=
  ⟨h.1, fun j hj => let ⟨a, vs, e, h1, h2, h3⟩ := h.2 j hj; ⟨a, vs, e, h1, List.mem_cons_of_mem _ h2, h3⟩⟩
def AheadG (L' DP : Nat) (ys : List Value) (o' o2' oP o4' : Obj) (lp : Addr × Obj) (news : List (Addr × Obj)) (ps : List (Tx × Nat)) (i : Nat) (ys1 : List Value) (nw : List (Addr × Obj)) : Prop :=
  ∃ tl, nw = (DP, LCg.lst ys) :: (L' + 1 + 1 + 1 + 1, o') :: (L' + 1 + 1 + 1, o2') :: (L' + 1 + 1, oP) :: (L' + 1, o4') :: lp :: tl ∧
    (∀ p ∈ news, p ∈ tl) ∧ (∀ p ∈ tl, p.1 ≠ DP) ∧ (∀ p ∈ tl, p.1 ≠ L' + 1 + 1 + 1 + 1) ∧ (∀ p ∈ tl, p.1 ≠ L' + 1 + 1 + 1) ∧ RowsIn (fun j => (aheadF ps j).map (fun i : Nat => (i : Int))) i ys1 tl
theorem chains {w : World} {mean : ExcName → Option Value} {mg mb : PySem.Str → Option Value} {news : List (Addr × Obj)} {l : Addr} {c1 c2 c3 : Nat} {t1 t2 t3 : Tok} {e : Nat} :
   Ctr w mean mg mb 81 3 300 ((l, W.listOf #[.str (ofL [c1]) t1, .str (ofL [c2]) t2, .str (ofL [c3]) t3] e) :: news) [.ref l] (fun h₀ L m s Q =>
    ∀ (d : Addr) (vs : List Value) (eF : Nat) (h' : Heap) (tk' : Nat), IntsAre vs (sumsF (piecesF [c1, c2, c3]) 4) → Fr h₀ L h' m → News h₀ L h' ((d, W.listOf vs.toArray eF) :: (l, W.listOf #[.str (ofL [c1]) t1, .str (ofL [c2]) t2, .str (ofL [c3]) t3] e) :: news) → Q (.ref d) { s with heap := h', toks := tk' }) := by
  intro dp un gd cn cs ad ccd cl outer A₀ base h₀ L m s Q E B F X N T hk hd hu hret
  refine wpAny_call ?_
  k_dflt (walk_at "m enterC")
  rename_i g' L' h' tk' FG' F' B' X' T' l1 o' o2' o3' o4' d1' d2' d3' d4' N'
  have hTL0 := TailLt.of l1.2
  iterate 2 (first | walk1 | (dsimp only; walk1))
  k_dflt (refine ListComp_TG (F₀ := by k_asm) (by with_unfolding_all rfl) (by decide) (by rfl) (by decide) (by rfl) ?_)
  iterate 1 (first | walk1 | (dsimp only; walk1))
  obtain ⟨kvs, hdk, hbk⟩ := ett_at (prog := PG) X'
  have hlk : kvs.length = 48 := Paired.length hbk
  k_dflt (refine src_keys (ep := 48) (by rfl) (by k_asm) (by k_asm) (by rfl) hdk (by rw [hlk, sizeLine_eq]; omega) ?_)
  intro g9
  rw [hlk]
  refine restT_filter (fun i => (TB.getD i ([], 0)).1.all fun c => [c1, c2, c3].contains c) (fun i y => ∃ t, y = Value.str (ofL (TB.getD i ([], 0)).1) t) trivial ?_ ?_ ?_
  · --{
    intro i v I oI C oC D m₂ ys h tk E' hi hv hC hx F9 N9 off9 ne9
    obtain ⟨k9, x9, hkv, hv9⟩ := hv
    obtain ⟨t9, rfl⟩ := strKind_of hv9
    obtain ⟨kv, hkv2, hkv3, _⟩ := paired_at hbk (show TB[i]? = some (TB.getD i ([], 0)) by rw [List.getD_eq_getElem?_getD, List.getElem?_eq_getElem (show i < TB.length from hi)]; rfl)
    rw [hkv] at hkv2
    cases hkv2
    have htb : TB.getD i ([], 0) ∈ TB := by
      rw [List.getD_eq_getElem?_getD, List.getElem?_eq_getElem (show i < TB.length from hi)]
      exact List.getElem_mem _
    generalize TB.getD i ([], 0) = pc at htb hkv3 ⊢
    simp only at hkv3
    subst hkv3
    obtain ⟨lp1, lp2, lp3, _⟩ := tb_len htb
    iterate 1 (first | walk1 | (dsimp only; walk1))
    k_dflt (refine ListComp_TG (F₀ := by k_asm) (by with_unfolding_all rfl) (by decide) (by rfl) (by decide) (by rfl) ?_)
    iterate 1 (first | walk1 | (dsimp only; walk1))
    have hcps : (ofL pc.1).cps.size = pc.1.length := by simp [ofL]
    k_dflt (refine src_ascii (by rfl) (by k_asm) (by k_asm) ?a1 ?a2 ?_)
    case a1 =>
      show Array.all (pc.1.toArray) (fun x => decide (x < 128)) = true
      rw [List.all_toArray]
      exact List.all_eq_true.mpr fun c hc => decide_eq_true (lp3 c hc)
    case a2 => rw [hcps, sizeLine_eq]; omega
    intro g8
    rw [hcps]
    refine restT_filter (fun i => !([c1, c2, c3].contains (pc.1.getD i 0))) (fun i y => ∃ t, y = Value.str (ofL [pc.1.getD i 0]) t) trivial ?_ ?_ ?_
    · intro i2 v I2 oI2 C2 oC2 D2 m₃ ys2 h2 tk2 E2 hi2 hv2 hC2 hx2 F8 N8 off8 ne8
      obtain ⟨cv, uv, hcv, rfl⟩ := hv2
      have hcv2 : pc.1.getD i2 0 = cv := by
        have : pc.1[i2]? = some cv := by simpa [ofL] using hcv
        rw [List.getD_eq_getElem?_getD, this]; rfl
      rw [hcv2]
      iterate 3 (first | walk1 | (dsimp only; walk1))
      k_dflt (refine notin_list_strs (vs := [.str (ofL [c1]) t1, .str (ofL [c2]) t2, .str (ofL [c3]) t3]) (ys := [ofL [c1], ofL [c2], ofL [c3]]) (by is_list) (.cons _ _ (.cons _ _ (.cons _ _ .nil))) ?_)
      try dsimp only
      iterate 1 (first | walk1 | (dsimp only; walk1))
      exact ⟨strs_contains c1 c2 c3 cv, SameEnd.mk (by k_asm) (by k_asm)⟩
    · intro i2 v I2 oI2 C2 oC2 D2 m₃ ys2 h2 tk2 E2 hi2 hp2 hv2 hC2 hx2 F8 N8 off8 ne8
      obtain ⟨cv, uv, hcv, rfl⟩ := hv2
      have hcv2 : pc.1.getD i2 0 = cv := by
        have : pc.1[i2]? = some cv := by simpa [ofL] using hcv
        rw [List.getD_eq_getElem?_getD, this]; rfl
      rw [hcv2]
      iterate 1 (first | walk1 | (dsimp only; walk1))
      exact ⟨⟨uv, rfl⟩, SameEnd.mk (by k_asm) (by k_asm)⟩
    · intro ys2 hys2 D2 h2 tk2 F8 N8 off8
      have hemp := empty_all hys2
      iterate 3 (first | walk1 | (dsimp only; walk1))
      k_dflt (refine eq_emptyK (vs := ys2) (by is_list) (by is_list) (by units_room) ?_)
      iterate 1 (first | walk1 | (dsimp only; walk1))
      exact ⟨hemp, SameEnd.mk (by k_asm) (by refine' cb_drop ?cbN ?cbS; (case cbN => assumption); (case cbS => kcj_all))⟩
    --}
  · --{
    intro i v I oI C oC D m₂ ys h tk E' hi hp hv hC hx F9 N9 off9 ne9
    obtain ⟨k9, x9, hkv, hv9⟩ := hv
    obtain ⟨t9, rfl⟩ := strKind_of hv9
    obtain ⟨kv, hkv2, hkv3, _⟩ := paired_at hbk (show TB[i]? = some (TB.getD i ([], 0)) by rw [List.getD_eq_getElem?_getD, List.getElem?_eq_getElem (show i < TB.length from hi)]; rfl)
    rw [hkv] at hkv2
    cases hkv2
    simp only at hkv3
    subst hkv3
    iterate 1 (first | walk1 | (dsimp only; walk1))
    exact ⟨⟨_, rfl⟩, SameEnd.mk (by k_asm) (by k_asm)⟩
    --}
  · intro ys hys DP h tk F9 N9 off9
    obtain ⟨nP4, nP3, nP2, nP1, nPl, nPn⟩ := off9
    have hys2 : Paired (fun (p : Tx × Nat) y => ∃ t, y = Value.str (ofL p.1) t) (piecesF [c1, c2, c3]) ys := by
      have := Paired.maps (F := fun (p : Tx × Nat) y => ∃ t, y = Value.str (ofL p.1) t) (g := fun i => TB.getD i ([], 0)) hys
      rwa [show (48 : Nat) = TB.length from rfl, filter_range ([], 0) (fun p : Tx × Nat => p.1.all fun c => [c1, c2, c3].contains c) TB] at this
    iterate 2 (first | walk1 | (dsimp only; walk1))
    have hpsl : (piecesF [c1, c2, c3]).length ≤ 48 := pieces_len _
    have hysl : ys.length = (piecesF [c1, c2, c3]).length := (Paired.length hys2).symm
    generalize hps : piecesF [c1, c2, c3] = ps at *
    have htbs : ∀ j, j < ps.length → ps.getD j ([], 0) ∈ TB := by
      intro j hj
      rw [← hps] at hj ⊢
      exact pieces_tb hj
    (with_reducible rename News g' L' _ _ => N7)
    rename_i h7 oP F7 dP
    k_dflt (refine Assign_ListComp_K (G := AheadG L' DP ys o' o2' oP o4' (l, W.listOf #[.str (ofL [c1]) t1, .str (ofL [c2]) t2, .str (ofL [c3]) t3] e) news ps) (F₀ := by k_asm) rfl (by with_unfolding_all rfl) (by with_unfolding_all rfl) (by intro _ _; rfl) (by intro _; rfl) (by rfl) (by decide) (by rfl) (by rfl) (by rfl) ?_)
    iterate 1 (first | walk1 | (dsimp only; walk1))
    refine' ⟨DP, _, _, rfl, ⟨rfl, ?F, ?N, ?S, ?sz, ?g0, ?turn, ?fin⟩⟩
    case F => k_asm
    case N => k_asm
    case S => exact .inr ⟨_, by k_mem, rfl, _, rfl⟩
    case sz => rw [sizeLine_eq, List.size_toArray]; omega
    case g0 =>
      refine ⟨news, rfl, fun _ h => h, ?_, ?_, ?_, rfl, fun j hj => absurd hj (Nat.not_lt_zero _)⟩
      · exact off1_mem nPn
      · exact TailLt.ne hTL0 (by omega)
      · exact TailLt.ne hTL0 (by omega)
    case turn =>
      --{
      intro i v I oI C oC K oK D ys1 nw h tk m₂ E2 hi hv hG hS hC hKd F9 N9 off9
      obtain ⟨tl, rfl, hn1, tP, tC4, tC3, hR⟩ := hG
      replace F9 : Fr g' L' h _ := F9
      replace N9 : News g' L' h _ := N9
      rw [List.getElem?_toArray] at hv
      obtain ⟨pc, hpc, t9, rfl⟩ := paired_at hys2 hv
      have hpi : ps.getD i ([], 0) = pc := by rw [List.getD_eq_getElem?_getD, hpc]; rfl
      have hil : i < ps.length := (List.getElem?_eq_some_iff.mp hpc).1
      obtain ⟨lp1, lp2, lp3, _⟩ := tb_len (hpi ▸ htbs i hil)
      have aI := fun x hx => (off9 x hx).1
      have nK1 : @Ne Nat DP K := (off9 (DP, _) (.head _)).2.2.1
      k_dflt (refine LCt.ListComp_T (F₀ := by k_asm) (by with_unfolding_all rfl) (by decide) (by rfl) (by decide) (by rfl) ?_)
      iterate 10 (first | walk1 | (dsimp only; walk1))
      have hysz : ys.toArray.size = 0 + ps.length := by rw [List.size_toArray, hysl, Nat.zero_add]
      k_dflt (refine PyProof.Rows.len_list (items := ys.toArray) (by is_list) (by rw [hysz]; show _ < (9223372036854775808 : Int); omega) ?_)
      rw [hysz, Nat.zero_add]
      iterate 2 (first | walk1 | (dsimp only; walk1))
      k_dflt (refine LCt.CompSrcT.range (n := ps.length) (by rfl) (by k_asm) (by k_asm) (by assumption) (small_of (by omega) (by omega) (by omega) (by omega)) (size_of (by omega)) (by size_fits) ?_)
      intro g9
      refine restT_filter (fun i2 => growF (ps.getD i2 ([], 0)).1 pc.1) (fun i2 v => ∃ t, v = .int (i2 : Int) t) trivial ?_ ?_ ?_
      · intro i2 v I2 oI2 C2 oC2 D2 m₃ ys2 h2 tk2 E2 hi2 hv2 hC2 hx2 F8 N8 off8 ne8
        obtain ⟨tv2, rfl⟩ := hv2
        have hi2' : i2 < ps.length := hi2
        obtain ⟨t2, ht2⟩ : ∃ t, ys[i2]? = some (.str (ofL (ps.getD i2 ([], 0)).1) t) := by
          have hy2 : ys[i2]? = some ys[i2] := List.getElem?_eq_getElem (by omega)
          obtain ⟨p2, hp2, t2, h2⟩ := paired_at hys2 hy2
          exact ⟨t2, by rw [hy2, h2, List.getD_eq_getElem?_getD, hp2]; rfl⟩
        iterate 9 (first | walk1 | (dsimp only; walk1))
        k_dflt (refine item_listL (by is_list) ?e0 ?e3 (x := .str (ofL (ps.getD i2 ([], 0)).1) t2) ?e1 ?_)
        case e0 => omega
        case e3 => show (0 : Int) + (i2 : Int) < 9223372036854775808; omega
        case e1 => rw [show ((0 : Int) + (i2 : Int)).toNat = i2 by omega]; exact ht2
        try dsimp only
        iterate 4 (first | walk1 | (dsimp only; walk1))
        have hq2 := tb_len (htbs i2 hi2')
        k_dflt (refine' grow hq2.1 hq2.2.1 lp2 _ _ _ _ _ _ _ _ _ _ _ _ _ _ _ _ _ ?kB ?kF ?kX ?kN ?kT ?kK ?kd ?ku ?_)
        case kB => k_asm
        case kF => k_asm
        case kX => k_asm
        case kN => k_asm
        case kT => k_asm
        case kK => exact rfl
        case kd => show dp + 1 + 1 < _; omega
        case ku => show un + 3 + _ < _; omega
        intro h5 tk5 F5 N5
        iterate 1 (first | walk1 | (dsimp only; walk1))
        exact ⟨rfl, SameEnd.mk (by k_asm) (by k_asm)⟩
      · intro i2 v I2 oI2 C2 oC2 D2 m₃ ys2 h2 tk2 E2 hi2 hp2 hv2 hC2 hx2 F8 N8 off8 ne8
        obtain ⟨tv2, rfl⟩ := hv2
        iterate 1 (first | walk1 | (dsimp only; walk1))
        exact ⟨⟨_, congrArg (fun x => Value.int x _) (Int.zero_add _)⟩, SameEnd.mk (by k_asm) (by k_asm)⟩
      · intro ys2 hys2 D2 h2 tk2 F8 N8 off8
        try dsimp only
        obtain ⟨pI, pC, pK, pD, pP, p4, p3, p2, p1, pl, ptl⟩ := off8
        refine ⟨h2, tk2, (DP, LCg.lst ys) :: (L' + 1 + 1 + 1 + 1, o') :: (L' + 1 + 1 + 1, o2') :: (L' + 1 + 1, oP) :: (L' + 1, o4') :: (l, W.listOf #[.str (ofL [c1]) t1, .str (ofL [c2]) t2, .str (ofL [c3]) t3] e) :: (D2, LCg.lst ys2) :: tl, rfl, F8, ?_, ?_, ?_, ?_⟩
        · refine' cb_drop ?cbN ?cbS; (case cbN => assumption); (case cbS => kcj_all)
        · intro p hp
          rcases List.mem_append.mp (show p ∈ [(DP, LCg.lst ys), (L' + 1 + 1 + 1 + 1, o'), (L' + 1 + 1 + 1, o2'), (L' + 1 + 1, oP), (L' + 1, o4'), (l, W.listOf #[.str (ofL [c1]) t1, .str (ofL [c2]) t2, .str (ofL [c3]) t3] e)] ++ ((D2, LCg.lst ys2) :: tl) from hp) with hp | hp
          · exact off9 p (List.mem_append_left tl hp)
          · rcases List.mem_cons.mp hp with rfl | hp
            · exact ⟨Ne.symm pI, Ne.symm pC, Ne.symm pK, Ne.symm pD⟩
            · exact off9 p (List.mem_append_right [(DP, LCg.lst ys), (L' + 1 + 1 + 1 + 1, o'), (L' + 1 + 1 + 1, o2'), (L' + 1 + 1, oP), (L' + 1, o4'), (l, W.listOf #[.str (ofL [c1]) t1, .str (ofL [c2]) t2, .str (ofL [c3]) t3] e)] hp)
        · exact .inr ⟨_, by k_mem, rfl, _, rfl⟩
        · refine ⟨_, rfl, fun p hp => List.mem_cons_of_mem _ (hn1 p hp), off_cons (Ne.symm pP) tP, off_cons (Ne.symm p4) tC4, off_cons (Ne.symm p3) tC3, rows_snoc hR ?_⟩
          have := ints_of hys2
          rw [← hpi] at this
          exact this
      --}
    case fin =>
      intro ys1 nw DA h tk hG F9 N9 off9
      obtain ⟨tl, rfl, hn1, tP, tC4, tC3, hR⟩ := hG
      replace F9 : Fr g' L' h _ := F9
      replace N9 : News g' L' h _ := N9
      have nAP : @Ne Nat DP DA := off9 (DP, _) (.head _)
      have nA4 : @Ne Nat (L' + 1 + 1 + 1 + 1) DA := off9 (_, o') (.tail _ (.head _))
      have nA3 : @Ne Nat (L' + 1 + 1 + 1) DA := off9 (_, o2') (.tail _ (.tail _ (.head _)))
      have nA2 : @Ne Nat (L' + 1 + 1) DA := off9 (_, oP) (.tail _ (.tail _ (.tail _ (.head _))))
      have nA1 : @Ne Nat (L' + 1) DA := off9 (_, o4') (.tail _ (.tail _ (.tail _ (.tail _ (.head _)))))
      have nAl : @Ne Nat l DA := off9 (l, _) (.tail _ (.tail _ (.tail _ (.tail _ (.tail _ (.head _))))))
      have nAt : ∀ p ∈ tl, p.1 ≠ DA := fun p hp => off9 p (.tail _ (.tail _ (.tail _ (.tail _ (.tail _ (.tail _ hp))))))
      dsimp only
      have hyaR : RowsIn (fun j => (aheadF ps j).map (fun i : Nat => (i : Int))) ps.length ys1 tl := by
        rw [List.size_toArray, hysl] at hR
        exact hR
      iterate 17 (first | walk1 | (dsimp only; walk1))
      rename_i lE hE lEl hE2 oE dE tkE lS hS lSl hS2 F6 N6
      refine wpAny_For ?_ (by intro _; rfl)
      iterate 9 (first | walk1 | (dsimp only; walk1))
      (with_reducible rename News g' L' _ _ => NZ)
      have nE4 : @Ne Nat lE (L' + 1 + 1 + 1 + 1) := Nat.ne_of_gt lEl.2.2.1
      have nE3 : @Ne Nat lE (L' + 1 + 1 + 1) := Nat.ne_of_gt lEl.2.2.2.1
      have nS4 : @Ne Nat lS (L' + 1 + 1 + 1 + 1) := Nat.ne_of_gt lSl.2.2.2.1
      have nSE : @Ne Nat lS lE := Nat.ne_of_gt lSl.1
      have nEt : ∀ p ∈ tl, p.1 ≠ lE := allLt_ne lEl.2.2.2.2.2.2.2
      have nSt : ∀ p ∈ tl, p.1 ≠ lS := allLt_ne lSl.2.2.2.2.2.2.2.2
      have NX := show News g' L' _ ((L' + 1 + 1 + 1 + 1, o') :: (lE, W.listOf (List.toArray []) 0) :: (lS, W.listOf (List.toArray [Value.int 1 tkE]) 0) :: (L' + 1 + 1 + 1, oE) :: (L' + 1 + 1, oP) :: (L' + 1, o4') :: (DA, LCg.lst ys1) :: (DP, LCg.lst ys) ::
        (l, W.listOf #[.str (ofL [c1]) t1, .str (ofL [c2]) t2, .str (ofL [c3]) t3] e) :: tl) from cb_drop NZ (by kcj_all)
      k_dflt (refine forJ_range (n := 4) (fun m₀ i m₁ nw => ∃ uw uj ur unn oL cv es eE ss eS tl,
          m₁ = upd4 (Str.ofString "worth") (Str.ofString "j") (Str.ofString "row") (Str.ofString "n") uw uj ur unn m₀ ∧
          nw = (L' + 1 + 1 + 1 + 1, oL) :: (lE, W.listOf (List.toArray es) eE) :: (lS, W.listOf (List.toArray ss) eS) :: (L' + 1 + 1 + 1, oE) :: (L' + 1 + 1, oP) :: (L' + 1, o4') :: (DA, LCg.lst ys1) :: (DP, LCg.lst ys) ::
            (l, W.listOf #[.str (ofL [c1]) t1, .str (ofL [c2]) t2, .str (ofL [c3]) t3] e) :: tl ∧
          oL.data = .cell cv ∧ ChT L' lE lS tl news ∧ RowsIn (fun k => rowF ps (endsF ps k) (k + 1)) i es tl ∧ RowsIn (fun j => (aheadF ps j).map (fun i : Nat => (i : Int))) ps.length ys1 tl ∧ IntsAre ss (sumsF ps i)) (hh := rfl) (F := by k_asm) (N := NX) (hr := by assumption) (hsm := by decide) (hn := by decide) (h0 := ?_) (turn := ?_) (done := ?_))
      · exact ⟨_, _, _, _, o', _, [], 0, [Value.int 1 tkE], 0, tl, map_open4 _ _ _ _ _, rfl, d1', ⟨tC4, nEt, nSt, hn1⟩, ⟨rfl, fun j hj => absurd hj (Nat.not_lt_zero _)⟩, hyaR, .cons 1 _ .nil⟩
      · intro I i tv oI m₁ nw h tk E' hi hJ off F9 N9
        obtain ⟨uw, uj, ur, unn, oL, cv, es, eE, ss, eS, tl, rfl, rfl, dL, CT, hes, hyaR, hss⟩ := hJ
        unfold upd4 at F9
        have nI4 : @Ne Nat (L' + 1 + 1 + 1 + 1) I := off (_, oL) (.head _)
        have nIE : @Ne Nat lE I := off (lE, _) (.tail _ (.head _))
        have nIS : @Ne Nat lS I := off (lS, _) (.tail _ (.tail _ (.head _)))
        have nI3 : @Ne Nat (L' + 1 + 1 + 1) I := off (_, oE) (.tail _ (.tail _ (.tail _ (.head _))))
        have nI2 : @Ne Nat (L' + 1 + 1) I := off (_, oP) (.tail _ (.tail _ (.tail _ (.tail _ (.head _)))))
        have nI1 : @Ne Nat (L' + 1) I := off (_, o4') (.tail _ (.tail _ (.tail _ (.tail _ (.tail _ (.head _))))))
        have nIA : @Ne Nat DA I := off (DA, _) (.tail _ (.tail _ (.tail _ (.tail _ (.tail _ (.tail _ (.head _)))))))
        have nIP : @Ne Nat DP I := off (DP, _) (.tail _ (.tail _ (.tail _ (.tail _ (.tail _ (.tail _ (.tail _ (.head _))))))))
        have nIl : @Ne Nat l I := off (l, _) (.tail _ (.tail _ (.tail _ (.tail _ (.tail _ (.tail _ (.tail _ (.tail _ (.head _)))))))))
        have nIt : ∀ p ∈ tl, p.1 ≠ I := fun p hp => off p (.tail _ (.tail _ (.tail _ (.tail _ (.tail _ (.tail _ (.tail _ (.tail _ (.tail _ hp)))))))))
        have ct4 := CT.a4
        have ctE := CT.aE
        have ctS := CT.aS
        iterate 10 (first | walk1 | (dsimp only; walk1))
        rename_i hR1 tkR lR hR2 lRl hR3 F6 N6
        have nRI : @Ne Nat lR I := Nat.ne_of_gt lRl.1
        have nR4 : @Ne Nat lR (L' + 1 + 1 + 1 + 1) := Nat.ne_of_gt lRl.2.1
        have nRE : @Ne Nat lR lE := Nat.ne_of_gt lRl.2.2.1
        have nRS : @Ne Nat lR lS := Nat.ne_of_gt lRl.2.2.2.1
        have nRt : ∀ p ∈ tl, p.1 ≠ lR := allLt_ne lRl.2.2.2.2.2.2.2.2.2.2
        refine wpAny_For ?_ (by intro _; rfl)
        iterate 10 (first | walk1 | (dsimp only; walk1))
        have hysz : ys.toArray.size = 0 + ps.length := by rw [List.size_toArray, hysl, Nat.zero_add]
        k_dflt (refine PyProof.Rows.len_list (items := ys.toArray) (by is_list) (by rw [hysz]; show _ < (9223372036854775808 : Int); omega) ?_)
        rw [hysz, Nat.zero_add]
        iterate 2 (first | walk1 | (dsimp only; walk1))
        (with_reducible rename News g' L' _ _ => NZ2)
        have NX2 := show News g' L' _ ((L' + 1 + 1 + 1 + 1, oL) :: (lR, W.listOf (List.toArray []) 0) :: (lE, W.listOf (List.toArray es) eE) :: (lS, W.listOf (List.toArray ss) eS) :: (L' + 1 + 1 + 1, oE) :: (L' + 1 + 1, oP) :: (L' + 1, o4') :: (DA, LCg.lst ys1) :: (DP, LCg.lst ys) ::
          (l, W.listOf #[.str (ofL [c1]) t1, .str (ofL [c2]) t2, .str (ofL [c3]) t3] e) :: (I, oI) :: tl) from news_perm2 NZ2
        k_dflt (refine forJ_range (n := ps.length) (fun m₀ j m₁ nw => ∃ uw uj oL cv rs eR,
            m₁ = upd3 (Str.ofString "worth") (Str.ofString "j") (Str.ofString "row") uw uj (some (.ref lR)) m₀ ∧
            nw = (L' + 1 + 1 + 1 + 1, oL) :: (lR, W.listOf (List.toArray rs) eR) :: (lE, W.listOf (List.toArray es) eE) :: (lS, W.listOf (List.toArray ss) eS) :: (L' + 1 + 1 + 1, oE) :: (L' + 1 + 1, oP) :: (L' + 1, o4') :: (DA, LCg.lst ys1) :: (DP, LCg.lst ys) ::
              (l, W.listOf #[.str (ofL [c1]) t1, .str (ofL [c2]) t2, .str (ofL [c3]) t3] e) :: (I, oI) :: tl ∧
            oL.data = .cell cv ∧ IntsAre rs ((List.range j).map (cellF ps (endsF ps i) (i + 1)))) (hh := rfl) (F := by k_asm) (N := NX2) (hr := by assumption) (hsm := small_of (by omega) (by omega) (by omega) (by omega)) (hn := size_of (by omega)) (h0 := ?_) (turn := ?_) (done := ?_))
        · exact ⟨_, _, oL, cv, [], 0, map_open3 _ _ _ _, rfl, dL, .nil⟩
        · intro I2 j tj oI2 m₁ nw h tk E' hj hJ off2 F9 N9
          obtain ⟨uw, uj, oL, cv, rs, eR, rfl, rfl, dL, hrs⟩ := hJ
          unfold upd3 at F9
          have mI4 : @Ne Nat (L' + 1 + 1 + 1 + 1) I2 := off2 (_, oL) (.head _)
          have mIR : @Ne Nat lR I2 := off2 (lR, _) (.tail _ (.head _))
          have hpj := tb_len (htbs j hj)
          obtain ⟨t2, ht2⟩ : ∃ t, ys[j]? = some (.str (ofL (ps.getD j ([], 0)).1) t) := by
            have hy2 : ys[j]? = some ys[j] := List.getElem?_eq_getElem (by omega)
            obtain ⟨p2, hp2, t2, h2⟩ := paired_at hys2 hy2
            exact ⟨t2, by rw [hy2, h2, List.getD_eq_getElem?_getD, hp2]; rfl⟩
          obtain ⟨lp1, lp2, _, hnum, hlk⟩ := hpj
          have q1 := ofL_length (ps.getD j ([], 0)).1
          have hcell : ∀ v, v = worthF ps (endsF ps i) (i + 1) j → -4294967296 * ((ps.getD j ([], 0)).2 : Int) * v = cellF ps (endsF ps i) (i + 1) j := fun v h => by rw [h]; rfl
          generalize hpj : ps.getD j ([], 0) = pj at *
          iterate 13 (first | walk1 | (dsimp only; walk1))
          k_dflt (refine item_listL (by is_list) ?e0 ?e3 (x := .str (ofL pj.1) t2) ?e1 ?_)
          case e0 => omega
          case e3 => show (0 : Int) + (j : Int) < 9223372036854775808; omega
          case e1 => rw [show ((0 : Int) + (j : Int)).toNat = j by omega]; exact ht2
          try dsimp only
          iterate 13 (first | walk1 | (dsimp only; walk1))
          walk1
          · (rename _ = (0 : Int) => hz)
            iterate 32 (first | walk1 | (dsimp only; walk1))
            k_dflt (refine item_listL (by is_list) ?e0 ?e3 (x := .str (ofL pj.1) t2) ?e1 ?_)
            case e0 => omega
            case e3 => show (0 : Int) + (j : Int) < 9223372036854775808; omega
            case e1 => rw [show ((0 : Int) + (j : Int)).toNat = j by omega]; exact ht2
            k_dflt (refine getItem_ett (by k_in) hlk ?_)
            intro tett
            try dsimp only
            k_dflt (refine mul_to (v := -4294967296 * (pj.2 : Int)) (IntMulOk.of_right (num_bits hnum)) rfl ?_)
            iterate 1 (first | walk1 | (dsimp only; walk1))
            k_dflt (refine mul_to (v := cellF ps (endsF ps i) (i + 1) j) (IntMulOk.of_left (neg_bits hnum)) (hcell _ (worth_one (by rw [hpj]; omega))) ?_)
            iterate 1 (first | walk1 | (dsimp only; walk1))
            k_dflt (refine append_K (by k_asm) (by k_asm) (by k_upd) ?_ (by rw [List.size_toArray, sizeLine_eq, hrs.length, List.length_map, List.length_range]; omega))
            intro h15 F15 N15
            rw [List.push_toArray] at N15
            try dsimp only
            refine wpAny_execs_nil ?_
            refine ⟨rfl, h15, _, _, _, rfl, F15, N15, off_cons mI4 (off_cons mIR (fun p hp => off2 p (.tail _ (.tail _ hp)))), trivial, _, _, _, _, rs ++ [.int (cellF ps (endsF ps i) (i + 1) j) _], eR + 1, map_ch2, rfl, by assumption, ?_⟩
            rw [List.range_succ, List.map_append]
            exact IntsAre.append hrs (.cons _ _ .nil)

          · (rename ¬ _ = (0 : Int) => hz)
            iterate 9 (first | walk1 | (dsimp only; walk1))
            walk1
            · (rename _ > _ => hgt)
              iterate 7 (first | walk1 | (dsimp only; walk1))
              k_dflt (refine LCg.ListComp_U (F₀ := by k_asm) (by with_unfolding_all rfl) (by decide) (by rfl) (by decide) (by rfl) ?_)
              obtain ⟨aA, vsA, eA, hyA, hmA, hIA⟩ := hyaR.2 j hj
              iterate 3 (first | walk1 | (dsimp only; walk1))
              k_dflt (refine item_listL (l := ys1) (by is_list) ?e0 ?e3 (x := .ref aA) ?e1 ?_)
              case e0 => omega
              case e3 => show (0 : Int) + (j : Int) < 9223372036854775808; omega
              case e1 => rw [show ((0 : Int) + (j : Int)).toNat = j by omega]; exact hyA
              (with_reducible rename News g' L' _ _ => NQ)
              have NQ2 := news_too NQ (.tail _ (.tail _ (.tail _ (.tail _ (.tail _ (.tail _ (.tail _ (.tail _ (.tail _ (.tail _ (.tail _ (.tail _ hmA))))))))))))
              clear NQ
              have hszA : vsA.toArray.size = (aheadF ps j).length := by rw [List.size_toArray, hIA.length, List.length_map]
              k_dflt (refine LCg.CompSrc.ledger (by rfl) (by k_asm) (by k_asm) (.head _) (by rw [hszA, sizeLine_eq]; exact Nat.le_trans (List.length_filter_le _ _) (by rw [List.length_range]; omega)) ?_)
              intro g7
              rw [hszA]
              refine restM (fun i3 y => ∃ t, y = Value.int (((endsF ps i).getD (i + 1 - pj.1.length - 1) []).getD ((aheadF ps j).getD i3 0) 0) t) (.inr ⟨_, .head _, rfl, _, rfl⟩) ?_ ?_
              · intro i3 v I3 oI3 C3 oC3 D3 m₃ ys3 h3 tk3 E3 hi3 hv3 hC3 hx3 F8 N8 off8 ne8
                have hk3 : (aheadF ps j)[i3]? = some ((aheadF ps j).getD i3 0) := by rw [List.getD_eq_getElem?_getD, List.getElem?_eq_getElem hi3]; rfl
                obtain ⟨t3', hv4⟩ := hIA.get i3 (((aheadF ps j).getD i3 0 : Nat) : Int) (by rw [List.getElem?_map, hk3]; rfl)
                rw [List.getElem?_toArray, hv4] at hv3
                cases hv3
                have hlt3 : (aheadF ps j).getD i3 0 < ps.length := List.mem_range.mp (List.mem_filter.mp (List.mem_of_getElem? hk3)).1
                generalize (aheadF ps j).getD i3 0 = k3 at hlt3 hx3 hk3 hv4 ⊢
                have hgt2 : i + 1 - pj.1.length - 1 < i := by omega
                obtain ⟨aE, vsE, eE2, hyE, hmE, hIE⟩ := hes.2 _ hgt2
                have hIE2 : IntsAre vsE ((endsF ps i).getD (i + 1 - pj.1.length - 1) []) := by rw [endsF_getD ps hgt2]; exact hIE
                have hrl : (((endsF ps i).getD (i + 1 - pj.1.length - 1) []).length : Int) = ps.length := by rw [endsF_getD ps hgt2, rowF_len]
                iterate 7 (first | walk1 | (dsimp only; walk1))
                k_dflt (refine item_listL (l := es) (by is_list) ?e0 ?e3 (x := .ref aE) ?e1 ?_)
                case e0 => omega
                case e3 => show (_ : Int) < 9223372036854775808; omega
                case e1 => rw [show (1 + (i : Int) - ((ofL pj.1).length : Int) - 1).toNat = i + 1 - pj.1.length - 1 by omega]; exact hyE
                iterate 1 (first | walk1 | (dsimp only; walk1))
                have N9 := news_too N8 (show (aE, W.listOf (List.toArray vsE) eE2) ∈ _ by repeat (first | exact hmE | refine List.mem_cons_of_mem _ ?_))
                k_dflt (refine ksa_sub N9 (.head _) hIE2 (by omega) (by omega) (by show (k3 : Int) < 9223372036854775808; omega) ?_)
                intro t9
                rw [Int.toNat_natCast]
                exact ⟨⟨_, rfl⟩, SameEnd.mk (by k_asm) (by k_asm)⟩
              · intro ys3 hys3 D3 h3 tk3 F8 N8 off8
                have hI3 := ints_of hys3
                have hW := worth_sum (ps := ps) (ends := endsF ps i) (n := i + 1) (j := j) (k := (aheadF ps j).length) (by rw [hpj]; omega) rfl
                rw [hpj] at hW
                have d3R : @Ne Nat D3 lR := Ne.symm (off1_mem off8 (lR, _) (.tail _ (.tail _ (.tail _ (.head _)))))
                have aAR : @Ne Nat aA lR := nRt _ hmA
                try dsimp only
                iterate 1 (first | walk1 | (dsimp only; walk1))
                k_dflt (refine LSm.sum_ints (by k_asm) (by k_asm) rfl (by is_list) hI3 ?_)
                intro h12 tk12 ts12 F12 N12
                rw [hW]
                iterate 23 (first | walk1 | (dsimp only; walk1))
                k_dflt (refine item_listL (by is_list) ?e0 ?e3 (x := .str (ofL pj.1) t2) ?e1 ?_)
                case e0 => omega
                case e3 => show (0 : Int) + (j : Int) < 9223372036854775808; omega
                case e1 => rw [show ((0 : Int) + (j : Int)).toNat = j by omega]; exact ht2
                k_dflt (refine getItem_ett (by k_in) hlk ?_)
                intro tett
                try dsimp only
                k_dflt (refine mul_to (v := -4294967296 * (pj.2 : Int)) (IntMulOk.of_right (num_bits hnum)) rfl ?_)
                iterate 1 (first | walk1 | (dsimp only; walk1))
                k_dflt (refine mul_to (v := cellF ps (endsF ps i) (i + 1) j) (IntMulOk.of_left (neg_bits hnum)) (hcell _ rfl) ?_)
                iterate 1 (first | walk1 | (dsimp only; walk1))
                k_dflt (refine append_K (by k_asm) (by k_asm) (by k_upd) ?_ (by rw [List.size_toArray, sizeLine_eq, hrs.length, List.length_map, List.length_range]; omega))
                intro h15 F15 N15
                rw [List.push_toArray] at N15
                try dsimp only
                refine wpAny_execs_nil ?_
                refine ⟨rfl, h15, _, _, _, rfl, F15, fun p hp => N15 p (.tail _ (.tail _ hp)), off_cons mI4 (off_cons mIR (fun p hp => off2 p (.tail _ (.tail _ hp)))), trivial, _, _, _, _, rs ++ [.int (cellF ps (endsF ps i) (i + 1) j) _], eR + 1, map_ch3, rfl, by assumption, ?_⟩
                rw [List.range_succ, List.map_append]
                exact IntsAre.append hrs (.cons _ _ .nil)
            · (rename ¬ _ > _ => hgt)
              iterate 22 (first | walk1 | (dsimp only; walk1))
              k_dflt (refine item_listL (by is_list) ?e0 ?e3 (x := .str (ofL pj.1) t2) ?e1 ?_)
              case e0 => omega
              case e3 => show (0 : Int) + (j : Int) < 9223372036854775808; omega
              case e1 => rw [show ((0 : Int) + (j : Int)).toNat = j by omega]; exact ht2
              k_dflt (refine getItem_ett (by k_in) hlk ?_)
              intro tett
              try dsimp only
              k_dflt (refine mul_to (v := -4294967296 * (pj.2 : Int)) (IntMulOk.of_right (num_bits hnum)) rfl ?_)
              iterate 1 (first | walk1 | (dsimp only; walk1))
              k_dflt (refine mul_to (v := cellF ps (endsF ps i) (i + 1) j) (IntMulOk.of_left (neg_bits hnum)) (hcell _ (worth_none (by rw [hpj]; omega))) ?_)
              iterate 1 (first | walk1 | (dsimp only; walk1))
              k_dflt (refine append_K (by k_asm) (by k_asm) (by k_upd) ?_ (by rw [List.size_toArray, sizeLine_eq, hrs.length, List.length_map, List.length_range]; omega))
              intro h15 F15 N15
              rw [List.push_toArray] at N15
              try dsimp only
              refine wpAny_execs_nil ?_
              refine ⟨rfl, h15, _, _, _, rfl, F15, N15, off_cons mI4 (off_cons mIR (fun p hp => off2 p (.tail _ (.tail _ hp)))), trivial, _, _, _, _, rs ++ [.int (cellF ps (endsF ps i) (i + 1) j) _], eR + 1, map_ch2, rfl, by assumption, ?_⟩
              rw [List.range_succ, List.map_append]
              exact IntsAre.append hrs (.cons _ _ .nil)
        · intro m₁ nw h tk hJ F9 N9
          obtain ⟨uw, uj, oL, cv, rs, eR, rfl, rfl, dL, hrs⟩ := hJ
          unfold upd3 at F9
          try dsimp only
          iterate 9 (first | walk1 | (dsimp only; walk1))
          k_dflt (refine append_K (by k_asm) (by k_asm) (by k_upd) ?_ (by rw [List.size_toArray, sizeLine_eq, hes.1]; omega))
          intro h11 F11 N11
          rw [List.push_toArray] at N11
          iterate 14 (first | walk1 | (dsimp only; walk1))
          k_dflt (refine LSm.sum_ints (by k_asm) (by k_asm) rfl (by is_list) hrs ?_)
          intro h12 tk12 ts12 F12 N12
          rw [show (List.map (cellF ps (endsF ps i) (i + 1)) (List.range ps.length)) = rowF ps (endsF ps i) (i + 1) from rfl] 
          iterate 1 (first | walk1 | (dsimp only; walk1))
          k_dflt (refine append_K (by k_asm) (by k_asm) (by k_upd) ?_ (by rw [List.size_toArray, sizeLine_eq, hss.length]; simp only [sumsF, List.length_cons, List.length_map, endsF_len]; omega))
          intro h15 F15 N15
          rw [List.push_toArray] at N15
          try dsimp only
          refine wpAny_execs_nil ?_
          refine ⟨rfl, h15, _, _, (L' + 1 + 1 + 1 + 1, oL) :: (lE, W.listOf (List.toArray (es ++ [.ref lR])) (eE + 1)) :: (lS, W.listOf (List.toArray (ss ++ [.int (rowF ps (endsF ps i) (i + 1)).sum ts12])) (eS + 1)) :: (L' + 1 + 1 + 1, oE) :: (L' + 1 + 1, oP) :: (L' + 1, o4') :: (DA, LCg.lst ys1) :: (DP, LCg.lst ys) ::
              (l, W.listOf #[.str (ofL [c1]) t1, .str (ofL [c2]) t2, .str (ofL [c3]) t3] e) :: (lR, W.listOf (List.toArray rs) eR) :: tl, rfl, F15, news_perm1 N15, off_cons nI4 (off_cons nIE (off_cons nIS (off_cons nI3 (off_cons nI2 (off_cons nI1 (off_cons nIA (off_cons nIP (off_cons nIl (off_cons nRI nIt))))))))), trivial,
              _, _, _, _, oL, cv, es ++ [.ref lR], eE + 1, ss ++ [.int (rowF ps (endsF ps i) (i + 1)).sum ts12], eS + 1, (lR, W.listOf (List.toArray rs) eR) :: tl, map_ch4, rfl, dL, CT.cons nR4 nRE nRS, rows_snoc hes hrs, rows_more hyaR, ?_⟩
          rw [sumsF_succ]
          exact IntsAre.append hss (.cons _ _ .nil)
      · intro m₁ nw h tk hJ F9 N9
        obtain ⟨uw, uj, ur, unn, oL, cv, es, eE, ss, eS, tl, rfl, rfl, dL, CT, hes, hyaR, hss⟩ := hJ
        unfold upd4 at F9
        try dsimp only
        iterate 4 (first | walk1 | (dsimp only; walk1))
        (with_reducible rename News h₀ L _ _ => N99)
        exact hret lS ss eS _ _ hss (by k_asm) (fun p hp => N99 p (by
          rcases List.mem_cons.mp hp with rfl | hp
          · exact .tail _ (.tail _ (.head _))
          · rcases List.mem_cons.mp hp with rfl | hp
            · exact .tail _ (.tail _ (.tail _ (.tail _ (.tail _ (.tail _ (.tail _ (.tail _ (.head _))))))))
            · exact .tail _ (.tail _ (.tail _ (.tail _ (.tail _ (.tail _ (.tail _ (.tail _ (.tail _ (CT.c p hp)))))))))))
end
-- TLaw
section

theorem law_holds : PySem.Challenge.rw_pe0184_01.Holds := hd ⟨left_all, (by
  k_go0
  (all_goals try k_fold)
  (with_reducible rename IntsAre _ _ => hI)
  (with_reducible rename News _ _ _ _ => NT)
  iterate 19 (first | walk1 | (dsimp only; walk1))
  k_dflt (refine LSm.sum_ints (by k_asm) (by k_asm) rfl (by is_list) (hI.pick none none (some 2)) ?_)
  intro h12 tk12 ts12 F12 N12
  iterate 15 (first | walk1 | (dsimp only; walk1))
  k_dflt (refine LSm.sum_ints (by k_asm) (by k_asm) rfl (by is_list) (hI.pick (some 1) none (some 2)) ?_)
  intro h13 tk13 ts13 F13 N13
  iterate 2 (first | walk1 | (dsimp only; walk1))
  k_dflt (refine' signs _ _ _ _ _ _ _ _ _ _ _ _ _ _ _ _ _ ?kB ?kF ?kX ?kN ?kT ?kK ?kd ?ku ?_)
  case kB => k_asm
  case kF => k_asm
  case kX => k_asm
  case kN => k_asm
  case kT => k_asm
  case kK => exact rfl
  case kd => exact (by decide +kernel)
  case ku => exact (by decide +kernel)
  intro d a b t1 t2 t3 h14 tk14 ha hb F14 N14 l14
  have d37 : @LT.lt Nat _ 37 d := l14 (37, _) (by k_mem)
  have d30 : @LT.lt Nat _ 30 d := l14 (30, _) (by k_mem)
  (with_reducible rename News _ _ h14 _ => N14)
  have NA := show News _ _ h14 [(d, W.listOf #[.str (ofL [61]) t1, .str (ofL [pool.getD a 0]) t2, .str (ofL [(pool.eraseIdx a).getD b 0]) t3] 0), (37, tabObj #[]), (30, tabObj #[])] from cb_drop N14 (by kcj_all)
  clear N14
  obtain ⟨B, A, G⟩ := good_all a ha b hb
  unfold sgF at G
  generalize hc2 : pool.getD a 0 = c2 at G NA
  generalize hc3 : (pool.eraseIdx a).getD b 0 = c3 at G NA
  iterate 16 (first | walk1 | (dsimp only; walk1))
  k_dflt (refine' chains _ _ _ _ _ _ _ _ _ _ _ _ _ _ _ _ _ ?kB ?kF ?kX ?kN ?kT ?kK ?kd ?ku ?_)
  case kB => k_asm
  case kF => k_asm
  case kX => k_asm
  case kN => k_asm
  case kT => k_asm
  case kK => exact rfl
  case kd => exact (by decide +kernel)
  case ku => exact (by decide +kernel)
  intro dC vsC eC h15 tk15 hIC F15 N15
  iterate 8 (first | walk1 | (dsimp only; walk1))
  have hlC : vsC.length = 5 := by rw [hIC.length]; simp only [sumsF, List.length_cons, List.length_map, endsF_len]
  k_dflt (refine' krv_ints ?rvF ?rvN ?rvL ?rvK hIC ?_ ?rvS ?rvT ?rvZ; (case rvF => k_asm); (case rvN => k_asm); (case rvL => is_list); (case rvK => exact IsPart.int _ _); (case rvS => with_unfolding_all rfl); (case rvT => kmk_pure); (case rvZ => rw [List.size_toArray, hlC, sizeLine_eq]; omega))
  intro dR vsR h16 F16 N16 lR hIR hlR
  (with_reducible rename News _ _ h16 _ => N16)
  have gB := G.hB
  have gS := G.small
  generalize sumsF (piecesF [61, c2, c3]) 4 = sums at hIC hIR hlR gB gS
  have hl5 : sums.length = 5 := by rw [← hIC.length]; exact hlC
  have dR37 : @LT.lt Nat _ 37 dR := lR (37, _) (by k_mem)
  have dRd : @LT.lt Nat _ d dR := lR (d, _) (by k_mem)
  iterate 4 (first | walk1 | (dsimp only; walk1))
  k_dflt (refine' d2i (n := 352) (news := [(d, W.listOf #[.str (ofL [61]) t1, .str (ofL [c2]) t2, .str (ofL [c3]) t3] 0), (30, tabObj #[])]) hIR (by rw [List.length_reverse]; omega) (by rw [List.length_reverse]; omega) (by decide) gS (Nat.ne_of_gt dR37) (by intro p hp; rcases List.mem_cons.mp hp with rfl | hp; exact Nat.ne_of_gt d37; rw [List.mem_singleton.mp hp]; decide) _ _ _ _ _ _ _ _ _ _ _ _ _ _ _ _ _ ?kB ?kF ?kX ?kN ?kT ?kK ?kC ?kd ?ku ?_)
  case kB => k_asm
  case kF => k_asm
  case kX => k_asm
  case kN => (refine' cb_drop ?cbN ?cbS; (case cbN => assumption); (case cbS => kcj_all))
  case kT => k_asm
  case kK => exact rfl
  case kC => assumption
  case kd => exact (by decide +kernel)
  case ku => exact (by decide +kernel)
  intro tb h17 tk17 cD ocD vsD tD d1 d2 lcR lc37 lcn F17 N17
  rw [gB]
  iterate 13 (first | walk1 | (dsimp only; walk1))
  k_dflt (refine add_to (v := (A : Int)) G.hA ?_)
  iterate 12 (first | walk1 | (dsimp only; walk1))
  have hnD : ∀ p ∈ [(d, W.listOf #[.str (ofL [61]) t1, .str (ofL [c2]) t2, .str (ofL [c3]) t3] 0)], p.1 < cD := fun p hp => lcn p (by rw [List.mem_singleton.mp hp]; exact .head _)
  have cD30 : @LT.lt Nat _ 30 cD := lcn (30, _) (.tail _ (.head _))
  k_dflt (refine' dpos (x := A) (b := B) (n := 1408) (K := 3) (news := [(d, W.listOf #[.str (ofL [61]) t1, .str (ofL [c2]) t2, .str (ofL [c3]) t3] 0)]) G.pA G.pB G.bB (by decide) (by rw [G.bA]) (by decide) (by decide) (by rw [G.bA]; decide) (by intro p hp; rw [List.mem_singleton.mp hp]; exact Nat.ne_of_gt d30) (by intro p hp; rw [List.mem_singleton.mp hp]; exact Nat.ne_of_gt d37) d1 d2 (Nat.ne_of_gt cD30) (Nat.ne_of_gt lc37) (fun p hp => Nat.ne_of_lt (hnD p hp)) _ _ _ _ _ _ _ _ _ _ _ _ _ _ _ _ _ ?kB ?kF ?kX ?kN ?kT ?kK ?kC ?kd ?ku ?_)
  case kB => k_asm
  case kF => k_asm
  case kX => k_asm
  case kN => (refine' cb_drop ?cbN ?cbS; (case cbN => assumption); (case cbS => kcj_all))
  case kT => k_asm
  case kK => exact rfl
  case kC => exact ⟨by assumption, by assumption⟩
  case kd => exact (by decide +kernel)
  case ku => exact (by decide +kernel)
  intro tT tq tr h18 tk18 cI ocI vsI tI e1 e2 F18 N18
  have hqr : A / B * B + A % B = A := by rw [Nat.mul_comm]; exact Nat.div_add_mod A B
  have hr : A % B < B := Nat.mod_lt _ G.pB
  have gQ := G.pQ
  have gb := G.bQ
  have gk := G.kQ
  have gr := G.read
  generalize A / B = q at hqr gQ gb gk gr N18
  generalize A % B = r at hqr hr N18
  (with_reducible rename News _ _ h18 _ => N18)
  have hr0 : ¬ ((r : Nat) : Int) < 0 := by omega
  have hr1 : ¬ ((r : Nat) : Int) ≥ (B : Int) := by omega
  iterate 17 (first | walk1 | (dsimp only; walk1))
  k_dflt (refine mul_to (v := ((q * B : Nat) : Int)) (IntMulOk.of_bits (Nat.le_trans gb (by decide)) (by rw [G.bB]; decide)) (Int.natCast_mul _ _).symm ?_)
  iterate 1 (first | walk1 | (dsimp only; walk1))
  k_dflt (refine add_to (v := (A : Int)) (by rw [← hqr]; simp) ?_)
  iterate 4 (first | walk1 | (dsimp only; walk1))
  walk1
  · exact absurd rfl ‹¬ (_ : Int) = _›
  iterate 30 (first | walk1 | (dsimp only; walk1))
  k_dflt (refine' i2d2 (x := q) (n := 32) (K := 45) (news := [(d, W.listOf #[.str (ofL [61]) t1, .str (ofL [c2]) t2, .str (ofL [c3]) t3] 0), (37, tabObj (tabD cD))]) gQ (by decide) (by decide) gk (by decide) (by decide) (Nat.le_trans gb (by decide)) (by intro p hp; rcases List.mem_cons.mp hp with rfl | hp; exact Nat.ne_of_gt d30; rw [List.mem_singleton.mp hp]; show (37 : Nat) ≠ 30; decide) e1 e2 _ _ _ _ _ _ _ _ _ _ _ _ _ _ _ _ _ ?kB ?kF ?kX ?kN ?kT ?kK ?kC ?kd ?ku ?_)
  case kB => k_asm
  case kF => k_asm
  case kX => k_asm
  case kN => (refine' cb_drop ?cbN ?cbS; (case cbN => assumption); (case cbS => kcj_all))
  case kT => k_asm
  case kK => exact rfl
  case kC => assumption
  case kd => exact (by decide +kernel)
  case ku => exact (by decide +kernel)
  intro lQ itQ h20 tk20 hIQ lq30 lqc lqn F20 N20
  (with_reducible rename News _ _ h20 _ => N20)
  rw [gr] at hIQ
  iterate 7 (first | walk1 | (dsimp only; walk1))
  k_dflt (refine' read (news := [(lQ, W.listOf itQ.toArray 0), (37, tabObj (tabD cD)), (30, tabObj (tabI cI))]) G.ok _ _ _ _ _ _ _ _ _ _ _ _ _ _ _ _ _ ?kB ?kF ?kX ?kN ?kT ?kK ?kd ?ku ?_)
  case kB => k_asm
  case kF => k_asm
  case kX => k_asm
  case kN => (refine' cb_drop ?cbN ?cbS; (case cbN => assumption); (case cbS => kcj_all))
  case kT => k_asm
  case kK => exact rfl
  case kd => exact (by decide +kernel)
  case ku => exact (by decide +kernel)
  intro lZ itZ eZ h21 tk21 hIZ F21 N21
  k_dflt (refine eq_intsK (by is_list) hIQ (by is_list) hIZ (by units_room) ?_)
  rw [decide_eq_true rfl]
  walk1
  · (try dsimp only)
    k_end
    wrow_close
  · walk1)⟩
end
end Mine
set_option maxRecDepth 100000 in
set_option maxHeartbeats 8000000 in
theorem PySem.Challenge.cw_pe0184_01_holds : PySem.Challenge.rw_pe0184_01.Holds := by
  exact Mine.law_holds
