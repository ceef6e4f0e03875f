import PyProof.Rows.All
import Wide.All
import OpenK.AllK
import Wide.FinOn
import PyProof.Walk
import PyProof.WalkLemmas
import PySem.Challenge.RW_mr0186_01
set_option Elab.async false
set_option compiler.extract_closed false
set_option hygiene false
open PySem PySem.W PySem.Calls PyProof.Rows
section
open PySem PySem.W PySem.Calls PyProof.Rows PySem.W.X
set_option maxRecDepth 100000
set_option maxHeartbeats 0
namespace Mine
noncomputable abbrev PR : Program := PySem.Challenge.pw_mr0186_01
/-- the function that the text's statement i makes at the top -/
noncomputable def fnK (i : Nat) (df : Value) (cd : Addr) (md : Str) (mt : Tok) : Obj := match PR.main.body[i]? with
  | some (.FunctionDef nm ps b _ _ _ sc _ _ _) => { cls := .type "function", data := .func { name := nm, qualname := nm, params := ps, body := .stmts b, scope := sc, globals := 3, closure := [], defaults := df, kwdefaults := .none, pyModule := .str md mt, code := .ref cd } }
  | _ => { cls := .none }
noncomputable def enK (P : Params) (x : Str) (t : Tok) (v : Value) : DictEntry := ⟨PyData.keyHash P x, .str x t, v⟩
/-- the code of a function: its name, line, the tuples that it holds -/
noncomputable def coK (x : Str) (t : Tok) (l : Int) (n : Int) (a b : Addr) (c d : Value) (e : Addr) (t' t'' : Tok) : Obj := { cls := .type "code", data := .fields #[.str x t, .str x (t + 1), .str "/claim/cut.py" (t + 2), .int l 0, .int n 0, .int 0 0, .int 0 0, .int 3 0, .ref a, .bool true, .int 181 0, .ref b, .none, c, d, .ref e, .int t' 0, .int l 0, .str "/claim/cut.py" t''] }
noncomputable def gloK (P : Params) : Obj := { cls := .type "dict", data := .dict #[enK P "__name__" 165 (.str "law_mr0186_01" 251), enK P "__doc__" 166 .none, enK P "__package__" 167 .none, enK P "__loader__" 168 (.builtin "__main__.__loader__#opaque"), enK P "__spec__" 169 .none, enK P "__annotations__" 170 (.ref 6), enK P "__builtins__" 171 (.ref 4), enK P "__file__" 173 (.str "/claim/cut.py" 172), enK P "__cached__" 174 .none,
  enK P "compute_powers" 208 (.ref 22), enK P "_str_to_int_inner" 219 (.ref 29), enK P "int_from_string" 226 (.ref 36), enK P "cmp_to_key" 237 (.ref 43), enK P "_initial_missing" 238 (.ref 44), enK P "reduce" 250 (.ref 52), enK P "_law_pieces" 261 (.ref 59), enK P "_law_worth" 269 (.ref 66), enK P "_law_compare" 280 (.ref 73), enK P "_law_filled" 286 (.ref 78), enK P "law" 292 (.ref 83)] 20 }
/-- the objects of the top that the proof looks at -/
noncomputable def KF (P : Params) : Frag := [(2, { cls := .none, data := .dict #[] }), (3, gloK P), (15, { cls := .type "tuple", data := .seq #[.bool false] }), (44, { cls := .type "object" }), (45, { cls := .type "tuple", data := .seq #[.ref 44] }),
  (28, coK "_str_to_int_inner" 209 43 1 23 24 (.ref 25) (.ref 26) 27 217 218), (42, coK "cmp_to_key" 229 57 1 37 38 (.ref 39) (.ref 40) 41 235 236),
  (21, coK "compute_powers" 189 2 4 16 17 (.ref 18) (.ref 19) 20 206 207), (35, coK "int_from_string" 220 53 1 30 31 (.ref 32) (.ref 33) 34 224 225), (51, coK "reduce" 239 83 3 46 47 (.ref 48) (.ref 49) 50 248 249), (58, coK "_law_pieces" 253 96 1 53 54 (.ref 55) (.ref 56) 57 259 260),
  (65, coK "_law_worth" 262 104 2 60 61 (.ref 62) (.ref 63) 64 267 268), (72, coK "_law_compare" 270 108 2 67 68 (.ref 69) (.ref 70) 71 278 279), (77, coK "_law_filled" 281 117 1 74 75 .none .none 76 284 285), (82, coK "law" 287 126 1 79 80 .none .none 81 290 291),
  (22, fnK 1 (.ref 15) 21 "cpy313._pylong" 187), (29, fnK 2 .none 28 "cpy313._pylong" 187), (36, fnK 3 .none 35 "cpy313._pylong" 187), (43, fnK 5 .none 42 "cpy313.functools" 227), (52, fnK 7 (.ref 45) 51 "cpy313.functools" 227),
  (59, fnK 9 .none 58 "law_mr0186_01" 251), (66, fnK 10 .none 65 "law_mr0186_01" 251), (73, fnK 11 .none 72 "law_mr0186_01" 251), (78, fnK 12 .none 77 "law_mr0186_01" 251), (83, fnK 13 .none 82 "law_mr0186_01" 251)]
local macro_rules | `(tactic| k_head) => `(tactic| o_head (kmHook KF [2, 3, 15, 44, 45, 28, 42, 21, 35, 51, 58, 65, 72, 77, 82, 22, 29, 36, 43, 52, 59, 66, 73, 78, 83] (fun _ => rfl) [38, 24]))
open_top hd for PySem.Challenge.rw_mr0186_01
/-- the same, written out -/
noncomputable def K0 (P : Params) : Frag := [(2, boot_o_2 P), (3, hd.o_49 P), (15, hd.o_51 P), (44, hd.o_80 P), (45, hd.o_81 P), (28, hd.o_64 P), (42, hd.o_78 P), (21, hd.o_57 P), (35, hd.o_71 P), (51, hd.o_87 P), (58, hd.o_94 P), (65, hd.o_101 P), (72, hd.o_108 P), (77, hd.o_113 P), (82, hd.o_118 P), (22, hd.o_58 P), (29, hd.o_65 P), (36, hd.o_72 P), (43, hd.o_79 P), (52, hd.o_88 P), (59, hd.o_95 P), (66, hd.o_102 P), (73, hd.o_109 P), (78, hd.o_114 P), (83, hd.o_119 P)]
theorem k0_eq (P : Params) : K0 P = KF P := by kernel_rfl
theorem k0_look {P : Params} {a : Addr} {o : Obj} (h : (K0 P).lookup a = some o) : (KF P).lookup a = some o ∧ a ≠ 24 ∧ a ≠ 38 := by
  refine ⟨(k0_eq P) ▸ h, ?_, ?_⟩ <;> (rintro rfl; cases (show none = some o from h))
end Mine
end
section
open PySem PySem.W PySem.Calls PyProof.Rows
set_option maxRecDepth 100000
set_option maxHeartbeats 8000000
namespace Mine

/-- what stood stays -/
noncomputable abbrev Kp (h h' : Heap) : Prop := ∀ b o, h.get? b = some o → h'.get? b = some o

/-- the module of the built-ins -/
noncomputable abbrev modO (sl : Array (Option Value)) : Obj := { cls := .type "module", dict := some builtinsNs, data := .plain, slots := sl }
/-- two objects of the interpreter's own that the top's fragment does not hold -/
noncomputable def Sys (g : Heap) : Prop := (∃ sl, g.get? 4 = some (modO sl)) ∧ ∃ o, g.get? sysModules = some o
theorem Sys.keeps {g h : Heap} (S : Sys g) (k : Kp g h) : Sys h := ⟨let ⟨sl, e⟩ := S.1; ⟨sl, k _ _ e⟩, let ⟨o, e⟩ := S.2; ⟨o, k _ _ e⟩⟩
structure Am (A : Around) (n : Nat) : Prop where
  handled : A.handled = none
  depth : A.depth ≤ n
  units : A.units ≤ 10 * n

theorem Am.deeper {A : Around} {n : Nat} (x : Am A n) (env : Env) : Am (A.deeper env) (n + 1) :=
  ⟨x.handled, by show A.depth + 1 ≤ _; have := x.depth; omega, by show A.units + 3 ≤ _; have := x.units; omega⟩
theorem Am.in1 {A : Around} {n : Nat} (x : Am A n) : Am A.in1 (n + 1) :=
  ⟨x.handled, by show A.depth ≤ _; have := x.depth; omega, by show A.units + 1 ≤ _; have := x.units; omega⟩
theorem Am.room {A : Around} {n : Nat} (x : Am A n) (h : n < 900) : A.depth < recursionLimit := by
  have := x.depth
  show A.depth < 1000
  omega
theorem Am.line {A : Around} {n : Nat} (x : Am A n) (h : n < 900) : A.units < cLine := by
  have := x.units
  show A.units < 9900
  omega
theorem Am.up {A : Around} {n k : Nat} (x : Am A n) (h : n ≤ k) : Am A k :=
  ⟨x.handled, by have := x.depth; omega, by have := x.units; omega⟩

theorem fr_but {h₀ h h' : Heap} {L : Addr} {m : Str → Option Value} {wr : List Addr} (F : Fr h₀ L h m) (hk : ∀ b o, b ∉ wr → h.get? b = some o → h'.get? b = some o)
    (h0 : ∀ b ∈ wr, h₀.get? b = none) (hL : L ∉ wr) : Fr h₀ L h' m :=
  ⟨F.ns.at' (fun o e => hk _ o hL e), fun b o e => hk b o (fun hb => by rw [h0 b hb] at e; cases e) (F.keep b o e), F.above⟩
theorem news_but {h₀ h h' : Heap} {L : Addr} {news : List (Addr × Obj)} {wr : List Addr} (N : News h₀ L h news) (hk : ∀ b o, b ∉ wr → h.get? b = some o → h'.get? b = some o)
    (hn : ∀ p ∈ news, p.1 ∉ wr) : News h₀ L h' news := fun p hp => ⟨hk _ _ (hn p hp) (N p hp).1, (N p hp).2⟩
theorem news_cons {h₀ h : Heap} {L a : Addr} {o : Obj} {news : List (Addr × Obj)} (ho : h.get? a = some o) (hL : a ≠ L) (h0 : h₀.get? a = none) (N : News h₀ L h news) : News h₀ L h ((a, o) :: news) := fun p hp => by
  rcases List.mem_cons.mp hp with rfl | hp
  · exact ⟨ho, hL, h0⟩
  · exact N p hp
theorem news_tail {h₀ h : Heap} {L : Addr} {p : Addr × Obj} {news : List (Addr × Obj)} (N : News h₀ L h (p :: news)) : News h₀ L h news := fun q hq => N q (.tail _ hq)
theorem news_kp {h₀ h h' : Heap} {L : Addr} {news : List (Addr × Obj)} (N : News h₀ L h news) (hk : Kp h h') : News h₀ L h' news := fun p hp => ⟨hk _ _ (N p hp).1, (N p hp).2⟩
theorem fr_kp {h₀ h h' : Heap} {L : Addr} {m : Str → Option Value} (F : Fr h₀ L h m) (hk : Kp h h') : Fr h₀ L h' m :=
  ⟨F.ns.keeps hk, fun b o e => hk b o (F.keep b o e), F.above⟩
theorem fresh_of {h₀ h : Heap} {L : Addr} {m : Str → Option Value} (F : Fr h₀ L h m) {a : Addr} (ha : h.objs.size ≤ a) : h₀.get? a = none ∧ a ≠ L :=
  ⟨Heap.get?_none_of_le (Nat.le_trans (Nat.le_trans F.above (Nat.le_of_lt F.ns.lt)) ha), Nat.ne_of_gt (Nat.lt_of_lt_of_le F.ns.lt ha)⟩

theorem canon1 {m m₀ : Str → Option Value} {x : Str} {v : Value} (hy : m x = some v) (hm : ∀ z, z ≠ x → m z = m₀ z) : m = fun z => if z = x then some v else m₀ z := by
  funext z
  by_cases h1 : z = x
  · subst h1; simp [hy]
  · simp [h1, hm z h1]
/-- a map that is another one but for two names -/
theorem canon2 {m m₀ : Str → Option Value} {x y : Str} {v : Value} (hy : m y = some v) (hm : ∀ z, z ≠ x → z ≠ y → m z = m₀ z) :
    m = fun z => if z = x then m x else if z = y then some v else m₀ z := by
  funext z
  by_cases h1 : z = x
  · subst h1; simp
  · by_cases h2 : z = y
    · subst h2; simp [h1, hy]
    · simp [h1, h2, hm z h1 h2]

section
variable {prog : Program} {w : World} {A : Around} {R : Result → Shared → Prop} {s : Shared}

theorem for_walks {target : Expr} {body : List Stmt} {env : Env} {I : Addr} {fp wr : List Addr} {n : Nat} {P : Nat → Value → Prop} {St : Nat → Heap → Prop}
    (W : Walks prog w A I fp wr n P St) (J : Nat → Shared → Prop) (h0 : J 0 s) (st0 : St 0 s.heap)
    (turn : ∀ i v (s : Shared) h' tk, i < n → P i v → J i s → St (i + 1) h' → (∀ b o, b ∉ wr → s.heap.get? b = some o → h'.get? b = some o) →
      ∀ Q' : Flow → Shared → Prop, (∀ s₃, J (i + 1) s₃ → St (i + 1) s₃.heap → Q' .next s₃) → (∀ v s₃, R (.ok (.ret v)) s₃ → Q' (.ret v) s₃) →
      wpAny (model prog w) A (assign target env v) (fun _ s₂ => wpAny (model prog w) A (execs body env) Q' (fun _ _ => False) s₂) (fun _ _ => False) { s with heap := h', toks := tk })
    (done : ∀ (s : Shared) h' tk, J n s → (∀ b o, b ∉ wr → s.heap.get? b = some o → h'.get? b = some o) → R (.ok .next) { s with heap := h', toks := tk })
    (ht : ∀ v, letOwnedTupleGo target (.ref I) v = pure () := by intro _; rfl) :
    codeAny (model prog w) A (.forLoop target (.ref I) body [] env) R s := by
  refine codeAny_forLoop (fun k s' => ∃ i, i ≤ n ∧ k = n - i ∧ J i s' ∧ St i s'.heap) ?_ n ⟨0, Nat.zero_le _, rfl, h0, st0⟩ ht
  rintro k s' ⟨i, hi, rfl, hJ, hst⟩
  by_cases hlt : i < n
  · refine W.item i s' _ _ hlt hst fun v h' tk hP hst' hk => ?_
    refine wpAny_mono (turn i v s' h' tk hlt hP hJ hst' hk (fun f s₃ => match f with
          | .next | .cont => J (i + 1) s₃ ∧ St (i + 1) s₃.heap
          | .brk => R (.ok .next) s₃
          | .ret v => R (.ok (.ret v)) s₃) (fun _ a b => ⟨a, b⟩) (fun _ _ a => a)) (fun _ s₂ h₂ => wpAny_mono h₂ (fun f s₃ h₃ => ?_) fun _ _ e => e.elim) fun _ _ e => e.elim
    cases f with
    | next => exact ⟨n - (i + 1), by omega, i + 1, hlt, rfl, h₃⟩
    | cont => exact ⟨n - (i + 1), by omega, i + 1, hlt, rfl, h₃⟩
    | brk => exact h₃
    | ret v => exact h₃
  · have : i = n := by omega
    subst this
    refine W.done s' _ _ hst fun h' tk hk => ?_
    exact wpAny_execs_nil (done s' h' tk hJ hk)

/-- the loop of a list comprehension, by an invariant over the list made so far -/
theorem comp_walks {elt iter : Expr} {x : Str} {px : Pos} {scope : Scope} {pos : Pos} {I D : Addr} {fp wr : List Addr} {n : Nat} {P : Nat → Value → Prop} {St : Nat → Heap → Prop} {cenv : Env} {m : Str → Option Value}
    (W : Walks prog w A I fp wr n P St) (J : Nat → List Value → Heap → Prop)
    (hx : cenv.kindOf x = some .local) (hp : (cenv.scope.kind == .class || (cenv.scope.kind == .module && cenv.locals != cenv.globals)) = false)
    (hDC : D ≠ cenv.locals) (hDf : D ∉ fp) (hCf : cenv.locals ∉ fp) (ifs : List Expr)
    (hst : St 0 s.heap) (hacc : s.heap.PlainList D #[]) (hn : s.heap.Ns cenv.locals m) (h0 : J 0 [] s.heap) (hJk : ∀ i ys h h', J i ys h → (∀ b o, b ≠ cenv.locals → b ∉ wr → b ≠ D → h.get? b = some o → h'.get? b = some o) → J i ys h')
    (turn : ∀ i v (ys : List Value) (s' : Shared) m', i < n → P i v → J i ys s'.heap → s'.heap.Ns cenv.locals m' → m' x = some v → s'.heap.PlainList D ys.toArray → St (i + 1) s'.heap → ys.length ≤ i →
      wpAny (model prog w) A (forIn ifs true fun c r => if r = true then do let ok ← isTrue c cenv (eval c cenv); pure (ForInStep.yield ok) else pure (ForInStep.yield r)) (fun ok s₃ =>
        if ok = true then wpAny (model prog w) A (eval elt cenv) (fun y s₄ => J (i + 1) (ys ++ [y]) s₄.heap ∧ (∃ m'', s₄.heap.Ns cenv.locals m'') ∧ s₄.heap.PlainList D ys.toArray ∧ St (i + 1) s₄.heap ∧ ∃ h tk, s₄ = { s' with heap := h, toks := tk }) (fun _ _ => False) s₃
        else J (i + 1) ys s₃.heap ∧ (∃ m'', s₃.heap.Ns cenv.locals m'') ∧ s₃.heap.PlainList D ys.toArray ∧ St (i + 1) s₃.heap ∧ ∃ h tk, s₃ = { s' with heap := h, toks := tk }) (fun _ _ => False) s')
    (done : ∀ ys h' tk m', J n ys h' → h'.Ns cenv.locals m' → h'.PlainList D ys.toArray → ys.length ≤ n → R (.ok .next) { s with heap := h', toks := tk })
    (hsz : n ≤ sizeLine := by size_fits) :
    codeAny (model prog w) A (.compLoop (.ListComp elt [⟨.Name x px, iter, ifs, 0⟩] scope pos) 0 (.ref I) (.ref D) cenv) R s := by
  have hCw : cenv.locals ∉ wr := fun h => hCf (W.sub _ h)
  have hDw : D ∉ wr := fun h => hDf (W.sub _ h)
  refine codeAny_compLoop_tests
    (fun k s' => ∃ i ys h tk m', i ≤ n ∧ k = n - i ∧ s' = { s with heap := h, toks := tk } ∧ J i ys h ∧ h.Ns cenv.locals m' ∧ h.PlainList D ys.toArray ∧ St i h ∧ ys.length ≤ i) ?_ n
    ⟨0, [], s.heap, s.toks, m, Nat.zero_le _, rfl, rfl, h0, hn, hacc, hst, Nat.le_refl _⟩
  rintro k s' ⟨i, ys, h, tk, m', hi, rfl, rfl, hJ, hn', hD, hst', hl⟩
  by_cases hlt : i < n
  · refine W.item i _ _ _ hlt hst' fun v h₁ tk₁ hP hst₁ hk₁ => ?_
    refine wpAny_assign_Name (wpAny_storeName_local hx (hn'.at' fun o e => hk₁ _ o hCw e) (fun h₂ hn₂ hs₂ => ?_) hp)
    have hJ₂ : J i ys h₂ := hJk _ _ _ _ hJ fun b o hb hbw hbD e => hs₂.extBut b o hb (hk₁ b o hbw e)
    have hD₂ : h₂.PlainList D ys.toArray := hD.at fun o e => hs₂.extBut D o hDC (hk₁ D o hDw e)
    have hst₂ : St (i + 1) h₂ := W.frame _ _ _ hst₁ fun b hb o e => hs₂.extBut b o (fun q => hCf (q ▸ hb)) e
    refine wpAny_mono (turn i v ys { s with heap := h₂, toks := tk₁ + 1 } _ hlt hP hJ₂ hn₂ (by simp) hD₂ hst₂ hl) (fun ok s₃ h₃ => ?_) fun _ _ e => e.elim
    cases ok with
    | false =>
      obtain ⟨hJ₃, ⟨m₃, hn₃⟩, hD₃, hst₃, h₃, tk₃, rfl⟩ := h₃
      exact ⟨n - (i + 1), by omega, i + 1, ys, h₃, tk₃, m₃, hlt, rfl, rfl, hJ₃, hn₃, hD₃, hst₃, by omega⟩
    | true =>
      refine wpAny_mono h₃ (fun y s₄ h₄ => ?_) fun _ _ e => e.elim
      obtain ⟨hJ₄, ⟨m₄, hn₄⟩, hD₄, hst₄, h₄, tk₄, rfl⟩ := h₄
      refine wpAny_list_append_plain (hsz := by rw [List.size_toArray]; omega) hD₄ fun h₅ hl₅ hs₅ => ?_
      refine ⟨n - (i + 1), by omega, i + 1, ys ++ [y], h₅, tk₄, m₄, hlt, rfl, rfl, hJk _ _ _ _ hJ₄ fun b o hb hbw hbD e => hs₅.extBut b o hbD e, hn₄.sameBut hs₅ (Ne.symm hDC), ?_, W.frame _ _ _ hst₄ fun b hb o e => hs₅.extBut b o (fun q => hDf (q ▸ hb)) e, by simp; omega⟩
      have e : (ys ++ [y]).toArray = ys.toArray.push y := by simp
      rw [e]; exact hl₅
  · have : i = n := by omega
    subst this
    refine W.done _ _ _ hst' fun h₁ tk₁ hk₁ => ?_
    exact done ys h₁ tk₁ m' (hJk _ _ _ _ hJ fun b o hb hbw hbD e => hk₁ b o hbw e) (hn'.at' fun o e => hk₁ _ o hCw e) (hD.at fun o e => hk₁ _ o hDw e) hl
end
end Mine
end
section
open PySem PySem.W PySem.Calls PyProof.Rows
namespace Mine

theorem runs_toks {M : Model} {Γ : Ctx} {p : Pos} {t : Sem Fin} {fs : List Frame} {s s' : Shared} {e : End} (h : Runs M Γ p t fs s e s') : s.toks ≤ s'.toks := by
  induction h <;> first
    | exact Nat.le_refl _
    | assumption
    | exact Nat.le_trans (by assumption) (by assumption)
    | (simp only [Shared.setGen] at *; omega)

theorem wp_toks {α : Type} {M : Model} {Γ : Ctx} (k₀ : Nat) : ∀ (t : Sem α) {Q : α → Pos → Shared → Prop} {E : Value → Pos → Shared → Prop} {p : Pos} {s : Shared}, k₀ ≤ s.toks →
    Sem.wp M Γ t (fun a p' s' => k₀ ≤ s'.toks → Q a p' s') (fun e p' s' => k₀ ≤ s'.toks → E e p' s') p s → Sem.wp M Γ t Q E p s := by
  intro t
  induction t with
  | pure a => intro Q E p s hs h; rw [Sem.wp] at h ⊢; exact h hs
  | raise a => intro Q E p s hs h; rw [Sem.wp] at h ⊢; exact h hs
  | unsupported a => intro Q E p s hs h; rw [Sem.wp] at h; exact h.elim
  | finish a => intro Q E p s hs h; rw [Sem.wp] at h; exact h.elim
  | rule a k ih => intro Q E p s hs h; rw [Sem.wp] at h ⊢; exact ih _ hs h
  | «at» a k ih => intro Q E p s hs h; rw [Sem.wp] at h ⊢; exact ih _ hs h
  | load a pt k ih => intro Q E p s hs h; rw [Sem.wp] at h ⊢; obtain ⟨o, h1, h2⟩ := h; exact ⟨o, h1, ih _ hs h2⟩
  | update a pt f k ih => intro Q E p s hs h; rw [Sem.wp] at h ⊢; exact ⟨h.1, ih _ (by exact hs) h.2⟩
  | alloc o k ih => intro Q E p s hs h; rw [Sem.wp] at h ⊢; exact ih _ (by exact hs) h
  | loadIfAlive a k ih => intro Q E p s hs h; rw [Sem.wp] at h ⊢; exact ih _ hs h
  | point l k ih => intro Q E p s hs h; rw [Sem.wp] at h ⊢; exact ih _ hs h
  | register a k ih => intro Q E p s hs h; rw [Sem.wp] at h; exact h.elim
  | fresh k ih => intro Q E p s hs h; rw [Sem.wp] at h ⊢; exact ih _ (by exact Nat.le_succ_of_le hs) h
  | ask k ih => intro Q E p s hs h; rw [Sem.wp] at h ⊢; exact ih _ hs h
  | choose a b k ih => intro Q E p s hs h; rw [Sem.wp] at h ⊢; exact ⟨h.1, ih _ (by exact hs) h.2⟩
  | os a b k ih => intro Q E p s hs h; rw [Sem.wp] at h ⊢; exact ih _ (by exact hs) h
  | call c hd g l k ih =>
    intro Q E p s hs h; rw [Sem.wp] at h ⊢
    obtain ⟨r, s', h1, h2⟩ := h
    exact ⟨r, s', h1, ih _ (Nat.le_trans hs (runs_toks h1)) h2⟩
  | handled a k ih => intro Q E p s hs h; rw [Sem.wp] at h ⊢; exact ih _ hs h
  | newGen c k ih => intro Q E p s hs h; rw [Sem.wp] at h ⊢; exact ih _ (by exact hs) h
  | genState g k ih => intro Q E p s hs h; rw [Sem.wp] at h ⊢; obtain ⟨o, h1, h2⟩ := h; exact ⟨o, h1, ih _ hs h2⟩
  | resume g r l k ih =>
    intro Q E p s hs h; rw [Sem.wp] at h ⊢
    obtain ⟨res, s', h1, h2⟩ := h
    refine ⟨res, s', h1, ih _ (Nat.le_trans hs ?_) h2⟩
    unfold Wakes at h1
    split at h1
    · exact h1.elim
    · split at h1
      · obtain ⟨e₁, s₁, h1, _, _, rfl⟩ := h1; have q := runs_toks h1; exact q
      · rw [h1.2]; exact Nat.le_refl _
      · rw [h1.2]; exact Nat.le_refl _
    · obtain ⟨e₁, s₁, h1, _, _, rfl⟩ := h1; have q := runs_toks h1; exact q
    · rw [h1.2]; exact Nat.le_refl _
    · rw [h1.2]; exact Nat.le_refl _
  | yield a b c k ih => intro Q E p s hs h; rw [Sem.wp] at h; exact h.elim
  | stack k ih => intro Q E p s hs h; rw [Sem.wp] at h ⊢; exact ih _ hs h
  | fork c k ih => intro Q E p s hs h; rw [Sem.wp] at h; exact h.elim
  | thread k ih => intro Q E p s hs h; rw [Sem.wp] at h ⊢; exact ih _ hs h
  | await a b c d k ih => intro Q E p s hs h; rw [Sem.wp] at h; exact h.elim

theorem wpAny_toks {α : Type} {M : Model} {A : Around} {t : Sem α} {Q : α → Shared → Prop} {E : Value → Shared → Prop} {s : Shared}
    (h : wpAny M A t (fun a s' => s.toks ≤ s'.toks → Q a s') (fun e s' => s.toks ≤ s'.toks → E e s') s) : wpAny M A t Q E s :=
  fun Γ p hΓ => wp_toks s.toks t (Nat.le_refl _) (h Γ p hΓ)
end Mine
end
local macro_rules | `(tactic| k_is) => `(tactic| exact rfl)
section
open PySem PySem.W PySem.Calls PyProof.Rows PySem.Builtin.Str
set_option maxRecDepth 100000
set_option maxHeartbeats 8000000
namespace Mine
variable {w : World} {A : Around} {E : Value → Shared → Prop} {s : Shared} {loose : List Str} {mean : ExcName → Option Value} {mg mb : Str → Option Value} {n : Nat}

noncomputable abbrev ch (c : Nat) : Str := ⟨#[c]⟩
noncomputable def isFig (c : Nat) : Bool := c == 48 || c == 49 || c == 50 || c == 57
theorem isFig_cases {c : Nat} (h : isFig c = true) : c = 48 ∨ c = 49 ∨ c = 50 ∨ c = 57 := by
  simp only [isFig, Bool.or_eq_true, beq_iff_eq, or_assoc] at h
  exact h

/-- the step of a numeral's worth -/
noncomputable def wstep (k : Int) (c : Nat) : Int := if c = 95 then k else k * 10 + ((c : Int) - 48)

theorem worth_spec {k : Int} {t u : Tok} {c : Nat} {Q : Value → Shared → Prop} (X : (K0 w.params).In s.heap) (T : Top topProg loose mean mg mb s.heap) (hA : Am A n) (hn : n < 800)
    (hc : isFig c = true ∨ c = 95)
    (h : ∀ h' tk t', Kp s.heap h' → Q (.int (wstep k c) t') {s with heap := h', toks := tk}) :
    wpAny (model PR w) A (call (.ref 66) [.int k t, .str (ch c) u]) Q E s := by
  refine wpAny_call (codeAny_call_def (binds := [("worth", .int k t), ("sign", .str (ch c) u)]) (hA.room (by omega)) (X 66 _ rfl) rfl T.nolimit (codeRec_of X rfl) rfl (BindsTo.of_eq rfl) (by decide) (locs rfl) (fun h₁ hns hk₁ => ?_))
  have F : Fr s.heap s.heap.objs.size h₁ _ := ⟨hns, hk₁, Nat.le_refl _⟩
  have N : News s.heap s.heap.objs.size h₁ [] := News.nil
  (first | repeat' (first | walk1 | (dsimp only; walk1)))
  · rename_i e
    have e' : ch c = Str.ofString "_" := eq_of_beq e
    have hc95 : c = 95 := by
      have := congrArg Str.cps e'
      rw [show (Str.ofString "_").cps = #[95] from by decide +kernel] at this
      simpa [ch] using this
    have := fun tk => h h₁ tk t hk₁
    rw [show wstep k c = k by simp [wstep, hc95]] at this
    exact this _
  · rename_i e
    have hne : c ≠ 95 := by
      rintro rfl
      rw [show (ch 95 == Str.ofString "_") = true from by decide +kernel] at e
      cases e
    have hf := isFig_cases (hc.resolve_right hne)
    have ho : ∃ i rest, occurrences (Str.ofString "0123456789") (ch c) 0 (Str.ofString "0123456789").length 1 = i :: rest ∧ (i : Int) = (c : Int) - 48 := by
      rcases hf with rfl | rfl | rfl | rfl
      · exact ⟨0, [], by decide +kernel, by decide⟩
      · exact ⟨1, [], by decide +kernel, by decide⟩
      · exact ⟨2, [], by decide +kernel, by decide⟩
      · exact ⟨9, [], by decide +kernel, by decide⟩
    obtain ⟨i, rest, ho, hi⟩ := ho
    refine SC.index ho ?_
    (first | repeat' (first | walk1 | (dsimp only; walk1)))
    rw [hi]
    have := fun tk t => h h₁ tk t hk₁
    rw [show wstep k c = k * 10 + ((c : Int) - 48) by simp [wstep, hne]] at this
    exact this _ _

/-- the worth of a numeral's signs, one by one -/
noncomputable def worthOf (l : List Nat) : Int := l.foldl wstep 0

end Mine
end
section
open PySem PySem.W PySem.Calls PyProof.Rows PySem.Builtin.Str
set_option maxRecDepth 100000
set_option maxHeartbeats 8000000
namespace Mine
variable {w : World} {A : Around} {E : Value → Shared → Prop} {s : Shared} {loose : List Str} {mean : ExcName → Option Value} {mg mb : Str → Option Value} {n : Nat}

noncomputable abbrev asciiIter (x : Str) (t : Tok) (i : Nat) : Obj := { cls := .type "str_ascii_iterator", data := .fields #[.str x t, .int i 0] }
theorem iter_str {prog : Program} {x : Str} {t : Tok} {Q : Value → Shared → Prop} (ha : x.cps.all (· < 128) = true)
    (h : Q (.ref s.heap.objs.size) { s with heap := s.heap.push (asciiIter x t 0) }) : wpAny (model prog w) A (call (.builtin "iter") [.str x t]) Q E s := by
  refine call_function_entry (by decide +kernel) (by decide +kernel) kdk_entry_iter (kdk_args_iter _) ?_
  unfold Builtin.«iter»
  refine wpAny_bind (m := someArgs "iter" 1 2 _) (wpAny_of_eq (a := [Value.str x t]) (by first | rfl | kernel_rfl!) ?_)
  show wpAny _ _ (pyIter (.str x t) >>= _) _ _ _
  refine wpAny_bind (wpAny_pyIter_ascii ha ?_)
  exact wpAny_pure ⟨_, rfl, h⟩

theorem reduce_spec {x : Str} {t u : Tok} {Q : Value → Shared → Prop} (X : (K0 w.params).In s.heap) (T : Top topProg loose mean mg mb s.heap) (hA : Am A n) (hn : n < 700)
    (hx : ∀ c ∈ x.cps.toList, isFig c = true ∨ c = 95) (hl : x.cps.size ≤ 20)
    (h : ∀ h' tk t', Kp s.heap h' → Q (.int (worthOf x.cps.toList) t') {s with heap := h', toks := tk}) :
    wpAny (model PR w) A (call (.ref 52) [.ref 66, .str x t, .int 0 u]) Q E s := by
  have hasc : x.cps.all (· < 128) = true := by
    rw [← Array.all_toList, List.all_eq_true]
    intro c hc
    rcases hx c hc with h | h
    · rcases isFig_cases h with h | h | h | h <;> simp [h]
    · simp [h]
  refine wpAny_call (codeAny_call_def (binds := [("function", .ref 66), ("sequence", .str x t), ("initial", .int 0 u)]) (hA.room (by omega)) (X 52 _ rfl) rfl T.nolimit (codeRec_of X rfl) rfl (binds_K X rfl rfl rfl rfl rfl) (by decide) (locs rfl) (fun h₁ hns hk₁ => ?_))
  have F : Fr s.heap s.heap.objs.size h₁ _ := ⟨hns, hk₁, Nat.le_refl _⟩
  have N : News s.heap s.heap.objs.size h₁ [] := News.nil
  (first | repeat' (first | ((fail_if_success (first | with_reducible show wpAny _ _ (call (Value.ref _) _) _ _ _ | with_reducible show wpAny _ _ (exec (Stmt.For _ _ _ _ _) _) _ _ _)); (first | (first | (with_reducible show wpAny _ _ _ _ _ _) | (with_reducible show (if _ then _ else _)) | (with_reducible show Frag.In _ _ ∧ _)) | (dsimp only; (first | (with_reducible show wpAny _ _ _ _ _ _) | (with_reducible show (if _ then _ else _)) | (with_reducible show Frag.In _ _ ∧ _)))); (first | walk1 | (dsimp only; walk1)))))
  refine iter_str hasc ?_
  have fI := fresh_of F (Nat.le_refl h₁.objs.size)
  have F2 := F.push (asciiIter x t 0)
  have N2 := News.push F N (asciiIter x t 0)
  generalize h₁.push (asciiIter x t 0) = h₂ at F2 N2 ⊢
  generalize h₁.objs.size = I at fI F2 N2 ⊢
  clear F N hns hk₁
  (first | repeat' (first | ((fail_if_success (first | with_reducible show wpAny _ _ (call (Value.ref _) _) _ _ _ | with_reducible show wpAny _ _ (exec (Stmt.For _ _ _ _ _) _) _ _ _)); (first | (first | (with_reducible show wpAny _ _ _ _ _ _) | (with_reducible show (if _ then _ else _)) | (with_reducible show Frag.In _ _ ∧ _)) | (dsimp only; (first | (with_reducible show wpAny _ _ _ _ _ _) | (with_reducible show (if _ then _ else _)) | (with_reducible show Frag.In _ _ ∧ _)))); (first | walk1 | (dsimp only; walk1)))))
  refine wpAny_is_other (b := .ref 44) rfl (by intro e; cases e) ?_
  (first | repeat' (first | ((fail_if_success (first | with_reducible show wpAny _ _ (call (Value.ref _) _) _ _ _ | with_reducible show wpAny _ _ (exec (Stmt.For _ _ _ _ _) _) _ _ _)); (first | (first | (with_reducible show wpAny _ _ _ _ _ _) | (with_reducible show (if _ then _ else _)) | (with_reducible show Frag.In _ _ ∧ _)) | (dsimp only; (first | (with_reducible show wpAny _ _ _ _ _ _) | (with_reducible show (if _ then _ else _)) | (with_reducible show Frag.In _ _ ∧ _)))); (first | walk1 | (dsimp only; walk1)))))
  refine wpAny_For ?_
  (first | repeat' (first | ((fail_if_success (first | with_reducible show wpAny _ _ (call (Value.ref _) _) _ _ _ | with_reducible show wpAny _ _ (exec (Stmt.For _ _ _ _ _) _) _ _ _)); (first | (first | (with_reducible show wpAny _ _ _ _ _ _) | (with_reducible show (if _ then _ else _)) | (with_reducible show Frag.In _ _ ∧ _)) | (dsimp only; (first | (with_reducible show wpAny _ _ _ _ _ _) | (with_reducible show (if _ then _ else _)) | (with_reducible show Frag.In _ _ ∧ _)))); (first | walk1 | (dsimp only; walk1)))))
  rename Fr _ _ _ _ => F₃; rename News _ _ _ _ => N₃
  have hit := (⟨_, (N₃ _ (.head _)).1, rfl, rfl⟩ : Heap.IsStrIter _ I "str_ascii_iterator" x t 0)
  refine wpAny_pyIter_striter_ascii hit ?_
  refine for_walks (Walks.strAscii (hA.deeper _).handled I x t) (fun i s' => ∃ h tk m oI t', s' = { s with heap := h, toks := tk } ∧ Fr s.heap s.heap.objs.size h m ∧
      m "value" = some (.int (worthOf (x.cps.toList.take i)) t') ∧ (∀ z : Str, z ≠ "element" → z ≠ "value" → m z = if z = "it" then some (.ref I) else List.lookup z [(("function" : Str), Value.ref 66), ("sequence", .str x t), ("initial", .int 0 u)].reverse) ∧
      News s.heap s.heap.objs.size h [(I, oI)]) ?h0 hit ?turn ?done
  case h0 =>
    refine ⟨_, _, _, _, u, rfl, F₃, by simp [worthOf], fun z h1 h2 => ?_, N₃⟩
    simp [h2]
  case turn =>
    rintro i v _ h' tk' hi hP ⟨h₉, tk, m, oI, t', rfl, F, hv, hm, N⟩ hst hk Q' hnx _
    obtain ⟨c, tv, hc, rfl⟩ := hP
    obtain ⟨oI', hoI, _, _⟩ := id hst
    have F' := fr_but F hk (by simpa using fI.1) (by simpa using fI.2.symm)
    have N' : News s.heap s.heap.objs.size h' [(I, oI')] := news_cons hoI fI.2 fI.1 News.nil
    rw [canon2 hv hm] at F'
    clear F hm N hk hst
    refine wpAny_assign_Name ?_
    (first | repeat' (first | ((fail_if_success (first | with_reducible show wpAny _ _ (call (Value.ref _) _) _ _ _ | with_reducible show wpAny _ _ (exec (Stmt.For _ _ _ _ _) _) _ _ _)); (first | (first | (with_reducible show wpAny _ _ _ _ _ _) | (with_reducible show (if _ then _ else _)) | (with_reducible show Frag.In _ _ ∧ _)) | (dsimp only; (first | (with_reducible show wpAny _ _ _ _ _ _) | (with_reducible show (if _ then _ else _)) | (with_reducible show Frag.In _ _ ∧ _)))); (first | walk1 | (dsimp only; walk1)))))
    rename Fr _ _ _ _ => F₄; rename News _ _ _ _ => N₄
    refine worth_spec (X.keeps F₄.keep) (T.keeps F₄.keep) (hA.deeper _) (by omega) (hx c ?_) ?_
    · rw [Array.mem_toList_iff]; exact Array.mem_of_getElem? hc
    intro h₅ tk₅ t₅ hk₅
    have F₅ := fr_kp F₄ hk₅
    have N₅ := news_kp N₄ hk₅
    clear F₄ N₄
    (first | repeat' (first | ((fail_if_success (first | with_reducible show wpAny _ _ (call (Value.ref _) _) _ _ _ | with_reducible show wpAny _ _ (exec (Stmt.For _ _ _ _ _) _) _ _ _)); (first | (first | (with_reducible show wpAny _ _ _ _ _ _) | (with_reducible show (if _ then _ else _)) | (with_reducible show Frag.In _ _ ∧ _)) | (dsimp only; (first | (with_reducible show wpAny _ _ _ _ _ _) | (with_reducible show (if _ then _ else _)) | (with_reducible show Frag.In _ _ ∧ _)))); (first | walk1 | (dsimp only; walk1)))))
    rename Fr _ _ _ _ => F₆; rename News _ _ _ _ => N₆
    have e : worthOf (x.cps.toList.take (i + 1)) = wstep (worthOf (x.cps.toList.take i)) c := by
      unfold worthOf
      rw [List.take_add_one, show x.cps.toList[i]? = some c by simpa using hc]
      simp
    refine hnx _ ⟨_, _, _, oI', t₅, rfl, F₆, ?_, fun z h1 h2 => ?_, N₆⟩ ⟨oI', (N₆ _ (.head _)).1, by assumption, by assumption⟩
    · rw [e]; rfl
    · simp [h1, h2]
  case done =>
    rintro _ h' tk' ⟨h₉, tk, m, oI, t', rfl, F, hv, hm, N⟩ hk
    have F' := fr_but F hk (by simpa using fI.1) (by simpa using fI.2.symm)
    rw [canon2 hv hm] at F'
    have N' : News s.heap s.heap.objs.size h' [] := News.nil
    clear F hm N hk
    dsimp only
    (first | repeat' (first | ((fail_if_success (first | with_reducible show wpAny _ _ (call (Value.ref _) _) _ _ _ | with_reducible show wpAny _ _ (exec (Stmt.For _ _ _ _ _) _) _ _ _)); (first | (first | (with_reducible show wpAny _ _ _ _ _ _) | (with_reducible show (if _ then _ else _)) | (with_reducible show Frag.In _ _ ∧ _)) | (dsimp only; (first | (with_reducible show wpAny _ _ _ _ _ _) | (with_reducible show (if _ then _ else _)) | (with_reducible show Frag.In _ _ ∧ _)))); (first | walk1 | (dsimp only; walk1)))))
    have q := fun tk => h h' tk t' F'.keep
    rw [show x.cps.toList.take x.cps.size = x.cps.toList by rw [List.take_of_length_le]; simp] 
    exact q _
end Mine
end
section
open PySem PySem.W PySem.Calls PyProof.Rows PySem.Builtin.Str
set_option maxRecDepth 100000
set_option maxHeartbeats 8000000
namespace Mine
variable {w : World} {A : Around} {E : Value → Shared → Prop} {s : Shared} {loose : List Str} {mean : ExcName → Option Value} {mg mb : Str → Option Value} {n : Nat}

theorem noBool_set : typeLookup (.type "set") "__bool__" = pure none := by rw [typeLookup_type, builtinLookup_eq_fast]; kernel_rfl
theorem set_truthy {prog : Program} {a : Addr} {o : Obj} {S : Int → Bool} {k : Nat} {Q : Bool → Shared → Prop} (ho : s.heap.get? a = some o) (hs : o.SetObjOf (intKind prog w) S k) (hk : k < 1000)
    (h : ∀ tk, Q (k != 0) { s with toks := tk }) : wpAny (model prog w) A (truthy (.ref a)) Q E s := by
  obtain ⟨hex, es, ep, t, hd, hel, hmem, hn, hf⟩ := hs
  have hT : s.TypeIs (.ref a) "set" := ⟨o, ho, hex.1⟩
  have key : wpAny (model prog w) A (runValue (.builtin "len" ⟨[.ref a], []⟩)) (fun r s' => r = .int es.size (s.toks + 1) ∧ Q (k != 0) s') E s := by
    refine wpAny_runValue (codeAny_builtin entry_len ?_)
    rw [Around.under_plainId plain_len _]
    refine wpAny_mono (wpAny_len_body_set (Q := fun r s' => r = .int es.size (s.toks + 1) ∧ Q (k != 0) s') ho hex hd hf (by omega) ⟨rfl, h _⟩)
      (fun fin s' h' => by obtain ⟨r, rfl, hq⟩ := h'; exact hq) fun _ _ e => e
  unfold truthy
  first
      | refine wpAny_bind (wpAny_callSpecial?_none (name := Str.ofString "__bool__") hT noBool_set ?_)
      | refine wpAny_bind (wpAny_pure (wpAny_bind (wpAny_callSpecial?_none (name := Str.ofString "__bool__") hT noBool_set ?_)))
  first
      | refine wpAny_bind (wpAny_specialOf (name := Str.ofString "__len__") hT F.slot_set_len.lookup ?_)
      | refine wpAny_bind (wpAny_pure (wpAny_bind (wpAny_specialOf (name := Str.ofString "__len__") hT F.slot_set_len.lookup ?_)))
  have e : ((es.size : Int) != 0) = (k != 0) := by rw [hn]; cases k <;> simp <;> omega
  first
      | exact wpAny_bind (wpAny_mono key (fun r s' h' => by obtain ⟨rfl, hq⟩ := h'; rw [← e] at hq; exact wpAny_pure hq) fun _ _ e => e)
      | exact wpAny_bind (wpAny_pure (wpAny_bind (wpAny_mono key (fun r s' h' => by obtain ⟨rfl, hq⟩ := h'; rw [← e] at hq; exact wpAny_pure hq) fun _ _ e => e)))

theorem choose1 {M : Model} {Q : Nat → Shared → Prop} (h : ∀ d, Q 0 { s with drawn := d }) : wpAny M A (choose .order 1) Q E s := fun Γ p _ => by
  show Sem.wp M Γ (.choose .order 1 .pure) _ _ p s
  rw [Sem.wp_choose]
  refine ⟨by decide, ?_⟩
  rw [Nat.mod_one]
  exact h _

theorem set_pop1 {prog : Program} {a : Addr} {o : Obj} {k : Int} {Q : Value → Shared → Prop} (ho : s.heap.get? a = some o) (hs : o.SetObjOf (intKind prog w) (fun k' => decide (k' = k)) 1)
    (h : ∀ t h' o' d, Heap.SameBut a s.heap h' → h'.get? a = some o' → o'.SetObjOf (intKind prog w) (fun _ => false) 0 → Q (.int k t) { s with heap := h', drawn := d }) :
    wpAny (model prog w) A (call (.builtin "set.pop") [.ref a]) Q E s := by
  obtain ⟨hex, es, ep, t, hd, hel, hmem, hn, hf⟩ := hs
  have hT : s.TypeIs (.ref a) "set" := ⟨o, ho, hex.1⟩
  refine wpAny_call_entry F.slot_set_pop hT F.entry_set_pop ?_ (F.args_set_pop_1 _)
  unfold Builtin.«set.pop»
  refine wpAny_bind (m := Builtin.Frozenset.noArgs "pop" _) (wpAny_of_eq (a := a) (by first | rfl | kernel_rfl!) ?_)
  have hfit := hf
  simp only [SetTable.fits, Bool.and_eq_true, beq_iff_eq, decide_eq_true_eq] at hfit
  obtain ⟨e0, he0⟩ : ∃ e, es = #[e] := Array.size_eq_one_iff.mp hn
  have hpl : t.place.size = 1 := by rw [hfit.1, hn]
  obtain ⟨j, hj⟩ : ∃ j, t.place = #[j] := Array.size_eq_one_iff.mp hpl
  have hx : ∃ tv, e0.2 = .int k tv := by
    have := (hmem k).mp (by simp)
    rw [he0] at this
    obtain ⟨e, he, hk⟩ := this
    have : e = e0 := by simpa using he
    subst this
    exact Value.isInt_shape hk
  obtain ⟨tv, htv⟩ := hx
  have fin : ∀ d, wpAny (model prog w) A.in1 (storeSet a (SetTable.eraseAt es 0) (t.popped 0)) (fun _ s' => Q (.int k tv) s') E { s with drawn := d } := fun d => by
    have h1 : SetTable.eraseAt es 0 = #[] := by rw [he0]; rfl
    have h2 : (t.popped 0).fits 0 = true := by
      have hpl0 : t.place[0]? = some j := by rw [hj]; rfl
      have hp0 : (t.popped 0).place = #[] := by
        show (t.drop 0).place = #[]
        unfold SetTable.drop
        rw [hpl0]
        show SetTable.eraseAt t.place 0 = #[]
        rw [hj]; rfl
      have hd0 : (t.popped 0).dummies.size = t.dummies.size + 1 := by
        show (t.drop 0).dummies.size = _
        unfold SetTable.drop
        rw [hpl0]
        show (SetTable.insertAt t.dummies _ j).size = _
        have := (SetTable.insertAt_perm t.dummies (SetTable.below t.dummies j) j).length_eq
        rw [Array.length_toList, Array.length_toList, Array.size_push] at this
        exact this
      have hm0 : (t.popped 0).mask = t.mask := by
        show (t.drop 0).mask = _
        unfold SetTable.drop
        rw [hpl0]
      simp only [SetTable.fits, Bool.and_eq_true, beq_iff_eq, decide_eq_true_eq, SetTable.fill, hp0, hd0, hm0]
      have := hfit.2
      simp only [SetTable.fill, hpl] at this
      refine ⟨rfl, ?_⟩
      show 0 + (t.dummies.size + 1) ≤ t.mask
      omega
    rw [h1]
    refine wpAny_storeSet_of (s := { s with drawn := d }) ho hd ?_ (Nat.zero_le _)
    obtain ⟨hg, hS⟩ := SetOf_store (knd := intKind prog w) (S' := fun _ => false) (es' := #[]) (t' := t.popped 0) ho hex hd (fun e he => by simp at he) (fun k => by simp) (by decide) h2
    obtain ⟨o', ho', hso'⟩ := hS.objOf
    exact h tv _ o' d (Heap.SameBut.update ..) ho' hso'
  refine wpAny_bind ?_
  unfold setPop
  refine wpAny_bind (wpAny_setState_of ho hd hf ?_)
  dsimp only
  have hpp : t.popPlace = some 0 := by
    unfold SetTable.popPlace
    rw [hj]
    show some (if SetTable.below #[j] (t.finger % (t.mask + 1)) < 1 then SetTable.below #[j] (t.finger % (t.mask + 1)) else 0) = some 0
    split
    · congr 1; omega
    · rfl
  rw [hpp]
  dsimp only
  refine wpAny_bind (m := setsByText) (wpAny_bind (wpAny_askSetting (wpAny_pure ?_)))
  have last : ∀ d, wpAny (model prog w) A.in1 (do
      let some (_, x) := es[0]? | unsupported "internal:set.pop"
      storeSet a (SetTable.eraseAt es 0) (t.popped 0)
      return some x) (fun r s' => wpAny (model prog w) A.in1 (match r with | some x => ret x | _ => do
          rule "set.pop.empty"
          raiseErrorWords "KeyError" "pop from an empty set") (fun fin s' => ∃ v, fin = .done (.ret v) ∧ Q v s') E s') E { s with drawn := d } := fun d => by
    have he : es[0]? = some e0 := by rw [he0]; rfl
    rw [he]
    obtain ⟨hh, x⟩ := e0
    simp only at htv
    subst htv
    dsimp only
    refine wpAny_bind (wpAny_mono (fin d) (fun _ s' hq => wpAny_pure (wpAny_pure ⟨_, rfl, hq⟩)) fun _ _ e => e)
  split
  · rw [hn]
    exact wpAny_bind (choose1 fun d => last d)
  · refine wpAny_bind ?_
    show wpAny _ _ (if (!t.led && decide (es.size > 1)) = true then _ else pure ()) _ _ _
    rw [if_neg (by rw [hn]; simp)]
    exact wpAny_pure (wpAny_bind (wpAny_pure (last s.drawn)))
theorem get_pop {prog : Program} {a : Addr} {o : Obj} {pl : Sem Bool} {Q : Value × List Value → Shared → Prop} (ho : s.heap.get? a = some o) (hc : o.ExactSet) (h : Q (.builtin "set.pop", [.ref a]) s) :
    wpAny (model prog w) A (getMethod (.ref a) "pop" pl) Q E s :=
  getMethod_builtin ⟨_, ho, hc.1⟩ PySem.F.plainAttrs_set PySem.F.slot_set_pop PySem.F.type_set_pop (fun b e => by cases e; exact ⟨_, ho, hc.2.1⟩) h

theorem powers_spec {k : Int} {t t₂ t₃ : Tok} {Q : Value → Shared → Prop} (X : (K0 w.params).In s.heap) (T : Top topProg loose mean mg mb s.heap) (hA : Am A n) (hn : n < 700)
    (hk0 : 0 ≤ k) (hk1 : k ≤ 2048)
    (h : ∀ h' tk d a, Kp s.heap h' → Q (.ref a) {s with heap := h', toks := tk, drawn := d}) :
    wpAny (model PR w) A (call (.ref 22) [.int k t, .int 5 t₂, .int 2048 t₃]) Q E s := by
  refine wpAny_call (codeAny_call_def (binds := [("w", .int k t), ("base", .int 5 t₂), ("more_than", .int 2048 t₃), ("show", .bool false)]) (hA.room (by omega)) (X 22 _ rfl) rfl T.nolimit (codeRec_of X rfl) rfl (binds_K X rfl rfl rfl rfl rfl) (by decide) (locs rfl) (fun h₁ hns hk₁ => ?_))
  have F : Fr s.heap s.heap.objs.size h₁ _ := ⟨hns, hk₁, Nat.le_refl _⟩
  have N : News s.heap s.heap.objs.size h₁ [] := News.nil
  (first | repeat' (first | ((fail_if_success (first | with_reducible show wpAny _ _ (call (Value.builtin "set.pop") _) _ _ _ | with_reducible show wpAny _ _ (getMethod (Value.ref _) _ _) _ _ _ | with_reducible show wpAny _ _ (truthy (Value.ref _)) _ _ _ | with_reducible show wpAny _ _ (call (Value.ref _) _) _ _ _ | with_reducible show wpAny _ _ (exec (Stmt.While _ _ _ _) _) _ _ _ | with_reducible show wpAny _ _ (exec (Stmt.For _ _ _ _ _) _) _ _ _)); (first | (first | (with_reducible show wpAny _ _ _ _ _ _) | (with_reducible show (if _ then _ else _)) | (with_reducible show Frag.In _ _ ∧ _) | (with_reducible show KdsFill _ _ _ _ _ _ _ _)) | (dsimp only; (first | (with_reducible show wpAny _ _ _ _ _ _) | (with_reducible show (if _ then _ else _)) | (with_reducible show Frag.In _ _ ∧ _) | (with_reducible show KdsFill _ _ _ _ _ _ _ _)))); (first | walk1 | (dsimp only; walk1)))))
  rename_i _ seen _ ledS hsS _ _ _ _ need _ ledN hsN _ l12 _ _ ws _ _ _ _ l1 _ ow hsW _ F1 N1
  simp only [Bool.false_or, Nat.zero_add] at hsW
  generalize hoS : ({ cls := Value.type "set", data := Data.set #[] 0 (SetTable.fresh 0 0 ledS) } : Obj) = oS at N1 hsS
  generalize hoN : ({ cls := Value.type "set", data := Data.set #[] 0 (SetTable.fresh 0 0 ledN) } : Obj) = oN at N1 hsN
  refine wpAny_While ?_
  refine codeAny_whileLoop (fun i s' => ∃ h tk d m ow, s' = { s with heap := h, toks := tk, drawn := d } ∧ Fr s.heap s.heap.objs.size h m ∧ News s.heap s.heap.objs.size h [(ws, ow), (need, oN), (seen, oS)] ∧
      (∃ t', m "w" = some (.int k t')) ∧ (∀ z : Str, z ≠ "w" → m z = if z = "ws" then some (.ref ws) else if z = "need" then some (.ref need) else if z = "seen" then some (.ref seen) else List.lookup z [(("w" : Str), Value.int k t), ("base", .int 5 t₂), ("more_than", .int 2048 t₃), ("show", .bool false)].reverse) ∧
      (i = 1 ∧ ow.SetObjOf (intKind PR w) (fun k' => decide (k' = k)) 1 ∨ i = 0 ∧ ow.SetObjOf (intKind PR w) (fun _ => false) 0)) ?turn 1 ?h0
  case h0 => exact ⟨_, _, _, _, ow, rfl, F1, N1, ⟨t, rfl⟩, fun z hz => by simp, .inl ⟨rfl, hsW⟩⟩
  case turn =>
    rintro i _ ⟨h₂, tk₂, d₂, m, ow, rfl, F, N, ⟨t', hmw⟩, hm, hcase⟩
    rw [canon1 hmw hm] at F
    clear hm hmw F1 N1 hsW
    rcases hcase with ⟨rfl, hsW⟩ | ⟨rfl, hsW⟩
    · (first | repeat' (first | ((fail_if_success (first | with_reducible show wpAny _ _ (call (Value.builtin "set.pop") _) _ _ _ | with_reducible show wpAny _ _ (getMethod (Value.ref _) _ _) _ _ _ | with_reducible show wpAny _ _ (truthy (Value.ref _)) _ _ _ | with_reducible show wpAny _ _ (call (Value.ref _) _) _ _ _ | with_reducible show wpAny _ _ (exec (Stmt.While _ _ _ _) _) _ _ _ | with_reducible show wpAny _ _ (exec (Stmt.For _ _ _ _ _) _) _ _ _)); (first | (first | (with_reducible show wpAny _ _ _ _ _ _) | (with_reducible show (if _ then _ else _)) | (with_reducible show Frag.In _ _ ∧ _) | (with_reducible show KdsFill _ _ _ _ _ _ _ _)) | (dsimp only; (first | (with_reducible show wpAny _ _ _ _ _ _) | (with_reducible show (if _ then _ else _)) | (with_reducible show Frag.In _ _ ∧ _) | (with_reducible show KdsFill _ _ _ _ _ _ _ _)))); (first | walk1 | (dsimp only; walk1)))))
      refine set_truthy (N _ (.head _)).1 hsW (by decide) fun tk => ?_
      refine W.ite_pos (by decide) ?_
      (first | repeat' (first | ((fail_if_success (first | with_reducible show wpAny _ _ (call (Value.builtin "set.pop") _) _ _ _ | with_reducible show wpAny _ _ (getMethod (Value.ref _) _ _) _ _ _ | with_reducible show wpAny _ _ (truthy (Value.ref _)) _ _ _ | with_reducible show wpAny _ _ (call (Value.ref _) _) _ _ _ | with_reducible show wpAny _ _ (exec (Stmt.While _ _ _ _) _) _ _ _ | with_reducible show wpAny _ _ (exec (Stmt.For _ _ _ _ _) _) _ _ _)); (first | (first | (with_reducible show wpAny _ _ _ _ _ _) | (with_reducible show (if _ then _ else _)) | (with_reducible show Frag.In _ _ ∧ _) | (with_reducible show KdsFill _ _ _ _ _ _ _ _)) | (dsimp only; (first | (with_reducible show wpAny _ _ _ _ _ _) | (with_reducible show (if _ then _ else _)) | (with_reducible show Frag.In _ _ ∧ _) | (with_reducible show KdsFill _ _ _ _ _ _ _ _)))); (first | walk1 | (dsimp only; walk1)))))
      refine get_pop (N _ (.head _)).1 hsW.1 ?_
      (first | repeat' (first | ((fail_if_success (first | with_reducible show wpAny _ _ (call (Value.builtin "set.pop") _) _ _ _ | with_reducible show wpAny _ _ (getMethod (Value.ref _) _ _) _ _ _ | with_reducible show wpAny _ _ (truthy (Value.ref _)) _ _ _ | with_reducible show wpAny _ _ (call (Value.ref _) _) _ _ _ | with_reducible show wpAny _ _ (exec (Stmt.While _ _ _ _) _) _ _ _ | with_reducible show wpAny _ _ (exec (Stmt.For _ _ _ _ _) _) _ _ _)); (first | (first | (with_reducible show wpAny _ _ _ _ _ _) | (with_reducible show (if _ then _ else _)) | (with_reducible show Frag.In _ _ ∧ _) | (with_reducible show KdsFill _ _ _ _ _ _ _ _)) | (dsimp only; (first | (with_reducible show wpAny _ _ _ _ _ _) | (with_reducible show (if _ then _ else _)) | (with_reducible show Frag.In _ _ ∧ _) | (with_reducible show KdsFill _ _ _ _ _ _ _ _)))); (first | walk1 | (dsimp only; walk1)))))
      refine set_pop1 (N _ (.head _)).1 hsW fun tv h₃ ow' d₃ hs₃ ho₃ hsW' => ?_
      have hws := N _ (.head _)
      have hL : s.heap.objs.size ≠ ws := hws.2.1.symm
      have F3 : Fr s.heap s.heap.objs.size h₃ _ := fr_but (wr := [ws]) F (fun b o hb e => hs₃.extBut b o (by simpa using hb) e) (by simpa using hws.2.2) (by simpa using hL)
      have N3 : News s.heap s.heap.objs.size h₃ [(ws, ow'), (need, oN), (seen, oS)] := news_cons ho₃ hws.2.1 hws.2.2 (news_but (wr := [ws]) (news_tail N) (fun b o hb e => hs₃.extBut b o (by simpa using hb) e) (by
        intro p hp
        simp only [List.mem_cons, List.not_mem_nil, or_false] at hp
        rcases hp with rfl | rfl
        · simpa using Nat.ne_of_lt l1.1
        · simpa using Nat.ne_of_lt l1.2))
      clear F N hsW hws
      (first | repeat' (first | ((fail_if_success (first | with_reducible show wpAny _ _ (call (Value.builtin "set.pop") _) _ _ _ | with_reducible show wpAny _ _ (getMethod (Value.ref _) _ _) _ _ _ | with_reducible show wpAny _ _ (truthy (Value.ref _)) _ _ _ | with_reducible show wpAny _ _ (call (Value.ref _) _) _ _ _ | with_reducible show wpAny _ _ (exec (Stmt.While _ _ _ _) _) _ _ _ | with_reducible show wpAny _ _ (exec (Stmt.For _ _ _ _ _) _) _ _ _)); (fail_if_success (with_reducible show (if _ then _ else _))); (first | (first | (with_reducible show wpAny _ _ _ _ _ _) | (with_reducible show (if _ then _ else _)) | (with_reducible show Frag.In _ _ ∧ _) | (with_reducible show KdsFill _ _ _ _ _ _ _ _)) | (dsimp only; (first | (with_reducible show wpAny _ _ _ _ _ _) | (with_reducible show (if _ then _ else _)) | (with_reducible show Frag.In _ _ ∧ _) | (with_reducible show KdsFill _ _ _ _ _ _ _ _)))); (first | walk1 | (dsimp only; walk1)))))
      refine W.ite_neg (by decide) ?_
      (first | repeat' (first | ((fail_if_success (first | with_reducible show wpAny _ _ (call (Value.builtin "set.pop") _) _ _ _ | with_reducible show wpAny _ _ (getMethod (Value.ref _) _ _) _ _ _ | with_reducible show wpAny _ _ (truthy (Value.ref _)) _ _ _ | with_reducible show wpAny _ _ (call (Value.ref _) _) _ _ _ | with_reducible show wpAny _ _ (exec (Stmt.While _ _ _ _) _) _ _ _ | with_reducible show wpAny _ _ (exec (Stmt.For _ _ _ _ _) _) _ _ _)); (fail_if_success (with_reducible show (if _ then _ else _))); (first | (first | (with_reducible show wpAny _ _ _ _ _ _) | (with_reducible show (if _ then _ else _)) | (with_reducible show Frag.In _ _ ∧ _) | (with_reducible show KdsFill _ _ _ _ _ _ _ _)) | (dsimp only; (first | (with_reducible show wpAny _ _ _ _ _ _) | (with_reducible show (if _ then _ else _)) | (with_reducible show Frag.In _ _ ∧ _) | (with_reducible show KdsFill _ _ _ _ _ _ _ _)))); (first | walk1 | (dsimp only; walk1)))))
      refine W.ite_pos (by simpa using hk1) ?_
      refine W.ite_pos rfl ?_
      (first | repeat' (first | ((fail_if_success (first | with_reducible show wpAny _ _ (call (Value.builtin "set.pop") _) _ _ _ | with_reducible show wpAny _ _ (getMethod (Value.ref _) _ _) _ _ _ | with_reducible show wpAny _ _ (truthy (Value.ref _)) _ _ _ | with_reducible show wpAny _ _ (call (Value.ref _) _) _ _ _ | with_reducible show wpAny _ _ (exec (Stmt.While _ _ _ _) _) _ _ _ | with_reducible show wpAny _ _ (exec (Stmt.For _ _ _ _ _) _) _ _ _)); (fail_if_success (with_reducible show (if _ then _ else _))); (first | (first | (with_reducible show wpAny _ _ _ _ _ _) | (with_reducible show (if _ then _ else _)) | (with_reducible show Frag.In _ _ ∧ _) | (with_reducible show KdsFill _ _ _ _ _ _ _ _)) | (dsimp only; (first | (with_reducible show wpAny _ _ _ _ _ _) | (with_reducible show (if _ then _ else _)) | (with_reducible show Frag.In _ _ ∧ _) | (with_reducible show KdsFill _ _ _ _ _ _ _ _)))); (first | walk1 | (dsimp only; walk1)))))
      rename Fr _ _ _ _ => F6
      rename News _ _ _ _ => N6
      exact ⟨0, by decide, _, _, _, _, ow', rfl, F6, N6, ⟨tv, rfl⟩, fun z hz => by simp [hz], .inr ⟨rfl, hsW'⟩⟩
    · (first | repeat' (first | ((fail_if_success (first | with_reducible show wpAny _ _ (call (Value.builtin "set.pop") _) _ _ _ | with_reducible show wpAny _ _ (getMethod (Value.ref _) _ _) _ _ _ | with_reducible show wpAny _ _ (truthy (Value.ref _)) _ _ _ | with_reducible show wpAny _ _ (call (Value.ref _) _) _ _ _ | with_reducible show wpAny _ _ (exec (Stmt.While _ _ _ _) _) _ _ _ | with_reducible show wpAny _ _ (exec (Stmt.For _ _ _ _ _) _) _ _ _)); (first | (first | (with_reducible show wpAny _ _ _ _ _ _) | (with_reducible show (if _ then _ else _)) | (with_reducible show Frag.In _ _ ∧ _) | (with_reducible show KdsFill _ _ _ _ _ _ _ _)) | (dsimp only; (first | (with_reducible show wpAny _ _ _ _ _ _) | (with_reducible show (if _ then _ else _)) | (with_reducible show Frag.In _ _ ∧ _) | (with_reducible show KdsFill _ _ _ _ _ _ _ _)))); (first | walk1 | (dsimp only; walk1)))))
      refine set_truthy (N _ (.head _)).1 hsW (by decide) fun tk => ?_
      refine W.ite_neg (by decide) ?_
      (first | repeat' (first | ((fail_if_success (first | with_reducible show wpAny _ _ (call (Value.builtin "set.pop") _) _ _ _ | with_reducible show wpAny _ _ (getMethod (Value.ref _) _ _) _ _ _ | with_reducible show wpAny _ _ (truthy (Value.ref _)) _ _ _ | with_reducible show wpAny _ _ (call (Value.ref _) _) _ _ _ | with_reducible show wpAny _ _ (exec (Stmt.While _ _ _ _) _) _ _ _ | with_reducible show wpAny _ _ (exec (Stmt.For _ _ _ _ _) _) _ _ _)); (first | (first | (with_reducible show wpAny _ _ _ _ _ _) | (with_reducible show (if _ then _ else _)) | (with_reducible show Frag.In _ _ ∧ _) | (with_reducible show KdsFill _ _ _ _ _ _ _ _)) | (dsimp only; (first | (with_reducible show wpAny _ _ _ _ _ _) | (with_reducible show (if _ then _ else _)) | (with_reducible show Frag.In _ _ ∧ _) | (with_reducible show KdsFill _ _ _ _ _ _ _ _)))); (first | walk1 | (dsimp only; walk1)))))
      rename News _ _ _ _ => N5
      refine set_truthy (N5 (need, oN) (by simp)).1 hsN (by decide) fun tk => ?_
      refine W.ite_pos (by decide) ?_
      (first | repeat' (first | ((fail_if_success (first | with_reducible show wpAny _ _ (call (Value.builtin "set.pop") _) _ _ _ | with_reducible show wpAny _ _ (getMethod (Value.ref _) _ _) _ _ _ | with_reducible show wpAny _ _ (truthy (Value.ref _)) _ _ _ | with_reducible show wpAny _ _ (call (Value.ref _) _) _ _ _ | with_reducible show wpAny _ _ (exec (Stmt.While _ _ _ _) _) _ _ _ | with_reducible show wpAny _ _ (exec (Stmt.For _ _ _ _ _) _) _ _ _)); (first | (first | (with_reducible show wpAny _ _ _ _ _ _) | (with_reducible show (if _ then _ else _)) | (with_reducible show Frag.In _ _ ∧ _) | (with_reducible show KdsFill _ _ _ _ _ _ _ _)) | (dsimp only; (first | (with_reducible show wpAny _ _ _ _ _ _) | (with_reducible show (if _ then _ else _)) | (with_reducible show Frag.In _ _ ∧ _) | (with_reducible show KdsFill _ _ _ _ _ _ _ _)))); (first | walk1 | (dsimp only; walk1)))))
      rename Fr _ _ _ _ => F6
      exact h _ _ _ _ F6.keep
end Mine
end
section
open PySem PySem.W PySem.Calls PyProof.Rows PySem.Builtin.Str
set_option maxRecDepth 100000
set_option maxHeartbeats 8000000
namespace Mine
variable {w : World} {A : Around} {E : Value → Shared → Prop} {s : Shared} {loose : List Str} {mean : ExcName → Option Value} {mg mb : Str → Option Value} {n : Nat}

/-- the ground of a call: the text's own objects, the names; without the two tables that grow -/
structure Gd (w : World) (loose : List Str) (mean : ExcName → Option Value) (mg mb : Str → Option Value) (g : Heap) : Prop where
  X : (K0 w.params).In g
  T : Top topProg loose mean mg mb g
  C24 : CodeHd g 28 24
  n24 : g.get? 24 = none

theorem Gd.keeps {g h : Heap} (G : Gd w loose mean mg mb g) (hk : Kp g h) : (K0 w.params).In h ∧ Top topProg loose mean mg mb h ∧ CodeHd h 28 24 :=
  ⟨G.X.keeps hk, G.T.keeps hk, G.C24.keeps hk⟩
/-- a heap without its table 24 -/
noncomputable abbrev hid (h : Heap) : Heap := hideAll h [24]
theorem hid_none (h : Heap) : (hid h).get? 24 = none := hideAll_none _ (by simp)
theorem hid_get {h : Heap} {b : Addr} {o : Obj} (e : h.get? b = some o) (hb : b ≠ 24) : (hid h).get? b = some o := hideAll_get _ e (by simpa using hb)
theorem of_hid {h : Heap} {b : Addr} {o : Obj} (e : (hid h).get? b = some o) : h.get? b = some o := of_hideAll _ e
theorem Gd.hid {g h : Heap} (G : Gd w loose mean mg mb g) (hk : Kp g h) : Gd w loose mean mg mb (hid h) := by
  have k : Kp g (Mine.hid h) := fun b o e => hid_get (hk b o e) (fun q => by rw [q, G.n24] at e; cases e)
  exact ⟨(G.keeps k).1, (G.keeps k).2.1, (G.keeps k).2.2, hid_none h⟩

section
variable {prog : Program} {R : Result → Shared → Prop} {name qual : Str} {params : Arguments} {body : List Stmt} {scope : Scope} {dV kV doc pm cdv ct : Value} {an : Option Addr} {fo : Obj} {f : Addr} {args : Args} {binds : List (Str × Value)} {g : Heap}
theorem enter_cells (hroom : A.depth < recursionLimit) (ho : s.heap.get? f = some fo) (hd : fo.data = .func (fnX name qual params body scope [] dV kV doc pm an cdv ct)) (hlim : s.heap.NoLimit) (hcd : s.heap.CodeRec cdv qual)
    (hbind : BindsTo s (fnX name qual params body scope [] dV kV doc pm an cdv ct) args binds)
    (hkind : (binds.all fun y => scope.names.lookup y.1 == some .local || scope.names.lookup y.1 == some .cell) = true)
    (hnd : ((cellsFrom 0 scope.names []).map (·.1)).Nodup) (hg : Kp g s.heap) (hgs : g.objs.size ≤ s.heap.objs.size)
    (h : ∀ h₁ tk cells, Fr g s.heap.objs.size h₁ (bindL (envOfC qual scope s.heap.objs.size f cdv).kindOf binds fun _ => none) → News g s.heap.objs.size h₁ cells →
      CellsAre (bindC (envOfC qual scope s.heap.objs.size f cdv).kindOf binds fun _ => none) (cellsFrom (s.heap.objs.size + 1) scope.names []) cells → Kp s.heap h₁ →
      wpAny (model prog w) (A.deeper (envOfC qual scope s.heap.objs.size f cdv)) (execs body (envOfC qual scope s.heap.objs.size f cdv))
        (fun fl s' => R (.ok (.ret (match fl with | .ret v => v | _ => .none))) s') (fun _ _ => False) { s with heap := h₁, toks := tk })
    (hco : scope.isCoroutine = false := by rfl) (hgen : scope.isGenerator = false := by rfl) (hk : scope.kind = .function := by rfl) : codeAny (model prog w) A (.call (.ref f) args) R s := by
  refine codeAny_call_function hroom ho hd hco hgen rfl hcd (hbind _ _ _ _ ?_)
  refine wpAny_newFunctionEnv_cells hk (kindsX hkind _) fun env' he s' x => ?_
  subst he
  refine ⟨hlim.keeps x.toInCall.keep, codeAny_func ?_⟩
  obtain ⟨h₁, tk, rfl, _⟩ := x.done
  have hk₁ := x.toInCall.keep
  obtain ⟨cells, NC, Y⟩ := Cl.news (h₀ := s.heap) (Nat.le_refl _) fun n c hm => ⟨x.cell n c (lookup_of_mem_nodup (cellsFrom_names scope.names 0 (s.heap.objs.size + 1) [] [] rfl ▸ hnd) hm), x.above n c hm⟩
  refine wpAny_mono (h h₁ tk cells ⟨x.toInCall.ns, fun b o e => hk₁ b o (hg b o e), hgs⟩ (fun p hp => ?_) Y hk₁) (fun _ _ x => x) fun _ _ x => x.elim
  refine ⟨(NC p hp).1, (NC p hp).2.1, ?_⟩
  cases q : g.get? p.1 with
  | none => rfl
  | some o => have := hg _ _ q; rw [(NC p hp).2.2] at this; cases this
end

/-- a heap without what a ledger holds -/
noncomputable abbrev hidN (h : Heap) (news : List (Addr × Obj)) : Heap := hideAll h (news.map (·.1))
theorem hidN_keep {h₀ h : Heap} {L : Addr} {news : List (Addr × Obj)} (hk : Kp h₀ h) (N : News h₀ L h news) : Kp h₀ (hidN h news) := fun b o e => hideAll_get _ (hk b o e) (fun q => by
  obtain ⟨p, hp, rfl⟩ := List.mem_map.mp q
  rw [(N p hp).2.2] at e; cases e)
section
variable {prog : Program} {R : Result → Shared → Prop} {name qual : Str} {params : Arguments} {body : List Stmt} {scope : Scope} {cl : List (Str × Addr)} {dV kV doc pm cdv ct : Value} {an : Option Addr} {fo : Obj} {f : Addr} {args : Args} {binds : List (Str × Value)} {news : List (Addr × Obj)} {h₀ : Heap} {L : Addr}
theorem enterX (hroom : A.depth < recursionLimit) (ho : s.heap.get? f = some fo) (hd : fo.data = .func (fnX name qual params body scope cl dV kV doc pm an cdv ct)) (hlim : s.heap.NoLimit) (hcd : s.heap.CodeRec cdv qual)
    (hbind : BindsTo s (fnX name qual params body scope cl dV kV doc pm an cdv ct) args binds) (hcell : ∀ x ∈ scope.names, x.2 ≠ .cell) (hloc : ∀ y ∈ binds, scope.names.lookup y.1 = some .local) (N : News h₀ L s.heap news)
    (h : ∀ h₁, Fr (hidN s.heap news) s.heap.objs.size h₁ (fun y => binds.reverse.lookup y) → News (hidN s.heap news) s.heap.objs.size h₁ news →
      wpAny (model prog w) (A.deeper (envX qual scope s.heap.objs.size f cdv cl)) (execs body (envX qual scope s.heap.objs.size f cdv cl))
        (fun fl s' => R (.ok (.ret (match fl with | .ret v => v | _ => .none))) s') (fun _ _ => False) { s with heap := h₁, toks := s.toks + binds.length })
    (hco : scope.isCoroutine = false := by rfl) (hgen : scope.isGenerator = false := by rfl) (hk : scope.kind = .function := by rfl) : codeAny (model prog w) A (.call (.ref f) args) R s := by
  refine codeAny_call_def (fd := fnX name qual params body scope cl dV kV doc pm an cdv ct) (body := body) (binds := binds) hroom ho hd hlim hcd rfl hbind hcell hloc (fun h₁ hns hk₁ => ?_) hco hgen hk
  refine wpAny_mono (h h₁ ⟨hns, fun b o e => hk₁ b o (of_hideAll _ e), Nat.le_of_eq (hideAll_size _ _)⟩
    (fun p hp => ⟨hk₁ _ _ (N p hp).1, Nat.ne_of_lt (Heap.lt_size (N p hp).1), hideAll_none _ (List.mem_map_of_mem hp)⟩)) (fun _ _ x => x) fun _ _ x => x.elim
end

theorem slice_all (x : Str) : Txt.slice x (some 0) (some (x.length : Nat)) = x := by
  unfold Txt.slice
  rw [if_pos]
  rw [Bool.and_eq_true]
  refine ⟨by decide, ?_⟩
  rw [beq_iff_eq]
  unfold strSliceIndices sliceRange
  simp only [show (1 : Int) > 0 by decide, if_true, List.length_map, List.length_range]
  split <;> (try split) <;> (try split) <;> (try simp only [Int.ediv_one]) <;> omega

noncomputable def QI : Str := Str.ofString "_str_to_int_inner.<locals>.inner"
/-- the table of the inner text's code: empty, or holding the one code that a def has made -/
noncomputable def Tab24 (h : Heap) : Prop := h.get? 24 = some (tabObj #[]) ∨ ∃ c' oc vs t, h.get? c' = some oc ∧ oc.data = .fields vs ∧ vs[1]? = some (.str QI t) ∧ h.get? 24 = some (tabObj #[rawInt 46, rawInt 4, .ref c'])

theorem ext_of {g h' : Heap} (hk : Kp (hid g) h') : Heap.ExtBut 24 g h' := fun b o hb e => hk b o (hid_get e hb)

theorem strInt_first {x : Str} {t : Tok} {g₀ : Heap} {Q : Value → Shared → Prop} (G : Gd w loose mean mg mb g₀) (hk : Kp g₀ s.heap) (hA : Am A n) (hn : n < 600) (h24 : s.heap.get? 24 = some (tabObj #[]))
    (hxl : x.length ≤ 20) (hxd : NumText.AllDigits x.cps.toList) (hxn : x.cps.toList ≠ [])
    (h : ∀ h' tk d t', Heap.ExtBut 24 s.heap h' → Tab24 h' → Q (.int (NumText.digitsVal x.cps.toList : Nat) t') {s with heap := h', toks := tk, drawn := d}) :
    wpAny (model PR w) A (call (.ref 29) [.str x t]) Q E s := by
  have G1 := G.hid hk
  obtain ⟨X, T, C24⟩ := G.keeps hk
  refine wpAny_call (enter_cells (g := hid s.heap) (binds := [("s", .str x t)]) (hA.room (by omega)) (X 29 _ rfl) rfl T.nolimit (codeRec_of X rfl) (BindsTo.of_eq rfl) rfl (by decide +kernel) (fun b o e => of_hid e) (Nat.le_of_eq (hideAll_size _ _)) fun h₁ tk cells F N0 Y hk₁ => ?_)
  k_cells Y
  have n24 : (24 : Nat) < s.heap.objs.size := Heap.lt_size h24
  have N1 := news_cons (news := _) (hk₁ 24 _ h24) (Nat.ne_of_lt n24) (hid_none _) N0
  have X1 := G1.X
  have T1 := G1.T
  have C1 := G1.C24
  clear N0 X T C24
  (first | repeat' (first | ((fail_if_success (first | with_reducible show wpAny _ _ (call (Value.ref _) _) _ _ _ | with_reducible show wpAny _ _ (exec (Stmt.While _ _ _ _) _) _ _ _ | with_reducible show wpAny _ _ (exec (Stmt.For _ _ _ _ _) _) _ _ _)); (first | (first | (with_reducible show wpAny _ _ _ _ _ _) | (with_reducible show (if _ then _ else _)) | (with_reducible show Frag.In _ _ ∧ _) | (with_reducible show KdsFill _ _ _ _ _ _ _ _)) | (dsimp only; (first | (with_reducible show wpAny _ _ _ _ _ _) | (with_reducible show (if _ then _ else _)) | (with_reducible show Frag.In _ _ ∧ _) | (with_reducible show KdsFill _ _ _ _ _ _ _ _)))); (first | walk1 | (dsimp only; walk1)))))
  rename Fr _ _ _ _ => F2
  rename News _ _ _ _ => N2
  refine powers_spec (X1.keeps F2.keep) (T1.keeps F2.keep) (hA.deeper _) (by omega) (by omega) (by omega) ?_
  intro h₃ tk₃ d₃ a₃ hk₃
  have F3 := fr_kp F2 hk₃
  have N3 := news_kp N2 hk₃
  clear F2 N2
  (first | repeat' (first | ((fail_if_success (first | with_reducible show wpAny _ _ (call (Value.ref _) _) _ _ _ | with_reducible show wpAny _ _ (exec (Stmt.While _ _ _ _) _) _ _ _ | with_reducible show wpAny _ _ (exec (Stmt.For _ _ _ _ _) _) _ _ _)); (first | (first | (with_reducible show wpAny _ _ _ _ _ _) | (with_reducible show (if _ then _ else _)) | (with_reducible show Frag.In _ _ ∧ _) | (with_reducible show KdsFill _ _ _ _ _ _ _ _)) | (dsimp only; (first | (with_reducible show wpAny _ _ _ _ _ _) | (with_reducible show (if _ then _ else _)) | (with_reducible show Frag.In _ _ ∧ _) | (with_reducible show KdsFill _ _ _ _ _ _ _ _)))); (first | walk1 | (dsimp only; walk1)))))
  rename Fr _ _ _ _ => F4
  rename News _ _ _ _ => N4
  have hcr := codeRec_news N4 (.tail _ (.head _)) (by assumption) (by assumption)
  have hfo := (N4 _ (.head _)).1
  refine ⟨FnAt.of N4 (.head _), ?_⟩
  refine wpAny_call ?_
  refine' enterX ?hroom hfo ?hd ?hlim ?hcd ?hbind ?hcell ?hloc N4 ?_ ?c1 ?c2 ?c3
  case hd => exact rfl
  case hroom => exact (hA.deeper _).room (by omega)
  case hlim => exact T1.nolimit.keeps F4.keep
  case hcd => exact hcr
  case hbind => exact BindsTo.of_eq rfl
  case hcell => decide
  case hloc => exact locs rfl
  case c1 => exact rfl
  case c2 => exact rfl
  case c3 => exact rfl
  intro h₅ F5 N5
  have kg := hidN_keep F4.keep N4
  have X5 := X1.keeps kg
  have T5 := T1.keeps kg
  clear X1 T1
  (first | repeat' (first | ((fail_if_success (first | with_reducible show wpAny _ _ (call (Value.ref _) _) _ _ _ | with_reducible show wpAny _ _ (exec (Stmt.While _ _ _ _) _) _ _ _ | with_reducible show wpAny _ _ (exec (Stmt.For _ _ _ _ _) _) _ _ _)); (fail_if_success (with_reducible show (if _ then _ else _))); (first | (first | (with_reducible show wpAny _ _ _ _ _ _) | (with_reducible show (if _ then _ else _)) | (with_reducible show Frag.In _ _ ∧ _) | (with_reducible show KdsFill _ _ _ _ _ _ _ _)) | (dsimp only; (first | (with_reducible show wpAny _ _ _ _ _ _) | (with_reducible show (if _ then _ else _)) | (with_reducible show Frag.In _ _ ∧ _) | (with_reducible show KdsFill _ _ _ _ _ _ _ _)))); (first | walk1 | (dsimp only; walk1)))))
  refine W.ite_pos (by rw [decide_eq_true_eq]; omega) ?_
  (first | repeat' (first | ((fail_if_success (first | with_reducible show wpAny _ _ (call (Value.ref _) _) _ _ _ | with_reducible show wpAny _ _ (exec (Stmt.While _ _ _ _) _) _ _ _ | with_reducible show wpAny _ _ (exec (Stmt.For _ _ _ _ _) _) _ _ _)); (fail_if_success (with_reducible show (if _ then _ else _))); (first | (first | (with_reducible show wpAny _ _ _ _ _ _) | (with_reducible show (if _ then _ else _)) | (with_reducible show Frag.In _ _ ∧ _) | (with_reducible show KdsFill _ _ _ _ _ _ _ _)) | (dsimp only; (first | (with_reducible show wpAny _ _ _ _ _ _) | (with_reducible show (if _ then _ else _)) | (with_reducible show Frag.In _ _ ∧ _) | (with_reducible show KdsFill _ _ _ _ _ _ _ _)))); (first | walk1 | (dsimp only; walk1)))))
  rename Fr _ _ _ _ => F6
  rename News _ _ _ _ => N6
  rw [slice_all]
  refine KIN.call_text (PySem.intText_digits hxd hxn (Nat.le_trans hxl (by decide))) (Nat.le_trans hxl (by decide)) ?_
  have kk : Kp (hid s.heap) _ := fun b o e => F6.keep b o (kg b o e)
  refine h _ _ _ _ (ext_of kk) (.inr ⟨_, _, _, _, (N6 _ (.tail _ (.head _))).1, by assumption, by assumption, ?_⟩)
  refine (N6 (24, _) ?_).1
  k_mem
theorem strInt_again {c : Addr} {oc : Obj} {vs : Array Value} {tq : Tok} {x : Str} {t : Tok} {g₀ : Heap} {Q : Value → Shared → Prop} (G : Gd w loose mean mg mb g₀) (hk : Kp g₀ s.heap) (hA : Am A n) (hn : n < 600) (hc : s.heap.get? c = some oc) (hod : oc.data = .fields vs) (hov : vs[1]? = some (.str QI tq)) (h24 : s.heap.get? 24 = some (tabObj #[rawInt 46, rawInt 4, .ref c]))
    (hxl : x.length ≤ 20) (hxd : NumText.AllDigits x.cps.toList) (hxn : x.cps.toList ≠ [])
    (h : ∀ h' tk d t', Heap.ExtBut 24 s.heap h' → Tab24 h' → Q (.int (NumText.digitsVal x.cps.toList : Nat) t') {s with heap := h', toks := tk, drawn := d}) :
    wpAny (model PR w) A (call (.ref 29) [.str x t]) Q E s := by
  have hc24 : c ≠ 24 := fun q => by rw [q, h24] at hc; cases hc; cases hod; cases hov
  have G1 := G.hid hk
  obtain ⟨X, T, C24⟩ := G.keeps hk
  refine wpAny_call (enter_cells (g := hid s.heap) (binds := [("s", .str x t)]) (hA.room (by omega)) (X 29 _ rfl) rfl T.nolimit (codeRec_of X rfl) (BindsTo.of_eq rfl) rfl (by decide +kernel) (fun b o e => of_hid e) (Nat.le_of_eq (hideAll_size _ _)) fun h₁ tk cells F N0 Y hk₁ => ?_)
  k_cells Y
  have n24 : (24 : Nat) < s.heap.objs.size := Heap.lt_size h24
  have N1 := news_cons (news := _) (hk₁ 24 _ h24) (Nat.ne_of_lt n24) (hid_none _) N0
  have X1 := G1.X
  have T1 := G1.T
  have C1 := G1.C24
  clear N0 X T C24
  (first | repeat' (first | ((fail_if_success (first | with_reducible show wpAny _ _ (call (Value.ref _) _) _ _ _ | with_reducible show wpAny _ _ (exec (Stmt.While _ _ _ _) _) _ _ _ | with_reducible show wpAny _ _ (exec (Stmt.For _ _ _ _ _) _) _ _ _)); (first | (first | (with_reducible show wpAny _ _ _ _ _ _) | (with_reducible show (if _ then _ else _)) | (with_reducible show Frag.In _ _ ∧ _) | (with_reducible show KdsFill _ _ _ _ _ _ _ _)) | (dsimp only; (first | (with_reducible show wpAny _ _ _ _ _ _) | (with_reducible show (if _ then _ else _)) | (with_reducible show Frag.In _ _ ∧ _) | (with_reducible show KdsFill _ _ _ _ _ _ _ _)))); (first | walk1 | (dsimp only; walk1)))))
  rename Fr _ _ _ _ => F2
  rename News _ _ _ _ => N2
  refine powers_spec (X1.keeps F2.keep) (T1.keeps F2.keep) (hA.deeper _) (by omega) (by omega) (by omega) ?_
  intro h₃ tk₃ d₃ a₃ hk₃
  have F3 := fr_kp F2 hk₃
  have N3 := news_kp N2 hk₃
  clear F2 N2
  (first | repeat' (first | ((fail_if_success (first | with_reducible show wpAny _ _ (call (Value.ref _) _) _ _ _ | with_reducible show wpAny _ _ (exec (Stmt.While _ _ _ _) _) _ _ _ | with_reducible show wpAny _ _ (exec (Stmt.For _ _ _ _ _) _) _ _ _)); (first | (first | (with_reducible show wpAny _ _ _ _ _ _) | (with_reducible show (if _ then _ else _)) | (with_reducible show Frag.In _ _ ∧ _) | (with_reducible show KdsFill _ _ _ _ _ _ _ _)) | (dsimp only; (first | (with_reducible show wpAny _ _ _ _ _ _) | (with_reducible show (if _ then _ else _)) | (with_reducible show Frag.In _ _ ∧ _) | (with_reducible show KdsFill _ _ _ _ _ _ _ _)))); (first | walk1 | (dsimp only; walk1)))))
  rename Fr _ _ _ _ => F4
  rename News _ _ _ _ => N4
  have hcr : _ := (⟨c, oc, vs, tq, rfl, F4.keep _ _ (hid_get hc hc24), hod, hov⟩ : Heap.CodeRec _ (.ref c) QI)
  have hfo := (N4 _ (.head _)).1
  refine ⟨FnAt.of N4 (.head _), ?_⟩
  refine wpAny_call ?_
  refine' enterX ?hroom hfo ?hd ?hlim ?hcd ?hbind ?hcell ?hloc N4 ?_ ?c1 ?c2 ?c3
  case hd => exact rfl
  case hroom => exact (hA.deeper _).room (by omega)
  case hlim => exact T1.nolimit.keeps F4.keep
  case hcd => exact hcr
  case hbind => exact BindsTo.of_eq rfl
  case hcell => decide
  case hloc => exact locs rfl
  case c1 => exact rfl
  case c2 => exact rfl
  case c3 => exact rfl
  intro h₅ F5 N5
  have kg := hidN_keep F4.keep N4
  have X5 := X1.keeps kg
  have T5 := T1.keeps kg
  clear X1 T1
  (first | repeat' (first | ((fail_if_success (first | with_reducible show wpAny _ _ (call (Value.ref _) _) _ _ _ | with_reducible show wpAny _ _ (exec (Stmt.While _ _ _ _) _) _ _ _ | with_reducible show wpAny _ _ (exec (Stmt.For _ _ _ _ _) _) _ _ _)); (fail_if_success (with_reducible show (if _ then _ else _))); (first | (first | (with_reducible show wpAny _ _ _ _ _ _) | (with_reducible show (if _ then _ else _)) | (with_reducible show Frag.In _ _ ∧ _) | (with_reducible show KdsFill _ _ _ _ _ _ _ _)) | (dsimp only; (first | (with_reducible show wpAny _ _ _ _ _ _) | (with_reducible show (if _ then _ else _)) | (with_reducible show Frag.In _ _ ∧ _) | (with_reducible show KdsFill _ _ _ _ _ _ _ _)))); (first | walk1 | (dsimp only; walk1)))))
  refine W.ite_pos (by rw [decide_eq_true_eq]; omega) ?_
  (first | repeat' (first | ((fail_if_success (first | with_reducible show wpAny _ _ (call (Value.ref _) _) _ _ _ | with_reducible show wpAny _ _ (exec (Stmt.While _ _ _ _) _) _ _ _ | with_reducible show wpAny _ _ (exec (Stmt.For _ _ _ _ _) _) _ _ _)); (fail_if_success (with_reducible show (if _ then _ else _))); (first | (first | (with_reducible show wpAny _ _ _ _ _ _) | (with_reducible show (if _ then _ else _)) | (with_reducible show Frag.In _ _ ∧ _) | (with_reducible show KdsFill _ _ _ _ _ _ _ _)) | (dsimp only; (first | (with_reducible show wpAny _ _ _ _ _ _) | (with_reducible show (if _ then _ else _)) | (with_reducible show Frag.In _ _ ∧ _) | (with_reducible show KdsFill _ _ _ _ _ _ _ _)))); (first | walk1 | (dsimp only; walk1)))))
  rename Fr _ _ _ _ => F6
  rename News _ _ _ _ => N6
  rw [slice_all]
  refine KIN.call_text (PySem.intText_digits hxd hxn (Nat.le_trans hxl (by decide))) (Nat.le_trans hxl (by decide)) ?_
  have kk : Kp (hid s.heap) _ := fun b o e => F6.keep b o (kg b o e)
  refine h _ _ _ _ (ext_of kk) (.inr ⟨c, oc, vs, tq, kk _ _ (hid_get hc hc24), hod, hov, ?_⟩)
  refine (N6 (24, _) ?_).1
  k_mem
theorem strInt_spec {x : Str} {t : Tok} {g₀ : Heap} {Q : Value → Shared → Prop} (G : Gd w loose mean mg mb g₀) (hk : Kp g₀ s.heap) (hA : Am A n) (hn : n < 600) (h24 : Tab24 s.heap)
    (hxl : x.length ≤ 20) (hxd : NumText.AllDigits x.cps.toList) (hxn : x.cps.toList ≠ [])
    (h : ∀ h' tk d t', Heap.ExtBut 24 s.heap h' → Tab24 h' → Q (.int (NumText.digitsVal x.cps.toList : Nat) t') {s with heap := h', toks := tk, drawn := d}) :
    wpAny (model PR w) A (call (.ref 29) [.str x t]) Q E s := by
  rcases h24 with h24 | ⟨c', oc, vs, tq, hc, hod, hov, h24⟩
  · exact strInt_first G hk hA hn h24 hxl hxd hxn h
  · exact strInt_again G hk hA hn hc hod hov h24 hxl hxd hxn h
end Mine
end
section
open PySem PySem.W PySem.Calls PyProof.Rows PySem.Builtin.Str
set_option maxRecDepth 100000
set_option maxHeartbeats 8000000
namespace Mine
variable {w : World} {A : Around} {E : Value → Shared → Prop} {s : Shared} {loose : List Str} {mean : ExcName → Option Value} {mg mb : Str → Option Value} {n : Nat}

/-- the signs of a numeral -/
noncomputable def Figs (l : List Nat) : Prop := ∀ c ∈ l, isFig c = true ∨ c = 95
theorem worth_fold : ∀ (l : List Nat), Figs l → ∀ k : Nat, l.foldl wstep (k : Int) = (((l.filter (· != 95)).foldl (fun acc c => acc * 10 + (c - 48)) k : Nat) : Int)
  | [], _, _ => rfl
  | c :: l, h, k => by
    have ih := worth_fold l (fun d hd => h d (.tail _ hd))
    rcases h c (.head _) with hc | rfl
    · have h95 : c ≠ 95 := by rcases isFig_cases hc with rfl | rfl | rfl | rfl <;> decide
      have h48 : 48 ≤ c := by rcases isFig_cases hc with rfl | rfl | rfl | rfl <;> decide
      rw [List.filter_cons_of_pos (by simpa using h95), List.foldl_cons, List.foldl_cons, ← ih]
      congr 1
      unfold wstep
      rw [if_neg h95]
      omega
    · rw [List.filter_cons_of_neg (by decide), List.foldl_cons, ← ih]
      rfl
theorem worth_digits {l : List Nat} (h : Figs l) : worthOf l = ((NumText.digitsVal (l.filter (· != 95)) : Nat) : Int) := worth_fold l h 0

theorem fig_sp {c : Nat} (h : isFig c = true ∨ c = 95) : spS ⟨#[c]⟩ = false := by
  rcases h with h | rfl
  · rcases isFig_cases h with rfl | rfl | rfl | rfl <;> decide +kernel
  · decide +kernel
theorem fig_lt {c : Nat} (h : isFig c = true ∨ c = 95) : c < 128 := by
  rcases h with h | rfl
  · rcases isFig_cases h with rfl | rfl | rfl | rfl <;> decide
  · decide

theorem rstrip_fig {x : Str} {l : List Nat} (hl : Figs l) (hne : l ≠ []) (hx : x.cps.toList = l ∨ x.cps.toList = l ++ [32]) : (Txt.rstrip x).cps.toList = l := by
  have hA : ∀ c ∈ x.cps.toList, c < 128 := fun c hc => by
    rcases hx with e | e <;> rw [e] at hc
    · exact fig_lt (hl c hc)
    · rcases List.mem_append.mp hc with hc | hc
      · exact fig_lt (hl c hc)
      · rw [List.mem_singleton.mp hc]; decide
  obtain ⟨hi, hle, he, hs, hq⟩ := rstrip_cut hA
  have hln : x.length = x.cps.toList.length := Array.length_toList.symm
  have hpos : 0 < l.length := List.length_pos_iff.mpr hne
  have hget : ∀ k, k < l.length → spS ⟨#[x.cps.getD k 0]⟩ = false := fun k hk => by
    refine fig_sp (hl _ ?_)
    have : x.cps.getD k 0 = x.cps.toList.getD k 0 := by simp [Array.getD_eq_getD_getElem?, List.getD_eq_getElem?_getD]
    rw [this]
    rcases hx with e | e <;> rw [e]
    · rw [List.getD_eq_getElem?_getD, List.getElem?_eq_getElem hk]; exact List.getElem_mem hk
    · rw [List.getD_eq_getElem?_getD, List.getElem?_append_left hk, List.getElem?_eq_getElem hk]; exact List.getElem_mem hk
  have hhi : hi = l.length := by
    rcases hx with e | e
    · rw [e] at hln
      by_cases q : hi < l.length
      · have := hs hi (Nat.le_refl _) (by omega); rw [hget hi q] at this; cases this
      · omega
    · rw [e, List.length_append, List.length_singleton] at hln
      by_cases q : hi < l.length
      · have := hs hi (Nat.le_refl _) (by omega); rw [hget hi q] at this; cases this
      · by_cases q2 : hi = l.length
        · exact q2
        · have hh : hi = l.length + 1 := by omega
          rcases hq with hq | hq
          · omega
          · have : x.cps.getD (hi - 1) 0 = 32 := by
              have : x.cps.getD (hi - 1) 0 = x.cps.toList.getD (hi - 1) 0 := by simp [Array.getD_eq_getD_getElem?, List.getD_eq_getElem?_getD]
              rw [this, e, hh, List.getD_eq_getElem?_getD]
              simp
            rw [this] at hq
            exact absurd hq (by decide +kernel)
  rw [he, strSub_mk, hhi]
  rcases hx with e | e <;> simp [e]

theorem Tab24.kp {h h' : Heap} (x : Tab24 h) (hk : Kp h h') : Tab24 h' := by
  rcases x with e | ⟨c, oc, vs, t, h1, h2, h3, h4⟩
  · exact .inl (hk _ _ e)
  · exact .inr ⟨c, oc, vs, t, hk _ _ h1, h2, h3, hk _ _ h4⟩
theorem intFrom_spec {x : Str} {t : Tok} {g₀ : Heap} {l : List Nat} {Q : Value → Shared → Prop} (G : Gd w loose mean mg mb g₀) (hk : Kp g₀ s.heap) (hA : Am A n) (hn : n < 500) (h24 : Tab24 s.heap)
    (hl : Figs l) (hfig : ∃ c ∈ l, isFig c = true) (hlen : l.length ≤ 20) (hx : x.cps.toList = l ∨ x.cps.toList = l ++ [32])
    (h : ∀ h' tk d t', Heap.ExtBut 24 s.heap h' → Tab24 h' → Q (.int (worthOf l) t') {s with heap := h', toks := tk, drawn := d}) :
    wpAny (model PR w) A (call (.ref 36) [.str x t]) Q E s := by
  obtain ⟨X, T, C24⟩ := G.keeps hk
  have hne : l ≠ [] := by obtain ⟨c, hc, _⟩ := hfig; rintro rfl; cases hc
  have hxl : x.length ≤ 21 := by
    have hln : x.length = x.cps.toList.length := Array.length_toList.symm
    rcases hx with e | e <;> rw [hln, e] <;> simp <;> omega
  refine wpAny_call (codeAny_call_def (binds := [("s", .str x t)]) (hA.room (by omega)) (X 36 _ rfl) rfl T.nolimit (codeRec_of X rfl) rfl (BindsTo.of_eq rfl) (by decide) (locs rfl) (fun h₁ hns hk₁ => ?_))
  have F : Fr s.heap s.heap.objs.size h₁ _ := ⟨hns, hk₁, Nat.le_refl _⟩
  have N : News s.heap s.heap.objs.size h₁ [] := News.nil
  generalize hq : s.toks + List.length _ = tk₀
  have htk₀ : 0 < tk₀ := by rw [← hq]; exact Nat.lt_of_lt_of_le (Nat.succ_pos _) (Nat.le_add_left 1 _)
  (first | repeat' (first | ((fail_if_success (first | with_reducible show wpAny _ _ (call (Value.builtin "str.rstrip") _) _ _ _ | with_reducible show wpAny _ _ (call (Value.ref _) _) _ _ _)); (first | (first | (with_reducible show wpAny _ _ _ _ _ _) | (with_reducible show (if _ then _ else _)) | (with_reducible show Frag.In _ _ ∧ _) | (with_reducible show KdsFill _ _ _ _ _ _ _ _)) | (dsimp only; (first | (with_reducible show wpAny _ _ _ _ _ _) | (with_reducible show (if _ then _ else _)) | (with_reducible show Frag.In _ _ ∧ _) | (with_reducible show KdsFill _ _ _ _ _ _ _ _)))); (first | walk1 | (dsimp only; walk1)))))
  refine wpAny_toks (SC.rstrip (fun t₁ k₁ hk₁' => ?_) (by size_fits))
  have hk₁' : 0 < k₁ := Nat.lt_of_lt_of_le htk₀ hk₁'
  (first | repeat' (first | ((fail_if_success (first | with_reducible show wpAny _ _ (call (Value.builtin "str.rstrip") _) _ _ _ | with_reducible show wpAny _ _ (call (Value.ref _) _) _ _ _)); (first | (first | (with_reducible show wpAny _ _ _ _ _ _) | (with_reducible show (if _ then _ else _)) | (with_reducible show Frag.In _ _ ∧ _) | (with_reducible show KdsFill _ _ _ _ _ _ _ _)) | (dsimp only; (first | (with_reducible show wpAny _ _ _ _ _ _) | (with_reducible show (if _ then _ else _)) | (with_reducible show Frag.In _ _ ∧ _) | (with_reducible show KdsFill _ _ _ _ _ _ _ _)))); (first | walk1 | (dsimp only; walk1)))))
  refine SC.replaceW (Nat.ne_of_gt hk₁') (Nat.ne_of_gt (Nat.succ_pos _)) (Nat.ne_of_lt (Nat.lt_succ_self _)) (by decide +kernel) ?_ ?_ ?_
  · have := len_rstrip x; omega
  · decide
  intro t₂ k₂
  have hr : (Txt.replace (Txt.rstrip x) (Str.ofString "_") (Str.ofString "")).cps.toList = l.filter (· != 95) := by
    rw [show Str.ofString "_" = ⟨#[95]⟩ from by decide +kernel, show Str.ofString "" = ⟨#[]⟩ from by decide +kernel, replace_strikes, rstrip_fig hl hne hx]
  generalize Txt.replace (Txt.rstrip x) (Str.ofString "_") (Str.ofString "") = y at hr
  (first | repeat' (first | ((fail_if_success (first | with_reducible show wpAny _ _ (call (Value.builtin "str.rstrip") _) _ _ _ | with_reducible show wpAny _ _ (call (Value.ref _) _) _ _ _)); (first | (first | (with_reducible show wpAny _ _ _ _ _ _) | (with_reducible show (if _ then _ else _)) | (with_reducible show Frag.In _ _ ∧ _) | (with_reducible show KdsFill _ _ _ _ _ _ _ _)) | (dsimp only; (first | (with_reducible show wpAny _ _ _ _ _ _) | (with_reducible show (if _ then _ else _)) | (with_reducible show Frag.In _ _ ∧ _) | (with_reducible show KdsFill _ _ _ _ _ _ _ _)))); (first | walk1 | (dsimp only; walk1)))))
  rename Fr _ _ _ _ => F2
  refine strInt_spec G (fun b o e => F2.keep _ _ (hk b o e)) (hA.deeper _) (by omega) (h24.kp F2.keep) ?_ ?_ ?_ ?_
  · have e : y.length = (l.filter (· != 95)).length := by rw [← hr]; exact Array.length_toList.symm
    have := List.length_filter_le (· != 95) l
    omega
  · rw [hr]
    intro c hc
    have hc := List.mem_filter.mp hc
    rcases hl c hc.1 with q | q
    · rcases isFig_cases q with rfl | rfl | rfl | rfl <;> decide
    · have := hc.2; rw [q] at this; cases this
  · rw [hr]
    obtain ⟨c, hc, hf⟩ := hfig
    have : c ∈ l.filter (· != 95) := List.mem_filter.mpr ⟨hc, by rcases isFig_cases hf with rfl | rfl | rfl | rfl <;> decide⟩
    intro q; rw [q] at this; cases this
  · intro h' tk' d t' hx' ht'
    rw [hr, ← worth_digits hl]
    exact h h' tk' d t' (fun b o hb e => hx' b o hb (F2.keep b o e)) ht'
end Mine
end
section
open PySem PySem.W PySem.Calls PyProof.Rows PySem.Builtin.Str PySem.SeqAt
set_option maxRecDepth 100000
set_option maxHeartbeats 8000000
namespace Mine
variable {w : World} {A : Around} {E : Value → Shared → Prop} {s : Shared} {loose : List Str} {mean : ExcName → Option Value} {mg mb : Str → Option Value} {n : Nat}

theorem Am.far {A : Around} {n : Nat} (x : Am A n) (h : n < 900) : A.units + 64 < cLine := by
  have := x.units
  show A.units + 64 < 9900
  omega
/-- a text of a list of signs -/
noncomputable abbrev mk (l : List Nat) : Str := ⟨l.toArray⟩
/-- a sign joins the last piece -/
noncomputable def joins (p : List Nat) (c : Nat) : Bool := isFig (p.headD 0) && (isFig c || c == 95)
/-- one sign more -/
noncomputable def pstep (ps : List (List Nat)) (c : Nat) : List (List Nat) :=
  match ps.getLast? with
  | none => [[c]]
  | some p => if joins p c then ps.dropLast ++ [p ++ [c]] else ps ++ [[c]]
noncomputable def piecesOf (l : List Nat) : List (List Nat) := l.foldl pstep []

theorem StrsAre.length {vs : List Value} {ys : List Str} (h : StrsAre vs ys) : vs.length = ys.length := by induction h <;> simp_all

theorem readsAll_of_strs {h : Heap} : ∀ {vs : List Value} {ys : List Str}, StrsAre vs ys → ReadsAll h vs (ys.map PyData.str) []
  | _, _, .nil => .nil
  | _, _, .cons k t r => by
    have := ReadsAll.cons (Reads.str (h := h) k t) (readsAll_of_strs (h := h) r)
    simpa using this
theorem reads_of_strs {h : Heap} {a : Addr} {vs : List Value} {ys : List Str} (hl : h.IsList a vs.toArray) (hi : StrsAre vs ys) : Reads h (.ref a) (.list (ys.map PyData.str)) [a] := by
  obtain ⟨o, ho, hc, n, hd⟩ := hl
  exact Reads.list ho hc hd (by simpa using readsAll_of_strs hi)
theorem depthAll_strs : ∀ ns : List Str, PyData.depthAll (ns.map PyData.str) ≤ 1
  | [] => by simp [PyData.depthAll]
  | n :: r => by
    have := depthAll_strs r
    simp only [List.map_cons, PyData.depthAll, PyData.depth]
    omega
theorem shaped_strs (ns : List Str) (hok : ns.all PyData.strOk = true) : shaped (.list (ns.map PyData.str)) = true := by
  have h1 := depthAll_strs ns
  have h2 : PyData.depth (.list (ns.map PyData.str)) ≤ 64 := by simp only [PyData.depth]; omega
  show (PyData.canLay0 (.list (ns.map PyData.str)) && decide (PyData.depth (.list (ns.map PyData.str)) ≤ 64)) = true
  rw [Bool.and_eq_true]
  exact ⟨by simp only [PyData.canLay0]; rw [canLayAll_strs']; exact hok, decide_eq_true h2⟩

/-- a list of pieces against an empty one -/
theorem ne_empty {a b : Addr} {vs : List Value} {ys : List Str} {Q : Value → Shared → Prop} (hl : s.heap.IsList a vs.toArray) (hi : StrsAre vs ys) (hok : ys.all PyData.strOk = true) (hb : s.heap.IsList b (([] : List Value)).toArray) (hu : A.units + 64 < cLine) {z : Bool} (hz : (!ys.isEmpty) = z)
    (h : Q (.bool z) s) : wpAny (model PR w) A (compareOp .NotEq (.ref a) (.ref b)) Q E s := by
  subst hz
  refine ne_dataH_same (reads_of_strs hl hi) (reads_of_strs hb .nil) (shaped_strs ys hok) (shaped_strs [] rfl) hu ?_ ?_
  · cases ys <;> simp [noMix, noMixAll]
  · cases ys with
    | nil => simpa [PySem.Spec.same, PySem.Spec.sameAll] using h
    | cons y ys => simpa [PySem.Spec.same, PySem.Spec.sameAll] using h

theorem pstep_flatten (ps : List (List Nat)) (c : Nat) : (pstep ps c).flatten = ps.flatten ++ [c] := by
  unfold pstep
  cases h : ps.getLast? with
  | none => simp [List.getLast?_eq_none_iff.mp h]
  | some p =>
    obtain ⟨ys, rfl⟩ := List.getLast?_eq_some_iff.mp h
    dsimp only
    split <;> simp
theorem foldl_flatten : ∀ (l : List Nat) (ps : List (List Nat)), (l.foldl pstep ps).flatten = ps.flatten ++ l
  | [], ps => by simp
  | c :: l, ps => by rw [List.foldl_cons, foldl_flatten l, pstep_flatten]; simp
theorem pieces_flatten (l : List Nat) : (piecesOf l).flatten = l := by simp [piecesOf, foldl_flatten]
theorem pieces_lt {l : List Nat} {k : Nat} (h : ∀ c ∈ l, c < k) : ∀ p ∈ piecesOf l, ∀ c ∈ p, c < k := fun p hp c hc => h c (by
  rw [← pieces_flatten l]; exact List.mem_flatten.mpr ⟨p, hp, hc⟩)
theorem pstep_ne {ps : List (List Nat)} {c : Nat} (h : ∀ p ∈ ps, p ≠ []) : ∀ p ∈ pstep ps c, p ≠ [] := by
  unfold pstep
  intro p hp
  split at hp
  · simp at hp; simp [hp]
  · split at hp
    · rcases List.mem_append.mp hp with hp | hp
      · exact h p (List.dropLast_subset _ hp)
      · simp at hp; simp [hp]
    · rcases List.mem_append.mp hp with hp | hp
      · exact h p hp
      · simp at hp; simp [hp]
theorem foldl_ne : ∀ (l : List Nat) (ps : List (List Nat)), (∀ p ∈ ps, p ≠ []) → ∀ p ∈ l.foldl pstep ps, p ≠ []
  | [], _, h => h
  | _ :: l, _, h => foldl_ne l _ (pstep_ne h)
theorem pieces_ne (l : List Nat) : ∀ p ∈ piecesOf l, p ≠ [] := foldl_ne l [] (fun _ h => by cases h)
theorem count_le : ∀ ps : List (List Nat), (∀ p ∈ ps, p ≠ []) → ps.length ≤ ps.flatten.length
  | [], _ => by simp
  | p :: ps, h => by
    have := count_le ps fun q hq => h q (.tail _ hq)
    have h2 := List.length_pos_iff.mpr (h p (.head _))
    simp only [List.length_cons, List.flatten_cons, List.length_append]
    omega
theorem pieces_len (l : List Nat) : (∀ p ∈ piecesOf l, p.length ≤ l.length) ∧ (piecesOf l).length ≤ l.length := by
  refine ⟨fun p hp => ?_, ?_⟩
  · have := (List.sublist_flatten_of_mem hp).length_le
    rwa [pieces_flatten] at this
  · have := count_le _ (pieces_ne l)
    rwa [pieces_flatten] at this
theorem strOk_of {l : List Nat} (h : ∀ c ∈ l, c < 128) : PyData.strOk (mk l) = true := by
  show Array.all l.toArray _ = true
  rw [← Array.all_toList, List.all_eq_true]
  intro c hc
  have := h c (by simpa using hc)
  exact decide_eq_true (by omega)

theorem fig_in : ∀ c : Nat, c < 128 → (occurrences (Str.ofString "0129") (ch c) 0 (Str.ofString "0129").length 1).isEmpty = !isFig c := by decide +kernel
theorem fig_in_ : ∀ c : Nat, c < 128 → (occurrences (Str.ofString "0129_") (ch c) 0 (Str.ofString "0129_").length 1).isEmpty = !(isFig c || c == 95) := by decide +kernel
theorem item_head (a : Nat) (r : List Nat) : Txt.item (mk (a :: r)) 0 = ch a := by
  have e : seqIndex? 0 (mk (a :: r)).length = some 0 := by simp [seqIndex?, Str.length]
  unfold Txt.item Txt.charAt
  rw [e]
  rfl
theorem mk_append (p q : List Nat) : (mk p ++ mk q : Str) = mk (p ++ q) := by
  show Str.mk (p.toArray ++ q.toArray) = _
  simp
theorem strsAre_concat {y : Str} {ys : List Str} : ∀ {vs : List Value}, StrsAre vs (ys ++ [y]) → ∃ us t, vs = us ++ [.str y t] ∧ StrsAre us ys := by
  induction ys with
  | nil =>
    intro vs (h : StrsAre vs [y])
    cases h with
    | cons _ t r => cases r; exact ⟨[], t, rfl, .nil⟩
  | cons z ys ih =>
    intro vs (h : StrsAre vs (z :: (ys ++ [y])))
    cases h with
    | cons _ t r => exact let ⟨us, t', e, h⟩ := ih r; ⟨.str z t :: us, t', congrArg _ e, .cons z t h⟩
theorem StrsAre.snoc {vs : List Value} {ys : List Str} {y : Str} {t : Tok} (h : StrsAre vs ys) : StrsAre (vs ++ [.str y t]) (ys ++ [y]) := by
  induction h with
  | nil => exact .cons _ _ .nil
  | cons y t _ ih => exact .cons y t ih

theorem pieces_spec {x : Str} {t : Tok} {Q : Value → Shared → Prop} (X : (K0 w.params).In s.heap) (T : Top topProg loose mean mg mb s.heap) (hA : Am A n) (hn : n < 700)
    (hx : ∀ c ∈ x.cps.toList, c < 128) (hl : x.cps.size ≤ 20)
    (h : ∀ h' tk a vs k, Kp s.heap h' → h'.get? a = some (listOf vs.toArray k) → s.heap.get? a = none → StrsAre vs ((piecesOf x.cps.toList).map mk) → Q (.ref a) {s with heap := h', toks := tk}) :
    wpAny (model PR w) A (call (.ref 59) [.str x t]) Q E s := by
  have hasc : x.cps.all (· < 128) = true := by
    rw [← Array.all_toList, List.all_eq_true]
    intro c hc; simpa using hx c hc
  refine wpAny_call (codeAny_call_def (binds := [("name", .str x t)]) (hA.room (by omega)) (X 59 _ rfl) rfl T.nolimit (codeRec_of X rfl) rfl (BindsTo.of_eq rfl) (by decide) (locs rfl) (fun h₁ hns hk₁ => ?_))
  have F : Fr s.heap s.heap.objs.size h₁ _ := ⟨hns, hk₁, Nat.le_refl _⟩
  have N : News s.heap s.heap.objs.size h₁ [] := News.nil
  (first | repeat' (first | ((fail_if_success (first | with_reducible show wpAny _ _ (subscriptTail _ _ (Value.ref _) _) _ _ _ | with_reducible show wpAny _ _ (compareOp CmpOp.NotEq (Value.ref _) (Value.ref _)) _ _ _ | with_reducible show wpAny _ _ (call (Value.ref _) _) _ _ _ | with_reducible show wpAny _ _ (exec (Stmt.For _ _ _ _ _) _) _ _ _)); (first | (first | (with_reducible show wpAny _ _ _ _ _ _) | (with_reducible show (if _ then _ else _)) | (with_reducible show Frag.In _ _ ∧ _) | (with_reducible show KdsFill _ _ _ _ _ _ _ _)) | (dsimp only; (first | (with_reducible show wpAny _ _ _ _ _ _) | (with_reducible show (if _ then _ else _)) | (with_reducible show Frag.In _ _ ∧ _) | (with_reducible show KdsFill _ _ _ _ _ _ _ _)))); (first | walk1 | (dsimp only; walk1)))))
  rename Fr _ _ _ _ => F₁; rename News _ _ _ _ => N₁
  refine wpAny_For ?_
  (first | repeat' (first | ((fail_if_success (first | with_reducible show wpAny _ _ (subscriptTail _ _ (Value.ref _) _) _ _ _ | with_reducible show wpAny _ _ (compareOp CmpOp.NotEq (Value.ref _) (Value.ref _)) _ _ _ | with_reducible show wpAny _ _ (call (Value.ref _) _) _ _ _ | with_reducible show wpAny _ _ (exec (Stmt.For _ _ _ _ _) _) _ _ _)); (first | (first | (with_reducible show wpAny _ _ _ _ _ _) | (with_reducible show (if _ then _ else _)) | (with_reducible show Frag.In _ _ ∧ _) | (with_reducible show KdsFill _ _ _ _ _ _ _ _)) | (dsimp only; (first | (with_reducible show wpAny _ _ _ _ _ _) | (with_reducible show (if _ then _ else _)) | (with_reducible show Frag.In _ _ ∧ _) | (with_reducible show KdsFill _ _ _ _ _ _ _ _)))); (first | walk1 | (dsimp only; walk1)))))
  refine wpAny_pyIter_ascii hasc ?_
  rename_i P _ _ h₂
  have fI := fresh_of F₁ (Nat.le_refl h₂.objs.size)
  have hPI : P ≠ h₂.objs.size := Nat.ne_of_lt (Heap.lt_size (N₁ _ (.head _)).1)
  have fP := (N₁ _ (.head _)).2
  have F2 := F₁.push (asciiIter x t 0)
  have N2 := News.push F₁ N₁ (asciiIter x t 0)
  generalize h₂.push (asciiIter x t 0) = h₃ at F2 N2 ⊢
  generalize h₂.objs.size = I at fI F2 N2 hPI ⊢
  clear F₁ N₁ hns hk₁
  dsimp only
  have hit := (⟨_, (N2 _ (.head _)).1, rfl, rfl⟩ : Heap.IsStrIter _ I "str_ascii_iterator" x t 0)
  refine for_walks (Walks.strAscii (hA.deeper _).handled I x t) (fun i s' => ∃ h tk m oI vs k, s' = { s with heap := h, toks := tk } ∧ Fr s.heap s.heap.objs.size h m ∧
      m "pieces" = some (.ref P) ∧ (∀ z : Str, z ≠ "sign" → z ≠ "pieces" → m z = List.lookup z [(("name" : Str), Value.str x t)].reverse) ∧
      StrsAre vs ((piecesOf (x.cps.toList.take i)).map mk) ∧
      News s.heap s.heap.objs.size h [(I, oI), (P, W.listOf vs.toArray k)]) ?h0 hit ?turn ?done
  case h0 =>
    refine ⟨_, _, _, _, [], 0, rfl, F2, by simp, fun z h1 h2 => ?_, .nil, N2⟩
    simp [h2]
  case turn =>
    rintro i v _ h' tk' hi hP ⟨h₉, tk, m, oI, vs, k, rfl, F, hv, hm, hS, N⟩ hst hk Q' hnx _
    obtain ⟨c, tv, hc, rfl⟩ := hP
    obtain ⟨oI', hoI, _, _⟩ := id hst
    have F' := fr_but F hk (by simpa using fI.1) (by simpa using fI.2.symm)
    have N' : News s.heap s.heap.objs.size h' [(I, oI'), (P, W.listOf vs.toArray k)] := news_cons hoI fI.2 fI.1 (news_but (news_tail N) hk (by simpa using hPI))
    rw [canon2 hv hm] at F'
    clear F hm N hk hst
    refine wpAny_assign_Name ?_
    (first | repeat' (first | ((fail_if_success (first | with_reducible show wpAny _ _ (subscriptTail _ _ (Value.ref _) _) _ _ _ | with_reducible show wpAny _ _ (compareOp CmpOp.NotEq (Value.ref _) (Value.ref _)) _ _ _ | with_reducible show wpAny _ _ (call (Value.ref _) _) _ _ _ | with_reducible show wpAny _ _ (exec (Stmt.For _ _ _ _ _) _) _ _ _)); (first | (first | (with_reducible show wpAny _ _ _ _ _ _) | (with_reducible show (if _ then _ else _)) | (with_reducible show Frag.In _ _ ∧ _) | (with_reducible show KdsFill _ _ _ _ _ _ _ _)) | (dsimp only; (first | (with_reducible show wpAny _ _ _ _ _ _) | (with_reducible show (if _ then _ else _)) | (with_reducible show Frag.In _ _ ∧ _) | (with_reducible show KdsFill _ _ _ _ _ _ _ _)))); (first | walk1 | (dsimp only; walk1)))))
    rename Fr _ _ _ _ => F₄; rename News _ _ _ _ => N₄
    have hxi : x.cps.toList[i]? = some c := by simpa using hc
    have e1 : piecesOf (x.cps.toList.take (i + 1)) = pstep (piecesOf (x.cps.toList.take i)) c := by
      unfold piecesOf
      rw [List.take_add_one, hxi]
      simp
    have hc1 : c < 128 := hx c (List.mem_of_getElem? hxi)
    have hlt : ∀ p ∈ piecesOf (x.cps.toList.take i), ∀ c ∈ p, c < 128 := pieces_lt fun c hc => hx c (List.mem_of_mem_take hc)
    have hne := pieces_ne (x.cps.toList.take i)
    obtain ⟨hln, hct⟩ := pieces_len (x.cps.toList.take i)
    have htl : (x.cps.toList.take i).length ≤ 20 := by rw [List.length_take]; simp; omega
    replace hln : ∀ p ∈ piecesOf (x.cps.toList.take i), p.length ≤ 20 := fun p hp => Nat.le_trans (hln p hp) htl
    replace hct := Nat.le_trans hct htl
    clear htl
    generalize piecesOf (x.cps.toList.take i) = ps at hS e1 hlt hne hln hct
    have hok : (ps.map mk).all PyData.strOk = true := by
      rw [List.all_eq_true]
      intro y hy
      obtain ⟨p, hp, rfl⟩ := List.mem_map.mp hy
      exact strOk_of (hlt p hp)
    have iP : Heap.IsList _ P vs.toArray := ⟨_, (N₄ _ (.tail _ (.tail _ (.head _)))).1, rfl, _, rfl⟩
    have iD : Heap.IsList _ _ ([] : List Value).toArray := ⟨_, (N₄ _ (.head _)).1, rfl, _, rfl⟩
    rcases List.eq_nil_or_concat ps with rfl | ⟨qs, p, rfl⟩
    · cases hS
      refine ne_empty iP .nil rfl iD ((hA.deeper _).far (by omega)) (z := false) rfl ?_
      clear iP iD
      (first | repeat' (first | ((fail_if_success (first | with_reducible show wpAny _ _ (subscriptTail _ _ (Value.ref _) _) _ _ _ | with_reducible show wpAny _ _ (compareOp CmpOp.NotEq (Value.ref _) (Value.ref _)) _ _ _ | with_reducible show wpAny _ _ (call (Value.ref _) _) _ _ _ | with_reducible show wpAny _ _ (exec (Stmt.For _ _ _ _ _) _) _ _ _)); (first | (first | (with_reducible show wpAny _ _ _ _ _ _) | (with_reducible show (if _ then _ else _)) | (with_reducible show Frag.In _ _ ∧ _) | (with_reducible show KdsFill _ _ _ _ _ _ _ _)) | (dsimp only; (first | (with_reducible show wpAny _ _ _ _ _ _) | (with_reducible show (if _ then _ else _)) | (with_reducible show Frag.In _ _ ∧ _) | (with_reducible show KdsFill _ _ _ _ _ _ _ _)))); (first | walk1 | (dsimp only; walk1)))))
      refine wpAny_list_append_plain ⟨k, (N₄ (P, _) (.tail _ (.tail _ (.head _)))).1⟩ (fun h₅ hl₅ hs₅ => ?_) (by decide)
      obtain ⟨k₅, hl₅⟩ := hl₅
      have F₅ := F₄.change hs₅ fP.1 fP.2
      have N₅ : News s.heap s.heap.objs.size h₅ [(I, oI'), (P, W.listOf [Value.str (ch c) tv].toArray k₅)] :=
        news_cons ((hs₅.2 I hPI.symm).trans (N₄ _ (.tail _ (.head _))).1) fI.2 fI.1 (news_cons hl₅ fP.1 fP.2 News.nil)
      clear F₄ N₄
      (first | repeat' (first | ((fail_if_success (first | with_reducible show wpAny _ _ (subscriptTail _ _ (Value.ref _) _) _ _ _ | with_reducible show wpAny _ _ (compareOp CmpOp.NotEq (Value.ref _) (Value.ref _)) _ _ _ | with_reducible show wpAny _ _ (call (Value.ref _) _) _ _ _ | with_reducible show wpAny _ _ (exec (Stmt.For _ _ _ _ _) _) _ _ _)); (first | (first | (with_reducible show wpAny _ _ _ _ _ _) | (with_reducible show (if _ then _ else _)) | (with_reducible show Frag.In _ _ ∧ _) | (with_reducible show KdsFill _ _ _ _ _ _ _ _)) | (dsimp only; (first | (with_reducible show wpAny _ _ _ _ _ _) | (with_reducible show (if _ then _ else _)) | (with_reducible show Frag.In _ _ ∧ _) | (with_reducible show KdsFill _ _ _ _ _ _ _ _)))); (first | walk1 | (dsimp only; walk1)))))
      refine hnx _ ⟨_, _, _, oI', _, k₅, rfl, F₅, ?_, fun z h1 h2 => by simp [h1, h2], ?_, N₅⟩ ⟨oI', (N₅ _ (.head _)).1, by assumption, by assumption⟩
      · simp only [show (("pieces" : Str) = "sign") = False from by decide +kernel, if_false]; simp
      · rw [e1]
        exact .cons _ _ .nil
    · refine ne_empty iP hS hok iD ((hA.deeper _).far (by omega)) (z := true) (by simp) ?_
      obtain ⟨us, tp, rfl, hU⟩ := strsAre_concat (by simpa using hS)
      have hpne : p ≠ [] := hne p (by simp)
      obtain ⟨a, r, rfl⟩ := List.exists_cons_of_ne_nil hpne
      (first | repeat' (first | ((fail_if_success (first | with_reducible show wpAny _ _ (subscriptTail _ _ (Value.ref _) _) _ _ _ | with_reducible show wpAny _ _ (compareOp CmpOp.NotEq (Value.ref _) (Value.ref _)) _ _ _ | with_reducible show wpAny _ _ (call (Value.ref _) _) _ _ _ | with_reducible show wpAny _ _ (exec (Stmt.For _ _ _ _ _) _) _ _ _)); (first | (first | (with_reducible show wpAny _ _ _ _ _ _) | (with_reducible show (if _ then _ else _)) | (with_reducible show Frag.In _ _ ∧ _) | (with_reducible show KdsFill _ _ _ _ _ _ _ _)) | (dsimp only; (first | (with_reducible show wpAny _ _ _ _ _ _) | (with_reducible show (if _ then _ else _)) | (with_reducible show Frag.In _ _ ∧ _) | (with_reducible show KdsFill _ _ _ _ _ _ _ _)))); (first | walk1 | (dsimp only; walk1)))))
      refine kde_neg iP (by decide) (by decide) (j := us.length) (by simp [seqIndex?]; omega) (v := .str (mk (a :: r)) tp) (by simp) ?_
      clear iD iP
      have hit0 : Txt.item (mk (a :: r)) 0 = ch a := item_head a r
      have ha1 : a < 128 := hlt (a :: r) (by simp) a (by simp)
      have hla : (qs ++ [a :: r]).getLast? = some (a :: r) := by simp
      have app : ∀ {h₈ : Heap} {m₈ : Str → Option Value} {o₈ : Obj} {l₈ : Addr} (tk₈ : Nat), joins (a :: r) c = false → Fr s.heap s.heap.objs.size h₈ m₈ →
          News s.heap s.heap.objs.size h₈ [(l₈, o₈), (I, oI'), (P, W.listOf (us ++ [Value.str (mk (a :: r)) tp]).toArray k)] → ∀ {Q₈ : Value → Shared → Prop} {A₈ : Around} {E₈ : Value → Shared → Prop},
          (∀ h₅ k₅, Fr s.heap s.heap.objs.size h₅ m₈ → News s.heap s.heap.objs.size h₅ [(I, oI'), (P, W.listOf ((us ++ [Value.str (mk (a :: r)) tp]) ++ [Value.str (ch c) tv]).toArray k₅)] →
            StrsAre ((us ++ [Value.str (mk (a :: r)) tp]) ++ [Value.str (ch c) tv]) ((piecesOf (x.cps.toList.take (i + 1))).map mk) → Q₈ .none { s with heap := h₅, toks := tk₈ }) →
          wpAny (model PR w) A₈ (call (.builtin "list.append") [.ref P, .str (ch c) tv]) Q₈ E₈ { s with heap := h₈, toks := tk₈ } := by
        intro h₈ m₈ o₈ l₈ tk₈ hj F₈ N₈ Q₈ A₈ E₈ hq
        have hsz : us.length + 1 ≤ 20 := by
          have h1 := StrsAre.length hU
          simp at h1 hct
          omega
        refine wpAny_list_append_plain ⟨k, (N₈ (P, _) (.tail _ (.tail _ (.head _)))).1⟩ (fun h₅ hl₅ hs₅ => ?_) (by simp; rw [sizeLine_eq]; omega)
        obtain ⟨k₅, hl₅⟩ := hl₅
        refine hq h₅ k₅ (F₈.change hs₅ fP.1 fP.2) (news_cons ((hs₅.2 I hPI.symm).trans (N₈ _ (.tail _ (.head _))).1) fI.2 fI.1 (news_cons (by rw [hl₅]; simp) fP.1 fP.2 News.nil)) ?_
        rw [e1, List.concat_eq_append]
        unfold pstep
        rw [hla]
        dsimp only
        rw [if_neg (by rw [hj]; decide), List.map_append, List.map_append]
        exact StrsAre.snoc (StrsAre.snoc hU)
      (first | repeat' (first | ((fail_if_success (first | with_reducible show wpAny _ _ (subscriptTail _ _ (Value.ref _) _) _ _ _ | with_reducible show wpAny _ _ (compareOp CmpOp.NotEq (Value.ref _) (Value.ref _)) _ _ _ | with_reducible show wpAny _ _ (call (Value.ref _) _) _ _ _ | with_reducible show wpAny _ _ (exec (Stmt.For _ _ _ _ _) _) _ _ _)); (first | (first | (with_reducible show wpAny _ _ _ _ _ _) | (with_reducible show (if _ then _ else _)) | (with_reducible show Frag.In _ _ ∧ _) | (with_reducible show KdsFill _ _ _ _ _ _ _ _)) | (dsimp only; (first | (with_reducible show wpAny _ _ _ _ _ _) | (with_reducible show (if _ then _ else _)) | (with_reducible show Frag.In _ _ ∧ _) | (with_reducible show KdsFill _ _ _ _ _ _ _ _)))); (first | walk1 | (dsimp only; walk1)))))
      · rename_i q
        rw [hit0, fig_in a ha1] at q
        rename Fr _ _ _ _ => F₅; rename News _ _ _ _ => N₅
        refine app _ (by simp [joins]; simp at q; simp [q]) F₅ N₅ fun h₆ k₆ F₆ N₆ hS₆ => ?_
        clear F₅ N₅
        (first | repeat' (first | ((fail_if_success (first | with_reducible show wpAny _ _ (subscriptTail _ _ (Value.ref _) _) _ _ _ | with_reducible show wpAny _ _ (compareOp CmpOp.NotEq (Value.ref _) (Value.ref _)) _ _ _ | with_reducible show wpAny _ _ (call (Value.ref _) _) _ _ _ | with_reducible show wpAny _ _ (exec (Stmt.For _ _ _ _ _) _) _ _ _)); (first | (first | (with_reducible show wpAny _ _ _ _ _ _) | (with_reducible show (if _ then _ else _)) | (with_reducible show Frag.In _ _ ∧ _) | (with_reducible show KdsFill _ _ _ _ _ _ _ _)) | (dsimp only; (first | (with_reducible show wpAny _ _ _ _ _ _) | (with_reducible show (if _ then _ else _)) | (with_reducible show Frag.In _ _ ∧ _) | (with_reducible show KdsFill _ _ _ _ _ _ _ _)))); (first | walk1 | (dsimp only; walk1)))))
        refine hnx _ ⟨_, _, _, oI', _, k₆, rfl, F₆, ?_, fun z h1 h2 => by simp [h1, h2], hS₆, N₆⟩ ⟨oI', (N₆ _ (.head _)).1, by assumption, by assumption⟩
        simp only [show (("pieces" : Str) = "sign") = False from by decide +kernel, if_false]; simp
      · rename_i q1 q2
        rename Fr _ _ _ _ => F₅; rename News _ _ _ _ => N₅
        rw [hit0, fig_in a ha1] at q1
        replace q2 : (!(isFig c || c == 95)) = true := by rw [← fig_in_ c hc1]; exact q2
        refine app _ (by simp [joins]; intro _; simpa using q2) F₅ N₅ fun h₆ k₆ F₆ N₆ hS₆ => ?_
        clear F₅ N₅
        (first | repeat' (first | ((fail_if_success (first | with_reducible show wpAny _ _ (subscriptTail _ _ (Value.ref _) _) _ _ _ | with_reducible show wpAny _ _ (compareOp CmpOp.NotEq (Value.ref _) (Value.ref _)) _ _ _ | with_reducible show wpAny _ _ (call (Value.ref _) _) _ _ _ | with_reducible show wpAny _ _ (exec (Stmt.For _ _ _ _ _) _) _ _ _)); (first | (first | (with_reducible show wpAny _ _ _ _ _ _) | (with_reducible show (if _ then _ else _)) | (with_reducible show Frag.In _ _ ∧ _) | (with_reducible show KdsFill _ _ _ _ _ _ _ _)) | (dsimp only; (first | (with_reducible show wpAny _ _ _ _ _ _) | (with_reducible show (if _ then _ else _)) | (with_reducible show Frag.In _ _ ∧ _) | (with_reducible show KdsFill _ _ _ _ _ _ _ _)))); (first | walk1 | (dsimp only; walk1)))))
        refine hnx _ ⟨_, _, _, oI', _, k₆, rfl, F₆, ?_, fun z h1 h2 => by simp [h1, h2], hS₆, N₆⟩ ⟨oI', (N₆ _ (.head _)).1, by assumption, by assumption⟩
        simp only [show (("pieces" : Str) = "sign") = False from by decide +kernel, if_false]; simp
      · rename_i q1 q2
        rename Fr _ _ _ _ => F₅; rename News _ _ _ _ => N₅
        rw [hit0, fig_in a ha1] at q1
        replace q2 : (!(isFig c || c == 95)) = false := by rw [← fig_in_ c hc1]; exact q2
        have hj : joins (a :: r) c = true := by simp [joins]; simp at q1; simp [q1]; simp at q2; by_cases q3 : isFig c = true <;> simp_all
        have iP : Heap.IsList _ P _ := ⟨_, (N₅ _ (.tail _ (.tail _ (.head _)))).1, rfl, _, rfl⟩
        refine kde_neg iP (by decide) (by decide) (j := us.length) (by simp [seqIndex?]; omega) (v := .str (mk (a :: r)) tp) (by simp) ?_
        (first | repeat' (first | ((fail_if_success (first | with_reducible show wpAny _ _ (subscriptTail _ _ (Value.ref _) _) _ _ _ | with_reducible show wpAny _ _ (compareOp CmpOp.NotEq (Value.ref _) (Value.ref _)) _ _ _ | with_reducible show wpAny _ _ (call (Value.ref _) _) _ _ _ | with_reducible show wpAny _ _ (exec (Stmt.For _ _ _ _ _) _) _ _ _)); (first | (first | (with_reducible show wpAny _ _ _ _ _ _) | (with_reducible show (if _ then _ else _)) | (with_reducible show Frag.In _ _ ∧ _) | (with_reducible show KdsFill _ _ _ _ _ _ _ _)) | (dsimp only; (first | (with_reducible show wpAny _ _ _ _ _ _) | (with_reducible show (if _ then _ else _)) | (with_reducible show Frag.In _ _ ∧ _) | (with_reducible show KdsFill _ _ _ _ _ _ _ _)))); (first | walk1 | (dsimp only; walk1)))))
        refine SB.add (fun t₆ k₆ => ?_) ?hz
        case hz =>
          have := hln (a :: r) (by simp)
          show (a :: r).length + 1 ≤ sizeLine
          rw [sizeLine_eq]; omega
        have eadd : (mk (a :: r) ++ ch c : Str) = mk (a :: r ++ [c]) := mk_append _ _
        dsimp only
        erw [eadd]
        (first | repeat' (first | ((fail_if_success (first | with_reducible show wpAny _ _ (subscriptTail _ _ (Value.ref _) _) _ _ _ | with_reducible show wpAny _ _ (compareOp CmpOp.NotEq (Value.ref _) (Value.ref _)) _ _ _ | with_reducible show wpAny _ _ (call (Value.ref _) _) _ _ _ | with_reducible show wpAny _ _ (exec (Stmt.For _ _ _ _ _) _) _ _ _)); (first | (first | (with_reducible show wpAny _ _ _ _ _ _) | (with_reducible show (if _ then _ else _)) | (with_reducible show Frag.In _ _ ∧ _) | (with_reducible show KdsFill _ _ _ _ _ _ _ _)) | (dsimp only; (first | (with_reducible show wpAny _ _ _ _ _ _) | (with_reducible show (if _ then _ else _)) | (with_reducible show Frag.In _ _ ∧ _) | (with_reducible show KdsFill _ _ _ _ _ _ _ _)))); (first | walk1 | (dsimp only; walk1)))))
        refine ki_setBack (N₅ (P, _) (.tail _ (.tail _ (.head _)))).1 (by decide) (by simp; omega) (by decide) ?_
        have eits : ∀ v : Value, (us ++ [Value.str (mk (a :: r)) tp]).toArray.setIfInBounds ((-1 : Int) + (us ++ [Value.str (mk (a :: r)) tp]).toArray.size).toNat v = (us ++ [v]).toArray := by
          intro v
          have : ((-1 : Int) + (us ++ [Value.str (mk (a :: r)) tp]).toArray.size).toNat = us.length := by simp; omega
          rw [this]
          simp
        have F₇ := F₅.change (Heap.SameBut.update _ P (Obj.mapSeq (·.setIfInBounds ((-1 : Int) + (us ++ [Value.str (mk (a :: r)) tp]).toArray.size).toNat (Value.str (mk (a :: r ++ [c])) t₆)))) fP.1 fP.2
        have N₇ := ki_turn (pre := [(I, oI')]) (post := []) (its' := (us ++ [Value.str (mk (a :: r ++ [c])) t₆]).toArray) (n' := k) (·.setIfInBounds ((-1 : Int) + (us ++ [Value.str (mk (a :: r)) tp]).toArray.size).toNat (Value.str (mk (a :: r ++ [c])) t₆)) (news_tail N₅) (by simpa using hPI.symm) (by simp) (eits _) (by simp)
        generalize Heap.update _ P _ = h₇ at F₇ N₇ ⊢
        clear F₅ N₅
        dsimp only [List.cons_append, List.nil_append] at N₇ ⊢
        (first | repeat' (first | ((fail_if_success (first | with_reducible show wpAny _ _ (subscriptTail _ _ (Value.ref _) _) _ _ _ | with_reducible show wpAny _ _ (compareOp CmpOp.NotEq (Value.ref _) (Value.ref _)) _ _ _ | with_reducible show wpAny _ _ (call (Value.ref _) _) _ _ _ | with_reducible show wpAny _ _ (exec (Stmt.For _ _ _ _ _) _) _ _ _)); (first | (first | (with_reducible show wpAny _ _ _ _ _ _) | (with_reducible show (if _ then _ else _)) | (with_reducible show Frag.In _ _ ∧ _) | (with_reducible show KdsFill _ _ _ _ _ _ _ _)) | (dsimp only; (first | (with_reducible show wpAny _ _ _ _ _ _) | (with_reducible show (if _ then _ else _)) | (with_reducible show Frag.In _ _ ∧ _) | (with_reducible show KdsFill _ _ _ _ _ _ _ _)))); (first | walk1 | (dsimp only; walk1)))))
        refine hnx _ ⟨_, _, _, oI', _, k, rfl, F₇, ?_, fun z h1 h2 => by simp [h1, h2], ?_, N₇⟩ ⟨oI', (N₇ _ (.head _)).1, by assumption, by assumption⟩
        · simp only [show (("pieces" : Str) = "sign") = False from by decide +kernel, if_false]; simp
        · rw [e1, List.concat_eq_append]
          unfold pstep
          rw [hla]
          dsimp only
          rw [if_pos hj, List.dropLast_concat, List.map_append]
          exact StrsAre.snoc hU
  case done =>
    rintro _ h' tk' ⟨h₉, tk, m, oI, vs, k, rfl, F, hv, hm, hS, N⟩ hk
    have F' := fr_but F hk (by simpa using fI.1) (by simpa using fI.2.symm)
    rw [canon2 hv hm] at F'
    have N' : News s.heap s.heap.objs.size h' [(P, W.listOf vs.toArray k)] := news_but (news_tail N) hk (by simpa using hPI)
    clear F hm N hk
    dsimp only
    (first | repeat' (first | ((fail_if_success (first | with_reducible show wpAny _ _ (subscriptTail _ _ (Value.ref _) _) _ _ _ | with_reducible show wpAny _ _ (compareOp CmpOp.NotEq (Value.ref _) (Value.ref _)) _ _ _ | with_reducible show wpAny _ _ (call (Value.ref _) _) _ _ _ | with_reducible show wpAny _ _ (exec (Stmt.For _ _ _ _ _) _) _ _ _)); (first | (first | (with_reducible show wpAny _ _ _ _ _ _) | (with_reducible show (if _ then _ else _)) | (with_reducible show Frag.In _ _ ∧ _) | (with_reducible show KdsFill _ _ _ _ _ _ _ _)) | (dsimp only; (first | (with_reducible show wpAny _ _ _ _ _ _) | (with_reducible show (if _ then _ else _)) | (with_reducible show Frag.In _ _ ∧ _) | (with_reducible show KdsFill _ _ _ _ _ _ _ _)))); (first | walk1 | (dsimp only; walk1)))))
    rw [show x.cps.toList.take x.cps.size = x.cps.toList by rw [List.take_of_length_le]; simp] at hS
    exact h _ _ _ vs k F'.keep (N' _ (.head _)).1 fP.2 hS
end Mine
end
section
open PySem PySem.W PySem.Calls PyProof.Rows PySem.W.X PySem.Builtin
set_option maxRecDepth 100000
set_option maxHeartbeats 1000000
namespace Mine
variable {w : World} {A : Around} {E : Value → Shared → Prop} {h : Heap} {g : Array GenState} {dr : Drawn} {tk : Nat} {os : OsState}

theorem sub_self {K : Addr} {oK : Obj} {cd : ClassData} {l : List Value} {Q : Bool → Shared → Prop} (hK : h.get? K = some oK) (hd : oK.data = .cls cd) (hm : cd.mro = .ref K :: l) (hq : Q true ⟨h, g, dr, tk, os⟩) :
    wpAny (model PR w) A (isSubtype (.ref K) (.ref K)) Q E ⟨h, g, dr, tk, os⟩ := by
  unfold isSubtype
  repeat (any_goals (first | assumption | (with_reducible refine wpAny_loadPart_at hK ?_; rw [hd]) | (with_reducible refine PySem.wpAny_load' hK ?_; rw [hd]) | wp_step))
  rw [hm]
  simpa using hq
theorem super_self {K : Addr} {oK : Obj} {cd : ClassData} {l : List Value} {Q : Value → Shared → Prop} (hK : h.get? K = some oK) (hd : oK.data = .cls cd) (hm : cd.mro = .ref K :: l)
    (hq : ∀ h', h'.get? h.objs.size = some { cls := .type "super", dict := none, data := .fields #[.ref K, .ref K, .ref K], slots := #[] } → Kp h h' → Q (.ref h.objs.size) ⟨h', g, dr, tk, os⟩) :
    wpAny (model PR w) A (call (.type "super") [.ref K, .ref K]) Q E ⟨h, g, dr, tk, os⟩ := by
  refine ks_callType_codesW (Q₁ := fun obj s₁ => obj = .ref h.objs.size ∧ s₁ = ⟨h.push { cls := .type "super", data := .fields #[.none, .none, .none] }, g, dr, tk, os⟩) F.ks_called_super (ks_wpAny_checkTypeCall_super hK hd) F.ks_entry_super_init
    (ks_code_super_new _ _ ⟨rfl, rfl⟩) fun obj s₁ h₁ => ?_
  obtain ⟨rfl, rfl⟩ := h₁
  have hso : (h.push { cls := .type "super", data := .fields #[.none, .none, .none] }).get? h.objs.size = some { cls := .type "super", dict := none, data := .fields #[.none, .none, .none], slots := #[] } := Heap.get?_push_at rfl rfl
  have hK' := Heap.get?_push_of_some { cls := .type "super", data := .fields #[.none, .none, .none] } hK
  refine ⟨⟨_, hso, rfl⟩, F.ks_initArgs_super _ _ _, ?_⟩
  unfold Builtin.«super.__init__» noKeywords
  repeat (first | (with_reducible refine ks_wpAny_isType_cls hK' hd ?_) | (with_reducible refine sub_self hK' hd hm ?_) | (with_reducible refine ks_wpAny_super_set3 hso ?_) | wp_step)
  intro h' e k
  exact ⟨rfl, hq h' e fun y o ey => k y o (Nat.ne_of_lt (Heap.lt_size ey)) (Heap.get?_push_of_some _ ey)⟩

theorem sub_obj {K : Addr} {oK : Obj} {cd : ClassData} {v b : Value} {Q : Bool → Shared → Prop} (hK : h.get? K = some oK) (hd : oK.data = .cls cd) (hm : cd.mro = [.ref K, .type "object"]) (hv : v = .ref K) (hb : b = .type "object") (hq : Q true ⟨h, g, dr, tk, os⟩) :
    wpAny (model PR w) A (isSubtype v b) Q E ⟨h, g, dr, tk, os⟩ := by
  subst hv hb
  unfold isSubtype
  repeat (any_goals (first | assumption | (with_reducible refine wpAny_loadPart_at hK ?_; rw [hd]) | (with_reducible refine PySem.wpAny_load' hK ?_; rw [hd]) | wp_step))
  rw [hm]
  simpa using hq
/-- super(K, K).__init_subclass__ -/
theorem super_attr (X : (K0 w.params).In h) {K so : Addr} {oK : Obj} {cd : ClassData} {Q : Value → Shared → Prop} (hK : h.get? K = some oK) (hd : oK.data = .cls cd) (hm : cd.mro = [.ref K, .type "object"]) (hc : oK.cls = .type "type")
    (hso : h.get? so = some { cls := .type "super", dict := none, data := .fields #[.ref K, .ref K, .ref K], slots := #[] })
    (hq : ∀ h' m, Kp h h' → h'.get? m = some { cls := .type "builtin_function_or_method", data := .fields #[.builtin "object.__init_subclass__", .ref K] } → Q (.ref m) ⟨h', g, dr, tk + 1, os⟩) :
    wpAny (model PR w) A (getAttr (.ref so) "__init_subclass__") Q E ⟨h, g, dr, tk, os⟩ := by
  have tso : (⟨h, g, dr, tk, os⟩ : Shared).TypeIs (.ref so) "super" := ⟨_, hso, rfl⟩
  have l1 : typeLookup (.type "super") "__getattribute__" = pure (some (.builtin "super.__getattribute__")) := F.ks_slot_super_ga.lookup
  have l2 := F.ks_slot_super_ga.bind (Value.ref so)
  unfold getAttr
  repeat wp_step
  refine codeAny_call_builtin F.ks_slot_super_ga.plain F.ks_entry_super_ga (F.ks_slot_super_ga.check _ _ _ _ _ _ _ _ ⟨_, hso, rfl⟩ (F.ks_gaArgs_super _ _) ?_)
  have ed : List.drop 1 (List.dropWhile (fun x => x != Value.ref K) [Value.ref K, Value.type "object"]) = [Value.type "object"] := by simp
  have h2 := X 2 _ rfl
  unfold Builtin.«super.__getattribute__»
  repeat wp_step
  rw [hd]
  repeat ((fail_if_success (with_reducible show wpAny _ _ (forIn _ _ _) _ _ _)); wp_step)
  show wpAny _ _ (forIn (List.drop 1 (List.dropWhile (fun x => x != Value.ref K) cd.mro)) _ _) _ _ _
  rw [hm, ed]
  repeat wp_step
  refine wpAny_of_eq (a := some (.builtin "classmethod_descriptor.__get__")) (by kernel_rfl) ?_
  repeat ((fail_if_success (with_reducible show codeAny _ _ _ _ _)); wp_step)
  have tb : (⟨h, g, dr, tk + 1, os⟩ : Shared).TypeIs (.builtin "object.__init_subclass__") "classmethod_descriptor" := by
    show typeOf _ = _
    kernel_rfl
  refine codeAny_call_builtin KFB.slot_get.plain KFB.entry_get (KFB.slot_get.check _ _ _ _ _ _ _ _ tb (KFB.args_get _ _ _) ?_)
  unfold Builtin.«classmethod_descriptor.__get__»
  repeat wp_step
  refine sub_obj hK hd hm (by kernel_rfl) (by kernel_rfl) ?_
  repeat wp_step
  exact hq _ _ (fun b o e => Heap.get?_push_of_some _ e) (Heap.get?_push_at rfl rfl)
end Mine
end
section
open PySem PySem.W PySem.Calls PyProof.Rows PySem.W.X PySem.Builtin
set_option maxRecDepth 100000
set_option maxHeartbeats 1000000
namespace Mine
variable {w : World} {A : Around} {E : Value → Shared → Prop} {h : Heap} {g : Array GenState} {dr : Drawn} {tk : Nat} {os : OsState}
/-- a wide surrounding -/
noncomputable abbrev AX : Around := { handled := none, depth := 900, frames := none, guards := none, units := 9000 }
theorem toAX {α : Type} {M : Model} {A : Around} {n : Nat} {t : Sem α} {Q : α → Shared → Prop} {E : Value → Shared → Prop} {s : Shared} (hA : Am A n) (hn : n < 900)
    (h : wpAny M AX t Q E s) : wpAny M A t Q E s := fun Γ p hΓ => h Γ p ⟨hΓ.1.trans hA.handled, Nat.le_trans hΓ.2.1 (Nat.le_trans hA.depth (Nat.le_of_lt hn)), (fun l e => nomatch e), (fun l e => nomatch e), Nat.le_trans hΓ.2.2.2.2 (Nat.le_trans hA.units (by show _ ≤ 9000; omega))⟩
/-- the class, made -/
noncomputable abbrev clsO (nsA K b : Addr) (t m1 : Tok) : Obj := { cls := .type "type", data := .cls { name := "K", bases := [.type "object"], mro := [.ref K, .type "object"], ns := nsA, qualname := "cmp_to_key.<locals>.K", hasDict := false, slotNames := ["obj"] }, slots := #[some (.ref b), none, some (.str "K" t), some (.str "cmp_to_key.<locals>.K" m1), some (.builtin "object.__new__"), some (.bool false)] }
end Mine
end
section
open PySem PySem.W PySem.Calls PyProof.Rows PySem.W.X PySem.Builtin
set_option maxRecDepth 100000
namespace Mine
variable {w : World} {A : Around} {E : Value → Shared → Prop} {h h₀ : Heap} {g : Array GenState} {dr : Drawn} {tk : Nat} {os : OsState} {news news' : List (Addr × Obj)}
/-- a heap over another one: what stood stays, and what is new, without an order -/
structure Mm (h₀ h : Heap) (news : List (Addr × Obj)) : Prop where
  keep : Kp h₀ h
  nw : ∀ p ∈ news, h.get? p.1 = some p.2 ∧ h₀.get? p.1 = none
  nd : (news.map (·.1)).Nodup
inductive Up (a : Addr) (o o' : Obj) : List (Addr × Obj) → List (Addr × Obj) → Prop
  | head {l} : Up a o o' ((a, o) :: l) ((a, o') :: l)
  | tail {p l l'} : Up a o o' l l' → Up a o o' (p :: l) (p :: l')
theorem Up.keys {a : Addr} {o o' : Obj} {l l' : List (Addr × Obj)} (u : Up a o o' l l') : l'.map (·.1) = l.map (·.1) := by
  induction u with
  | head => rfl
  | tail _ ih => simp [ih]
theorem Up.mem {a : Addr} {o o' : Obj} {l l' : List (Addr × Obj)} (u : Up a o o' l l') : (a, o) ∈ l := by
  induction u with
  | head => exact .head _
  | tail _ ih => exact .tail _ ih
theorem Up.of {a : Addr} {o o' : Obj} {l l' : List (Addr × Obj)} (u : Up a o o' l l') (nd : (l.map (·.1)).Nodup) : ∀ p ∈ l', p = (a, o') ∨ (p ∈ l ∧ p.1 ≠ a) := by
  induction u with
  | @head l =>
    intro p hp
    rcases List.mem_cons.mp hp with rfl | hp
    · exact .inl rfl
    · refine .inr ⟨.tail _ hp, fun e => ?_⟩
      rw [List.map_cons, List.nodup_cons] at nd
      have z := List.mem_map_of_mem (f := (·.1)) hp
      rw [e] at z
      exact nd.1 z
  | @tail q l l' u ih =>
    intro p hp
    rw [List.map_cons, List.nodup_cons] at nd
    rcases List.mem_cons.mp hp with rfl | hp
    · exact .inr ⟨.head _, fun e => nd.1 (e ▸ List.mem_map_of_mem u.mem)⟩
    · rcases ih nd.2 p hp with h | h
      · exact .inl h
      · exact .inr ⟨.tail _ h.1, h.2⟩
theorem Mm.start (h : Heap) : Mm h h [] := ⟨fun _ _ e => e, fun _ hp => (nomatch hp), List.nodup_nil⟩
theorem Mm.at (D : Mm h₀ h news) {a : Addr} {o : Obj} (e : (a, o) ∈ news) : h.get? a = some o := (D.nw _ e).1
theorem Mm.at' (D : Mm h₀ h news) (i : Nat) {a : Addr} {o : Obj} (e : news[i]? = some (a, o)) : h.get? a = some o := D.at (List.mem_of_getElem? e)
theorem Mm.alloc (D : Mm h₀ h news) {o : Obj} (hf : o.isFreed = false) : Mm h₀ (h.push o) ((h.objs.size, o) :: news) := by
  refine ⟨fun b o' e => Heap.get?_push_of_some _ (D.keep b o' e), fun p hp => ?_, ?_⟩
  · rcases List.mem_cons.mp hp with rfl | hp
    · refine ⟨Heap.get?_push_size _ hf, ?_⟩
      cases q : h₀.get? h.objs.size with
      | none => rfl
      | some o' => exact absurd (Heap.lt_size (D.keep _ _ q)) (Nat.lt_irrefl _)
    · exact ⟨Heap.get?_push_of_some _ (D.nw p hp).1, (D.nw p hp).2⟩
  · rw [List.map_cons, List.nodup_cons]
    refine ⟨fun q => ?_, D.nd⟩
    obtain ⟨p, hp, e⟩ := List.mem_map.mp q
    have z := Heap.lt_size (D.nw p hp).1
    rw [e] at z
    exact absurd z (Nat.lt_irrefl _)
theorem Mm.upd (D : Mm h₀ h news) {a : Addr} {o : Obj} {f : Obj → Obj} (u : Up a o (f o) news news') (hf : (f o).isFreed = false) : Mm h₀ (h.update a f) news' := by
  have z := D.nw _ u.mem
  refine ⟨fun b o' e => ?_, fun p hp => ?_, u.keys ▸ D.nd⟩
  · rw [Heap.get?_update_ne _ _ _ _ (fun q => by rw [q, z.2] at e; cases e)]; exact D.keep b o' e
  · rcases u.of D.nd p hp with rfl | ⟨hp, hne⟩
    · exact ⟨Heap.get?_update_self f z.1 hf, z.2⟩
    · exact ⟨by rw [Heap.get?_update_ne _ _ _ _ hne]; exact (D.nw p hp).1, (D.nw p hp).2⟩
theorem Mm.none_of (D : Mm h₀ h news) {a : Addr} (e : h.get? a = none) : h₀.get? a = none := by
  cases q : h₀.get? a with
  | none => rfl
  | some o => rw [D.keep _ _ q] at e; cases e
theorem Mm.hide {l : List (Addr × Obj)} (hl : ∀ p ∈ l, h.get? p.1 = some p.2) (nd : (l.map (·.1)).Nodup) : Mm (hideAll h (l.map (·.1))) h l :=
  ⟨fun _ _ e => of_hideAll _ e, fun p hp => ⟨hl p hp, hideAll_none _ (List.mem_map_of_mem hp)⟩, nd⟩
section
variable {o : Obj} {α : Type}
/-- the heap, told by its ledger -/
noncomputable def hp {h₀ h : Heap} {news : List (Addr × Obj)} (_ : Mm h₀ h news) : Heap := h
theorem hIn {t : Sem α} {Q : α → Shared → Prop} (x : wpAny (model PR w) A t Q E ⟨hp (Mm.start h), g, dr, tk, os⟩) : wpAny (model PR w) A t Q E ⟨h, g, dr, tk, os⟩ := x
theorem hIn' (D : Mm h₀ h news) {t : Sem α} {Q : α → Shared → Prop} (x : wpAny (model PR w) A t Q E ⟨hp D, g, dr, tk, os⟩) : wpAny (model PR w) A t Q E ⟨h, g, dr, tk, os⟩ := x
theorem hBack {D : Mm h₀ h news} {t : Sem α} {Q : α → Shared → Prop} (x : wpAny (model PR w) A t Q E ⟨h, g, dr, tk, os⟩) : wpAny (model PR w) A t Q E ⟨hp D, g, dr, tk, os⟩ := x
theorem hOut {D : Mm h₀ h news} {t : Sem α} {Q : α → Shared → Prop} (x : ∀ h', Mm h₀ h' news → wpAny (model PR w) A t Q E ⟨h', g, dr, tk, os⟩) : wpAny (model PR w) A t Q E ⟨hp D, g, dr, tk, os⟩ := x _ D
theorem hEnd {D : Mm h₀ h news} {Q : α → Shared → Prop} {v : α} (x : ∀ h', Mm h₀ h' news → Q v ⟨h', g, dr, tk, os⟩) : Q v ⟨hp D, g, dr, tk, os⟩ := x _ D
theorem hAlloc {D : Mm h₀ h news} {Q : Addr → Shared → Prop} (hf : o.isFreed = false) (x : ∀ a h', ∀ D' : Mm h₀ h' ((a, o) :: news), Q a ⟨hp D', g, dr, tk, os⟩) : wpAny (model PR w) A (alloc o) Q E ⟨hp D, g, dr, tk, os⟩ :=
  wpAny_alloc (x _ _ (D.alloc hf))
theorem hUpd {D : Mm h₀ h news} {a : Addr} {f : Obj → Obj} {Q : Unit → Shared → Prop} (u : Up a o (f o) news news') (hf : (f o).isFreed = false) (x : Q () ⟨hp (D.upd u hf), g, dr, tk, os⟩) :
    wpAny (model PR w) A (update a f) Q E ⟨hp D, g, dr, tk, os⟩ := wpAny_update (D.at u.mem) x
theorem hUpdP {D : Mm h₀ h news} {a : Addr} {part : Option Value} {f : Obj → Obj} {Q : Unit → Shared → Prop} (u : Up a o (f o) news news') (hf : (f o).isFreed = false) (x : Q () ⟨hp (D.upd u hf), g, dr, tk, os⟩) :
    wpAny (model PR w) A (updatePart a part f) Q E ⟨hp D, g, dr, tk, os⟩ := wpAny_updatePart (D.at u.mem) x
theorem hLd {D : Mm h₀ h news} {a : Addr} {Q : Obj → Shared → Prop} (hm : (a, o) ∈ news) (x : Q o ⟨hp D, g, dr, tk, os⟩) : wpAny (model PR w) A (load a) Q E ⟨hp D, g, dr, tk, os⟩ := wpAny_load' (D.at hm) x
theorem hLdP {D : Mm h₀ h news} {a : Addr} {part : Option Value} {Q : Obj → Shared → Prop} (hm : (a, o) ∈ news) (x : Q o ⟨hp D, g, dr, tk, os⟩) : wpAny (model PR w) A (loadPart a part) Q E ⟨hp D, g, dr, tk, os⟩ := wpAny_loadPart' (D.at hm) x
theorem hOl {D : Mm h₀ h news} {a : Addr} {Q : Obj → Shared → Prop} (e : h₀.get? a = some o) (x : Q o ⟨hp D, g, dr, tk, os⟩) : wpAny (model PR w) A (load a) Q E ⟨hp D, g, dr, tk, os⟩ := wpAny_load' (D.keep a o e) x
theorem hOlP {D : Mm h₀ h news} {a : Addr} {part : Option Value} {Q : Obj → Shared → Prop} (e : h₀.get? a = some o) (x : Q o ⟨hp D, g, dr, tk, os⟩) : wpAny (model PR w) A (loadPart a part) Q E ⟨hp D, g, dr, tk, os⟩ := wpAny_loadPart' (D.keep a o e) x
/-- what is left behind a bind, told without a binder -/
noncomputable def BQ (w : World) (A : Around) {β : Type} (f : α → Sem β) (Q : β → Shared → Prop) (E : Value → Shared → Prop) (v : α) (s : Shared) : Prop := wpAny (model PR w) A (f v) Q E s
theorem bqIn {β : Type} {m : Sem α} {f : α → Sem β} {Q : β → Shared → Prop} {s : Shared} (x : wpAny (model PR w) A m (BQ w A f Q E) E s) : wpAny (model PR w) A (m >>= f) Q E s := wpAny_bind x
theorem bqGo {β : Type} {f : α → Sem β} {Q : β → Shared → Prop} {v : α} {s : Shared} (x : wpAny (model PR w) A (f v) Q E s) : BQ w A f Q E v s := x
theorem hIn1 {Q : α → Shared → Prop} {v : α} (x : Q v ⟨hp (Mm.start h), g, dr, tk, os⟩) : Q v ⟨h, g, dr, tk, os⟩ := x
theorem hIn2 (D : Mm h₀ h news) {Q : α → Shared → Prop} {v : α} (x : Q v ⟨hp D, g, dr, tk, os⟩) : Q v ⟨h, g, dr, tk, os⟩ := x
theorem hAllocN {D : Mm h₀ h news} {k : Addr → Sem α} {Q : α → Shared → Prop} (hf : o.isFreed = false) (x : ∀ a h', ∀ D' : Mm h₀ h' ((a, o) :: news), wpAny (model PR w) A (k a) Q E ⟨hp D', g, dr, tk, os⟩) :
    wpAny (model PR w) A (Sem.alloc o k) Q E ⟨hp D, g, dr, tk, os⟩ := by
  show wpAny _ _ (alloc o >>= k) _ _ _
  exact wpAny_bind (hAlloc hf x)
theorem hEnter {D : Mm h₀ h news} {Q : Unit → Shared → Prop} (hl : h₀.NoLimit) (hd : A.depth < recursionLimit) (x : Q () ⟨hp D, g, dr, tk, os⟩) : wpAny (model PR w) A enterFrame Q E ⟨hp D, g, dr, tk, os⟩ := wpAny_enterFrame (hl.keeps D.keep) hd x
theorem wpTry {M : Model} {m : Sem α} {k : Value → Sem α} {Q : α → Shared → Prop} {s : Shared} (h : wpAny M A m Q (fun e s' => wpAny M A (k e) Q E s') s) : wpAny M A (Sem.tryCatch m k) Q E s := wpAny_tryCatch h
end
theorem free1 {sc : Scope} {x : Str} (hfree : (sc.names.filter (·.2 == .free)).map (·.1) = [x]) : sc.freeNames = [x] := by
  unfold Scope.freeNames; rw [hfree]; exact List.mergeSort_singleton _
theorem free0 {sc : Scope} (hfree : (sc.names.filter (·.2 == .free)).map (·.1) = []) : sc.freeNames = [] := by
  unfold Scope.freeNames; rw [hfree]; exact List.mergeSort_nil
theorem mm_head {x : Addr} {o o' : Obj} {l : List (Addr × Obj)} (D : Mm h₀ h ((x, o) :: l)) (e : o = o') : Mm h₀ h ((x, o') :: l) := e ▸ D
theorem Mm.join' {h' : Heap} {more : List (Addr × Obj)} (D : Mm h₀ h news) (D' : Mm h h' more) : Mm h₀ h' (more ++ news) := by
  refine ⟨fun b o e => D'.keep _ _ (D.keep _ _ e), fun p hp => ?_, ?_⟩
  · rcases List.mem_append.mp hp with hp | hp
    · exact ⟨(D'.nw p hp).1, D.none_of (D'.nw p hp).2⟩
    · exact ⟨D'.keep _ _ (D.nw p hp).1, (D.nw p hp).2⟩
  · rw [List.map_append, List.nodup_append]
    refine ⟨D'.nd, D.nd, fun a ha b hb q => ?_⟩
    subst q
    obtain ⟨p, hp, e⟩ := List.mem_map.mp ha
    obtain ⟨p', hp', e'⟩ := List.mem_map.mp hb
    have := (D'.nw p hp).2
    rw [e, ← e', (D.nw p' hp').1] at this
    cases this
end Mine
end
section
open PySem PySem.W PySem.Calls PyProof.Rows PySem.W.X PySem.Builtin
set_option maxRecDepth 100000
set_option maxHeartbeats 1000000
namespace Mine
variable {w : World} {A : Around} {E : Value → Shared → Prop} {h : Heap} {g : Array GenState} {dr : Drawn} {tk : Nat} {os : OsState}
noncomputable abbrev tupO (vs : List Value) : Obj := { cls := .type "tuple", data := .seq vs.toArray }
noncomputable abbrev funO (d : FuncData) : Obj := { cls := .type "function", data := .func d }
noncomputable abbrev dicO (es : Array DictEntry) (n : Nat) : Obj := { cls := .type "dict", data := .dict es n }
noncomputable abbrev en (h : Int) (k : Str) (t : Tok) (v : Value) : DictEntry := ⟨h, .str k t, v⟩

/-- the hash of a name -/
noncomputable def hashOf (w : World) (x : Str) : Int := if x.cps.isEmpty = true then 0 else reduceHash (w.params.strHash x.cps)
/-- the slot's descriptor -/
noncomputable abbrev memO (K : Addr) (t : Tok) : Obj := { cls := .type "member_descriptor", data := .fields #[.str "obj" t, .ref K, .builtin "proto.slot", .builtin "proto.slot#set", rawInt 0] }
/-- the namespace that the class's body leaves -/
noncomputable abbrev nsK (hs : Nat → Int) (ts : Nat → Tok) (m0 m1 m2 : Tok) (sl f1 f2 f3 f4 f5 f6 st : Addr) : Array DictEntry :=
  #[en (hs 0) "__module__" (ts 0) (.str "cpy313.functools" m0), en (hs 1) "__qualname__" (ts 1) (.str "cmp_to_key.<locals>.K" m1), en (hs 2) "__firstlineno__" (ts 2) (.int 59 m2),
    en (hs 3) "__slots__" (ts 3) (.ref sl), en (hs 4) "__init__" (ts 4) (.ref f1), en (hs 5) "__lt__" (ts 5) (.ref f2), en (hs 6) "__gt__" (ts 6) (.ref f3), en (hs 7) "__eq__" (ts 7) (.ref f4),
    en (hs 8) "__le__" (ts 8) (.ref f5), en (hs 9) "__ge__" (ts 9) (.ref f6), en (hs 10) "__hash__" (ts 10) .none, en (hs 11) "__static_attributes__" (ts 11) (.ref st)]
/-- the namespace of the class, made -/
noncomputable abbrev nsF (hs : Nat → Int) (ts : Nat → Tok) (m0 m2 : Tok) (sl f1 f2 f3 f4 f5 f6 st ds : Addr) : Array DictEntry :=
  #[en (hs 0) "__module__" (ts 0) (.str "cpy313.functools" m0), en (hs 2) "__firstlineno__" (ts 2) (.int 59 m2),
    en (hs 3) "__slots__" (ts 3) (.ref sl), en (hs 4) "__init__" (ts 4) (.ref f1), en (hs 5) "__lt__" (ts 5) (.ref f2), en (hs 6) "__gt__" (ts 6) (.ref f3), en (hs 7) "__eq__" (ts 7) (.ref f4),
    en (hs 8) "__le__" (ts 8) (.ref f5), en (hs 9) "__ge__" (ts 9) (.ref f6), en (hs 10) "__hash__" (ts 10) .none, en (hs 11) "__static_attributes__" (ts 11) (.ref st), en (hs 12) "obj" (ts 12) (.ref ds), en (hs 13) "__doc__" (ts 13) .none]
/-- the class as it stands -/
structure KMade (h h' : Heap) (K ns ds b : Addr) (hs : Nat → Int) (ts : Nat → Tok) (m0 m1 m2 t : Tok) (sl f1 f2 f3 f4 f5 f6 st : Addr) : Prop where
  keep : Kp h h'
  cls : h'.get? K = some (clsO ns K b t m1)
  nK : h.get? K = none
  dict : ∃ nd, h'.get? ns = some (dicO (nsF hs ts m0 m2 sl f1 f2 f3 f4 f5 f6 st ds) nd)
  nns : h.get? ns = none
  mem : ∃ td, h'.get? ds = some (memO K td)
  nds : h.get? ds = none

theorem slots_read {sl f1 f2 f3 f4 f5 f6 st : Addr} {hs : Nat → Int} {ts : Nat → Tok} {m0 m1 m2 m3 : Tok} {ns : Nat} {Q : Slots.Plan → Shared → Prop} (hsl : h.get? sl = some { cls := .type "list", data := .seq #[.str "obj" m3] ns })
    (hq : ∀ h', Kp h h' → Q { names := ["obj"], dict := false, weak := false, inherited := [] } ⟨h', g, dr, tk, os⟩) :
    wpAny (model PR w) A (Slots.read "K" [.type "object"] (nsK hs ts m0 m1 m2 sl f1 f2 f3 f4 f5 f6 st)) Q E ⟨h, g, dr, tk, os⟩ := by
  refine hIn ?_
  unfold Slots.read
  repeat (first | with_reducible refine wpAny_onRaise ?_ | ((with_reducible show wpAny _ _ enterFrame _ _ _); (with_reducible rename Heap.NoLimit _ => hl); refine Mine.hEnter hl (by decide) ?_) | ((with_reducible show wpAny _ _ (List.mapM.loop mkText (Scope.freeNames _) []) _ _ _); (first | (rw [Mine.free1 (x := Str.ofString "mycmp") ?hfr]; (case hfr => (kernel_rfl!; done))) | (rw [Mine.free0 ?hfr]; (case hfr => (kernel_rfl!; done))))) | with_reducible refine Mine.bqIn ?_ | with_reducible refine Mine.bqGo ?_ | with_reducible refine PySem.wpAny_pure ?_ | with_reducible refine PySem.wpAny_rule ?_ | with_reducible refine PySem.wpAny_holding ?_ | with_reducible refine PySem.wpAny_standAt ?_ | with_reducible refine PySem.wpAny_point ?_ | with_reducible refine PySem.wpAny_fresh' ?_ | with_reducible refine Mine.wpTry ?_ | with_reducible refine PySem.wpAny_askSetting ?_ | ((with_reducible show wpAny _ _ (alloc _) _ _ _); (refine Mine.hAlloc rfl ?_); intro _ _ _) | ((with_reducible show wpAny _ _ (ite _ _ _) _ _ _); (first | (refine PySem.wpAny_ite_false ?hc ?_; (case hc => (kernel_rfl!; done))) | (refine PySem.wpAny_ite_true ?hc ?_; (case hc => (kernel_rfl!; done))) | (refine PySem.wpAny_ite_false ?hc ?_; (case hc => (simp [*]; done))) | (refine PySem.wpAny_ite_true ?hc ?_; (case hc => (simp [*]; done))))) | ((with_reducible show wpAny _ _ (load _) _ _ _); (first | (refine' Mine.hLd ?hm ?_; (case hm => (first | (repeat (first | exact List.Mem.head _ | apply List.Mem.tail))))) | (refine Mine.hOl (by with_reducible assumption) ?_) | ((with_reducible rename Frag.In _ _ => XF); (refine Mine.hOl (XF _ _ rfl) ?_)))) | ((with_reducible show wpAny _ _ (loadPart _ _) _ _ _); (first | (refine' Mine.hLdP ?hm ?_; (case hm => (first | (repeat (first | exact List.Mem.head _ | apply List.Mem.tail))))) | (refine Mine.hOlP (by with_reducible assumption) ?_) | ((with_reducible rename Frag.In _ _ => XF); (refine Mine.hOlP (XF _ _ rfl) ?_)))) | ((with_reducible show wpAny _ _ (update _ _) _ _ _); (first | (refine' Mine.hUpd ?hu ?hf ?_; (case hu => (repeat (first | exact Mine.Up.head | apply Mine.Up.tail))); (case hf => rfl)) | (refine' Mine.hUpdP ?hu ?hf ?_; (case hu => (repeat (first | exact Mine.Up.head | apply Mine.Up.tail))); (case hf => rfl)))) | ((with_reducible show wpAny _ _ (updatePart _ _ _) _ _ _); (first | (refine' Mine.hUpd ?hu ?hf ?_; (case hu => (repeat (first | exact Mine.Up.head | apply Mine.Up.tail))); (case hf => rfl)) | (refine' Mine.hUpdP ?hu ?hf ?_; (case hu => (repeat (first | exact Mine.Up.head | apply Mine.Up.tail))); (case hf => rfl)))) | ((with_reducible show wpAny _ _ (isSubtype (.type _) _) _ _ _); refine wpAny_of_eq (a := true) ?hc ?_; (case hc => (rw [isSubtype_type]; kernel_rfl!))) | ((with_reducible show wpAny _ _ (PySem.Builtin.notOverATurnedClass _) _ _ _); refine wpAny_of_eq (a := ()) ?hc ?_; (case hc => kernel_rfl!)) | ((first | (with_reducible show wpAny _ _ (PySem.Builtin.extendedBase _) _ _ _) | (with_reducible show wpAny _ _ (PySem.Builtin.Slots.bestBase _) _ _ _)); refine wpAny_of_eq (a := .type "object") ?hc ?_; (case hc => kernel_rfl!)) | ((first | (with_reducible show wpAny _ _ (PySem.Builtin.Slots.givesDict _) _ _ _) | (with_reducible show wpAny _ _ (PySem.Builtin.Slots.givesWeak _) _ _ _) | (with_reducible show wpAny _ _ (PySem.Builtin.Slots.varSize _) _ _ _)); refine wpAny_of_eq (a := false) ?hc ?_; (case hc => kernel_rfl!)) | ((with_reducible show wpAny _ _ (typeLookup (.ref _) _) _ _ _); unfold typeLookup) | ((with_reducible show wpAny _ _ (classOwn (.type _) _) _ _ _); (first | (refine wpAny_of_eq (a := some (.builtin "object.__new__")) ?hc ?_; (case hc => kernel_rfl!)) | (refine wpAny_of_eq (a := none) ?hc ?_; (case hc => kernel_rfl!)))) | ((with_reducible show wpAny _ _ (typeLookup (.type _) _) _ _ _); (refine wpAny_of_eq (a := none) ?hc ?_; (case hc => (rw [typeLookup_type, builtinLookup_eq_fast]; kernel_rfl!)))) | ((with_reducible show wpAny _ _ (PySem.Builtin.mroHook? _) _ _ _); refine wpAny_of_eq (a := none) ?hc ?_; (case hc => kernel_rfl!)) | ((with_reducible show wpAny _ _ (PySem.Builtin.linearize _ _) _ _ _); refine wpAny_of_eq (a := [.type "object"]) ?hc ?_; (case hc => kernel_rfl!)) | ((with_reducible show wpAny _ _ (Bind.madeBy (.type _)) _ _ _); (first | (refine wpAny_of_eq (a := some "type.__new__") ?hc ?_; (case hc => kernel_rfl!)) | (refine wpAny_of_eq (a := some "object.__new__") ?hc ?_; (case hc => kernel_rfl!)))) | ((fail_if_success (with_reducible show wpAny _ _ (List.anyM _ _) _ _ _)); (fail_if_success (with_reducible show wpAny _ _ (call _ _ _) _ _ _)); (fail_if_success (with_reducible show wpAny _ _ (collect _) _ _ _)); (fail_if_success (with_reducible show wpAny _ _ (PySem.Builtin.Slots.read _ _ _) _ _ _)); (first | wp_delta | wp_step)))
  refine wpAny_collect_seq sl (.inl rfl) hsl rfl rfl (fun h' hk => ?_)
  dsimp -zeta only
  replace hq := hq h' hk
  refine hIn ?_
  repeat (first | with_reducible refine wpAny_onRaise ?_ | ((with_reducible show wpAny _ _ enterFrame _ _ _); (with_reducible rename Heap.NoLimit _ => hl); refine Mine.hEnter hl (by decide) ?_) | ((with_reducible show wpAny _ _ (List.mapM.loop mkText (Scope.freeNames _) []) _ _ _); (first | (rw [Mine.free1 (x := Str.ofString "mycmp") ?hfr]; (case hfr => (kernel_rfl!; done))) | (rw [Mine.free0 ?hfr]; (case hfr => (kernel_rfl!; done))))) | with_reducible refine Mine.bqIn ?_ | with_reducible refine Mine.bqGo ?_ | with_reducible refine PySem.wpAny_pure ?_ | with_reducible refine PySem.wpAny_rule ?_ | with_reducible refine PySem.wpAny_holding ?_ | with_reducible refine PySem.wpAny_standAt ?_ | with_reducible refine PySem.wpAny_point ?_ | with_reducible refine PySem.wpAny_fresh' ?_ | with_reducible refine Mine.wpTry ?_ | with_reducible refine PySem.wpAny_askSetting ?_ | ((with_reducible show wpAny _ _ (alloc _) _ _ _); (refine Mine.hAlloc rfl ?_); intro _ _ _) | ((with_reducible show wpAny _ _ (ite _ _ _) _ _ _); (first | (refine PySem.wpAny_ite_false ?hc ?_; (case hc => (kernel_rfl!; done))) | (refine PySem.wpAny_ite_true ?hc ?_; (case hc => (kernel_rfl!; done))) | (refine PySem.wpAny_ite_false ?hc ?_; (case hc => (simp [*]; done))) | (refine PySem.wpAny_ite_true ?hc ?_; (case hc => (simp [*]; done))))) | ((with_reducible show wpAny _ _ (load _) _ _ _); (first | (refine' Mine.hLd ?hm ?_; (case hm => (first | (repeat (first | exact List.Mem.head _ | apply List.Mem.tail))))) | (refine Mine.hOl (by with_reducible assumption) ?_) | ((with_reducible rename Frag.In _ _ => XF); (refine Mine.hOl (XF _ _ rfl) ?_)))) | ((with_reducible show wpAny _ _ (loadPart _ _) _ _ _); (first | (refine' Mine.hLdP ?hm ?_; (case hm => (first | (repeat (first | exact List.Mem.head _ | apply List.Mem.tail))))) | (refine Mine.hOlP (by with_reducible assumption) ?_) | ((with_reducible rename Frag.In _ _ => XF); (refine Mine.hOlP (XF _ _ rfl) ?_)))) | ((with_reducible show wpAny _ _ (update _ _) _ _ _); (first | (refine' Mine.hUpd ?hu ?hf ?_; (case hu => (repeat (first | exact Mine.Up.head | apply Mine.Up.tail))); (case hf => rfl)) | (refine' Mine.hUpdP ?hu ?hf ?_; (case hu => (repeat (first | exact Mine.Up.head | apply Mine.Up.tail))); (case hf => rfl)))) | ((with_reducible show wpAny _ _ (updatePart _ _ _) _ _ _); (first | (refine' Mine.hUpd ?hu ?hf ?_; (case hu => (repeat (first | exact Mine.Up.head | apply Mine.Up.tail))); (case hf => rfl)) | (refine' Mine.hUpdP ?hu ?hf ?_; (case hu => (repeat (first | exact Mine.Up.head | apply Mine.Up.tail))); (case hf => rfl)))) | ((with_reducible show wpAny _ _ (isSubtype (.type _) _) _ _ _); refine wpAny_of_eq (a := true) ?hc ?_; (case hc => (rw [isSubtype_type]; kernel_rfl!))) | ((with_reducible show wpAny _ _ (PySem.Builtin.notOverATurnedClass _) _ _ _); refine wpAny_of_eq (a := ()) ?hc ?_; (case hc => kernel_rfl!)) | ((first | (with_reducible show wpAny _ _ (PySem.Builtin.extendedBase _) _ _ _) | (with_reducible show wpAny _ _ (PySem.Builtin.Slots.bestBase _) _ _ _)); refine wpAny_of_eq (a := .type "object") ?hc ?_; (case hc => kernel_rfl!)) | ((first | (with_reducible show wpAny _ _ (PySem.Builtin.Slots.givesDict _) _ _ _) | (with_reducible show wpAny _ _ (PySem.Builtin.Slots.givesWeak _) _ _ _) | (with_reducible show wpAny _ _ (PySem.Builtin.Slots.varSize _) _ _ _)); refine wpAny_of_eq (a := false) ?hc ?_; (case hc => kernel_rfl!)) | ((with_reducible show wpAny _ _ (typeLookup (.ref _) _) _ _ _); unfold typeLookup) | ((with_reducible show wpAny _ _ (classOwn (.type _) _) _ _ _); (first | (refine wpAny_of_eq (a := some (.builtin "object.__new__")) ?hc ?_; (case hc => kernel_rfl!)) | (refine wpAny_of_eq (a := none) ?hc ?_; (case hc => kernel_rfl!)))) | ((with_reducible show wpAny _ _ (typeLookup (.type _) _) _ _ _); (refine wpAny_of_eq (a := none) ?hc ?_; (case hc => (rw [typeLookup_type, builtinLookup_eq_fast]; kernel_rfl!)))) | ((with_reducible show wpAny _ _ (PySem.Builtin.mroHook? _) _ _ _); refine wpAny_of_eq (a := none) ?hc ?_; (case hc => kernel_rfl!)) | ((with_reducible show wpAny _ _ (PySem.Builtin.linearize _ _) _ _ _); refine wpAny_of_eq (a := [.type "object"]) ?hc ?_; (case hc => kernel_rfl!)) | ((with_reducible show wpAny _ _ (Bind.madeBy (.type _)) _ _ _); (first | (refine wpAny_of_eq (a := some "type.__new__") ?hc ?_; (case hc => kernel_rfl!)) | (refine wpAny_of_eq (a := some "object.__new__") ?hc ?_; (case hc => kernel_rfl!)))) | ((fail_if_success (with_reducible show wpAny _ _ (List.anyM _ _) _ _ _)); (fail_if_success (with_reducible show wpAny _ _ (call _ _ _) _ _ _)); (fail_if_success (with_reducible show wpAny _ _ (collect _) _ _ _)); (fail_if_success (with_reducible show wpAny _ _ (PySem.Builtin.Slots.read _ _ _) _ _ _)); (first | wp_delta | wp_step)))
  rw [show Slots.isIdentifier (Str.ofString "obj") = some true from by decide +kernel]
  repeat (first | with_reducible refine wpAny_onRaise ?_ | ((with_reducible show wpAny _ _ enterFrame _ _ _); (with_reducible rename Heap.NoLimit _ => hl); refine Mine.hEnter hl (by decide) ?_) | ((with_reducible show wpAny _ _ (List.mapM.loop mkText (Scope.freeNames _) []) _ _ _); (first | (rw [Mine.free1 (x := Str.ofString "mycmp") ?hfr]; (case hfr => (kernel_rfl!; done))) | (rw [Mine.free0 ?hfr]; (case hfr => (kernel_rfl!; done))))) | with_reducible refine Mine.bqIn ?_ | with_reducible refine Mine.bqGo ?_ | with_reducible refine PySem.wpAny_pure ?_ | with_reducible refine PySem.wpAny_rule ?_ | with_reducible refine PySem.wpAny_holding ?_ | with_reducible refine PySem.wpAny_standAt ?_ | with_reducible refine PySem.wpAny_point ?_ | with_reducible refine PySem.wpAny_fresh' ?_ | with_reducible refine Mine.wpTry ?_ | with_reducible refine PySem.wpAny_askSetting ?_ | ((with_reducible show wpAny _ _ (alloc _) _ _ _); (refine Mine.hAlloc rfl ?_); intro _ _ _) | ((with_reducible show wpAny _ _ (ite _ _ _) _ _ _); (first | (refine PySem.wpAny_ite_false ?hc ?_; (case hc => (kernel_rfl!; done))) | (refine PySem.wpAny_ite_true ?hc ?_; (case hc => (kernel_rfl!; done))) | (refine PySem.wpAny_ite_false ?hc ?_; (case hc => (simp [*]; done))) | (refine PySem.wpAny_ite_true ?hc ?_; (case hc => (simp [*]; done))))) | ((with_reducible show wpAny _ _ (load _) _ _ _); (first | (refine' Mine.hLd ?hm ?_; (case hm => (first | (repeat (first | exact List.Mem.head _ | apply List.Mem.tail))))) | (refine Mine.hOl (by with_reducible assumption) ?_) | ((with_reducible rename Frag.In _ _ => XF); (refine Mine.hOl (XF _ _ rfl) ?_)))) | ((with_reducible show wpAny _ _ (loadPart _ _) _ _ _); (first | (refine' Mine.hLdP ?hm ?_; (case hm => (first | (repeat (first | exact List.Mem.head _ | apply List.Mem.tail))))) | (refine Mine.hOlP (by with_reducible assumption) ?_) | ((with_reducible rename Frag.In _ _ => XF); (refine Mine.hOlP (XF _ _ rfl) ?_)))) | ((with_reducible show wpAny _ _ (update _ _) _ _ _); (first | (refine' Mine.hUpd ?hu ?hf ?_; (case hu => (repeat (first | exact Mine.Up.head | apply Mine.Up.tail))); (case hf => rfl)) | (refine' Mine.hUpdP ?hu ?hf ?_; (case hu => (repeat (first | exact Mine.Up.head | apply Mine.Up.tail))); (case hf => rfl)))) | ((with_reducible show wpAny _ _ (updatePart _ _ _) _ _ _); (first | (refine' Mine.hUpd ?hu ?hf ?_; (case hu => (repeat (first | exact Mine.Up.head | apply Mine.Up.tail))); (case hf => rfl)) | (refine' Mine.hUpdP ?hu ?hf ?_; (case hu => (repeat (first | exact Mine.Up.head | apply Mine.Up.tail))); (case hf => rfl)))) | ((with_reducible show wpAny _ _ (isSubtype (.type _) _) _ _ _); refine wpAny_of_eq (a := true) ?hc ?_; (case hc => (rw [isSubtype_type]; kernel_rfl!))) | ((with_reducible show wpAny _ _ (PySem.Builtin.notOverATurnedClass _) _ _ _); refine wpAny_of_eq (a := ()) ?hc ?_; (case hc => kernel_rfl!)) | ((first | (with_reducible show wpAny _ _ (PySem.Builtin.extendedBase _) _ _ _) | (with_reducible show wpAny _ _ (PySem.Builtin.Slots.bestBase _) _ _ _)); refine wpAny_of_eq (a := .type "object") ?hc ?_; (case hc => kernel_rfl!)) | ((first | (with_reducible show wpAny _ _ (PySem.Builtin.Slots.givesDict _) _ _ _) | (with_reducible show wpAny _ _ (PySem.Builtin.Slots.givesWeak _) _ _ _) | (with_reducible show wpAny _ _ (PySem.Builtin.Slots.varSize _) _ _ _)); refine wpAny_of_eq (a := false) ?hc ?_; (case hc => kernel_rfl!)) | ((with_reducible show wpAny _ _ (typeLookup (.ref _) _) _ _ _); unfold typeLookup) | ((with_reducible show wpAny _ _ (classOwn (.type _) _) _ _ _); (first | (refine wpAny_of_eq (a := some (.builtin "object.__new__")) ?hc ?_; (case hc => kernel_rfl!)) | (refine wpAny_of_eq (a := none) ?hc ?_; (case hc => kernel_rfl!)))) | ((with_reducible show wpAny _ _ (typeLookup (.type _) _) _ _ _); (refine wpAny_of_eq (a := none) ?hc ?_; (case hc => (rw [typeLookup_type, builtinLookup_eq_fast]; kernel_rfl!)))) | ((with_reducible show wpAny _ _ (PySem.Builtin.mroHook? _) _ _ _); refine wpAny_of_eq (a := none) ?hc ?_; (case hc => kernel_rfl!)) | ((with_reducible show wpAny _ _ (PySem.Builtin.linearize _ _) _ _ _); refine wpAny_of_eq (a := [.type "object"]) ?hc ?_; (case hc => kernel_rfl!)) | ((with_reducible show wpAny _ _ (Bind.madeBy (.type _)) _ _ _); (first | (refine wpAny_of_eq (a := some "type.__new__") ?hc ?_; (case hc => kernel_rfl!)) | (refine wpAny_of_eq (a := some "object.__new__") ?hc ?_; (case hc => kernel_rfl!)))) | ((fail_if_success (with_reducible show wpAny _ _ (List.anyM _ _) _ _ _)); (fail_if_success (with_reducible show wpAny _ _ (call _ _ _) _ _ _)); (fail_if_success (with_reducible show wpAny _ _ (collect _) _ _ _)); (fail_if_success (with_reducible show wpAny _ _ (PySem.Builtin.Slots.read _ _ _) _ _ _)); (first | wp_delta | wp_step)))
  refine cast (congrArg (fun p => Q p _) ?_) hq
  kernel_rfl

theorem init_sub {K m b nsA : Addr} {t m1 : Tok} {Q : Value → Shared → Prop} (hK : h.get? K = some (clsO nsA K b t m1))
    (ho : h.get? m = some { cls := .type "builtin_function_or_method", data := .fields #[.builtin "object.__init_subclass__", .ref K] })
    (hq : Q .none ⟨h, g, dr, tk, os⟩) :
    wpAny (model PR w) AX (call (.ref m) []) Q E ⟨h, g, dr, tk, os⟩ := by
  refine wpAny_call (codeAny_of_tree ?_)
  refine hIn ?_
  repeat ((fail_if_success (with_reducible show codeAny _ _ _ _ _)); (first | with_reducible refine wpAny_onRaise ?_ | ((with_reducible show wpAny _ _ enterFrame _ _ _); (with_reducible rename Heap.NoLimit _ => hl); refine Mine.hEnter hl (by decide) ?_) | ((with_reducible show wpAny _ _ (List.mapM.loop mkText (Scope.freeNames _) []) _ _ _); (first | (rw [Mine.free1 (x := Str.ofString "mycmp") ?hfr]; (case hfr => (kernel_rfl!; done))) | (rw [Mine.free0 ?hfr]; (case hfr => (kernel_rfl!; done))))) | with_reducible refine Mine.bqIn ?_ | with_reducible refine Mine.bqGo ?_ | with_reducible refine PySem.wpAny_pure ?_ | with_reducible refine PySem.wpAny_rule ?_ | with_reducible refine PySem.wpAny_holding ?_ | with_reducible refine PySem.wpAny_standAt ?_ | with_reducible refine PySem.wpAny_point ?_ | with_reducible refine PySem.wpAny_fresh' ?_ | with_reducible refine Mine.wpTry ?_ | with_reducible refine PySem.wpAny_askSetting ?_ | ((with_reducible show wpAny _ _ (alloc _) _ _ _); (refine Mine.hAlloc rfl ?_); intro _ _ _) | ((with_reducible show wpAny _ _ (ite _ _ _) _ _ _); (first | (refine PySem.wpAny_ite_false ?hc ?_; (case hc => (kernel_rfl!; done))) | (refine PySem.wpAny_ite_true ?hc ?_; (case hc => (kernel_rfl!; done))) | (refine PySem.wpAny_ite_false ?hc ?_; (case hc => (simp [*]; done))) | (refine PySem.wpAny_ite_true ?hc ?_; (case hc => (simp [*]; done))))) | ((with_reducible show wpAny _ _ (load _) _ _ _); (first | (refine' Mine.hLd ?hm ?_; (case hm => (first | (repeat (first | exact List.Mem.head _ | apply List.Mem.tail))))) | (refine Mine.hOl (by with_reducible assumption) ?_) | ((with_reducible rename Frag.In _ _ => XF); (refine Mine.hOl (XF _ _ rfl) ?_)))) | ((with_reducible show wpAny _ _ (loadPart _ _) _ _ _); (first | (refine' Mine.hLdP ?hm ?_; (case hm => (first | (repeat (first | exact List.Mem.head _ | apply List.Mem.tail))))) | (refine Mine.hOlP (by with_reducible assumption) ?_) | ((with_reducible rename Frag.In _ _ => XF); (refine Mine.hOlP (XF _ _ rfl) ?_)))) | ((with_reducible show wpAny _ _ (update _ _) _ _ _); (first | (refine' Mine.hUpd ?hu ?hf ?_; (case hu => (repeat (first | exact Mine.Up.head | apply Mine.Up.tail))); (case hf => rfl)) | (refine' Mine.hUpdP ?hu ?hf ?_; (case hu => (repeat (first | exact Mine.Up.head | apply Mine.Up.tail))); (case hf => rfl)))) | ((with_reducible show wpAny _ _ (updatePart _ _ _) _ _ _); (first | (refine' Mine.hUpd ?hu ?hf ?_; (case hu => (repeat (first | exact Mine.Up.head | apply Mine.Up.tail))); (case hf => rfl)) | (refine' Mine.hUpdP ?hu ?hf ?_; (case hu => (repeat (first | exact Mine.Up.head | apply Mine.Up.tail))); (case hf => rfl)))) | ((with_reducible show wpAny _ _ (isSubtype (.type _) _) _ _ _); refine wpAny_of_eq (a := true) ?hc ?_; (case hc => (rw [isSubtype_type]; kernel_rfl!))) | ((with_reducible show wpAny _ _ (PySem.Builtin.notOverATurnedClass _) _ _ _); refine wpAny_of_eq (a := ()) ?hc ?_; (case hc => kernel_rfl!)) | ((first | (with_reducible show wpAny _ _ (PySem.Builtin.extendedBase _) _ _ _) | (with_reducible show wpAny _ _ (PySem.Builtin.Slots.bestBase _) _ _ _)); refine wpAny_of_eq (a := .type "object") ?hc ?_; (case hc => kernel_rfl!)) | ((first | (with_reducible show wpAny _ _ (PySem.Builtin.Slots.givesDict _) _ _ _) | (with_reducible show wpAny _ _ (PySem.Builtin.Slots.givesWeak _) _ _ _) | (with_reducible show wpAny _ _ (PySem.Builtin.Slots.varSize _) _ _ _)); refine wpAny_of_eq (a := false) ?hc ?_; (case hc => kernel_rfl!)) | ((with_reducible show wpAny _ _ (typeLookup (.ref _) _) _ _ _); unfold typeLookup) | ((with_reducible show wpAny _ _ (classOwn (.type _) _) _ _ _); (first | (refine wpAny_of_eq (a := some (.builtin "object.__new__")) ?hc ?_; (case hc => kernel_rfl!)) | (refine wpAny_of_eq (a := none) ?hc ?_; (case hc => kernel_rfl!)))) | ((with_reducible show wpAny _ _ (typeLookup (.type _) _) _ _ _); (refine wpAny_of_eq (a := none) ?hc ?_; (case hc => (rw [typeLookup_type, builtinLookup_eq_fast]; kernel_rfl!)))) | ((with_reducible show wpAny _ _ (PySem.Builtin.mroHook? _) _ _ _); refine wpAny_of_eq (a := none) ?hc ?_; (case hc => kernel_rfl!)) | ((with_reducible show wpAny _ _ (PySem.Builtin.linearize _ _) _ _ _); refine wpAny_of_eq (a := [.type "object"]) ?hc ?_; (case hc => kernel_rfl!)) | ((with_reducible show wpAny _ _ (Bind.madeBy (.type _)) _ _ _); (first | (refine wpAny_of_eq (a := some "type.__new__") ?hc ?_; (case hc => kernel_rfl!)) | (refine wpAny_of_eq (a := some "object.__new__") ?hc ?_; (case hc => kernel_rfl!)))) | ((fail_if_success (with_reducible show wpAny _ _ (List.anyM _ _) _ _ _)); (fail_if_success (with_reducible show wpAny _ _ (call _ _ _) _ _ _)); (fail_if_success (with_reducible show wpAny _ _ (collect _) _ _ _)); (fail_if_success (with_reducible show wpAny _ _ (PySem.Builtin.Slots.read _ _ _) _ _ _)); (first | wp_delta | wp_step))))
  refine wpAny_of_eq (a := false) (by show isSubtype (.type "builtin_function_or_method") (.type "module") = _; rw [isSubtype_type]; kernel_rfl) ?_
  repeat ((fail_if_success (with_reducible show codeAny _ _ _ _ _)); (first | with_reducible refine wpAny_onRaise ?_ | ((with_reducible show wpAny _ _ enterFrame _ _ _); (with_reducible rename Heap.NoLimit _ => hl); refine Mine.hEnter hl (by decide) ?_) | ((with_reducible show wpAny _ _ (List.mapM.loop mkText (Scope.freeNames _) []) _ _ _); (first | (rw [Mine.free1 (x := Str.ofString "mycmp") ?hfr]; (case hfr => (kernel_rfl!; done))) | (rw [Mine.free0 ?hfr]; (case hfr => (kernel_rfl!; done))))) | with_reducible refine Mine.bqIn ?_ | with_reducible refine Mine.bqGo ?_ | with_reducible refine PySem.wpAny_pure ?_ | with_reducible refine PySem.wpAny_rule ?_ | with_reducible refine PySem.wpAny_holding ?_ | with_reducible refine PySem.wpAny_standAt ?_ | with_reducible refine PySem.wpAny_point ?_ | with_reducible refine PySem.wpAny_fresh' ?_ | with_reducible refine Mine.wpTry ?_ | with_reducible refine PySem.wpAny_askSetting ?_ | ((with_reducible show wpAny _ _ (alloc _) _ _ _); (refine Mine.hAlloc rfl ?_); intro _ _ _) | ((with_reducible show wpAny _ _ (ite _ _ _) _ _ _); (first | (refine PySem.wpAny_ite_false ?hc ?_; (case hc => (kernel_rfl!; done))) | (refine PySem.wpAny_ite_true ?hc ?_; (case hc => (kernel_rfl!; done))) | (refine PySem.wpAny_ite_false ?hc ?_; (case hc => (simp [*]; done))) | (refine PySem.wpAny_ite_true ?hc ?_; (case hc => (simp [*]; done))))) | ((with_reducible show wpAny _ _ (load _) _ _ _); (first | (refine' Mine.hLd ?hm ?_; (case hm => (first | (repeat (first | exact List.Mem.head _ | apply List.Mem.tail))))) | (refine Mine.hOl (by with_reducible assumption) ?_) | ((with_reducible rename Frag.In _ _ => XF); (refine Mine.hOl (XF _ _ rfl) ?_)))) | ((with_reducible show wpAny _ _ (loadPart _ _) _ _ _); (first | (refine' Mine.hLdP ?hm ?_; (case hm => (first | (repeat (first | exact List.Mem.head _ | apply List.Mem.tail))))) | (refine Mine.hOlP (by with_reducible assumption) ?_) | ((with_reducible rename Frag.In _ _ => XF); (refine Mine.hOlP (XF _ _ rfl) ?_)))) | ((with_reducible show wpAny _ _ (update _ _) _ _ _); (first | (refine' Mine.hUpd ?hu ?hf ?_; (case hu => (repeat (first | exact Mine.Up.head | apply Mine.Up.tail))); (case hf => rfl)) | (refine' Mine.hUpdP ?hu ?hf ?_; (case hu => (repeat (first | exact Mine.Up.head | apply Mine.Up.tail))); (case hf => rfl)))) | ((with_reducible show wpAny _ _ (updatePart _ _ _) _ _ _); (first | (refine' Mine.hUpd ?hu ?hf ?_; (case hu => (repeat (first | exact Mine.Up.head | apply Mine.Up.tail))); (case hf => rfl)) | (refine' Mine.hUpdP ?hu ?hf ?_; (case hu => (repeat (first | exact Mine.Up.head | apply Mine.Up.tail))); (case hf => rfl)))) | ((with_reducible show wpAny _ _ (isSubtype (.type _) _) _ _ _); refine wpAny_of_eq (a := true) ?hc ?_; (case hc => (rw [isSubtype_type]; kernel_rfl!))) | ((with_reducible show wpAny _ _ (PySem.Builtin.notOverATurnedClass _) _ _ _); refine wpAny_of_eq (a := ()) ?hc ?_; (case hc => kernel_rfl!)) | ((first | (with_reducible show wpAny _ _ (PySem.Builtin.extendedBase _) _ _ _) | (with_reducible show wpAny _ _ (PySem.Builtin.Slots.bestBase _) _ _ _)); refine wpAny_of_eq (a := .type "object") ?hc ?_; (case hc => kernel_rfl!)) | ((first | (with_reducible show wpAny _ _ (PySem.Builtin.Slots.givesDict _) _ _ _) | (with_reducible show wpAny _ _ (PySem.Builtin.Slots.givesWeak _) _ _ _) | (with_reducible show wpAny _ _ (PySem.Builtin.Slots.varSize _) _ _ _)); refine wpAny_of_eq (a := false) ?hc ?_; (case hc => kernel_rfl!)) | ((with_reducible show wpAny _ _ (typeLookup (.ref _) _) _ _ _); unfold typeLookup) | ((with_reducible show wpAny _ _ (classOwn (.type _) _) _ _ _); (first | (refine wpAny_of_eq (a := some (.builtin "object.__new__")) ?hc ?_; (case hc => kernel_rfl!)) | (refine wpAny_of_eq (a := none) ?hc ?_; (case hc => kernel_rfl!)))) | ((with_reducible show wpAny _ _ (typeLookup (.type _) _) _ _ _); (refine wpAny_of_eq (a := none) ?hc ?_; (case hc => (rw [typeLookup_type, builtinLookup_eq_fast]; kernel_rfl!)))) | ((with_reducible show wpAny _ _ (PySem.Builtin.mroHook? _) _ _ _); refine wpAny_of_eq (a := none) ?hc ?_; (case hc => kernel_rfl!)) | ((with_reducible show wpAny _ _ (PySem.Builtin.linearize _ _) _ _ _); refine wpAny_of_eq (a := [.type "object"]) ?hc ?_; (case hc => kernel_rfl!)) | ((with_reducible show wpAny _ _ (Bind.madeBy (.type _)) _ _ _); (first | (refine wpAny_of_eq (a := some "type.__new__") ?hc ?_; (case hc => kernel_rfl!)) | (refine wpAny_of_eq (a := some "object.__new__") ?hc ?_; (case hc => kernel_rfl!)))) | ((fail_if_success (with_reducible show wpAny _ _ (List.anyM _ _) _ _ _)); (fail_if_success (with_reducible show wpAny _ _ (call _ _ _) _ _ _)); (fail_if_success (with_reducible show wpAny _ _ (collect _) _ _ _)); (fail_if_success (with_reducible show wpAny _ _ (PySem.Builtin.Slots.read _ _ _) _ _ _)); (first | wp_delta | wp_step))))
  refine ⟨Code.quiet_builtin _ (by decide +kernel), codeAny_builtin (entryFor_of_tree (b := Builtin.«object.__init_subclass__») (by kernel_rfl)) ?_⟩
  unfold Builtin.«object.__init_subclass__»
  repeat ((fail_if_success (with_reducible show codeAny _ _ _ _ _)); (first | with_reducible refine wpAny_onRaise ?_ | ((with_reducible show wpAny _ _ enterFrame _ _ _); (with_reducible rename Heap.NoLimit _ => hl); refine Mine.hEnter hl (by decide) ?_) | ((with_reducible show wpAny _ _ (List.mapM.loop mkText (Scope.freeNames _) []) _ _ _); (first | (rw [Mine.free1 (x := Str.ofString "mycmp") ?hfr]; (case hfr => (kernel_rfl!; done))) | (rw [Mine.free0 ?hfr]; (case hfr => (kernel_rfl!; done))))) | with_reducible refine Mine.bqIn ?_ | with_reducible refine Mine.bqGo ?_ | with_reducible refine PySem.wpAny_pure ?_ | with_reducible refine PySem.wpAny_rule ?_ | with_reducible refine PySem.wpAny_holding ?_ | with_reducible refine PySem.wpAny_standAt ?_ | with_reducible refine PySem.wpAny_point ?_ | with_reducible refine PySem.wpAny_fresh' ?_ | with_reducible refine Mine.wpTry ?_ | with_reducible refine PySem.wpAny_askSetting ?_ | ((with_reducible show wpAny _ _ (alloc _) _ _ _); (refine Mine.hAlloc rfl ?_); intro _ _ _) | ((with_reducible show wpAny _ _ (ite _ _ _) _ _ _); (first | (refine PySem.wpAny_ite_false ?hc ?_; (case hc => (kernel_rfl!; done))) | (refine PySem.wpAny_ite_true ?hc ?_; (case hc => (kernel_rfl!; done))) | (refine PySem.wpAny_ite_false ?hc ?_; (case hc => (simp [*]; done))) | (refine PySem.wpAny_ite_true ?hc ?_; (case hc => (simp [*]; done))))) | ((with_reducible show wpAny _ _ (load _) _ _ _); (first | (refine' Mine.hLd ?hm ?_; (case hm => (first | (repeat (first | exact List.Mem.head _ | apply List.Mem.tail))))) | (refine Mine.hOl (by with_reducible assumption) ?_) | ((with_reducible rename Frag.In _ _ => XF); (refine Mine.hOl (XF _ _ rfl) ?_)))) | ((with_reducible show wpAny _ _ (loadPart _ _) _ _ _); (first | (refine' Mine.hLdP ?hm ?_; (case hm => (first | (repeat (first | exact List.Mem.head _ | apply List.Mem.tail))))) | (refine Mine.hOlP (by with_reducible assumption) ?_) | ((with_reducible rename Frag.In _ _ => XF); (refine Mine.hOlP (XF _ _ rfl) ?_)))) | ((with_reducible show wpAny _ _ (update _ _) _ _ _); (first | (refine' Mine.hUpd ?hu ?hf ?_; (case hu => (repeat (first | exact Mine.Up.head | apply Mine.Up.tail))); (case hf => rfl)) | (refine' Mine.hUpdP ?hu ?hf ?_; (case hu => (repeat (first | exact Mine.Up.head | apply Mine.Up.tail))); (case hf => rfl)))) | ((with_reducible show wpAny _ _ (updatePart _ _ _) _ _ _); (first | (refine' Mine.hUpd ?hu ?hf ?_; (case hu => (repeat (first | exact Mine.Up.head | apply Mine.Up.tail))); (case hf => rfl)) | (refine' Mine.hUpdP ?hu ?hf ?_; (case hu => (repeat (first | exact Mine.Up.head | apply Mine.Up.tail))); (case hf => rfl)))) | ((with_reducible show wpAny _ _ (isSubtype (.type _) _) _ _ _); refine wpAny_of_eq (a := true) ?hc ?_; (case hc => (rw [isSubtype_type]; kernel_rfl!))) | ((with_reducible show wpAny _ _ (PySem.Builtin.notOverATurnedClass _) _ _ _); refine wpAny_of_eq (a := ()) ?hc ?_; (case hc => kernel_rfl!)) | ((first | (with_reducible show wpAny _ _ (PySem.Builtin.extendedBase _) _ _ _) | (with_reducible show wpAny _ _ (PySem.Builtin.Slots.bestBase _) _ _ _)); refine wpAny_of_eq (a := .type "object") ?hc ?_; (case hc => kernel_rfl!)) | ((first | (with_reducible show wpAny _ _ (PySem.Builtin.Slots.givesDict _) _ _ _) | (with_reducible show wpAny _ _ (PySem.Builtin.Slots.givesWeak _) _ _ _) | (with_reducible show wpAny _ _ (PySem.Builtin.Slots.varSize _) _ _ _)); refine wpAny_of_eq (a := false) ?hc ?_; (case hc => kernel_rfl!)) | ((with_reducible show wpAny _ _ (typeLookup (.ref _) _) _ _ _); unfold typeLookup) | ((with_reducible show wpAny _ _ (classOwn (.type _) _) _ _ _); (first | (refine wpAny_of_eq (a := some (.builtin "object.__new__")) ?hc ?_; (case hc => kernel_rfl!)) | (refine wpAny_of_eq (a := none) ?hc ?_; (case hc => kernel_rfl!)))) | ((with_reducible show wpAny _ _ (typeLookup (.type _) _) _ _ _); (refine wpAny_of_eq (a := none) ?hc ?_; (case hc => (rw [typeLookup_type, builtinLookup_eq_fast]; kernel_rfl!)))) | ((with_reducible show wpAny _ _ (PySem.Builtin.mroHook? _) _ _ _); refine wpAny_of_eq (a := none) ?hc ?_; (case hc => kernel_rfl!)) | ((with_reducible show wpAny _ _ (PySem.Builtin.linearize _ _) _ _ _); refine wpAny_of_eq (a := [.type "object"]) ?hc ?_; (case hc => kernel_rfl!)) | ((with_reducible show wpAny _ _ (Bind.madeBy (.type _)) _ _ _); (first | (refine wpAny_of_eq (a := some "type.__new__") ?hc ?_; (case hc => kernel_rfl!)) | (refine wpAny_of_eq (a := some "object.__new__") ?hc ?_; (case hc => kernel_rfl!)))) | ((fail_if_success (with_reducible show wpAny _ _ (List.anyM _ _) _ _ _)); (fail_if_success (with_reducible show wpAny _ _ (call _ _ _) _ _ _)); (fail_if_success (with_reducible show wpAny _ _ (collect _) _ _ _)); (fail_if_success (with_reducible show wpAny _ _ (PySem.Builtin.Slots.read _ _ _) _ _ _)); (first | wp_delta | wp_step))))
  exact hq
theorem tn {t nd ns : Nat} {b d sl f1 f2 f3 f4 f5 f6 st : Addr} {hs : Nat → Int} {ts : Nat → Tok} {m0 m1 m2 m3 : Tok} {d1 d2 d3 d4 d5 d6 : FuncData} {ss : List Value} {Q : PySem.Fin → Shared → Prop} (hb : h.get? b = some (tupO [.type "object"]))
    (hd : h.get? d = some (dicO (nsK hs ts m0 m1 m2 sl f1 f2 f3 f4 f5 f6 st) nd)) (hd1 : (d == sysModules) = false) (hsl : h.get? sl = some { cls := .type "list", data := .seq #[.str "obj" m3] ns })
    (q1 : h.get? f1 = some (funO d1)) (q2 : h.get? f2 = some (funO d2)) (q3 : h.get? f3 = some (funO d3)) (q4 : h.get? f4 = some (funO d4)) (q5 : h.get? f5 = some (funO d5)) (q6 : h.get? f6 = some (funO d6)) (qs : h.get? st = some (tupO ss)) (X : (K0 w.params).In h)
    (hq : ∀ h' K ns ds hs' ts' tk', KMade h h' K ns ds b hs' ts' m0 m1 m2 t sl f1 f2 f3 f4 f5 f6 st → Q (.done (.ret (.ref K))) ⟨h', g, dr, tk', os⟩) :
    wpAny (model PR w) AX (Builtin.«type.__new__» ⟨[.type "type", .str "K" t, .ref b, .ref d], []⟩) Q E ⟨h, g, dr, tk, os⟩ := by
  have tb : (⟨hp (Mm.start h), g, dr, tk, os⟩ : Shared).TypeIs (.ref b) "tuple" := ⟨_, hb, rfl⟩
  have td : (⟨hp (Mm.start h), g, dr, tk, os⟩ : Shared).TypeIs (.ref d) "dict" := ⟨_, hd, rfl⟩
  have e1 : isSubtype (.type "tuple") (.type "tuple") = pure true := by rw [isSubtype_type]; kernel_rfl
  have e2 : isSubtype (.type "dict") (.type "dict") = pure true := by rw [isSubtype_type]; kernel_rfl
  have e3 : typeLookup (.type "dict") "__iter__" = pure (some (.builtin "dict.__iter__")) := by rw [typeLookup_type, builtinLookup_eq_fast]; kernel_rfl
  refine hIn ?_
  unfold Builtin.«type.__new__»
  repeat (first | with_reducible refine wpAny_onRaise ?_ | ((with_reducible show wpAny _ _ enterFrame _ _ _); (with_reducible rename Heap.NoLimit _ => hl); refine Mine.hEnter hl (by decide) ?_) | ((with_reducible show wpAny _ _ (List.mapM.loop mkText (Scope.freeNames _) []) _ _ _); (first | (rw [Mine.free1 (x := Str.ofString "mycmp") ?hfr]; (case hfr => (kernel_rfl!; done))) | (rw [Mine.free0 ?hfr]; (case hfr => (kernel_rfl!; done))))) | with_reducible refine Mine.bqIn ?_ | with_reducible refine Mine.bqGo ?_ | with_reducible refine PySem.wpAny_pure ?_ | with_reducible refine PySem.wpAny_rule ?_ | with_reducible refine PySem.wpAny_holding ?_ | with_reducible refine PySem.wpAny_standAt ?_ | with_reducible refine PySem.wpAny_point ?_ | with_reducible refine PySem.wpAny_fresh' ?_ | with_reducible refine Mine.wpTry ?_ | with_reducible refine PySem.wpAny_askSetting ?_ | ((with_reducible show wpAny _ _ (alloc _) _ _ _); (refine Mine.hAlloc rfl ?_); intro _ _ _) | ((with_reducible show wpAny _ _ (ite _ _ _) _ _ _); (first | (refine PySem.wpAny_ite_false ?hc ?_; (case hc => (kernel_rfl!; done))) | (refine PySem.wpAny_ite_true ?hc ?_; (case hc => (kernel_rfl!; done))) | (refine PySem.wpAny_ite_false ?hc ?_; (case hc => (simp [*]; done))) | (refine PySem.wpAny_ite_true ?hc ?_; (case hc => (simp [*]; done))))) | ((with_reducible show wpAny _ _ (load _) _ _ _); (first | (refine' Mine.hLd ?hm ?_; (case hm => (first | (repeat (first | exact List.Mem.head _ | apply List.Mem.tail))))) | (refine Mine.hOl (by with_reducible assumption) ?_) | ((with_reducible rename Frag.In _ _ => XF); (refine Mine.hOl (XF _ _ rfl) ?_)))) | ((with_reducible show wpAny _ _ (loadPart _ _) _ _ _); (first | (refine' Mine.hLdP ?hm ?_; (case hm => (first | (repeat (first | exact List.Mem.head _ | apply List.Mem.tail))))) | (refine Mine.hOlP (by with_reducible assumption) ?_) | ((with_reducible rename Frag.In _ _ => XF); (refine Mine.hOlP (XF _ _ rfl) ?_)))) | ((with_reducible show wpAny _ _ (update _ _) _ _ _); (first | (refine' Mine.hUpd ?hu ?hf ?_; (case hu => (repeat (first | exact Mine.Up.head | apply Mine.Up.tail))); (case hf => rfl)) | (refine' Mine.hUpdP ?hu ?hf ?_; (case hu => (repeat (first | exact Mine.Up.head | apply Mine.Up.tail))); (case hf => rfl)))) | ((with_reducible show wpAny _ _ (updatePart _ _ _) _ _ _); (first | (refine' Mine.hUpd ?hu ?hf ?_; (case hu => (repeat (first | exact Mine.Up.head | apply Mine.Up.tail))); (case hf => rfl)) | (refine' Mine.hUpdP ?hu ?hf ?_; (case hu => (repeat (first | exact Mine.Up.head | apply Mine.Up.tail))); (case hf => rfl)))) | ((with_reducible show wpAny _ _ (isSubtype (.type _) _) _ _ _); refine wpAny_of_eq (a := true) ?hc ?_; (case hc => (rw [isSubtype_type]; kernel_rfl!))) | ((with_reducible show wpAny _ _ (PySem.Builtin.notOverATurnedClass _) _ _ _); refine wpAny_of_eq (a := ()) ?hc ?_; (case hc => kernel_rfl!)) | ((first | (with_reducible show wpAny _ _ (PySem.Builtin.extendedBase _) _ _ _) | (with_reducible show wpAny _ _ (PySem.Builtin.Slots.bestBase _) _ _ _)); refine wpAny_of_eq (a := .type "object") ?hc ?_; (case hc => kernel_rfl!)) | ((first | (with_reducible show wpAny _ _ (PySem.Builtin.Slots.givesDict _) _ _ _) | (with_reducible show wpAny _ _ (PySem.Builtin.Slots.givesWeak _) _ _ _) | (with_reducible show wpAny _ _ (PySem.Builtin.Slots.varSize _) _ _ _)); refine wpAny_of_eq (a := false) ?hc ?_; (case hc => kernel_rfl!)) | ((with_reducible show wpAny _ _ (typeLookup (.ref _) _) _ _ _); unfold typeLookup) | ((with_reducible show wpAny _ _ (classOwn (.type _) _) _ _ _); (first | (refine wpAny_of_eq (a := some (.builtin "object.__new__")) ?hc ?_; (case hc => kernel_rfl!)) | (refine wpAny_of_eq (a := none) ?hc ?_; (case hc => kernel_rfl!)))) | ((with_reducible show wpAny _ _ (typeLookup (.type _) _) _ _ _); (refine wpAny_of_eq (a := none) ?hc ?_; (case hc => (rw [typeLookup_type, builtinLookup_eq_fast]; kernel_rfl!)))) | ((with_reducible show wpAny _ _ (PySem.Builtin.mroHook? _) _ _ _); refine wpAny_of_eq (a := none) ?hc ?_; (case hc => kernel_rfl!)) | ((with_reducible show wpAny _ _ (PySem.Builtin.linearize _ _) _ _ _); refine wpAny_of_eq (a := [.type "object"]) ?hc ?_; (case hc => kernel_rfl!)) | ((with_reducible show wpAny _ _ (Bind.madeBy (.type _)) _ _ _); (first | (refine wpAny_of_eq (a := some "type.__new__") ?hc ?_; (case hc => kernel_rfl!)) | (refine wpAny_of_eq (a := some "object.__new__") ?hc ?_; (case hc => kernel_rfl!)))) | ((fail_if_success (with_reducible show wpAny _ _ (List.anyM _ _) _ _ _)); (fail_if_success (with_reducible show wpAny _ _ (call _ _ _) _ _ _)); (fail_if_success (with_reducible show wpAny _ _ (collect _) _ _ _)); (fail_if_success (with_reducible show wpAny _ _ (PySem.Builtin.Slots.read _ _ _) _ _ _)); (first | wp_delta | wp_step)))
  refine slots_read hsl (fun h' hk => ?_)
  dsimp -zeta only
  clear tb td
  refine hIn ?_
  replace hd := hk _ _ hd
  replace hb := hk _ _ hb
  replace hsl := hk _ _ hsl
  replace q1 := hk _ _ q1
  replace q2 := hk _ _ q2
  replace q3 := hk _ _ q3
  replace q4 := hk _ _ q4
  replace q5 := hk _ _ q5
  replace q6 := hk _ _ q6
  replace qs := hk _ _ qs
  repeat (first | with_reducible refine wpAny_onRaise ?_ | ((with_reducible show wpAny _ _ enterFrame _ _ _); (with_reducible rename Heap.NoLimit _ => hl); refine Mine.hEnter hl (by decide) ?_) | ((with_reducible show wpAny _ _ (List.mapM.loop mkText (Scope.freeNames _) []) _ _ _); (first | (rw [Mine.free1 (x := Str.ofString "mycmp") ?hfr]; (case hfr => (kernel_rfl!; done))) | (rw [Mine.free0 ?hfr]; (case hfr => (kernel_rfl!; done))))) | with_reducible refine Mine.bqIn ?_ | with_reducible refine Mine.bqGo ?_ | with_reducible refine PySem.wpAny_pure ?_ | with_reducible refine PySem.wpAny_rule ?_ | with_reducible refine PySem.wpAny_holding ?_ | with_reducible refine PySem.wpAny_standAt ?_ | with_reducible refine PySem.wpAny_point ?_ | with_reducible refine PySem.wpAny_fresh' ?_ | with_reducible refine Mine.wpTry ?_ | with_reducible refine PySem.wpAny_askSetting ?_ | ((with_reducible show wpAny _ _ (alloc _) _ _ _); (refine Mine.hAlloc rfl ?_); intro _ _ _) | ((with_reducible show wpAny _ _ (ite _ _ _) _ _ _); (first | (refine PySem.wpAny_ite_false ?hc ?_; (case hc => (kernel_rfl!; done))) | (refine PySem.wpAny_ite_true ?hc ?_; (case hc => (kernel_rfl!; done))) | (refine PySem.wpAny_ite_false ?hc ?_; (case hc => (simp [*]; done))) | (refine PySem.wpAny_ite_true ?hc ?_; (case hc => (simp [*]; done))))) | ((with_reducible show wpAny _ _ (load _) _ _ _); (first | (refine' Mine.hLd ?hm ?_; (case hm => (first | (repeat (first | exact List.Mem.head _ | apply List.Mem.tail))))) | (refine Mine.hOl (by with_reducible assumption) ?_) | ((with_reducible rename Frag.In _ _ => XF); (refine Mine.hOl (XF _ _ rfl) ?_)))) | ((with_reducible show wpAny _ _ (loadPart _ _) _ _ _); (first | (refine' Mine.hLdP ?hm ?_; (case hm => (first | (repeat (first | exact List.Mem.head _ | apply List.Mem.tail))))) | (refine Mine.hOlP (by with_reducible assumption) ?_) | ((with_reducible rename Frag.In _ _ => XF); (refine Mine.hOlP (XF _ _ rfl) ?_)))) | ((with_reducible show wpAny _ _ (update _ _) _ _ _); (first | (refine' Mine.hUpd ?hu ?hf ?_; (case hu => (repeat (first | exact Mine.Up.head | apply Mine.Up.tail))); (case hf => rfl)) | (refine' Mine.hUpdP ?hu ?hf ?_; (case hu => (repeat (first | exact Mine.Up.head | apply Mine.Up.tail))); (case hf => rfl)))) | ((with_reducible show wpAny _ _ (updatePart _ _ _) _ _ _); (first | (refine' Mine.hUpd ?hu ?hf ?_; (case hu => (repeat (first | exact Mine.Up.head | apply Mine.Up.tail))); (case hf => rfl)) | (refine' Mine.hUpdP ?hu ?hf ?_; (case hu => (repeat (first | exact Mine.Up.head | apply Mine.Up.tail))); (case hf => rfl)))) | ((with_reducible show wpAny _ _ (isSubtype (.type _) _) _ _ _); refine wpAny_of_eq (a := true) ?hc ?_; (case hc => (rw [isSubtype_type]; kernel_rfl!))) | ((with_reducible show wpAny _ _ (PySem.Builtin.notOverATurnedClass _) _ _ _); refine wpAny_of_eq (a := ()) ?hc ?_; (case hc => kernel_rfl!)) | ((first | (with_reducible show wpAny _ _ (PySem.Builtin.extendedBase _) _ _ _) | (with_reducible show wpAny _ _ (PySem.Builtin.Slots.bestBase _) _ _ _)); refine wpAny_of_eq (a := .type "object") ?hc ?_; (case hc => kernel_rfl!)) | ((first | (with_reducible show wpAny _ _ (PySem.Builtin.Slots.givesDict _) _ _ _) | (with_reducible show wpAny _ _ (PySem.Builtin.Slots.givesWeak _) _ _ _) | (with_reducible show wpAny _ _ (PySem.Builtin.Slots.varSize _) _ _ _)); refine wpAny_of_eq (a := false) ?hc ?_; (case hc => kernel_rfl!)) | ((with_reducible show wpAny _ _ (typeLookup (.ref _) _) _ _ _); unfold typeLookup) | ((with_reducible show wpAny _ _ (classOwn (.type _) _) _ _ _); (first | (refine wpAny_of_eq (a := some (.builtin "object.__new__")) ?hc ?_; (case hc => kernel_rfl!)) | (refine wpAny_of_eq (a := none) ?hc ?_; (case hc => kernel_rfl!)))) | ((with_reducible show wpAny _ _ (typeLookup (.type _) _) _ _ _); (refine wpAny_of_eq (a := none) ?hc ?_; (case hc => (rw [typeLookup_type, builtinLookup_eq_fast]; kernel_rfl!)))) | ((with_reducible show wpAny _ _ (PySem.Builtin.mroHook? _) _ _ _); refine wpAny_of_eq (a := none) ?hc ?_; (case hc => kernel_rfl!)) | ((with_reducible show wpAny _ _ (PySem.Builtin.linearize _ _) _ _ _); refine wpAny_of_eq (a := [.type "object"]) ?hc ?_; (case hc => kernel_rfl!)) | ((with_reducible show wpAny _ _ (Bind.madeBy (.type _)) _ _ _); (first | (refine wpAny_of_eq (a := some "type.__new__") ?hc ?_; (case hc => kernel_rfl!)) | (refine wpAny_of_eq (a := some "object.__new__") ?hc ?_; (case hc => kernel_rfl!)))) | ((fail_if_success (with_reducible show wpAny _ _ (List.anyM _ _) _ _ _)); (fail_if_success (with_reducible show wpAny _ _ (call _ _ _) _ _ _)); (fail_if_success (with_reducible show wpAny _ _ (collect _) _ _ _)); (fail_if_success (with_reducible show wpAny _ _ (PySem.Builtin.Slots.read _ _ _) _ _ _)); (first | wp_delta | wp_step)))
  have ef : ∀ a : Addr, List.filter (fun x => x != Value.ref a) [Value.ref a, Value.type "object"] = [Value.type "object"] := fun a => by simp
  rw [ef]
  refine wpAny_of_eq (a := false) (by kernel_rfl) ?_
  repeat (first | with_reducible refine wpAny_onRaise ?_ | ((with_reducible show wpAny _ _ enterFrame _ _ _); (with_reducible rename Heap.NoLimit _ => hl); refine Mine.hEnter hl (by decide) ?_) | ((with_reducible show wpAny _ _ (List.mapM.loop mkText (Scope.freeNames _) []) _ _ _); (first | (rw [Mine.free1 (x := Str.ofString "mycmp") ?hfr]; (case hfr => (kernel_rfl!; done))) | (rw [Mine.free0 ?hfr]; (case hfr => (kernel_rfl!; done))))) | with_reducible refine Mine.bqIn ?_ | with_reducible refine Mine.bqGo ?_ | with_reducible refine PySem.wpAny_pure ?_ | with_reducible refine PySem.wpAny_rule ?_ | with_reducible refine PySem.wpAny_holding ?_ | with_reducible refine PySem.wpAny_standAt ?_ | with_reducible refine PySem.wpAny_point ?_ | with_reducible refine PySem.wpAny_fresh' ?_ | with_reducible refine Mine.wpTry ?_ | with_reducible refine PySem.wpAny_askSetting ?_ | ((with_reducible show wpAny _ _ (alloc _) _ _ _); (refine Mine.hAlloc rfl ?_); intro _ _ _) | ((with_reducible show wpAny _ _ (ite _ _ _) _ _ _); (first | (refine PySem.wpAny_ite_false ?hc ?_; (case hc => (kernel_rfl!; done))) | (refine PySem.wpAny_ite_true ?hc ?_; (case hc => (kernel_rfl!; done))) | (refine PySem.wpAny_ite_false ?hc ?_; (case hc => (simp [*]; done))) | (refine PySem.wpAny_ite_true ?hc ?_; (case hc => (simp [*]; done))))) | ((with_reducible show wpAny _ _ (load _) _ _ _); (first | (refine' Mine.hLd ?hm ?_; (case hm => (first | (repeat (first | exact List.Mem.head _ | apply List.Mem.tail))))) | (refine Mine.hOl (by with_reducible assumption) ?_) | ((with_reducible rename Frag.In _ _ => XF); (refine Mine.hOl (XF _ _ rfl) ?_)))) | ((with_reducible show wpAny _ _ (loadPart _ _) _ _ _); (first | (refine' Mine.hLdP ?hm ?_; (case hm => (first | (repeat (first | exact List.Mem.head _ | apply List.Mem.tail))))) | (refine Mine.hOlP (by with_reducible assumption) ?_) | ((with_reducible rename Frag.In _ _ => XF); (refine Mine.hOlP (XF _ _ rfl) ?_)))) | ((with_reducible show wpAny _ _ (update _ _) _ _ _); (first | (refine' Mine.hUpd ?hu ?hf ?_; (case hu => (repeat (first | exact Mine.Up.head | apply Mine.Up.tail))); (case hf => rfl)) | (refine' Mine.hUpdP ?hu ?hf ?_; (case hu => (repeat (first | exact Mine.Up.head | apply Mine.Up.tail))); (case hf => rfl)))) | ((with_reducible show wpAny _ _ (updatePart _ _ _) _ _ _); (first | (refine' Mine.hUpd ?hu ?hf ?_; (case hu => (repeat (first | exact Mine.Up.head | apply Mine.Up.tail))); (case hf => rfl)) | (refine' Mine.hUpdP ?hu ?hf ?_; (case hu => (repeat (first | exact Mine.Up.head | apply Mine.Up.tail))); (case hf => rfl)))) | ((with_reducible show wpAny _ _ (isSubtype (.type _) _) _ _ _); refine wpAny_of_eq (a := true) ?hc ?_; (case hc => (rw [isSubtype_type]; kernel_rfl!))) | ((with_reducible show wpAny _ _ (PySem.Builtin.notOverATurnedClass _) _ _ _); refine wpAny_of_eq (a := ()) ?hc ?_; (case hc => kernel_rfl!)) | ((first | (with_reducible show wpAny _ _ (PySem.Builtin.extendedBase _) _ _ _) | (with_reducible show wpAny _ _ (PySem.Builtin.Slots.bestBase _) _ _ _)); refine wpAny_of_eq (a := .type "object") ?hc ?_; (case hc => kernel_rfl!)) | ((first | (with_reducible show wpAny _ _ (PySem.Builtin.Slots.givesDict _) _ _ _) | (with_reducible show wpAny _ _ (PySem.Builtin.Slots.givesWeak _) _ _ _) | (with_reducible show wpAny _ _ (PySem.Builtin.Slots.varSize _) _ _ _)); refine wpAny_of_eq (a := false) ?hc ?_; (case hc => kernel_rfl!)) | ((with_reducible show wpAny _ _ (typeLookup (.ref _) _) _ _ _); unfold typeLookup) | ((with_reducible show wpAny _ _ (classOwn (.type _) _) _ _ _); (first | (refine wpAny_of_eq (a := some (.builtin "object.__new__")) ?hc ?_; (case hc => kernel_rfl!)) | (refine wpAny_of_eq (a := none) ?hc ?_; (case hc => kernel_rfl!)))) | ((with_reducible show wpAny _ _ (typeLookup (.type _) _) _ _ _); (refine wpAny_of_eq (a := none) ?hc ?_; (case hc => (rw [typeLookup_type, builtinLookup_eq_fast]; kernel_rfl!)))) | ((with_reducible show wpAny _ _ (PySem.Builtin.mroHook? _) _ _ _); refine wpAny_of_eq (a := none) ?hc ?_; (case hc => kernel_rfl!)) | ((with_reducible show wpAny _ _ (PySem.Builtin.linearize _ _) _ _ _); refine wpAny_of_eq (a := [.type "object"]) ?hc ?_; (case hc => kernel_rfl!)) | ((with_reducible show wpAny _ _ (Bind.madeBy (.type _)) _ _ _); (first | (refine wpAny_of_eq (a := some "type.__new__") ?hc ?_; (case hc => kernel_rfl!)) | (refine wpAny_of_eq (a := some "object.__new__") ?hc ?_; (case hc => kernel_rfl!)))) | ((fail_if_success (with_reducible show wpAny _ _ (List.anyM _ _) _ _ _)); (fail_if_success (with_reducible show wpAny _ _ (call _ _ _) _ _ _)); (fail_if_success (with_reducible show wpAny _ _ (collect _) _ _ _)); (fail_if_success (with_reducible show wpAny _ _ (PySem.Builtin.Slots.read _ _ _) _ _ _)); (first | wp_delta | wp_step)))

  refine hOut fun hz D => ?_
  rename_i nsA _ _ K _ _ ds _ _
  have hK : hz.get? K = some (clsO nsA K b t m1) := (D.at' 1 rfl).trans (congrArg some (by kernel_rfl))
  have hns : hz.get? nsA = some (dicO (nsF (fun i => if i = 12 then hashOf w "obj" else if i = 13 then hashOf w "__doc__" else hs i) (fun i => if i = 12 then tk + 1 else if i = 13 then tk + 1 + 1 else ts i) m0 m2 sl f1 f2 f3 f4 f5 f6 st ds) 3) := (D.at' 2 rfl).trans (congrArg some (by kernel_rfl))
  have hds : hz.get? ds = some (memO K tk) := (D.at' 0 rfl).trans (congrArg some (by kernel_rfl))
  have nn := fun i a o (e : _[i]? = some (a, o)) => (D.nw (a, o) (List.mem_of_getElem? e)).2
  have n1 := nn 1 K _ rfl
  have n2 := nn 2 nsA _ rfl
  have n0 := nn 0 ds _ rfl
  have hkz : Kp h' hz := D.keep
  refine super_self hK rfl rfl (fun h3 hso hk3 => ?_)
  refine wpAny_bind (wpAny_holding ?_)
  refine super_attr (X.keeps fun b o e => hk3 _ _ (hkz _ _ (hk _ _ e))) (hk3 _ _ hK) rfl rfl rfl hso (fun h4 m hk4 hm => ?_)
  refine wpAny_bind (init_sub (hk4 _ _ (hk3 _ _ hK)) hm ?_)
  refine wpAny_pure (wpAny_pure ?_)
  have kk : Kp hz h4 := fun b o e => hk4 _ _ (hk3 _ _ e)
  have no : ∀ {a}, h'.get? a = none → h.get? a = none := fun {a} e => by
    cases q : h.get? a with
    | none => rfl
    | some o => rw [hk _ _ q] at e; cases e
  exact hq h4 K nsA ds _ _ _ ⟨fun b o e => kk _ _ (hkz _ _ (hk _ _ e)), kk _ _ hK, no n1, ⟨_, kk _ _ hns⟩, no n2, ⟨_, kk _ _ hds⟩, no n0⟩
end Mine
end
section
open PySem PySem.W PySem.Calls PyProof.Rows PySem.W.X PySem.Builtin
set_option maxRecDepth 100000
set_option maxHeartbeats 1000000
namespace Mine
variable {w : World} {A : Around} {E : Value → Shared → Prop} {h : Heap} {g : Array GenState} {dr : Drawn} {tk : Nat} {os : OsState} {n : Nat}

theorem slot_type_init : Slot "type" "__init__" "type.__init__" := .of (owner := "type") (n := "__init__") (by rw [typeLookup_type, builtinLookup_eq_fast]; kernel_rfl) (by decide +kernel) (by decide +kernel) (by decide +kernel)
  (by first | exact .inl (by decide +kernel) | exact .inr (by decide +kernel)) (by rw [isSubtype_type]; kernel_rfl)
theorem entry_type_init : entryFor table "type.__init__" = some Builtin.«type.__init__» := entryFor_of_tree (by kernel_rfl)
theorem args_type_init (o a b c : Value) : argsOk "type.__init__" ⟨[o, a, b, c], []⟩ := by unfold argsOk; kernel_rfl
theorem type_call {t nd ns : Nat} {b d sl f1 f2 f3 f4 f5 f6 st : Addr} {hs : Nat → Int} {ts : Nat → Tok} {m0 m1 m2 m3 : Tok} {d1 d2 d3 d4 d5 d6 : FuncData} {ss : List Value} {Q : Value → Shared → Prop} (hA : Am A n) (hn : n < 800) (hb : h.get? b = some (tupO [.type "object"]))
    (hd : h.get? d = some (dicO (nsK hs ts m0 m1 m2 sl f1 f2 f3 f4 f5 f6 st) nd)) (hd1 : (d == sysModules) = false) (hsl : h.get? sl = some { cls := .type "list", data := .seq #[.str "obj" m3] ns })
    (q1 : h.get? f1 = some (funO d1)) (q2 : h.get? f2 = some (funO d2)) (q3 : h.get? f3 = some (funO d3)) (q4 : h.get? f4 = some (funO d4)) (q5 : h.get? f5 = some (funO d5)) (q6 : h.get? f6 = some (funO d6)) (qs : h.get? st = some (tupO ss)) (X : (K0 w.params).In h)
    (hq : ∀ h' K ns ds hs' ts' tk', KMade h h' K ns ds b hs' ts' m0 m1 m2 t sl f1 f2 f3 f4 f5 f6 st → Q (.ref K) ⟨h', g, dr, tk', os⟩) :
    wpAny (model PR w) A (call (.type "type") [.str "K" t, .ref b, .ref d]) Q E ⟨h, g, dr, tk, os⟩ := by
  refine wpAny_call (codeAny_of_tree ?_)
  show wpAny _ _ (callAny (.type "type") _) _ _ _
  refine wpAny_pure ⟨Code.quiet_builtin _ (by decide +kernel), codeAny_builtin F.entry_type_call ?_⟩
  rw [Around.under_plain (weight_type_call_type "type" _ []) rfl]
  refine hIn ?_
  unfold Builtin.«type.__call__»
  repeat (first | with_reducible refine wpAny_onRaise ?_ | ((with_reducible show wpAny _ _ enterFrame _ _ _); (with_reducible rename Heap.NoLimit _ => hl); refine Mine.hEnter hl (by decide) ?_) | ((with_reducible show wpAny _ _ (List.mapM.loop mkText (Scope.freeNames _) []) _ _ _); (first | (rw [Mine.free1 (x := Str.ofString "mycmp") ?hfr]; (case hfr => (kernel_rfl!; done))) | (rw [Mine.free0 ?hfr]; (case hfr => (kernel_rfl!; done))))) | with_reducible refine Mine.bqIn ?_ | with_reducible refine Mine.bqGo ?_ | with_reducible refine PySem.wpAny_pure ?_ | with_reducible refine PySem.wpAny_rule ?_ | with_reducible refine PySem.wpAny_holding ?_ | with_reducible refine PySem.wpAny_standAt ?_ | with_reducible refine PySem.wpAny_point ?_ | with_reducible refine PySem.wpAny_fresh' ?_ | with_reducible refine Mine.wpTry ?_ | with_reducible refine PySem.wpAny_askSetting ?_ | ((with_reducible show wpAny _ _ (alloc _) _ _ _); (refine Mine.hAlloc rfl ?_); intro _ _ _) | ((with_reducible show wpAny _ _ (ite _ _ _) _ _ _); (first | (refine PySem.wpAny_ite_false ?hc ?_; (case hc => (kernel_rfl!; done))) | (refine PySem.wpAny_ite_true ?hc ?_; (case hc => (kernel_rfl!; done))) | (refine PySem.wpAny_ite_false ?hc ?_; (case hc => (simp [*]; done))) | (refine PySem.wpAny_ite_true ?hc ?_; (case hc => (simp [*]; done))))) | ((with_reducible show wpAny _ _ (load _) _ _ _); (first | (refine' Mine.hLd ?hm ?_; (case hm => (first | (repeat (first | exact List.Mem.head _ | apply List.Mem.tail))))) | (refine Mine.hOl (by with_reducible assumption) ?_) | ((with_reducible rename Frag.In _ _ => XF); (refine Mine.hOl (XF _ _ rfl) ?_)))) | ((with_reducible show wpAny _ _ (loadPart _ _) _ _ _); (first | (refine' Mine.hLdP ?hm ?_; (case hm => (first | (repeat (first | exact List.Mem.head _ | apply List.Mem.tail))))) | (refine Mine.hOlP (by with_reducible assumption) ?_) | ((with_reducible rename Frag.In _ _ => XF); (refine Mine.hOlP (XF _ _ rfl) ?_)))) | ((with_reducible show wpAny _ _ (update _ _) _ _ _); (first | (refine' Mine.hUpd ?hu ?hf ?_; (case hu => (repeat (first | exact Mine.Up.head | apply Mine.Up.tail))); (case hf => rfl)) | (refine' Mine.hUpdP ?hu ?hf ?_; (case hu => (repeat (first | exact Mine.Up.head | apply Mine.Up.tail))); (case hf => rfl)))) | ((with_reducible show wpAny _ _ (updatePart _ _ _) _ _ _); (first | (refine' Mine.hUpd ?hu ?hf ?_; (case hu => (repeat (first | exact Mine.Up.head | apply Mine.Up.tail))); (case hf => rfl)) | (refine' Mine.hUpdP ?hu ?hf ?_; (case hu => (repeat (first | exact Mine.Up.head | apply Mine.Up.tail))); (case hf => rfl)))) | ((with_reducible show wpAny _ _ (isSubtype (.type _) _) _ _ _); refine wpAny_of_eq (a := true) ?hc ?_; (case hc => (rw [isSubtype_type]; kernel_rfl!))) | ((with_reducible show wpAny _ _ (PySem.Builtin.notOverATurnedClass _) _ _ _); refine wpAny_of_eq (a := ()) ?hc ?_; (case hc => kernel_rfl!)) | ((first | (with_reducible show wpAny _ _ (PySem.Builtin.extendedBase _) _ _ _) | (with_reducible show wpAny _ _ (PySem.Builtin.Slots.bestBase _) _ _ _)); refine wpAny_of_eq (a := .type "object") ?hc ?_; (case hc => kernel_rfl!)) | ((first | (with_reducible show wpAny _ _ (PySem.Builtin.Slots.givesDict _) _ _ _) | (with_reducible show wpAny _ _ (PySem.Builtin.Slots.givesWeak _) _ _ _) | (with_reducible show wpAny _ _ (PySem.Builtin.Slots.varSize _) _ _ _)); refine wpAny_of_eq (a := false) ?hc ?_; (case hc => kernel_rfl!)) | ((with_reducible show wpAny _ _ (typeLookup (.ref _) _) _ _ _); unfold typeLookup) | ((with_reducible show wpAny _ _ (classOwn (.type _) _) _ _ _); (first | (refine wpAny_of_eq (a := some (.builtin "object.__new__")) ?hc ?_; (case hc => kernel_rfl!)) | (refine wpAny_of_eq (a := none) ?hc ?_; (case hc => kernel_rfl!)))) | ((with_reducible show wpAny _ _ (typeLookup (.type _) _) _ _ _); (refine wpAny_of_eq (a := none) ?hc ?_; (case hc => (rw [typeLookup_type, builtinLookup_eq_fast]; kernel_rfl!)))) | ((with_reducible show wpAny _ _ (PySem.Builtin.mroHook? _) _ _ _); refine wpAny_of_eq (a := none) ?hc ?_; (case hc => kernel_rfl!)) | ((with_reducible show wpAny _ _ (PySem.Builtin.linearize _ _) _ _ _); refine wpAny_of_eq (a := [.type "object"]) ?hc ?_; (case hc => kernel_rfl!)) | ((with_reducible show wpAny _ _ (Bind.madeBy (.type _)) _ _ _); (first | (refine wpAny_of_eq (a := some "type.__new__") ?hc ?_; (case hc => kernel_rfl!)) | (refine wpAny_of_eq (a := some "object.__new__") ?hc ?_; (case hc => kernel_rfl!)))) | ((fail_if_success (with_reducible show wpAny _ _ (List.anyM _ _) _ _ _)); (fail_if_success (with_reducible show wpAny _ _ (call _ _ _) _ _ _)); (fail_if_success (with_reducible show wpAny _ _ (collect _) _ _ _)); (fail_if_success (with_reducible show wpAny _ _ (PySem.Builtin.Slots.read _ _ _) _ _ _)); (first | wp_delta | wp_step)))
  refine hBack ?_
  refine wpAny_call (codeAny_call_builtin (by decide +kernel) (entryFor_of_tree (b := Builtin.«type.__new__») (by kernel_rfl)) ?_)
  refine wpAny_of_eq (a := ()) (by kernel_rfl) ?_
  refine toAX hA.in1.in1 (by omega) (tn hb hd hd1 hsl q1 q2 q3 q4 q5 q6 qs X fun h₁ K nsA ds hs' ts' tk' M => ?_)
  have hK := M.cls
  dsimp -zeta only
  refine hIn ?_
  repeat (first | with_reducible refine wpAny_onRaise ?_ | ((with_reducible show wpAny _ _ enterFrame _ _ _); (with_reducible rename Heap.NoLimit _ => hl); refine Mine.hEnter hl (by decide) ?_) | ((with_reducible show wpAny _ _ (List.mapM.loop mkText (Scope.freeNames _) []) _ _ _); (first | (rw [Mine.free1 (x := Str.ofString "mycmp") ?hfr]; (case hfr => (kernel_rfl!; done))) | (rw [Mine.free0 ?hfr]; (case hfr => (kernel_rfl!; done))))) | with_reducible refine Mine.bqIn ?_ | with_reducible refine Mine.bqGo ?_ | with_reducible refine PySem.wpAny_pure ?_ | with_reducible refine PySem.wpAny_rule ?_ | with_reducible refine PySem.wpAny_holding ?_ | with_reducible refine PySem.wpAny_standAt ?_ | with_reducible refine PySem.wpAny_point ?_ | with_reducible refine PySem.wpAny_fresh' ?_ | with_reducible refine Mine.wpTry ?_ | with_reducible refine PySem.wpAny_askSetting ?_ | ((with_reducible show wpAny _ _ (alloc _) _ _ _); (refine Mine.hAlloc rfl ?_); intro _ _ _) | ((with_reducible show wpAny _ _ (ite _ _ _) _ _ _); (first | (refine PySem.wpAny_ite_false ?hc ?_; (case hc => (kernel_rfl!; done))) | (refine PySem.wpAny_ite_true ?hc ?_; (case hc => (kernel_rfl!; done))) | (refine PySem.wpAny_ite_false ?hc ?_; (case hc => (simp [*]; done))) | (refine PySem.wpAny_ite_true ?hc ?_; (case hc => (simp [*]; done))))) | ((with_reducible show wpAny _ _ (load _) _ _ _); (first | (refine' Mine.hLd ?hm ?_; (case hm => (first | (repeat (first | exact List.Mem.head _ | apply List.Mem.tail))))) | (refine Mine.hOl (by with_reducible assumption) ?_) | ((with_reducible rename Frag.In _ _ => XF); (refine Mine.hOl (XF _ _ rfl) ?_)))) | ((with_reducible show wpAny _ _ (loadPart _ _) _ _ _); (first | (refine' Mine.hLdP ?hm ?_; (case hm => (first | (repeat (first | exact List.Mem.head _ | apply List.Mem.tail))))) | (refine Mine.hOlP (by with_reducible assumption) ?_) | ((with_reducible rename Frag.In _ _ => XF); (refine Mine.hOlP (XF _ _ rfl) ?_)))) | ((with_reducible show wpAny _ _ (update _ _) _ _ _); (first | (refine' Mine.hUpd ?hu ?hf ?_; (case hu => (repeat (first | exact Mine.Up.head | apply Mine.Up.tail))); (case hf => rfl)) | (refine' Mine.hUpdP ?hu ?hf ?_; (case hu => (repeat (first | exact Mine.Up.head | apply Mine.Up.tail))); (case hf => rfl)))) | ((with_reducible show wpAny _ _ (updatePart _ _ _) _ _ _); (first | (refine' Mine.hUpd ?hu ?hf ?_; (case hu => (repeat (first | exact Mine.Up.head | apply Mine.Up.tail))); (case hf => rfl)) | (refine' Mine.hUpdP ?hu ?hf ?_; (case hu => (repeat (first | exact Mine.Up.head | apply Mine.Up.tail))); (case hf => rfl)))) | ((with_reducible show wpAny _ _ (isSubtype (.type _) _) _ _ _); refine wpAny_of_eq (a := true) ?hc ?_; (case hc => (rw [isSubtype_type]; kernel_rfl!))) | ((with_reducible show wpAny _ _ (PySem.Builtin.notOverATurnedClass _) _ _ _); refine wpAny_of_eq (a := ()) ?hc ?_; (case hc => kernel_rfl!)) | ((first | (with_reducible show wpAny _ _ (PySem.Builtin.extendedBase _) _ _ _) | (with_reducible show wpAny _ _ (PySem.Builtin.Slots.bestBase _) _ _ _)); refine wpAny_of_eq (a := .type "object") ?hc ?_; (case hc => kernel_rfl!)) | ((first | (with_reducible show wpAny _ _ (PySem.Builtin.Slots.givesDict _) _ _ _) | (with_reducible show wpAny _ _ (PySem.Builtin.Slots.givesWeak _) _ _ _) | (with_reducible show wpAny _ _ (PySem.Builtin.Slots.varSize _) _ _ _)); refine wpAny_of_eq (a := false) ?hc ?_; (case hc => kernel_rfl!)) | ((with_reducible show wpAny _ _ (typeLookup (.ref _) _) _ _ _); unfold typeLookup) | ((with_reducible show wpAny _ _ (classOwn (.type _) _) _ _ _); (first | (refine wpAny_of_eq (a := some (.builtin "object.__new__")) ?hc ?_; (case hc => kernel_rfl!)) | (refine wpAny_of_eq (a := none) ?hc ?_; (case hc => kernel_rfl!)))) | ((with_reducible show wpAny _ _ (typeLookup (.type _) _) _ _ _); (refine wpAny_of_eq (a := none) ?hc ?_; (case hc => (rw [typeLookup_type, builtinLookup_eq_fast]; kernel_rfl!)))) | ((with_reducible show wpAny _ _ (PySem.Builtin.mroHook? _) _ _ _); refine wpAny_of_eq (a := none) ?hc ?_; (case hc => kernel_rfl!)) | ((with_reducible show wpAny _ _ (PySem.Builtin.linearize _ _) _ _ _); refine wpAny_of_eq (a := [.type "object"]) ?hc ?_; (case hc => kernel_rfl!)) | ((with_reducible show wpAny _ _ (Bind.madeBy (.type _)) _ _ _); (first | (refine wpAny_of_eq (a := some "type.__new__") ?hc ?_; (case hc => kernel_rfl!)) | (refine wpAny_of_eq (a := some "object.__new__") ?hc ?_; (case hc => kernel_rfl!)))) | ((fail_if_success (with_reducible show wpAny _ _ (List.anyM _ _) _ _ _)); (fail_if_success (with_reducible show wpAny _ _ (call _ _ _) _ _ _)); (fail_if_success (with_reducible show wpAny _ _ (collect _) _ _ _)); (fail_if_success (with_reducible show wpAny _ _ (PySem.Builtin.Slots.read _ _ _) _ _ _)); (first | wp_delta | wp_step)))
  refine wpAny_of_eq (a := some (.builtin "type.__init__")) (by show typeLookup (.type "type") _ = _; rw [typeLookup_type, builtinLookup_eq_fast]; kernel_rfl) ?_
  repeat ((fail_if_success (with_reducible show codeAny _ _ _ _ _)); (first | with_reducible refine wpAny_onRaise ?_ | ((with_reducible show wpAny _ _ enterFrame _ _ _); (with_reducible rename Heap.NoLimit _ => hl); refine Mine.hEnter hl (by decide) ?_) | ((with_reducible show wpAny _ _ (List.mapM.loop mkText (Scope.freeNames _) []) _ _ _); (first | (rw [Mine.free1 (x := Str.ofString "mycmp") ?hfr]; (case hfr => (kernel_rfl!; done))) | (rw [Mine.free0 ?hfr]; (case hfr => (kernel_rfl!; done))))) | with_reducible refine Mine.bqIn ?_ | with_reducible refine Mine.bqGo ?_ | with_reducible refine PySem.wpAny_pure ?_ | with_reducible refine PySem.wpAny_rule ?_ | with_reducible refine PySem.wpAny_holding ?_ | with_reducible refine PySem.wpAny_standAt ?_ | with_reducible refine PySem.wpAny_point ?_ | with_reducible refine PySem.wpAny_fresh' ?_ | with_reducible refine Mine.wpTry ?_ | with_reducible refine PySem.wpAny_askSetting ?_ | ((with_reducible show wpAny _ _ (alloc _) _ _ _); (refine Mine.hAlloc rfl ?_); intro _ _ _) | ((with_reducible show wpAny _ _ (ite _ _ _) _ _ _); (first | (refine PySem.wpAny_ite_false ?hc ?_; (case hc => (kernel_rfl!; done))) | (refine PySem.wpAny_ite_true ?hc ?_; (case hc => (kernel_rfl!; done))) | (refine PySem.wpAny_ite_false ?hc ?_; (case hc => (simp [*]; done))) | (refine PySem.wpAny_ite_true ?hc ?_; (case hc => (simp [*]; done))))) | ((with_reducible show wpAny _ _ (load _) _ _ _); (first | (refine' Mine.hLd ?hm ?_; (case hm => (first | (repeat (first | exact List.Mem.head _ | apply List.Mem.tail))))) | (refine Mine.hOl (by with_reducible assumption) ?_) | ((with_reducible rename Frag.In _ _ => XF); (refine Mine.hOl (XF _ _ rfl) ?_)))) | ((with_reducible show wpAny _ _ (loadPart _ _) _ _ _); (first | (refine' Mine.hLdP ?hm ?_; (case hm => (first | (repeat (first | exact List.Mem.head _ | apply List.Mem.tail))))) | (refine Mine.hOlP (by with_reducible assumption) ?_) | ((with_reducible rename Frag.In _ _ => XF); (refine Mine.hOlP (XF _ _ rfl) ?_)))) | ((with_reducible show wpAny _ _ (update _ _) _ _ _); (first | (refine' Mine.hUpd ?hu ?hf ?_; (case hu => (repeat (first | exact Mine.Up.head | apply Mine.Up.tail))); (case hf => rfl)) | (refine' Mine.hUpdP ?hu ?hf ?_; (case hu => (repeat (first | exact Mine.Up.head | apply Mine.Up.tail))); (case hf => rfl)))) | ((with_reducible show wpAny _ _ (updatePart _ _ _) _ _ _); (first | (refine' Mine.hUpd ?hu ?hf ?_; (case hu => (repeat (first | exact Mine.Up.head | apply Mine.Up.tail))); (case hf => rfl)) | (refine' Mine.hUpdP ?hu ?hf ?_; (case hu => (repeat (first | exact Mine.Up.head | apply Mine.Up.tail))); (case hf => rfl)))) | ((with_reducible show wpAny _ _ (isSubtype (.type _) _) _ _ _); refine wpAny_of_eq (a := true) ?hc ?_; (case hc => (rw [isSubtype_type]; kernel_rfl!))) | ((with_reducible show wpAny _ _ (PySem.Builtin.notOverATurnedClass _) _ _ _); refine wpAny_of_eq (a := ()) ?hc ?_; (case hc => kernel_rfl!)) | ((first | (with_reducible show wpAny _ _ (PySem.Builtin.extendedBase _) _ _ _) | (with_reducible show wpAny _ _ (PySem.Builtin.Slots.bestBase _) _ _ _)); refine wpAny_of_eq (a := .type "object") ?hc ?_; (case hc => kernel_rfl!)) | ((first | (with_reducible show wpAny _ _ (PySem.Builtin.Slots.givesDict _) _ _ _) | (with_reducible show wpAny _ _ (PySem.Builtin.Slots.givesWeak _) _ _ _) | (with_reducible show wpAny _ _ (PySem.Builtin.Slots.varSize _) _ _ _)); refine wpAny_of_eq (a := false) ?hc ?_; (case hc => kernel_rfl!)) | ((with_reducible show wpAny _ _ (typeLookup (.ref _) _) _ _ _); unfold typeLookup) | ((with_reducible show wpAny _ _ (classOwn (.type _) _) _ _ _); (first | (refine wpAny_of_eq (a := some (.builtin "object.__new__")) ?hc ?_; (case hc => kernel_rfl!)) | (refine wpAny_of_eq (a := none) ?hc ?_; (case hc => kernel_rfl!)))) | ((with_reducible show wpAny _ _ (typeLookup (.type _) _) _ _ _); (refine wpAny_of_eq (a := none) ?hc ?_; (case hc => (rw [typeLookup_type, builtinLookup_eq_fast]; kernel_rfl!)))) | ((with_reducible show wpAny _ _ (PySem.Builtin.mroHook? _) _ _ _); refine wpAny_of_eq (a := none) ?hc ?_; (case hc => kernel_rfl!)) | ((with_reducible show wpAny _ _ (PySem.Builtin.linearize _ _) _ _ _); refine wpAny_of_eq (a := [.type "object"]) ?hc ?_; (case hc => kernel_rfl!)) | ((with_reducible show wpAny _ _ (Bind.madeBy (.type _)) _ _ _); (first | (refine wpAny_of_eq (a := some "type.__new__") ?hc ?_; (case hc => kernel_rfl!)) | (refine wpAny_of_eq (a := some "object.__new__") ?hc ?_; (case hc => kernel_rfl!)))) | ((fail_if_success (with_reducible show wpAny _ _ (List.anyM _ _) _ _ _)); (fail_if_success (with_reducible show wpAny _ _ (call _ _ _) _ _ _)); (fail_if_success (with_reducible show wpAny _ _ (collect _) _ _ _)); (fail_if_success (with_reducible show wpAny _ _ (PySem.Builtin.Slots.read _ _ _) _ _ _)); (first | wp_delta | wp_step))))
  refine wpAny_of_eq (slot_type_init.bind (Value.ref K)) ?_
  repeat ((fail_if_success (with_reducible show codeAny _ _ _ _ _)); (first | with_reducible refine wpAny_onRaise ?_ | ((with_reducible show wpAny _ _ enterFrame _ _ _); (with_reducible rename Heap.NoLimit _ => hl); refine Mine.hEnter hl (by decide) ?_) | ((with_reducible show wpAny _ _ (List.mapM.loop mkText (Scope.freeNames _) []) _ _ _); (first | (rw [Mine.free1 (x := Str.ofString "mycmp") ?hfr]; (case hfr => (kernel_rfl!; done))) | (rw [Mine.free0 ?hfr]; (case hfr => (kernel_rfl!; done))))) | with_reducible refine Mine.bqIn ?_ | with_reducible refine Mine.bqGo ?_ | with_reducible refine PySem.wpAny_pure ?_ | with_reducible refine PySem.wpAny_rule ?_ | with_reducible refine PySem.wpAny_holding ?_ | with_reducible refine PySem.wpAny_standAt ?_ | with_reducible refine PySem.wpAny_point ?_ | with_reducible refine PySem.wpAny_fresh' ?_ | with_reducible refine Mine.wpTry ?_ | with_reducible refine PySem.wpAny_askSetting ?_ | ((with_reducible show wpAny _ _ (alloc _) _ _ _); (refine Mine.hAlloc rfl ?_); intro _ _ _) | ((with_reducible show wpAny _ _ (ite _ _ _) _ _ _); (first | (refine PySem.wpAny_ite_false ?hc ?_; (case hc => (kernel_rfl!; done))) | (refine PySem.wpAny_ite_true ?hc ?_; (case hc => (kernel_rfl!; done))) | (refine PySem.wpAny_ite_false ?hc ?_; (case hc => (simp [*]; done))) | (refine PySem.wpAny_ite_true ?hc ?_; (case hc => (simp [*]; done))))) | ((with_reducible show wpAny _ _ (load _) _ _ _); (first | (refine' Mine.hLd ?hm ?_; (case hm => (first | (repeat (first | exact List.Mem.head _ | apply List.Mem.tail))))) | (refine Mine.hOl (by with_reducible assumption) ?_) | ((with_reducible rename Frag.In _ _ => XF); (refine Mine.hOl (XF _ _ rfl) ?_)))) | ((with_reducible show wpAny _ _ (loadPart _ _) _ _ _); (first | (refine' Mine.hLdP ?hm ?_; (case hm => (first | (repeat (first | exact List.Mem.head _ | apply List.Mem.tail))))) | (refine Mine.hOlP (by with_reducible assumption) ?_) | ((with_reducible rename Frag.In _ _ => XF); (refine Mine.hOlP (XF _ _ rfl) ?_)))) | ((with_reducible show wpAny _ _ (update _ _) _ _ _); (first | (refine' Mine.hUpd ?hu ?hf ?_; (case hu => (repeat (first | exact Mine.Up.head | apply Mine.Up.tail))); (case hf => rfl)) | (refine' Mine.hUpdP ?hu ?hf ?_; (case hu => (repeat (first | exact Mine.Up.head | apply Mine.Up.tail))); (case hf => rfl)))) | ((with_reducible show wpAny _ _ (updatePart _ _ _) _ _ _); (first | (refine' Mine.hUpd ?hu ?hf ?_; (case hu => (repeat (first | exact Mine.Up.head | apply Mine.Up.tail))); (case hf => rfl)) | (refine' Mine.hUpdP ?hu ?hf ?_; (case hu => (repeat (first | exact Mine.Up.head | apply Mine.Up.tail))); (case hf => rfl)))) | ((with_reducible show wpAny _ _ (isSubtype (.type _) _) _ _ _); refine wpAny_of_eq (a := true) ?hc ?_; (case hc => (rw [isSubtype_type]; kernel_rfl!))) | ((with_reducible show wpAny _ _ (PySem.Builtin.notOverATurnedClass _) _ _ _); refine wpAny_of_eq (a := ()) ?hc ?_; (case hc => kernel_rfl!)) | ((first | (with_reducible show wpAny _ _ (PySem.Builtin.extendedBase _) _ _ _) | (with_reducible show wpAny _ _ (PySem.Builtin.Slots.bestBase _) _ _ _)); refine wpAny_of_eq (a := .type "object") ?hc ?_; (case hc => kernel_rfl!)) | ((first | (with_reducible show wpAny _ _ (PySem.Builtin.Slots.givesDict _) _ _ _) | (with_reducible show wpAny _ _ (PySem.Builtin.Slots.givesWeak _) _ _ _) | (with_reducible show wpAny _ _ (PySem.Builtin.Slots.varSize _) _ _ _)); refine wpAny_of_eq (a := false) ?hc ?_; (case hc => kernel_rfl!)) | ((with_reducible show wpAny _ _ (typeLookup (.ref _) _) _ _ _); unfold typeLookup) | ((with_reducible show wpAny _ _ (classOwn (.type _) _) _ _ _); (first | (refine wpAny_of_eq (a := some (.builtin "object.__new__")) ?hc ?_; (case hc => kernel_rfl!)) | (refine wpAny_of_eq (a := none) ?hc ?_; (case hc => kernel_rfl!)))) | ((with_reducible show wpAny _ _ (typeLookup (.type _) _) _ _ _); (refine wpAny_of_eq (a := none) ?hc ?_; (case hc => (rw [typeLookup_type, builtinLookup_eq_fast]; kernel_rfl!)))) | ((with_reducible show wpAny _ _ (PySem.Builtin.mroHook? _) _ _ _); refine wpAny_of_eq (a := none) ?hc ?_; (case hc => kernel_rfl!)) | ((with_reducible show wpAny _ _ (PySem.Builtin.linearize _ _) _ _ _); refine wpAny_of_eq (a := [.type "object"]) ?hc ?_; (case hc => kernel_rfl!)) | ((with_reducible show wpAny _ _ (Bind.madeBy (.type _)) _ _ _); (first | (refine wpAny_of_eq (a := some "type.__new__") ?hc ?_; (case hc => kernel_rfl!)) | (refine wpAny_of_eq (a := some "object.__new__") ?hc ?_; (case hc => kernel_rfl!)))) | ((fail_if_success (with_reducible show wpAny _ _ (List.anyM _ _) _ _ _)); (fail_if_success (with_reducible show wpAny _ _ (call _ _ _) _ _ _)); (fail_if_success (with_reducible show wpAny _ _ (collect _) _ _ _)); (fail_if_success (with_reducible show wpAny _ _ (PySem.Builtin.Slots.read _ _ _) _ _ _)); (first | wp_delta | wp_step))))
  have tK : (⟨hp (Mm.start h₁), g, dr, tk', os⟩ : Shared).TypeIs (.ref K) "type" := ⟨_, hK, rfl⟩
  refine wpAny_call (codeAny_call_builtin slot_type_init.plain entry_type_init (slot_type_init.check _ _ _ _ _ _ _ _ tK (args_type_init _ _ _ _) ?_))
  unfold Builtin.«type.__init__»
  repeat (first | with_reducible refine wpAny_onRaise ?_ | ((with_reducible show wpAny _ _ enterFrame _ _ _); (with_reducible rename Heap.NoLimit _ => hl); refine Mine.hEnter hl (by decide) ?_) | ((with_reducible show wpAny _ _ (List.mapM.loop mkText (Scope.freeNames _) []) _ _ _); (first | (rw [Mine.free1 (x := Str.ofString "mycmp") ?hfr]; (case hfr => (kernel_rfl!; done))) | (rw [Mine.free0 ?hfr]; (case hfr => (kernel_rfl!; done))))) | with_reducible refine Mine.bqIn ?_ | with_reducible refine Mine.bqGo ?_ | with_reducible refine PySem.wpAny_pure ?_ | with_reducible refine PySem.wpAny_rule ?_ | with_reducible refine PySem.wpAny_holding ?_ | with_reducible refine PySem.wpAny_standAt ?_ | with_reducible refine PySem.wpAny_point ?_ | with_reducible refine PySem.wpAny_fresh' ?_ | with_reducible refine Mine.wpTry ?_ | with_reducible refine PySem.wpAny_askSetting ?_ | ((with_reducible show wpAny _ _ (alloc _) _ _ _); (refine Mine.hAlloc rfl ?_); intro _ _ _) | ((with_reducible show wpAny _ _ (ite _ _ _) _ _ _); (first | (refine PySem.wpAny_ite_false ?hc ?_; (case hc => (kernel_rfl!; done))) | (refine PySem.wpAny_ite_true ?hc ?_; (case hc => (kernel_rfl!; done))) | (refine PySem.wpAny_ite_false ?hc ?_; (case hc => (simp [*]; done))) | (refine PySem.wpAny_ite_true ?hc ?_; (case hc => (simp [*]; done))))) | ((with_reducible show wpAny _ _ (load _) _ _ _); (first | (refine' Mine.hLd ?hm ?_; (case hm => (first | (repeat (first | exact List.Mem.head _ | apply List.Mem.tail))))) | (refine Mine.hOl (by with_reducible assumption) ?_) | ((with_reducible rename Frag.In _ _ => XF); (refine Mine.hOl (XF _ _ rfl) ?_)))) | ((with_reducible show wpAny _ _ (loadPart _ _) _ _ _); (first | (refine' Mine.hLdP ?hm ?_; (case hm => (first | (repeat (first | exact List.Mem.head _ | apply List.Mem.tail))))) | (refine Mine.hOlP (by with_reducible assumption) ?_) | ((with_reducible rename Frag.In _ _ => XF); (refine Mine.hOlP (XF _ _ rfl) ?_)))) | ((with_reducible show wpAny _ _ (update _ _) _ _ _); (first | (refine' Mine.hUpd ?hu ?hf ?_; (case hu => (repeat (first | exact Mine.Up.head | apply Mine.Up.tail))); (case hf => rfl)) | (refine' Mine.hUpdP ?hu ?hf ?_; (case hu => (repeat (first | exact Mine.Up.head | apply Mine.Up.tail))); (case hf => rfl)))) | ((with_reducible show wpAny _ _ (updatePart _ _ _) _ _ _); (first | (refine' Mine.hUpd ?hu ?hf ?_; (case hu => (repeat (first | exact Mine.Up.head | apply Mine.Up.tail))); (case hf => rfl)) | (refine' Mine.hUpdP ?hu ?hf ?_; (case hu => (repeat (first | exact Mine.Up.head | apply Mine.Up.tail))); (case hf => rfl)))) | ((with_reducible show wpAny _ _ (isSubtype (.type _) _) _ _ _); refine wpAny_of_eq (a := true) ?hc ?_; (case hc => (rw [isSubtype_type]; kernel_rfl!))) | ((with_reducible show wpAny _ _ (PySem.Builtin.notOverATurnedClass _) _ _ _); refine wpAny_of_eq (a := ()) ?hc ?_; (case hc => kernel_rfl!)) | ((first | (with_reducible show wpAny _ _ (PySem.Builtin.extendedBase _) _ _ _) | (with_reducible show wpAny _ _ (PySem.Builtin.Slots.bestBase _) _ _ _)); refine wpAny_of_eq (a := .type "object") ?hc ?_; (case hc => kernel_rfl!)) | ((first | (with_reducible show wpAny _ _ (PySem.Builtin.Slots.givesDict _) _ _ _) | (with_reducible show wpAny _ _ (PySem.Builtin.Slots.givesWeak _) _ _ _) | (with_reducible show wpAny _ _ (PySem.Builtin.Slots.varSize _) _ _ _)); refine wpAny_of_eq (a := false) ?hc ?_; (case hc => kernel_rfl!)) | ((with_reducible show wpAny _ _ (typeLookup (.ref _) _) _ _ _); unfold typeLookup) | ((with_reducible show wpAny _ _ (classOwn (.type _) _) _ _ _); (first | (refine wpAny_of_eq (a := some (.builtin "object.__new__")) ?hc ?_; (case hc => kernel_rfl!)) | (refine wpAny_of_eq (a := none) ?hc ?_; (case hc => kernel_rfl!)))) | ((with_reducible show wpAny _ _ (typeLookup (.type _) _) _ _ _); (refine wpAny_of_eq (a := none) ?hc ?_; (case hc => (rw [typeLookup_type, builtinLookup_eq_fast]; kernel_rfl!)))) | ((with_reducible show wpAny _ _ (PySem.Builtin.mroHook? _) _ _ _); refine wpAny_of_eq (a := none) ?hc ?_; (case hc => kernel_rfl!)) | ((with_reducible show wpAny _ _ (PySem.Builtin.linearize _ _) _ _ _); refine wpAny_of_eq (a := [.type "object"]) ?hc ?_; (case hc => kernel_rfl!)) | ((with_reducible show wpAny _ _ (Bind.madeBy (.type _)) _ _ _); (first | (refine wpAny_of_eq (a := some "type.__new__") ?hc ?_; (case hc => kernel_rfl!)) | (refine wpAny_of_eq (a := some "object.__new__") ?hc ?_; (case hc => kernel_rfl!)))) | ((fail_if_success (with_reducible show wpAny _ _ (List.anyM _ _) _ _ _)); (fail_if_success (with_reducible show wpAny _ _ (call _ _ _) _ _ _)); (fail_if_success (with_reducible show wpAny _ _ (collect _) _ _ _)); (fail_if_success (with_reducible show wpAny _ _ (PySem.Builtin.Slots.read _ _ _) _ _ _)); (first | wp_delta | wp_step)))
  exact hq h₁ K nsA ds hs' ts' tk' M
end Mine
end
section
open PySem PySem.W PySem.Calls PyProof.Rows PySem.W.X PySem.Builtin
set_option maxRecDepth 100000
set_option maxHeartbeats 1000000
namespace Mine
variable {w : World} {A : Around} {E : Value → Shared → Prop} {h : Heap} {g : Array GenState} {dr : Drawn} {tk : Nat} {os : OsState} {n : Nat} {loose : List Str} {mean : ExcName → Option Value} {mg mb : Str → Option Value}
noncomputable abbrev prepO : Obj := { cls := .type "builtin_function_or_method", data := .fields #[.builtin "type.__prepare__", .type "type"] }
theorem prep_attr {Q : Option Value → Shared → Prop} 
    (hq : ∀ h' a, Mm h h' [(a, prepO)] → Q (some (.ref a)) ⟨h', g, dr, tk + 1, os⟩) :
    wpAny (model PR w) AX (getAttr? (.type "type") "__prepare__") Q E ⟨h, g, dr, tk, os⟩ := by
  have l1 : typeLookup (.type "type") "__getattribute__" = pure (some (.builtin "type.__getattribute__")) := KF.slot_tga.lookup
  have l2 := KF.slot_tga.bind (Value.type "type")
  have tt : typeOf (.type "type") = pure (.type "type") := rfl
  unfold getAttr?
  repeat wp_step
  refine codeAny_call_builtin KF.slot_tga.plain KF.entry_tga (KF.slot_tga.check _ _ _ _ _ _ _ _ (by show typeOf _ = _; rfl) (KF.args_tga _ _) ?_)
  unfold Builtin.«type.__getattribute__»
  refine hIn ?_
  repeat ((fail_if_success (with_reducible show codeAny _ _ _ _ _)); (first | with_reducible refine wpAny_onRaise ?_ | ((with_reducible show wpAny _ _ enterFrame _ _ _); (with_reducible rename Heap.NoLimit _ => hl); refine Mine.hEnter hl (by decide) ?_) | ((with_reducible show wpAny _ _ (List.mapM.loop mkText (Scope.freeNames _) []) _ _ _); (first | (rw [Mine.free1 (x := Str.ofString "mycmp") ?hfr]; (case hfr => (kernel_rfl!; done))) | (rw [Mine.free0 ?hfr]; (case hfr => (kernel_rfl!; done))))) | with_reducible refine Mine.bqIn ?_ | with_reducible refine Mine.bqGo ?_ | with_reducible refine PySem.wpAny_pure ?_ | with_reducible refine PySem.wpAny_rule ?_ | with_reducible refine PySem.wpAny_holding ?_ | with_reducible refine PySem.wpAny_standAt ?_ | with_reducible refine PySem.wpAny_point ?_ | with_reducible refine PySem.wpAny_fresh' ?_ | with_reducible refine Mine.wpTry ?_ | with_reducible refine PySem.wpAny_askSetting ?_ | ((with_reducible show wpAny _ _ (alloc _) _ _ _); (refine Mine.hAlloc rfl ?_); intro _ _ _) | ((with_reducible show wpAny _ _ (ite _ _ _) _ _ _); (first | (refine PySem.wpAny_ite_false ?hc ?_; (case hc => (kernel_rfl!; done))) | (refine PySem.wpAny_ite_true ?hc ?_; (case hc => (kernel_rfl!; done))) | (refine PySem.wpAny_ite_false ?hc ?_; (case hc => (simp [*]; done))) | (refine PySem.wpAny_ite_true ?hc ?_; (case hc => (simp [*]; done))))) | ((with_reducible show wpAny _ _ (load _) _ _ _); (first | (refine' Mine.hLd ?hm ?_; (case hm => (first | (repeat (first | exact List.Mem.head _ | apply List.Mem.tail))))) | (refine Mine.hOl (by with_reducible assumption) ?_) | ((with_reducible rename Frag.In _ _ => XF); (refine Mine.hOl (XF _ _ rfl) ?_)))) | ((with_reducible show wpAny _ _ (loadPart _ _) _ _ _); (first | (refine' Mine.hLdP ?hm ?_; (case hm => (first | (repeat (first | exact List.Mem.head _ | apply List.Mem.tail))))) | (refine Mine.hOlP (by with_reducible assumption) ?_) | ((with_reducible rename Frag.In _ _ => XF); (refine Mine.hOlP (XF _ _ rfl) ?_)))) | ((with_reducible show wpAny _ _ (update _ _) _ _ _); (first | (refine' Mine.hUpd ?hu ?hf ?_; (case hu => (repeat (first | exact Mine.Up.head | apply Mine.Up.tail))); (case hf => rfl)) | (refine' Mine.hUpdP ?hu ?hf ?_; (case hu => (repeat (first | exact Mine.Up.head | apply Mine.Up.tail))); (case hf => rfl)))) | ((with_reducible show wpAny _ _ (updatePart _ _ _) _ _ _); (first | (refine' Mine.hUpd ?hu ?hf ?_; (case hu => (repeat (first | exact Mine.Up.head | apply Mine.Up.tail))); (case hf => rfl)) | (refine' Mine.hUpdP ?hu ?hf ?_; (case hu => (repeat (first | exact Mine.Up.head | apply Mine.Up.tail))); (case hf => rfl)))) | ((with_reducible show wpAny _ _ (isSubtype (.type _) _) _ _ _); refine wpAny_of_eq (a := true) ?hc ?_; (case hc => (rw [isSubtype_type]; kernel_rfl!))) | ((with_reducible show wpAny _ _ (PySem.Builtin.notOverATurnedClass _) _ _ _); refine wpAny_of_eq (a := ()) ?hc ?_; (case hc => kernel_rfl!)) | ((first | (with_reducible show wpAny _ _ (PySem.Builtin.extendedBase _) _ _ _) | (with_reducible show wpAny _ _ (PySem.Builtin.Slots.bestBase _) _ _ _)); refine wpAny_of_eq (a := .type "object") ?hc ?_; (case hc => kernel_rfl!)) | ((first | (with_reducible show wpAny _ _ (PySem.Builtin.Slots.givesDict _) _ _ _) | (with_reducible show wpAny _ _ (PySem.Builtin.Slots.givesWeak _) _ _ _) | (with_reducible show wpAny _ _ (PySem.Builtin.Slots.varSize _) _ _ _)); refine wpAny_of_eq (a := false) ?hc ?_; (case hc => kernel_rfl!)) | ((with_reducible show wpAny _ _ (typeLookup (.ref _) _) _ _ _); unfold typeLookup) | ((with_reducible show wpAny _ _ (classOwn (.type _) _) _ _ _); (first | (refine wpAny_of_eq (a := some (.builtin "object.__new__")) ?hc ?_; (case hc => kernel_rfl!)) | (refine wpAny_of_eq (a := none) ?hc ?_; (case hc => kernel_rfl!)))) | ((with_reducible show wpAny _ _ (typeLookup (.type _) _) _ _ _); (refine wpAny_of_eq (a := none) ?hc ?_; (case hc => (rw [typeLookup_type, builtinLookup_eq_fast]; kernel_rfl!)))) | ((with_reducible show wpAny _ _ (PySem.Builtin.mroHook? _) _ _ _); refine wpAny_of_eq (a := none) ?hc ?_; (case hc => kernel_rfl!)) | ((with_reducible show wpAny _ _ (PySem.Builtin.linearize _ _) _ _ _); refine wpAny_of_eq (a := [.type "object"]) ?hc ?_; (case hc => kernel_rfl!)) | ((with_reducible show wpAny _ _ (Bind.madeBy (.type _)) _ _ _); (first | (refine wpAny_of_eq (a := some "type.__new__") ?hc ?_; (case hc => kernel_rfl!)) | (refine wpAny_of_eq (a := some "object.__new__") ?hc ?_; (case hc => kernel_rfl!)))) | ((fail_if_success (with_reducible show wpAny _ _ (List.anyM _ _) _ _ _)); (fail_if_success (with_reducible show wpAny _ _ (call _ _ _) _ _ _)); (fail_if_success (with_reducible show wpAny _ _ (collect _) _ _ _)); (fail_if_success (with_reducible show wpAny _ _ (PySem.Builtin.Slots.read _ _ _) _ _ _)); (first | wp_delta | wp_step))))
  refine wpAny_of_eq (a := some (.builtin "type.__prepare__")) (by rw [typeLookup_type, builtinLookup_eq_fast]; kernel_rfl) ?_
  repeat ((fail_if_success (with_reducible show codeAny _ _ _ _ _)); (first | with_reducible refine wpAny_onRaise ?_ | ((with_reducible show wpAny _ _ enterFrame _ _ _); (with_reducible rename Heap.NoLimit _ => hl); refine Mine.hEnter hl (by decide) ?_) | ((with_reducible show wpAny _ _ (List.mapM.loop mkText (Scope.freeNames _) []) _ _ _); (first | (rw [Mine.free1 (x := Str.ofString "mycmp") ?hfr]; (case hfr => (kernel_rfl!; done))) | (rw [Mine.free0 ?hfr]; (case hfr => (kernel_rfl!; done))))) | with_reducible refine Mine.bqIn ?_ | with_reducible refine Mine.bqGo ?_ | with_reducible refine PySem.wpAny_pure ?_ | with_reducible refine PySem.wpAny_rule ?_ | with_reducible refine PySem.wpAny_holding ?_ | with_reducible refine PySem.wpAny_standAt ?_ | with_reducible refine PySem.wpAny_point ?_ | with_reducible refine PySem.wpAny_fresh' ?_ | with_reducible refine Mine.wpTry ?_ | with_reducible refine PySem.wpAny_askSetting ?_ | ((with_reducible show wpAny _ _ (alloc _) _ _ _); (refine Mine.hAlloc rfl ?_); intro _ _ _) | ((with_reducible show wpAny _ _ (ite _ _ _) _ _ _); (first | (refine PySem.wpAny_ite_false ?hc ?_; (case hc => (kernel_rfl!; done))) | (refine PySem.wpAny_ite_true ?hc ?_; (case hc => (kernel_rfl!; done))) | (refine PySem.wpAny_ite_false ?hc ?_; (case hc => (simp [*]; done))) | (refine PySem.wpAny_ite_true ?hc ?_; (case hc => (simp [*]; done))))) | ((with_reducible show wpAny _ _ (load _) _ _ _); (first | (refine' Mine.hLd ?hm ?_; (case hm => (first | (repeat (first | exact List.Mem.head _ | apply List.Mem.tail))))) | (refine Mine.hOl (by with_reducible assumption) ?_) | ((with_reducible rename Frag.In _ _ => XF); (refine Mine.hOl (XF _ _ rfl) ?_)))) | ((with_reducible show wpAny _ _ (loadPart _ _) _ _ _); (first | (refine' Mine.hLdP ?hm ?_; (case hm => (first | (repeat (first | exact List.Mem.head _ | apply List.Mem.tail))))) | (refine Mine.hOlP (by with_reducible assumption) ?_) | ((with_reducible rename Frag.In _ _ => XF); (refine Mine.hOlP (XF _ _ rfl) ?_)))) | ((with_reducible show wpAny _ _ (update _ _) _ _ _); (first | (refine' Mine.hUpd ?hu ?hf ?_; (case hu => (repeat (first | exact Mine.Up.head | apply Mine.Up.tail))); (case hf => rfl)) | (refine' Mine.hUpdP ?hu ?hf ?_; (case hu => (repeat (first | exact Mine.Up.head | apply Mine.Up.tail))); (case hf => rfl)))) | ((with_reducible show wpAny _ _ (updatePart _ _ _) _ _ _); (first | (refine' Mine.hUpd ?hu ?hf ?_; (case hu => (repeat (first | exact Mine.Up.head | apply Mine.Up.tail))); (case hf => rfl)) | (refine' Mine.hUpdP ?hu ?hf ?_; (case hu => (repeat (first | exact Mine.Up.head | apply Mine.Up.tail))); (case hf => rfl)))) | ((with_reducible show wpAny _ _ (isSubtype (.type _) _) _ _ _); refine wpAny_of_eq (a := true) ?hc ?_; (case hc => (rw [isSubtype_type]; kernel_rfl!))) | ((with_reducible show wpAny _ _ (PySem.Builtin.notOverATurnedClass _) _ _ _); refine wpAny_of_eq (a := ()) ?hc ?_; (case hc => kernel_rfl!)) | ((first | (with_reducible show wpAny _ _ (PySem.Builtin.extendedBase _) _ _ _) | (with_reducible show wpAny _ _ (PySem.Builtin.Slots.bestBase _) _ _ _)); refine wpAny_of_eq (a := .type "object") ?hc ?_; (case hc => kernel_rfl!)) | ((first | (with_reducible show wpAny _ _ (PySem.Builtin.Slots.givesDict _) _ _ _) | (with_reducible show wpAny _ _ (PySem.Builtin.Slots.givesWeak _) _ _ _) | (with_reducible show wpAny _ _ (PySem.Builtin.Slots.varSize _) _ _ _)); refine wpAny_of_eq (a := false) ?hc ?_; (case hc => kernel_rfl!)) | ((with_reducible show wpAny _ _ (typeLookup (.ref _) _) _ _ _); unfold typeLookup) | ((with_reducible show wpAny _ _ (classOwn (.type _) _) _ _ _); (first | (refine wpAny_of_eq (a := some (.builtin "object.__new__")) ?hc ?_; (case hc => kernel_rfl!)) | (refine wpAny_of_eq (a := none) ?hc ?_; (case hc => kernel_rfl!)))) | ((with_reducible show wpAny _ _ (typeLookup (.type _) _) _ _ _); (refine wpAny_of_eq (a := none) ?hc ?_; (case hc => (rw [typeLookup_type, builtinLookup_eq_fast]; kernel_rfl!)))) | ((with_reducible show wpAny _ _ (PySem.Builtin.mroHook? _) _ _ _); refine wpAny_of_eq (a := none) ?hc ?_; (case hc => kernel_rfl!)) | ((with_reducible show wpAny _ _ (PySem.Builtin.linearize _ _) _ _ _); refine wpAny_of_eq (a := [.type "object"]) ?hc ?_; (case hc => kernel_rfl!)) | ((with_reducible show wpAny _ _ (Bind.madeBy (.type _)) _ _ _); (first | (refine wpAny_of_eq (a := some "type.__new__") ?hc ?_; (case hc => kernel_rfl!)) | (refine wpAny_of_eq (a := some "object.__new__") ?hc ?_; (case hc => kernel_rfl!)))) | ((fail_if_success (with_reducible show wpAny _ _ (List.anyM _ _) _ _ _)); (fail_if_success (with_reducible show wpAny _ _ (call _ _ _) _ _ _)); (fail_if_success (with_reducible show wpAny _ _ (collect _) _ _ _)); (fail_if_success (with_reducible show wpAny _ _ (PySem.Builtin.Slots.read _ _ _) _ _ _)); (first | wp_delta | wp_step))))
  refine wpAny_of_eq (a := some (.builtin "classmethod_descriptor.__get__")) (by rw [typeLookup_type, builtinLookup_eq_fast]; kernel_rfl) ?_
  repeat ((fail_if_success (with_reducible show codeAny _ _ _ _ _)); (first | with_reducible refine wpAny_onRaise ?_ | ((with_reducible show wpAny _ _ enterFrame _ _ _); (with_reducible rename Heap.NoLimit _ => hl); refine Mine.hEnter hl (by decide) ?_) | ((with_reducible show wpAny _ _ (List.mapM.loop mkText (Scope.freeNames _) []) _ _ _); (first | (rw [Mine.free1 (x := Str.ofString "mycmp") ?hfr]; (case hfr => (kernel_rfl!; done))) | (rw [Mine.free0 ?hfr]; (case hfr => (kernel_rfl!; done))))) | with_reducible refine Mine.bqIn ?_ | with_reducible refine Mine.bqGo ?_ | with_reducible refine PySem.wpAny_pure ?_ | with_reducible refine PySem.wpAny_rule ?_ | with_reducible refine PySem.wpAny_holding ?_ | with_reducible refine PySem.wpAny_standAt ?_ | with_reducible refine PySem.wpAny_point ?_ | with_reducible refine PySem.wpAny_fresh' ?_ | with_reducible refine Mine.wpTry ?_ | with_reducible refine PySem.wpAny_askSetting ?_ | ((with_reducible show wpAny _ _ (alloc _) _ _ _); (refine Mine.hAlloc rfl ?_); intro _ _ _) | ((with_reducible show wpAny _ _ (ite _ _ _) _ _ _); (first | (refine PySem.wpAny_ite_false ?hc ?_; (case hc => (kernel_rfl!; done))) | (refine PySem.wpAny_ite_true ?hc ?_; (case hc => (kernel_rfl!; done))) | (refine PySem.wpAny_ite_false ?hc ?_; (case hc => (simp [*]; done))) | (refine PySem.wpAny_ite_true ?hc ?_; (case hc => (simp [*]; done))))) | ((with_reducible show wpAny _ _ (load _) _ _ _); (first | (refine' Mine.hLd ?hm ?_; (case hm => (first | (repeat (first | exact List.Mem.head _ | apply List.Mem.tail))))) | (refine Mine.hOl (by with_reducible assumption) ?_) | ((with_reducible rename Frag.In _ _ => XF); (refine Mine.hOl (XF _ _ rfl) ?_)))) | ((with_reducible show wpAny _ _ (loadPart _ _) _ _ _); (first | (refine' Mine.hLdP ?hm ?_; (case hm => (first | (repeat (first | exact List.Mem.head _ | apply List.Mem.tail))))) | (refine Mine.hOlP (by with_reducible assumption) ?_) | ((with_reducible rename Frag.In _ _ => XF); (refine Mine.hOlP (XF _ _ rfl) ?_)))) | ((with_reducible show wpAny _ _ (update _ _) _ _ _); (first | (refine' Mine.hUpd ?hu ?hf ?_; (case hu => (repeat (first | exact Mine.Up.head | apply Mine.Up.tail))); (case hf => rfl)) | (refine' Mine.hUpdP ?hu ?hf ?_; (case hu => (repeat (first | exact Mine.Up.head | apply Mine.Up.tail))); (case hf => rfl)))) | ((with_reducible show wpAny _ _ (updatePart _ _ _) _ _ _); (first | (refine' Mine.hUpd ?hu ?hf ?_; (case hu => (repeat (first | exact Mine.Up.head | apply Mine.Up.tail))); (case hf => rfl)) | (refine' Mine.hUpdP ?hu ?hf ?_; (case hu => (repeat (first | exact Mine.Up.head | apply Mine.Up.tail))); (case hf => rfl)))) | ((with_reducible show wpAny _ _ (isSubtype (.type _) _) _ _ _); refine wpAny_of_eq (a := true) ?hc ?_; (case hc => (rw [isSubtype_type]; kernel_rfl!))) | ((with_reducible show wpAny _ _ (PySem.Builtin.notOverATurnedClass _) _ _ _); refine wpAny_of_eq (a := ()) ?hc ?_; (case hc => kernel_rfl!)) | ((first | (with_reducible show wpAny _ _ (PySem.Builtin.extendedBase _) _ _ _) | (with_reducible show wpAny _ _ (PySem.Builtin.Slots.bestBase _) _ _ _)); refine wpAny_of_eq (a := .type "object") ?hc ?_; (case hc => kernel_rfl!)) | ((first | (with_reducible show wpAny _ _ (PySem.Builtin.Slots.givesDict _) _ _ _) | (with_reducible show wpAny _ _ (PySem.Builtin.Slots.givesWeak _) _ _ _) | (with_reducible show wpAny _ _ (PySem.Builtin.Slots.varSize _) _ _ _)); refine wpAny_of_eq (a := false) ?hc ?_; (case hc => kernel_rfl!)) | ((with_reducible show wpAny _ _ (typeLookup (.ref _) _) _ _ _); unfold typeLookup) | ((with_reducible show wpAny _ _ (classOwn (.type _) _) _ _ _); (first | (refine wpAny_of_eq (a := some (.builtin "object.__new__")) ?hc ?_; (case hc => kernel_rfl!)) | (refine wpAny_of_eq (a := none) ?hc ?_; (case hc => kernel_rfl!)))) | ((with_reducible show wpAny _ _ (typeLookup (.type _) _) _ _ _); (refine wpAny_of_eq (a := none) ?hc ?_; (case hc => (rw [typeLookup_type, builtinLookup_eq_fast]; kernel_rfl!)))) | ((with_reducible show wpAny _ _ (PySem.Builtin.mroHook? _) _ _ _); refine wpAny_of_eq (a := none) ?hc ?_; (case hc => kernel_rfl!)) | ((with_reducible show wpAny _ _ (PySem.Builtin.linearize _ _) _ _ _); refine wpAny_of_eq (a := [.type "object"]) ?hc ?_; (case hc => kernel_rfl!)) | ((with_reducible show wpAny _ _ (Bind.madeBy (.type _)) _ _ _); (first | (refine wpAny_of_eq (a := some "type.__new__") ?hc ?_; (case hc => kernel_rfl!)) | (refine wpAny_of_eq (a := some "object.__new__") ?hc ?_; (case hc => kernel_rfl!)))) | ((fail_if_success (with_reducible show wpAny _ _ (List.anyM _ _) _ _ _)); (fail_if_success (with_reducible show wpAny _ _ (call _ _ _) _ _ _)); (fail_if_success (with_reducible show wpAny _ _ (collect _) _ _ _)); (fail_if_success (with_reducible show wpAny _ _ (PySem.Builtin.Slots.read _ _ _) _ _ _)); (first | wp_delta | wp_step))))
  refine wpAny_of_eq (a := some (.builtin "type.__prepare__")) (by rw [typeLookup_type, builtinLookup_eq_fast]; kernel_rfl) ?_
  repeat ((fail_if_success (with_reducible show codeAny _ _ _ _ _)); (first | with_reducible refine wpAny_onRaise ?_ | ((with_reducible show wpAny _ _ enterFrame _ _ _); (with_reducible rename Heap.NoLimit _ => hl); refine Mine.hEnter hl (by decide) ?_) | ((with_reducible show wpAny _ _ (List.mapM.loop mkText (Scope.freeNames _) []) _ _ _); (first | (rw [Mine.free1 (x := Str.ofString "mycmp") ?hfr]; (case hfr => (kernel_rfl!; done))) | (rw [Mine.free0 ?hfr]; (case hfr => (kernel_rfl!; done))))) | with_reducible refine Mine.bqIn ?_ | with_reducible refine Mine.bqGo ?_ | with_reducible refine PySem.wpAny_pure ?_ | with_reducible refine PySem.wpAny_rule ?_ | with_reducible refine PySem.wpAny_holding ?_ | with_reducible refine PySem.wpAny_standAt ?_ | with_reducible refine PySem.wpAny_point ?_ | with_reducible refine PySem.wpAny_fresh' ?_ | with_reducible refine Mine.wpTry ?_ | with_reducible refine PySem.wpAny_askSetting ?_ | ((with_reducible show wpAny _ _ (alloc _) _ _ _); (refine Mine.hAlloc rfl ?_); intro _ _ _) | ((with_reducible show wpAny _ _ (ite _ _ _) _ _ _); (first | (refine PySem.wpAny_ite_false ?hc ?_; (case hc => (kernel_rfl!; done))) | (refine PySem.wpAny_ite_true ?hc ?_; (case hc => (kernel_rfl!; done))) | (refine PySem.wpAny_ite_false ?hc ?_; (case hc => (simp [*]; done))) | (refine PySem.wpAny_ite_true ?hc ?_; (case hc => (simp [*]; done))))) | ((with_reducible show wpAny _ _ (load _) _ _ _); (first | (refine' Mine.hLd ?hm ?_; (case hm => (first | (repeat (first | exact List.Mem.head _ | apply List.Mem.tail))))) | (refine Mine.hOl (by with_reducible assumption) ?_) | ((with_reducible rename Frag.In _ _ => XF); (refine Mine.hOl (XF _ _ rfl) ?_)))) | ((with_reducible show wpAny _ _ (loadPart _ _) _ _ _); (first | (refine' Mine.hLdP ?hm ?_; (case hm => (first | (repeat (first | exact List.Mem.head _ | apply List.Mem.tail))))) | (refine Mine.hOlP (by with_reducible assumption) ?_) | ((with_reducible rename Frag.In _ _ => XF); (refine Mine.hOlP (XF _ _ rfl) ?_)))) | ((with_reducible show wpAny _ _ (update _ _) _ _ _); (first | (refine' Mine.hUpd ?hu ?hf ?_; (case hu => (repeat (first | exact Mine.Up.head | apply Mine.Up.tail))); (case hf => rfl)) | (refine' Mine.hUpdP ?hu ?hf ?_; (case hu => (repeat (first | exact Mine.Up.head | apply Mine.Up.tail))); (case hf => rfl)))) | ((with_reducible show wpAny _ _ (updatePart _ _ _) _ _ _); (first | (refine' Mine.hUpd ?hu ?hf ?_; (case hu => (repeat (first | exact Mine.Up.head | apply Mine.Up.tail))); (case hf => rfl)) | (refine' Mine.hUpdP ?hu ?hf ?_; (case hu => (repeat (first | exact Mine.Up.head | apply Mine.Up.tail))); (case hf => rfl)))) | ((with_reducible show wpAny _ _ (isSubtype (.type _) _) _ _ _); refine wpAny_of_eq (a := true) ?hc ?_; (case hc => (rw [isSubtype_type]; kernel_rfl!))) | ((with_reducible show wpAny _ _ (PySem.Builtin.notOverATurnedClass _) _ _ _); refine wpAny_of_eq (a := ()) ?hc ?_; (case hc => kernel_rfl!)) | ((first | (with_reducible show wpAny _ _ (PySem.Builtin.extendedBase _) _ _ _) | (with_reducible show wpAny _ _ (PySem.Builtin.Slots.bestBase _) _ _ _)); refine wpAny_of_eq (a := .type "object") ?hc ?_; (case hc => kernel_rfl!)) | ((first | (with_reducible show wpAny _ _ (PySem.Builtin.Slots.givesDict _) _ _ _) | (with_reducible show wpAny _ _ (PySem.Builtin.Slots.givesWeak _) _ _ _) | (with_reducible show wpAny _ _ (PySem.Builtin.Slots.varSize _) _ _ _)); refine wpAny_of_eq (a := false) ?hc ?_; (case hc => kernel_rfl!)) | ((with_reducible show wpAny _ _ (typeLookup (.ref _) _) _ _ _); unfold typeLookup) | ((with_reducible show wpAny _ _ (classOwn (.type _) _) _ _ _); (first | (refine wpAny_of_eq (a := some (.builtin "object.__new__")) ?hc ?_; (case hc => kernel_rfl!)) | (refine wpAny_of_eq (a := none) ?hc ?_; (case hc => kernel_rfl!)))) | ((with_reducible show wpAny _ _ (typeLookup (.type _) _) _ _ _); (refine wpAny_of_eq (a := none) ?hc ?_; (case hc => (rw [typeLookup_type, builtinLookup_eq_fast]; kernel_rfl!)))) | ((with_reducible show wpAny _ _ (PySem.Builtin.mroHook? _) _ _ _); refine wpAny_of_eq (a := none) ?hc ?_; (case hc => kernel_rfl!)) | ((with_reducible show wpAny _ _ (PySem.Builtin.linearize _ _) _ _ _); refine wpAny_of_eq (a := [.type "object"]) ?hc ?_; (case hc => kernel_rfl!)) | ((with_reducible show wpAny _ _ (Bind.madeBy (.type _)) _ _ _); (first | (refine wpAny_of_eq (a := some "type.__new__") ?hc ?_; (case hc => kernel_rfl!)) | (refine wpAny_of_eq (a := some "object.__new__") ?hc ?_; (case hc => kernel_rfl!)))) | ((fail_if_success (with_reducible show wpAny _ _ (List.anyM _ _) _ _ _)); (fail_if_success (with_reducible show wpAny _ _ (call _ _ _) _ _ _)); (fail_if_success (with_reducible show wpAny _ _ (collect _) _ _ _)); (fail_if_success (with_reducible show wpAny _ _ (PySem.Builtin.Slots.read _ _ _) _ _ _)); (first | wp_delta | wp_step))))
  first | refine wpAny_of_eq (a := some (.builtin "classmethod_descriptor.__get__")) (by rw [typeLookup_type, builtinLookup_eq_fast]; kernel_rfl) ?_ | skip
  repeat ((fail_if_success (with_reducible show codeAny _ _ _ _ _)); (first | with_reducible refine wpAny_onRaise ?_ | ((with_reducible show wpAny _ _ enterFrame _ _ _); (with_reducible rename Heap.NoLimit _ => hl); refine Mine.hEnter hl (by decide) ?_) | ((with_reducible show wpAny _ _ (List.mapM.loop mkText (Scope.freeNames _) []) _ _ _); (first | (rw [Mine.free1 (x := Str.ofString "mycmp") ?hfr]; (case hfr => (kernel_rfl!; done))) | (rw [Mine.free0 ?hfr]; (case hfr => (kernel_rfl!; done))))) | with_reducible refine Mine.bqIn ?_ | with_reducible refine Mine.bqGo ?_ | with_reducible refine PySem.wpAny_pure ?_ | with_reducible refine PySem.wpAny_rule ?_ | with_reducible refine PySem.wpAny_holding ?_ | with_reducible refine PySem.wpAny_standAt ?_ | with_reducible refine PySem.wpAny_point ?_ | with_reducible refine PySem.wpAny_fresh' ?_ | with_reducible refine Mine.wpTry ?_ | with_reducible refine PySem.wpAny_askSetting ?_ | ((with_reducible show wpAny _ _ (alloc _) _ _ _); (refine Mine.hAlloc rfl ?_); intro _ _ _) | ((with_reducible show wpAny _ _ (ite _ _ _) _ _ _); (first | (refine PySem.wpAny_ite_false ?hc ?_; (case hc => (kernel_rfl!; done))) | (refine PySem.wpAny_ite_true ?hc ?_; (case hc => (kernel_rfl!; done))) | (refine PySem.wpAny_ite_false ?hc ?_; (case hc => (simp [*]; done))) | (refine PySem.wpAny_ite_true ?hc ?_; (case hc => (simp [*]; done))))) | ((with_reducible show wpAny _ _ (load _) _ _ _); (first | (refine' Mine.hLd ?hm ?_; (case hm => (first | (repeat (first | exact List.Mem.head _ | apply List.Mem.tail))))) | (refine Mine.hOl (by with_reducible assumption) ?_) | ((with_reducible rename Frag.In _ _ => XF); (refine Mine.hOl (XF _ _ rfl) ?_)))) | ((with_reducible show wpAny _ _ (loadPart _ _) _ _ _); (first | (refine' Mine.hLdP ?hm ?_; (case hm => (first | (repeat (first | exact List.Mem.head _ | apply List.Mem.tail))))) | (refine Mine.hOlP (by with_reducible assumption) ?_) | ((with_reducible rename Frag.In _ _ => XF); (refine Mine.hOlP (XF _ _ rfl) ?_)))) | ((with_reducible show wpAny _ _ (update _ _) _ _ _); (first | (refine' Mine.hUpd ?hu ?hf ?_; (case hu => (repeat (first | exact Mine.Up.head | apply Mine.Up.tail))); (case hf => rfl)) | (refine' Mine.hUpdP ?hu ?hf ?_; (case hu => (repeat (first | exact Mine.Up.head | apply Mine.Up.tail))); (case hf => rfl)))) | ((with_reducible show wpAny _ _ (updatePart _ _ _) _ _ _); (first | (refine' Mine.hUpd ?hu ?hf ?_; (case hu => (repeat (first | exact Mine.Up.head | apply Mine.Up.tail))); (case hf => rfl)) | (refine' Mine.hUpdP ?hu ?hf ?_; (case hu => (repeat (first | exact Mine.Up.head | apply Mine.Up.tail))); (case hf => rfl)))) | ((with_reducible show wpAny _ _ (isSubtype (.type _) _) _ _ _); refine wpAny_of_eq (a := true) ?hc ?_; (case hc => (rw [isSubtype_type]; kernel_rfl!))) | ((with_reducible show wpAny _ _ (PySem.Builtin.notOverATurnedClass _) _ _ _); refine wpAny_of_eq (a := ()) ?hc ?_; (case hc => kernel_rfl!)) | ((first | (with_reducible show wpAny _ _ (PySem.Builtin.extendedBase _) _ _ _) | (with_reducible show wpAny _ _ (PySem.Builtin.Slots.bestBase _) _ _ _)); refine wpAny_of_eq (a := .type "object") ?hc ?_; (case hc => kernel_rfl!)) | ((first | (with_reducible show wpAny _ _ (PySem.Builtin.Slots.givesDict _) _ _ _) | (with_reducible show wpAny _ _ (PySem.Builtin.Slots.givesWeak _) _ _ _) | (with_reducible show wpAny _ _ (PySem.Builtin.Slots.varSize _) _ _ _)); refine wpAny_of_eq (a := false) ?hc ?_; (case hc => kernel_rfl!)) | ((with_reducible show wpAny _ _ (typeLookup (.ref _) _) _ _ _); unfold typeLookup) | ((with_reducible show wpAny _ _ (classOwn (.type _) _) _ _ _); (first | (refine wpAny_of_eq (a := some (.builtin "object.__new__")) ?hc ?_; (case hc => kernel_rfl!)) | (refine wpAny_of_eq (a := none) ?hc ?_; (case hc => kernel_rfl!)))) | ((with_reducible show wpAny _ _ (typeLookup (.type _) _) _ _ _); (refine wpAny_of_eq (a := none) ?hc ?_; (case hc => (rw [typeLookup_type, builtinLookup_eq_fast]; kernel_rfl!)))) | ((with_reducible show wpAny _ _ (PySem.Builtin.mroHook? _) _ _ _); refine wpAny_of_eq (a := none) ?hc ?_; (case hc => kernel_rfl!)) | ((with_reducible show wpAny _ _ (PySem.Builtin.linearize _ _) _ _ _); refine wpAny_of_eq (a := [.type "object"]) ?hc ?_; (case hc => kernel_rfl!)) | ((with_reducible show wpAny _ _ (Bind.madeBy (.type _)) _ _ _); (first | (refine wpAny_of_eq (a := some "type.__new__") ?hc ?_; (case hc => kernel_rfl!)) | (refine wpAny_of_eq (a := some "object.__new__") ?hc ?_; (case hc => kernel_rfl!)))) | ((fail_if_success (with_reducible show wpAny _ _ (List.anyM _ _) _ _ _)); (fail_if_success (with_reducible show wpAny _ _ (call _ _ _) _ _ _)); (fail_if_success (with_reducible show wpAny _ _ (collect _) _ _ _)); (fail_if_success (with_reducible show wpAny _ _ (PySem.Builtin.Slots.read _ _ _) _ _ _)); (first | wp_delta | wp_step))))
  refine wpAny_call (codeAny_call_builtin KFB.slot_get.plain KFB.entry_get (KFB.slot_get.check _ _ _ _ _ _ _ _ (by show typeOf _ = _; kernel_rfl) (KFB.args_get _ _ _) ?_))
  unfold Builtin.«classmethod_descriptor.__get__»
  repeat ((fail_if_success (with_reducible show codeAny _ _ _ _ _)); (first | with_reducible refine wpAny_onRaise ?_ | ((with_reducible show wpAny _ _ enterFrame _ _ _); (with_reducible rename Heap.NoLimit _ => hl); refine Mine.hEnter hl (by decide) ?_) | ((with_reducible show wpAny _ _ (List.mapM.loop mkText (Scope.freeNames _) []) _ _ _); (first | (rw [Mine.free1 (x := Str.ofString "mycmp") ?hfr]; (case hfr => (kernel_rfl!; done))) | (rw [Mine.free0 ?hfr]; (case hfr => (kernel_rfl!; done))))) | with_reducible refine Mine.bqIn ?_ | with_reducible refine Mine.bqGo ?_ | with_reducible refine PySem.wpAny_pure ?_ | with_reducible refine PySem.wpAny_rule ?_ | with_reducible refine PySem.wpAny_holding ?_ | with_reducible refine PySem.wpAny_standAt ?_ | with_reducible refine PySem.wpAny_point ?_ | with_reducible refine PySem.wpAny_fresh' ?_ | with_reducible refine Mine.wpTry ?_ | with_reducible refine PySem.wpAny_askSetting ?_ | ((with_reducible show wpAny _ _ (alloc _) _ _ _); (refine Mine.hAlloc rfl ?_); intro _ _ _) | ((with_reducible show wpAny _ _ (ite _ _ _) _ _ _); (first | (refine PySem.wpAny_ite_false ?hc ?_; (case hc => (kernel_rfl!; done))) | (refine PySem.wpAny_ite_true ?hc ?_; (case hc => (kernel_rfl!; done))) | (refine PySem.wpAny_ite_false ?hc ?_; (case hc => (simp [*]; done))) | (refine PySem.wpAny_ite_true ?hc ?_; (case hc => (simp [*]; done))))) | ((with_reducible show wpAny _ _ (load _) _ _ _); (first | (refine' Mine.hLd ?hm ?_; (case hm => (first | (repeat (first | exact List.Mem.head _ | apply List.Mem.tail))))) | (refine Mine.hOl (by with_reducible assumption) ?_) | ((with_reducible rename Frag.In _ _ => XF); (refine Mine.hOl (XF _ _ rfl) ?_)))) | ((with_reducible show wpAny _ _ (loadPart _ _) _ _ _); (first | (refine' Mine.hLdP ?hm ?_; (case hm => (first | (repeat (first | exact List.Mem.head _ | apply List.Mem.tail))))) | (refine Mine.hOlP (by with_reducible assumption) ?_) | ((with_reducible rename Frag.In _ _ => XF); (refine Mine.hOlP (XF _ _ rfl) ?_)))) | ((with_reducible show wpAny _ _ (update _ _) _ _ _); (first | (refine' Mine.hUpd ?hu ?hf ?_; (case hu => (repeat (first | exact Mine.Up.head | apply Mine.Up.tail))); (case hf => rfl)) | (refine' Mine.hUpdP ?hu ?hf ?_; (case hu => (repeat (first | exact Mine.Up.head | apply Mine.Up.tail))); (case hf => rfl)))) | ((with_reducible show wpAny _ _ (updatePart _ _ _) _ _ _); (first | (refine' Mine.hUpd ?hu ?hf ?_; (case hu => (repeat (first | exact Mine.Up.head | apply Mine.Up.tail))); (case hf => rfl)) | (refine' Mine.hUpdP ?hu ?hf ?_; (case hu => (repeat (first | exact Mine.Up.head | apply Mine.Up.tail))); (case hf => rfl)))) | ((with_reducible show wpAny _ _ (isSubtype (.type _) _) _ _ _); refine wpAny_of_eq (a := true) ?hc ?_; (case hc => (rw [isSubtype_type]; kernel_rfl!))) | ((with_reducible show wpAny _ _ (PySem.Builtin.notOverATurnedClass _) _ _ _); refine wpAny_of_eq (a := ()) ?hc ?_; (case hc => kernel_rfl!)) | ((first | (with_reducible show wpAny _ _ (PySem.Builtin.extendedBase _) _ _ _) | (with_reducible show wpAny _ _ (PySem.Builtin.Slots.bestBase _) _ _ _)); refine wpAny_of_eq (a := .type "object") ?hc ?_; (case hc => kernel_rfl!)) | ((first | (with_reducible show wpAny _ _ (PySem.Builtin.Slots.givesDict _) _ _ _) | (with_reducible show wpAny _ _ (PySem.Builtin.Slots.givesWeak _) _ _ _) | (with_reducible show wpAny _ _ (PySem.Builtin.Slots.varSize _) _ _ _)); refine wpAny_of_eq (a := false) ?hc ?_; (case hc => kernel_rfl!)) | ((with_reducible show wpAny _ _ (typeLookup (.ref _) _) _ _ _); unfold typeLookup) | ((with_reducible show wpAny _ _ (classOwn (.type _) _) _ _ _); (first | (refine wpAny_of_eq (a := some (.builtin "object.__new__")) ?hc ?_; (case hc => kernel_rfl!)) | (refine wpAny_of_eq (a := none) ?hc ?_; (case hc => kernel_rfl!)))) | ((with_reducible show wpAny _ _ (typeLookup (.type _) _) _ _ _); (refine wpAny_of_eq (a := none) ?hc ?_; (case hc => (rw [typeLookup_type, builtinLookup_eq_fast]; kernel_rfl!)))) | ((with_reducible show wpAny _ _ (PySem.Builtin.mroHook? _) _ _ _); refine wpAny_of_eq (a := none) ?hc ?_; (case hc => kernel_rfl!)) | ((with_reducible show wpAny _ _ (PySem.Builtin.linearize _ _) _ _ _); refine wpAny_of_eq (a := [.type "object"]) ?hc ?_; (case hc => kernel_rfl!)) | ((with_reducible show wpAny _ _ (Bind.madeBy (.type _)) _ _ _); (first | (refine wpAny_of_eq (a := some "type.__new__") ?hc ?_; (case hc => kernel_rfl!)) | (refine wpAny_of_eq (a := some "object.__new__") ?hc ?_; (case hc => kernel_rfl!)))) | ((fail_if_success (with_reducible show wpAny _ _ (List.anyM _ _) _ _ _)); (fail_if_success (with_reducible show wpAny _ _ (call _ _ _) _ _ _)); (fail_if_success (with_reducible show wpAny _ _ (collect _) _ _ _)); (fail_if_success (with_reducible show wpAny _ _ (PySem.Builtin.Slots.read _ _ _) _ _ _)); (first | wp_delta | wp_step))))
  refine hEnd fun h' D => ?_
  exact hq _ _ (mm_head D (by kernel_rfl))
theorem prep_call {a b : Addr} {t : Tok} {Q : Value → Shared → Prop} (ho : h.get? a = some prepO)
    (hq : ∀ h' a, Mm h h' [(a, dicO #[] 0)] → Q (.ref a) ⟨h', g, dr, tk, os⟩) :
    wpAny (model PR w) AX (call (.ref a) [.str "K" t, .ref b] []) Q E ⟨h, g, dr, tk, os⟩ := by
  refine wpAny_call (codeAny_of_tree ?_)
  refine hIn ?_
  repeat ((fail_if_success (with_reducible show codeAny _ _ _ _ _)); (first | with_reducible refine wpAny_onRaise ?_ | ((with_reducible show wpAny _ _ enterFrame _ _ _); (with_reducible rename Heap.NoLimit _ => hl); refine Mine.hEnter hl (by decide) ?_) | ((with_reducible show wpAny _ _ (List.mapM.loop mkText (Scope.freeNames _) []) _ _ _); (first | (rw [Mine.free1 (x := Str.ofString "mycmp") ?hfr]; (case hfr => (kernel_rfl!; done))) | (rw [Mine.free0 ?hfr]; (case hfr => (kernel_rfl!; done))))) | with_reducible refine Mine.bqIn ?_ | with_reducible refine Mine.bqGo ?_ | with_reducible refine PySem.wpAny_pure ?_ | with_reducible refine PySem.wpAny_rule ?_ | with_reducible refine PySem.wpAny_holding ?_ | with_reducible refine PySem.wpAny_standAt ?_ | with_reducible refine PySem.wpAny_point ?_ | with_reducible refine PySem.wpAny_fresh' ?_ | with_reducible refine Mine.wpTry ?_ | with_reducible refine PySem.wpAny_askSetting ?_ | ((with_reducible show wpAny _ _ (alloc _) _ _ _); (refine Mine.hAlloc rfl ?_); intro _ _ _) | ((with_reducible show wpAny _ _ (ite _ _ _) _ _ _); (first | (refine PySem.wpAny_ite_false ?hc ?_; (case hc => (kernel_rfl!; done))) | (refine PySem.wpAny_ite_true ?hc ?_; (case hc => (kernel_rfl!; done))) | (refine PySem.wpAny_ite_false ?hc ?_; (case hc => (simp [*]; done))) | (refine PySem.wpAny_ite_true ?hc ?_; (case hc => (simp [*]; done))))) | ((with_reducible show wpAny _ _ (load _) _ _ _); (first | (refine' Mine.hLd ?hm ?_; (case hm => (first | (repeat (first | exact List.Mem.head _ | apply List.Mem.tail))))) | (refine Mine.hOl (by with_reducible assumption) ?_) | ((with_reducible rename Frag.In _ _ => XF); (refine Mine.hOl (XF _ _ rfl) ?_)))) | ((with_reducible show wpAny _ _ (loadPart _ _) _ _ _); (first | (refine' Mine.hLdP ?hm ?_; (case hm => (first | (repeat (first | exact List.Mem.head _ | apply List.Mem.tail))))) | (refine Mine.hOlP (by with_reducible assumption) ?_) | ((with_reducible rename Frag.In _ _ => XF); (refine Mine.hOlP (XF _ _ rfl) ?_)))) | ((with_reducible show wpAny _ _ (update _ _) _ _ _); (first | (refine' Mine.hUpd ?hu ?hf ?_; (case hu => (repeat (first | exact Mine.Up.head | apply Mine.Up.tail))); (case hf => rfl)) | (refine' Mine.hUpdP ?hu ?hf ?_; (case hu => (repeat (first | exact Mine.Up.head | apply Mine.Up.tail))); (case hf => rfl)))) | ((with_reducible show wpAny _ _ (updatePart _ _ _) _ _ _); (first | (refine' Mine.hUpd ?hu ?hf ?_; (case hu => (repeat (first | exact Mine.Up.head | apply Mine.Up.tail))); (case hf => rfl)) | (refine' Mine.hUpdP ?hu ?hf ?_; (case hu => (repeat (first | exact Mine.Up.head | apply Mine.Up.tail))); (case hf => rfl)))) | ((with_reducible show wpAny _ _ (isSubtype (.type _) _) _ _ _); refine wpAny_of_eq (a := true) ?hc ?_; (case hc => (rw [isSubtype_type]; kernel_rfl!))) | ((with_reducible show wpAny _ _ (PySem.Builtin.notOverATurnedClass _) _ _ _); refine wpAny_of_eq (a := ()) ?hc ?_; (case hc => kernel_rfl!)) | ((first | (with_reducible show wpAny _ _ (PySem.Builtin.extendedBase _) _ _ _) | (with_reducible show wpAny _ _ (PySem.Builtin.Slots.bestBase _) _ _ _)); refine wpAny_of_eq (a := .type "object") ?hc ?_; (case hc => kernel_rfl!)) | ((first | (with_reducible show wpAny _ _ (PySem.Builtin.Slots.givesDict _) _ _ _) | (with_reducible show wpAny _ _ (PySem.Builtin.Slots.givesWeak _) _ _ _) | (with_reducible show wpAny _ _ (PySem.Builtin.Slots.varSize _) _ _ _)); refine wpAny_of_eq (a := false) ?hc ?_; (case hc => kernel_rfl!)) | ((with_reducible show wpAny _ _ (typeLookup (.ref _) _) _ _ _); unfold typeLookup) | ((with_reducible show wpAny _ _ (classOwn (.type _) _) _ _ _); (first | (refine wpAny_of_eq (a := some (.builtin "object.__new__")) ?hc ?_; (case hc => kernel_rfl!)) | (refine wpAny_of_eq (a := none) ?hc ?_; (case hc => kernel_rfl!)))) | ((with_reducible show wpAny _ _ (typeLookup (.type _) _) _ _ _); (refine wpAny_of_eq (a := none) ?hc ?_; (case hc => (rw [typeLookup_type, builtinLookup_eq_fast]; kernel_rfl!)))) | ((with_reducible show wpAny _ _ (PySem.Builtin.mroHook? _) _ _ _); refine wpAny_of_eq (a := none) ?hc ?_; (case hc => kernel_rfl!)) | ((with_reducible show wpAny _ _ (PySem.Builtin.linearize _ _) _ _ _); refine wpAny_of_eq (a := [.type "object"]) ?hc ?_; (case hc => kernel_rfl!)) | ((with_reducible show wpAny _ _ (Bind.madeBy (.type _)) _ _ _); (first | (refine wpAny_of_eq (a := some "type.__new__") ?hc ?_; (case hc => kernel_rfl!)) | (refine wpAny_of_eq (a := some "object.__new__") ?hc ?_; (case hc => kernel_rfl!)))) | ((fail_if_success (with_reducible show wpAny _ _ (List.anyM _ _) _ _ _)); (fail_if_success (with_reducible show wpAny _ _ (call _ _ _) _ _ _)); (fail_if_success (with_reducible show wpAny _ _ (collect _) _ _ _)); (fail_if_success (with_reducible show wpAny _ _ (PySem.Builtin.Slots.read _ _ _) _ _ _)); (first | wp_delta | wp_step))))
  refine wpAny_of_eq (a := false) (by show isSubtype (.type "builtin_function_or_method") (.type "module") = _; rw [isSubtype_type]; kernel_rfl) ?_
  repeat ((fail_if_success (with_reducible show codeAny _ _ _ _ _)); (first | with_reducible refine wpAny_onRaise ?_ | ((with_reducible show wpAny _ _ enterFrame _ _ _); (with_reducible rename Heap.NoLimit _ => hl); refine Mine.hEnter hl (by decide) ?_) | ((with_reducible show wpAny _ _ (List.mapM.loop mkText (Scope.freeNames _) []) _ _ _); (first | (rw [Mine.free1 (x := Str.ofString "mycmp") ?hfr]; (case hfr => (kernel_rfl!; done))) | (rw [Mine.free0 ?hfr]; (case hfr => (kernel_rfl!; done))))) | with_reducible refine Mine.bqIn ?_ | with_reducible refine Mine.bqGo ?_ | with_reducible refine PySem.wpAny_pure ?_ | with_reducible refine PySem.wpAny_rule ?_ | with_reducible refine PySem.wpAny_holding ?_ | with_reducible refine PySem.wpAny_standAt ?_ | with_reducible refine PySem.wpAny_point ?_ | with_reducible refine PySem.wpAny_fresh' ?_ | with_reducible refine Mine.wpTry ?_ | with_reducible refine PySem.wpAny_askSetting ?_ | ((with_reducible show wpAny _ _ (alloc _) _ _ _); (refine Mine.hAlloc rfl ?_); intro _ _ _) | ((with_reducible show wpAny _ _ (ite _ _ _) _ _ _); (first | (refine PySem.wpAny_ite_false ?hc ?_; (case hc => (kernel_rfl!; done))) | (refine PySem.wpAny_ite_true ?hc ?_; (case hc => (kernel_rfl!; done))) | (refine PySem.wpAny_ite_false ?hc ?_; (case hc => (simp [*]; done))) | (refine PySem.wpAny_ite_true ?hc ?_; (case hc => (simp [*]; done))))) | ((with_reducible show wpAny _ _ (load _) _ _ _); (first | (refine' Mine.hLd ?hm ?_; (case hm => (first | (repeat (first | exact List.Mem.head _ | apply List.Mem.tail))))) | (refine Mine.hOl (by with_reducible assumption) ?_) | ((with_reducible rename Frag.In _ _ => XF); (refine Mine.hOl (XF _ _ rfl) ?_)))) | ((with_reducible show wpAny _ _ (loadPart _ _) _ _ _); (first | (refine' Mine.hLdP ?hm ?_; (case hm => (first | (repeat (first | exact List.Mem.head _ | apply List.Mem.tail))))) | (refine Mine.hOlP (by with_reducible assumption) ?_) | ((with_reducible rename Frag.In _ _ => XF); (refine Mine.hOlP (XF _ _ rfl) ?_)))) | ((with_reducible show wpAny _ _ (update _ _) _ _ _); (first | (refine' Mine.hUpd ?hu ?hf ?_; (case hu => (repeat (first | exact Mine.Up.head | apply Mine.Up.tail))); (case hf => rfl)) | (refine' Mine.hUpdP ?hu ?hf ?_; (case hu => (repeat (first | exact Mine.Up.head | apply Mine.Up.tail))); (case hf => rfl)))) | ((with_reducible show wpAny _ _ (updatePart _ _ _) _ _ _); (first | (refine' Mine.hUpd ?hu ?hf ?_; (case hu => (repeat (first | exact Mine.Up.head | apply Mine.Up.tail))); (case hf => rfl)) | (refine' Mine.hUpdP ?hu ?hf ?_; (case hu => (repeat (first | exact Mine.Up.head | apply Mine.Up.tail))); (case hf => rfl)))) | ((with_reducible show wpAny _ _ (isSubtype (.type _) _) _ _ _); refine wpAny_of_eq (a := true) ?hc ?_; (case hc => (rw [isSubtype_type]; kernel_rfl!))) | ((with_reducible show wpAny _ _ (PySem.Builtin.notOverATurnedClass _) _ _ _); refine wpAny_of_eq (a := ()) ?hc ?_; (case hc => kernel_rfl!)) | ((first | (with_reducible show wpAny _ _ (PySem.Builtin.extendedBase _) _ _ _) | (with_reducible show wpAny _ _ (PySem.Builtin.Slots.bestBase _) _ _ _)); refine wpAny_of_eq (a := .type "object") ?hc ?_; (case hc => kernel_rfl!)) | ((first | (with_reducible show wpAny _ _ (PySem.Builtin.Slots.givesDict _) _ _ _) | (with_reducible show wpAny _ _ (PySem.Builtin.Slots.givesWeak _) _ _ _) | (with_reducible show wpAny _ _ (PySem.Builtin.Slots.varSize _) _ _ _)); refine wpAny_of_eq (a := false) ?hc ?_; (case hc => kernel_rfl!)) | ((with_reducible show wpAny _ _ (typeLookup (.ref _) _) _ _ _); unfold typeLookup) | ((with_reducible show wpAny _ _ (classOwn (.type _) _) _ _ _); (first | (refine wpAny_of_eq (a := some (.builtin "object.__new__")) ?hc ?_; (case hc => kernel_rfl!)) | (refine wpAny_of_eq (a := none) ?hc ?_; (case hc => kernel_rfl!)))) | ((with_reducible show wpAny _ _ (typeLookup (.type _) _) _ _ _); (refine wpAny_of_eq (a := none) ?hc ?_; (case hc => (rw [typeLookup_type, builtinLookup_eq_fast]; kernel_rfl!)))) | ((with_reducible show wpAny _ _ (PySem.Builtin.mroHook? _) _ _ _); refine wpAny_of_eq (a := none) ?hc ?_; (case hc => kernel_rfl!)) | ((with_reducible show wpAny _ _ (PySem.Builtin.linearize _ _) _ _ _); refine wpAny_of_eq (a := [.type "object"]) ?hc ?_; (case hc => kernel_rfl!)) | ((with_reducible show wpAny _ _ (Bind.madeBy (.type _)) _ _ _); (first | (refine wpAny_of_eq (a := some "type.__new__") ?hc ?_; (case hc => kernel_rfl!)) | (refine wpAny_of_eq (a := some "object.__new__") ?hc ?_; (case hc => kernel_rfl!)))) | ((fail_if_success (with_reducible show wpAny _ _ (List.anyM _ _) _ _ _)); (fail_if_success (with_reducible show wpAny _ _ (call _ _ _) _ _ _)); (fail_if_success (with_reducible show wpAny _ _ (collect _) _ _ _)); (fail_if_success (with_reducible show wpAny _ _ (PySem.Builtin.Slots.read _ _ _) _ _ _)); (first | wp_delta | wp_step))))
  refine ⟨Code.quiet_builtin _ (by decide +kernel), codeAny_builtin (entryFor_of_tree (b := Builtin.«type.__prepare__») (by kernel_rfl)) ?_⟩
  unfold Builtin.«type.__prepare__»
  repeat ((fail_if_success (with_reducible show codeAny _ _ _ _ _)); (first | with_reducible refine wpAny_onRaise ?_ | ((with_reducible show wpAny _ _ enterFrame _ _ _); (with_reducible rename Heap.NoLimit _ => hl); refine Mine.hEnter hl (by decide) ?_) | ((with_reducible show wpAny _ _ (List.mapM.loop mkText (Scope.freeNames _) []) _ _ _); (first | (rw [Mine.free1 (x := Str.ofString "mycmp") ?hfr]; (case hfr => (kernel_rfl!; done))) | (rw [Mine.free0 ?hfr]; (case hfr => (kernel_rfl!; done))))) | with_reducible refine Mine.bqIn ?_ | with_reducible refine Mine.bqGo ?_ | with_reducible refine PySem.wpAny_pure ?_ | with_reducible refine PySem.wpAny_rule ?_ | with_reducible refine PySem.wpAny_holding ?_ | with_reducible refine PySem.wpAny_standAt ?_ | with_reducible refine PySem.wpAny_point ?_ | with_reducible refine PySem.wpAny_fresh' ?_ | with_reducible refine Mine.wpTry ?_ | with_reducible refine PySem.wpAny_askSetting ?_ | ((with_reducible show wpAny _ _ (alloc _) _ _ _); (refine Mine.hAlloc rfl ?_); intro _ _ _) | ((with_reducible show wpAny _ _ (ite _ _ _) _ _ _); (first | (refine PySem.wpAny_ite_false ?hc ?_; (case hc => (kernel_rfl!; done))) | (refine PySem.wpAny_ite_true ?hc ?_; (case hc => (kernel_rfl!; done))) | (refine PySem.wpAny_ite_false ?hc ?_; (case hc => (simp [*]; done))) | (refine PySem.wpAny_ite_true ?hc ?_; (case hc => (simp [*]; done))))) | ((with_reducible show wpAny _ _ (load _) _ _ _); (first | (refine' Mine.hLd ?hm ?_; (case hm => (first | (repeat (first | exact List.Mem.head _ | apply List.Mem.tail))))) | (refine Mine.hOl (by with_reducible assumption) ?_) | ((with_reducible rename Frag.In _ _ => XF); (refine Mine.hOl (XF _ _ rfl) ?_)))) | ((with_reducible show wpAny _ _ (loadPart _ _) _ _ _); (first | (refine' Mine.hLdP ?hm ?_; (case hm => (first | (repeat (first | exact List.Mem.head _ | apply List.Mem.tail))))) | (refine Mine.hOlP (by with_reducible assumption) ?_) | ((with_reducible rename Frag.In _ _ => XF); (refine Mine.hOlP (XF _ _ rfl) ?_)))) | ((with_reducible show wpAny _ _ (update _ _) _ _ _); (first | (refine' Mine.hUpd ?hu ?hf ?_; (case hu => (repeat (first | exact Mine.Up.head | apply Mine.Up.tail))); (case hf => rfl)) | (refine' Mine.hUpdP ?hu ?hf ?_; (case hu => (repeat (first | exact Mine.Up.head | apply Mine.Up.tail))); (case hf => rfl)))) | ((with_reducible show wpAny _ _ (updatePart _ _ _) _ _ _); (first | (refine' Mine.hUpd ?hu ?hf ?_; (case hu => (repeat (first | exact Mine.Up.head | apply Mine.Up.tail))); (case hf => rfl)) | (refine' Mine.hUpdP ?hu ?hf ?_; (case hu => (repeat (first | exact Mine.Up.head | apply Mine.Up.tail))); (case hf => rfl)))) | ((with_reducible show wpAny _ _ (isSubtype (.type _) _) _ _ _); refine wpAny_of_eq (a := true) ?hc ?_; (case hc => (rw [isSubtype_type]; kernel_rfl!))) | ((with_reducible show wpAny _ _ (PySem.Builtin.notOverATurnedClass _) _ _ _); refine wpAny_of_eq (a := ()) ?hc ?_; (case hc => kernel_rfl!)) | ((first | (with_reducible show wpAny _ _ (PySem.Builtin.extendedBase _) _ _ _) | (with_reducible show wpAny _ _ (PySem.Builtin.Slots.bestBase _) _ _ _)); refine wpAny_of_eq (a := .type "object") ?hc ?_; (case hc => kernel_rfl!)) | ((first | (with_reducible show wpAny _ _ (PySem.Builtin.Slots.givesDict _) _ _ _) | (with_reducible show wpAny _ _ (PySem.Builtin.Slots.givesWeak _) _ _ _) | (with_reducible show wpAny _ _ (PySem.Builtin.Slots.varSize _) _ _ _)); refine wpAny_of_eq (a := false) ?hc ?_; (case hc => kernel_rfl!)) | ((with_reducible show wpAny _ _ (typeLookup (.ref _) _) _ _ _); unfold typeLookup) | ((with_reducible show wpAny _ _ (classOwn (.type _) _) _ _ _); (first | (refine wpAny_of_eq (a := some (.builtin "object.__new__")) ?hc ?_; (case hc => kernel_rfl!)) | (refine wpAny_of_eq (a := none) ?hc ?_; (case hc => kernel_rfl!)))) | ((with_reducible show wpAny _ _ (typeLookup (.type _) _) _ _ _); (refine wpAny_of_eq (a := none) ?hc ?_; (case hc => (rw [typeLookup_type, builtinLookup_eq_fast]; kernel_rfl!)))) | ((with_reducible show wpAny _ _ (PySem.Builtin.mroHook? _) _ _ _); refine wpAny_of_eq (a := none) ?hc ?_; (case hc => kernel_rfl!)) | ((with_reducible show wpAny _ _ (PySem.Builtin.linearize _ _) _ _ _); refine wpAny_of_eq (a := [.type "object"]) ?hc ?_; (case hc => kernel_rfl!)) | ((with_reducible show wpAny _ _ (Bind.madeBy (.type _)) _ _ _); (first | (refine wpAny_of_eq (a := some "type.__new__") ?hc ?_; (case hc => kernel_rfl!)) | (refine wpAny_of_eq (a := some "object.__new__") ?hc ?_; (case hc => kernel_rfl!)))) | ((fail_if_success (with_reducible show wpAny _ _ (List.anyM _ _) _ _ _)); (fail_if_success (with_reducible show wpAny _ _ (call _ _ _) _ _ _)); (fail_if_success (with_reducible show wpAny _ _ (collect _) _ _ _)); (fail_if_success (with_reducible show wpAny _ _ (PySem.Builtin.Slots.read _ _ _) _ _ _)); (first | wp_delta | wp_step))))
  show Q (.ref _) _
  refine hEnd fun h' D => ?_
  exact hq _ _ D
end Mine
end
section
open PySem PySem.W PySem.Calls PyProof.Rows PySem.W.X PySem.Builtin
set_option maxRecDepth 100000
set_option maxHeartbeats 0
namespace Mine
variable {w : World} {A : Around} {E : Value → Shared → Prop} {h : Heap} {g : Array GenState} {dr : Drawn} {tk : Nat} {os : OsState} {n : Nat}

noncomputable def defBody (x : Str) : List Stmt → List Stmt
  | [] => []
  | .FunctionDef n _ b _ _ _ _ _ _ _ :: r => if n = x then b else defBody x r
  | _ :: r => defBody x r
noncomputable def clsOf : List Stmt → List Stmt
  | [] => []
  | .ClassDef _ _ _ b _ _ _ _ _ _ _ :: _ => b
  | _ :: r => clsOf r
noncomputable def clsScOf : List Stmt → Scope
  | [] => default
  | .ClassDef _ _ _ _ _ _ sc _ _ _ _ :: _ => sc
  | _ :: r => clsScOf r
noncomputable def clsBody : List Stmt := clsOf (defBody "cmp_to_key" PR.main.body)
noncomputable def clsScope : Scope := clsScOf (defBody "cmp_to_key" PR.main.body)
/-- where the class's body runs -/
noncomputable abbrev cenv (nsA c cc fr : Addr) : Env := { scope := clsScope, locals := nsA, globals := mainGlobals, cells := [("mycmp", c)], qual := "cmp_to_key.<locals>.K.", code := .ref cc, frame := some fr, builtins := builtinsNs }
/-- the code of the class -/
noncomputable abbrev ccO (fv tb : Addr) (k : Nat → Tok) : Obj := { cls := .type "code", data := .fields #[.str "K" (k 0), .str "cmp_to_key.<locals>.K" (k 1), .str "/claim/cut.py" (k 2), rawInt 59, rawInt 0, rawInt 0, rawInt 0, rawInt 0, .ref fv, .bool true, rawInt 181, .ref tb, .none, .none, .none, .none, rawInt (k 3), rawInt 59, .str "/claim/cut.py" (k 4)] }

/-- the function that a def makes -/
noncomputable def fnOf (st : Stmt) (qual : Str) (cl : List (Str × Addr)) (cd ct : Value) : FuncData := match st with
  | .FunctionDef nm ps b _ _ _ sc _ _ _ => { name := nm, qualname := qual, params := ps, body := .stmts b, scope := sc, globals := mainGlobals, closure := cl, defaults := .none, kwdefaults := .none, pyModule := .str "law_mr0186_01" 251, code := cd, closureTuple := ct, builtins := builtinsNs }
  | _ => default
/-- a code of 19 fields, its name written out -/
noncomputable abbrev codeO (v : Nat → Value) (qual : Str) (t : Tok) : Obj := { cls := .type "code", data := .fields #[v 0, .str qual t, v 2, v 3, v 4, v 5, v 6, v 7, v 8, v 9, v 10, v 11, v 12, v 13, v 14, v 15, v 16, v 17, v 18] }
noncomputable def fvals (o : Obj) (i : Nat) : Value := match o.data with | .fields vs => vs.getD i .none | _ => .none
noncomputable def IsCode (o : Obj) (qual : Str) : Prop := ∃ v t, o = codeO v qual t
theorem isCode_of {o : Obj} {qual : Str} (t : Tok) (h : o = codeO (fvals o) qual t) : IsCode o qual := ⟨_, t, h⟩
theorem nd_ne {l : List (Addr × Obj)} (nd : (l.map (·.1)).Nodup) {i j : Nat} {p q : Addr × Obj} (hi : l[i]? = some p) (hj : l[j]? = some q) (hij : i ≠ j) : p.1 ≠ q.1 := by
  intro e
  have h1 : (l.map (·.1))[i]? = some p.1 := by simp [hi]
  have h2 : (l.map (·.1))[j]? = some p.1 := by simp [hj, e]
  obtain ⟨li, e1⟩ := List.getElem?_eq_some_iff.mp h1
  exact hij ((List.getElem?_inj li nd).mp (h1.trans h2.symm))
theorem def_done {hb h' : Heap} {nsA tb f cd x : Addr} {F C T N Y : Obj} {F' : Addr → Addr → Obj} {T' N' : Addr → Obj} {news : List (Addr × Obj)} {jt js : Nat} (D : Mm hb h' news) (i0 : news[0]? = some (f, F)) (i1 : news[1]? = some (cd, C)) (it : news[jt]? = some (tb, T)) (is : news[js]? = some (nsA, N)) (ix : news[jt - 1]? = some (x, Y))
    (eF : F = F' cd x) (eT : T = T' cd) (eN : N = N' f) (h1 : 1 < jt) (h2 : jt < js) :
    ∃ hb', Kp hb hb' ∧ hb.get? f = none ∧ hb'.get? f = some (F' cd x) ∧ hb'.get? cd = some C ∧ Mm hb' h' [(tb, T' cd), (nsA, N' f)] := by
  subst eF eT eN
  have m := fun {i p} (e : news[i]? = some p) => D.nw p (List.mem_of_getElem? e)
  have ne := fun {i j p q} (e : news[i]? = some p) (e' : news[j]? = some q) (z : i ≠ j) => nd_ne D.nd e e' z
  have hts : tb ≠ nsA := ne it is (by omega)
  refine ⟨hideAll h' [tb, nsA], fun b o e => hideAll_get _ (D.keep _ _ e) ?_, (m i0).2, hideAll_get _ (m i0).1 ?_, hideAll_get _ (m i1).1 ?_, ?_⟩
  · simp only [List.mem_cons, List.not_mem_nil, or_false]
    rintro (rfl | rfl)
    · have := (m it).2; rw [e] at this; cases this
    · have := (m is).2; rw [e] at this; cases this
  · simp only [List.mem_cons, List.not_mem_nil, or_false]
    rintro (q | q)
    · exact ne i0 it (by omega) q
    · exact ne i0 is (by omega) q
  · simp only [List.mem_cons, List.not_mem_nil, or_false]
    rintro (q | q)
    · exact ne i1 it (by omega) q
    · exact ne i1 is (by omega) q
  · refine Mm.hide (l := [(tb, T' cd), (nsA, N' f)]) ?_ (by simpa using hts)
    intro p hp
    simp only [List.mem_cons, List.not_mem_nil, or_false] at hp
    rcases hp with rfl | rfl
    · exact (m it).1
    · exact (m is).1

theorem def1 {hb : Heap} {nsA c cc fr fv tb sl : Addr} {k : Nat → Tok} {hs : Nat → Int} {ts : Nat → Tok} {m0 m1 m2 : Tok} {nd : Nat} {Q : Flow → Shared → Prop} (XF : (K0 w.params).In hb) (hcc : hb.get? cc = some (ccO fv tb k)) {sl4 : Array (Option Value)} (h4 : hb.get? 4 = some (modO sl4))
    (D : Mm hb h [(tb, tabObj #[]), (nsA, dicO #[en (hs 0) "__module__" (ts 0) (.str "cpy313.functools" m0), en (hs 1) "__qualname__" (ts 1) (.str "cmp_to_key.<locals>.K" m1), en (hs 2) "__firstlineno__" (ts 2) (.int 59 m2), en (hs 3) "__slots__" (ts 3) (.ref sl)] nd)])
    (hq : ∀ hb' h' f cd ct o t1 tk', Kp hb hb' → hb.get? f = none → hb'.get? f = some (funO (fnOf (clsBody.getD 2 (.Pass default)) "cmp_to_key.<locals>.K.__init__" [] (.ref cd) ct)) → hb'.get? cd = some o → IsCode o "cmp_to_key.<locals>.K.__init__" →
      Mm hb' h' [(tb, tabObj #[rawInt 63, rawInt 8, .ref cd]), (nsA, dicO #[en (hs 0) "__module__" (ts 0) (.str "cpy313.functools" m0), en (hs 1) "__qualname__" (ts 1) (.str "cmp_to_key.<locals>.K" m1), en (hs 2) "__firstlineno__" (ts 2) (.int 59 m2), en (hs 3) "__slots__" (ts 3) (.ref sl), en (hashOf w "__init__") "__init__" t1 (.ref f)] (nd + 1))] → Q .next ⟨h', g, dr, tk', os⟩) :
    wpAny (model PR w) A (PySem.exec (clsBody.getD 2 (.Pass default)) (cenv nsA c cc fr)) Q E ⟨h, g, dr, tk, os⟩ := by
  have eb : (clsBody.getD 2 (.Pass default)) = (clsBody.getD 2 (.Pass default)) := rfl
  conv at eb => rhs; whnf
  have es : clsScope = clsScope := rfl
  conv at es => rhs; whnf
  unfold cenv
  rw [eb, es]
  clear eb es
  refine hIn' D ?_
  repeat ((fail_if_success (first | (with_reducible show wpAny _ _ (getAttr? _ _) _ _ _) | (with_reducible show wpAny _ _ (call _ _ _) _ _ _) | (with_reducible show wpAny _ _ (run _ _) _ _ _))); (first | with_reducible refine wpAny_onRaise ?_ | ((with_reducible show wpAny _ _ enterFrame _ _ _); (with_reducible rename Heap.NoLimit _ => hl); refine Mine.hEnter hl (by decide) ?_) | ((with_reducible show wpAny _ _ (List.mapM.loop mkText (Scope.freeNames _) []) _ _ _); (first | (rw [Mine.free1 (x := Str.ofString "mycmp") ?hfr]; (case hfr => (kernel_rfl!; done))) | (rw [Mine.free0 ?hfr]; (case hfr => (kernel_rfl!; done))))) | with_reducible refine Mine.bqIn ?_ | with_reducible refine Mine.bqGo ?_ | with_reducible refine PySem.wpAny_pure ?_ | with_reducible refine PySem.wpAny_rule ?_ | with_reducible refine PySem.wpAny_holding ?_ | with_reducible refine PySem.wpAny_standAt ?_ | with_reducible refine PySem.wpAny_point ?_ | with_reducible refine PySem.wpAny_fresh' ?_ | with_reducible refine Mine.wpTry ?_ | with_reducible refine PySem.wpAny_askSetting ?_ | ((with_reducible show wpAny _ _ (alloc _) _ _ _); (refine Mine.hAlloc rfl ?_); intro _ _ _) | ((with_reducible show wpAny _ _ (ite _ _ _) _ _ _); (first | (refine PySem.wpAny_ite_false ?hc ?_; (case hc => (kernel_rfl!; done))) | (refine PySem.wpAny_ite_true ?hc ?_; (case hc => (kernel_rfl!; done))) | (refine PySem.wpAny_ite_false ?hc ?_; (case hc => (simp [*]; done))) | (refine PySem.wpAny_ite_true ?hc ?_; (case hc => (simp [*]; done))))) | ((with_reducible show wpAny _ _ (load _) _ _ _); (first | (refine' Mine.hLd ?hm ?_; (case hm => (first | (repeat (first | exact List.Mem.head _ | apply List.Mem.tail))))) | (refine Mine.hOl (by with_reducible assumption) ?_) | ((with_reducible rename Frag.In _ _ => XF); (refine Mine.hOl (XF _ _ rfl) ?_)))) | ((with_reducible show wpAny _ _ (loadPart _ _) _ _ _); (first | (refine' Mine.hLdP ?hm ?_; (case hm => (first | (repeat (first | exact List.Mem.head _ | apply List.Mem.tail))))) | (refine Mine.hOlP (by with_reducible assumption) ?_) | ((with_reducible rename Frag.In _ _ => XF); (refine Mine.hOlP (XF _ _ rfl) ?_)))) | ((with_reducible show wpAny _ _ (update _ _) _ _ _); (first | (refine' Mine.hUpd ?hu ?hf ?_; (case hu => (repeat (first | exact Mine.Up.head | apply Mine.Up.tail))); (case hf => rfl)) | (refine' Mine.hUpdP ?hu ?hf ?_; (case hu => (repeat (first | exact Mine.Up.head | apply Mine.Up.tail))); (case hf => rfl)))) | ((with_reducible show wpAny _ _ (updatePart _ _ _) _ _ _); (first | (refine' Mine.hUpd ?hu ?hf ?_; (case hu => (repeat (first | exact Mine.Up.head | apply Mine.Up.tail))); (case hf => rfl)) | (refine' Mine.hUpdP ?hu ?hf ?_; (case hu => (repeat (first | exact Mine.Up.head | apply Mine.Up.tail))); (case hf => rfl)))) | ((with_reducible show wpAny _ _ (isSubtype (.type _) _) _ _ _); refine wpAny_of_eq (a := true) ?hc ?_; (case hc => (rw [isSubtype_type]; kernel_rfl!))) | ((with_reducible show wpAny _ _ (PySem.Builtin.notOverATurnedClass _) _ _ _); refine wpAny_of_eq (a := ()) ?hc ?_; (case hc => kernel_rfl!)) | ((first | (with_reducible show wpAny _ _ (PySem.Builtin.extendedBase _) _ _ _) | (with_reducible show wpAny _ _ (PySem.Builtin.Slots.bestBase _) _ _ _)); refine wpAny_of_eq (a := .type "object") ?hc ?_; (case hc => kernel_rfl!)) | ((first | (with_reducible show wpAny _ _ (PySem.Builtin.Slots.givesDict _) _ _ _) | (with_reducible show wpAny _ _ (PySem.Builtin.Slots.givesWeak _) _ _ _) | (with_reducible show wpAny _ _ (PySem.Builtin.Slots.varSize _) _ _ _)); refine wpAny_of_eq (a := false) ?hc ?_; (case hc => kernel_rfl!)) | ((with_reducible show wpAny _ _ (typeLookup (.ref _) _) _ _ _); unfold typeLookup) | ((with_reducible show wpAny _ _ (classOwn (.type _) _) _ _ _); (first | (refine wpAny_of_eq (a := some (.builtin "object.__new__")) ?hc ?_; (case hc => kernel_rfl!)) | (refine wpAny_of_eq (a := none) ?hc ?_; (case hc => kernel_rfl!)))) | ((with_reducible show wpAny _ _ (typeLookup (.type _) _) _ _ _); (refine wpAny_of_eq (a := none) ?hc ?_; (case hc => (rw [typeLookup_type, builtinLookup_eq_fast]; kernel_rfl!)))) | ((with_reducible show wpAny _ _ (PySem.Builtin.mroHook? _) _ _ _); refine wpAny_of_eq (a := none) ?hc ?_; (case hc => kernel_rfl!)) | ((with_reducible show wpAny _ _ (PySem.Builtin.linearize _ _) _ _ _); refine wpAny_of_eq (a := [.type "object"]) ?hc ?_; (case hc => kernel_rfl!)) | ((with_reducible show wpAny _ _ (Bind.madeBy (.type _)) _ _ _); (first | (refine wpAny_of_eq (a := some "type.__new__") ?hc ?_; (case hc => kernel_rfl!)) | (refine wpAny_of_eq (a := some "object.__new__") ?hc ?_; (case hc => kernel_rfl!)))) | ((fail_if_success (with_reducible show wpAny _ _ (List.anyM _ _) _ _ _)); (fail_if_success (with_reducible show wpAny _ _ (call _ _ _) _ _ _)); (fail_if_success (with_reducible show wpAny _ _ (collect _) _ _ _)); (fail_if_success (with_reducible show wpAny _ _ (PySem.Builtin.Slots.read _ _ _) _ _ _)); (first | wp_delta | wp_step))))
  refine hEnd fun h' D => ?_
  obtain ⟨hb', k1, k2, k3, k4, k5⟩ := def_done (jt := 7) (js := 8) (F' := fun cd x => funO (fnOf (clsBody.getD 2 (.Pass default)) "cmp_to_key.<locals>.K.__init__" [] (.ref cd) .none)) (T' := fun cd => tabObj #[rawInt 63, rawInt 8, .ref cd]) (N' := fun f => dicO #[en (hs 0) "__module__" (ts 0) (.str "cpy313.functools" m0), en (hs 1) "__qualname__" (ts 1) (.str "cmp_to_key.<locals>.K" m1), en (hs 2) "__firstlineno__" (ts 2) (.int 59 m2), en (hs 3) "__slots__" (ts 3) (.ref sl), en (hashOf w "__init__") "__init__" (tk + 7) (.ref f)] (nd + 1)) D rfl rfl rfl rfl rfl (by kernel_rfl) (by kernel_rfl) (by kernel_rfl) (by decide) (by decide)
  exact hq hb' _ _ _ _ _ _ _ k1 k2 k3 k4 (isCode_of (tk + 1) (by kernel_rfl)) k5

theorem def2 {hb : Heap} {nsA c cc fr fv tb sl f1 c1 : Addr} {k : Nat → Tok} {hs : Nat → Int} {ts : Nat → Tok} {m0 m1 m2 : Tok} {nd : Nat} {Q : Flow → Shared → Prop} (XF : (K0 w.params).In hb) (hcc : hb.get? cc = some (ccO fv tb k)) {sl4 : Array (Option Value)} (h4 : hb.get? 4 = some (modO sl4))
    (D : Mm hb h [(tb, tabObj #[rawInt 63, rawInt 8, .ref c1]), (nsA, dicO #[en (hs 0) "__module__" (ts 0) (.str "cpy313.functools" m0), en (hs 1) "__qualname__" (ts 1) (.str "cmp_to_key.<locals>.K" m1), en (hs 2) "__firstlineno__" (ts 2) (.int 59 m2), en (hs 3) "__slots__" (ts 3) (.ref sl), en (hs 4) "__init__" (ts 4) (.ref f1)] nd)])
    (hq : ∀ hb' h' f cd ct o t1 tk', Kp hb hb' → hb.get? f = none → hb'.get? f = some (funO (fnOf (clsBody.getD 3 (.Pass default)) "cmp_to_key.<locals>.K.__lt__" [("mycmp", c)] (.ref cd) ct)) → hb'.get? cd = some o → IsCode o "cmp_to_key.<locals>.K.__lt__" →
      Mm hb' h' [(tb, tabObj #[rawInt 63, rawInt 8, .ref c1, rawInt 66, rawInt 8, .ref cd]), (nsA, dicO #[en (hs 0) "__module__" (ts 0) (.str "cpy313.functools" m0), en (hs 1) "__qualname__" (ts 1) (.str "cmp_to_key.<locals>.K" m1), en (hs 2) "__firstlineno__" (ts 2) (.int 59 m2), en (hs 3) "__slots__" (ts 3) (.ref sl), en (hs 4) "__init__" (ts 4) (.ref f1), en (hashOf w "__lt__") "__lt__" t1 (.ref f)] (nd + 1))] → Q .next ⟨h', g, dr, tk', os⟩) :
    wpAny (model PR w) A (PySem.exec (clsBody.getD 3 (.Pass default)) (cenv nsA c cc fr)) Q E ⟨h, g, dr, tk, os⟩ := by
  have eb : (clsBody.getD 3 (.Pass default)) = (clsBody.getD 3 (.Pass default)) := rfl
  conv at eb => rhs; whnf
  have es : clsScope = clsScope := rfl
  conv at es => rhs; whnf
  unfold cenv
  rw [eb, es]
  clear eb es
  refine hIn' D ?_
  repeat ((fail_if_success (first | (with_reducible show wpAny _ _ (getAttr? _ _) _ _ _) | (with_reducible show wpAny _ _ (call _ _ _) _ _ _) | (with_reducible show wpAny _ _ (run _ _) _ _ _))); (first | with_reducible refine wpAny_onRaise ?_ | ((with_reducible show wpAny _ _ enterFrame _ _ _); (with_reducible rename Heap.NoLimit _ => hl); refine Mine.hEnter hl (by decide) ?_) | ((with_reducible show wpAny _ _ (List.mapM.loop mkText (Scope.freeNames _) []) _ _ _); (first | (rw [Mine.free1 (x := Str.ofString "mycmp") ?hfr]; (case hfr => (kernel_rfl!; done))) | (rw [Mine.free0 ?hfr]; (case hfr => (kernel_rfl!; done))))) | with_reducible refine Mine.bqIn ?_ | with_reducible refine Mine.bqGo ?_ | with_reducible refine PySem.wpAny_pure ?_ | with_reducible refine PySem.wpAny_rule ?_ | with_reducible refine PySem.wpAny_holding ?_ | with_reducible refine PySem.wpAny_standAt ?_ | with_reducible refine PySem.wpAny_point ?_ | with_reducible refine PySem.wpAny_fresh' ?_ | with_reducible refine Mine.wpTry ?_ | with_reducible refine PySem.wpAny_askSetting ?_ | ((with_reducible show wpAny _ _ (alloc _) _ _ _); (refine Mine.hAlloc rfl ?_); intro _ _ _) | ((with_reducible show wpAny _ _ (ite _ _ _) _ _ _); (first | (refine PySem.wpAny_ite_false ?hc ?_; (case hc => (kernel_rfl!; done))) | (refine PySem.wpAny_ite_true ?hc ?_; (case hc => (kernel_rfl!; done))) | (refine PySem.wpAny_ite_false ?hc ?_; (case hc => (simp [*]; done))) | (refine PySem.wpAny_ite_true ?hc ?_; (case hc => (simp [*]; done))))) | ((with_reducible show wpAny _ _ (load _) _ _ _); (first | (refine' Mine.hLd ?hm ?_; (case hm => (first | (repeat (first | exact List.Mem.head _ | apply List.Mem.tail))))) | (refine Mine.hOl (by with_reducible assumption) ?_) | ((with_reducible rename Frag.In _ _ => XF); (refine Mine.hOl (XF _ _ rfl) ?_)))) | ((with_reducible show wpAny _ _ (loadPart _ _) _ _ _); (first | (refine' Mine.hLdP ?hm ?_; (case hm => (first | (repeat (first | exact List.Mem.head _ | apply List.Mem.tail))))) | (refine Mine.hOlP (by with_reducible assumption) ?_) | ((with_reducible rename Frag.In _ _ => XF); (refine Mine.hOlP (XF _ _ rfl) ?_)))) | ((with_reducible show wpAny _ _ (update _ _) _ _ _); (first | (refine' Mine.hUpd ?hu ?hf ?_; (case hu => (repeat (first | exact Mine.Up.head | apply Mine.Up.tail))); (case hf => rfl)) | (refine' Mine.hUpdP ?hu ?hf ?_; (case hu => (repeat (first | exact Mine.Up.head | apply Mine.Up.tail))); (case hf => rfl)))) | ((with_reducible show wpAny _ _ (updatePart _ _ _) _ _ _); (first | (refine' Mine.hUpd ?hu ?hf ?_; (case hu => (repeat (first | exact Mine.Up.head | apply Mine.Up.tail))); (case hf => rfl)) | (refine' Mine.hUpdP ?hu ?hf ?_; (case hu => (repeat (first | exact Mine.Up.head | apply Mine.Up.tail))); (case hf => rfl)))) | ((with_reducible show wpAny _ _ (isSubtype (.type _) _) _ _ _); refine wpAny_of_eq (a := true) ?hc ?_; (case hc => (rw [isSubtype_type]; kernel_rfl!))) | ((with_reducible show wpAny _ _ (PySem.Builtin.notOverATurnedClass _) _ _ _); refine wpAny_of_eq (a := ()) ?hc ?_; (case hc => kernel_rfl!)) | ((first | (with_reducible show wpAny _ _ (PySem.Builtin.extendedBase _) _ _ _) | (with_reducible show wpAny _ _ (PySem.Builtin.Slots.bestBase _) _ _ _)); refine wpAny_of_eq (a := .type "object") ?hc ?_; (case hc => kernel_rfl!)) | ((first | (with_reducible show wpAny _ _ (PySem.Builtin.Slots.givesDict _) _ _ _) | (with_reducible show wpAny _ _ (PySem.Builtin.Slots.givesWeak _) _ _ _) | (with_reducible show wpAny _ _ (PySem.Builtin.Slots.varSize _) _ _ _)); refine wpAny_of_eq (a := false) ?hc ?_; (case hc => kernel_rfl!)) | ((with_reducible show wpAny _ _ (typeLookup (.ref _) _) _ _ _); unfold typeLookup) | ((with_reducible show wpAny _ _ (classOwn (.type _) _) _ _ _); (first | (refine wpAny_of_eq (a := some (.builtin "object.__new__")) ?hc ?_; (case hc => kernel_rfl!)) | (refine wpAny_of_eq (a := none) ?hc ?_; (case hc => kernel_rfl!)))) | ((with_reducible show wpAny _ _ (typeLookup (.type _) _) _ _ _); (refine wpAny_of_eq (a := none) ?hc ?_; (case hc => (rw [typeLookup_type, builtinLookup_eq_fast]; kernel_rfl!)))) | ((with_reducible show wpAny _ _ (PySem.Builtin.mroHook? _) _ _ _); refine wpAny_of_eq (a := none) ?hc ?_; (case hc => kernel_rfl!)) | ((with_reducible show wpAny _ _ (PySem.Builtin.linearize _ _) _ _ _); refine wpAny_of_eq (a := [.type "object"]) ?hc ?_; (case hc => kernel_rfl!)) | ((with_reducible show wpAny _ _ (Bind.madeBy (.type _)) _ _ _); (first | (refine wpAny_of_eq (a := some "type.__new__") ?hc ?_; (case hc => kernel_rfl!)) | (refine wpAny_of_eq (a := some "object.__new__") ?hc ?_; (case hc => kernel_rfl!)))) | ((fail_if_success (with_reducible show wpAny _ _ (List.anyM _ _) _ _ _)); (fail_if_success (with_reducible show wpAny _ _ (call _ _ _) _ _ _)); (fail_if_success (with_reducible show wpAny _ _ (collect _) _ _ _)); (fail_if_success (with_reducible show wpAny _ _ (PySem.Builtin.Slots.read _ _ _) _ _ _)); (first | wp_delta | wp_step))))
  refine hEnd fun h' D => ?_
  obtain ⟨hb', k1, k2, k3, k4, k5⟩ := def_done (jt := 8) (js := 9) (F' := fun cd x => funO (fnOf (clsBody.getD 3 (.Pass default)) "cmp_to_key.<locals>.K.__lt__" [("mycmp", c)] (.ref cd) (.ref x))) (T' := fun cd => tabObj #[rawInt 63, rawInt 8, .ref c1, rawInt 66, rawInt 8, .ref cd]) (N' := fun f => dicO #[en (hs 0) "__module__" (ts 0) (.str "cpy313.functools" m0), en (hs 1) "__qualname__" (ts 1) (.str "cmp_to_key.<locals>.K" m1), en (hs 2) "__firstlineno__" (ts 2) (.int 59 m2), en (hs 3) "__slots__" (ts 3) (.ref sl), en (hs 4) "__init__" (ts 4) (.ref f1), en (hashOf w "__lt__") "__lt__" (tk + 8) (.ref f)] (nd + 1)) D rfl rfl rfl rfl rfl (by kernel_rfl) (by kernel_rfl) (by kernel_rfl) (by decide) (by decide)
  exact hq hb' _ _ _ _ _ _ _ k1 k2 k3 k4 (isCode_of (tk + 1) (by kernel_rfl)) k5

theorem def3 {hb : Heap} {nsA c cc fr fv tb sl f1 c1 f2 c2 : Addr} {k : Nat → Tok} {hs : Nat → Int} {ts : Nat → Tok} {m0 m1 m2 : Tok} {nd : Nat} {Q : Flow → Shared → Prop} (XF : (K0 w.params).In hb) (hcc : hb.get? cc = some (ccO fv tb k)) {sl4 : Array (Option Value)} (h4 : hb.get? 4 = some (modO sl4))
    (D : Mm hb h [(tb, tabObj #[rawInt 63, rawInt 8, .ref c1, rawInt 66, rawInt 8, .ref c2]), (nsA, dicO #[en (hs 0) "__module__" (ts 0) (.str "cpy313.functools" m0), en (hs 1) "__qualname__" (ts 1) (.str "cmp_to_key.<locals>.K" m1), en (hs 2) "__firstlineno__" (ts 2) (.int 59 m2), en (hs 3) "__slots__" (ts 3) (.ref sl), en (hs 4) "__init__" (ts 4) (.ref f1), en (hs 5) "__lt__" (ts 5) (.ref f2)] nd)])
    (hq : ∀ hb' h' f cd ct o t1 tk', Kp hb hb' → hb.get? f = none → hb'.get? f = some (funO (fnOf (clsBody.getD 4 (.Pass default)) "cmp_to_key.<locals>.K.__gt__" [("mycmp", c)] (.ref cd) ct)) → hb'.get? cd = some o → IsCode o "cmp_to_key.<locals>.K.__gt__" →
      Mm hb' h' [(tb, tabObj #[rawInt 63, rawInt 8, .ref c1, rawInt 66, rawInt 8, .ref c2, rawInt 69, rawInt 8, .ref cd]), (nsA, dicO #[en (hs 0) "__module__" (ts 0) (.str "cpy313.functools" m0), en (hs 1) "__qualname__" (ts 1) (.str "cmp_to_key.<locals>.K" m1), en (hs 2) "__firstlineno__" (ts 2) (.int 59 m2), en (hs 3) "__slots__" (ts 3) (.ref sl), en (hs 4) "__init__" (ts 4) (.ref f1), en (hs 5) "__lt__" (ts 5) (.ref f2), en (hashOf w "__gt__") "__gt__" t1 (.ref f)] (nd + 1))] → Q .next ⟨h', g, dr, tk', os⟩) :
    wpAny (model PR w) A (PySem.exec (clsBody.getD 4 (.Pass default)) (cenv nsA c cc fr)) Q E ⟨h, g, dr, tk, os⟩ := by
  have eb : (clsBody.getD 4 (.Pass default)) = (clsBody.getD 4 (.Pass default)) := rfl
  conv at eb => rhs; whnf
  have es : clsScope = clsScope := rfl
  conv at es => rhs; whnf
  unfold cenv
  rw [eb, es]
  clear eb es
  refine hIn' D ?_
  repeat ((fail_if_success (first | (with_reducible show wpAny _ _ (getAttr? _ _) _ _ _) | (with_reducible show wpAny _ _ (call _ _ _) _ _ _) | (with_reducible show wpAny _ _ (run _ _) _ _ _))); (first | with_reducible refine wpAny_onRaise ?_ | ((with_reducible show wpAny _ _ enterFrame _ _ _); (with_reducible rename Heap.NoLimit _ => hl); refine Mine.hEnter hl (by decide) ?_) | ((with_reducible show wpAny _ _ (List.mapM.loop mkText (Scope.freeNames _) []) _ _ _); (first | (rw [Mine.free1 (x := Str.ofString "mycmp") ?hfr]; (case hfr => (kernel_rfl!; done))) | (rw [Mine.free0 ?hfr]; (case hfr => (kernel_rfl!; done))))) | with_reducible refine Mine.bqIn ?_ | with_reducible refine Mine.bqGo ?_ | with_reducible refine PySem.wpAny_pure ?_ | with_reducible refine PySem.wpAny_rule ?_ | with_reducible refine PySem.wpAny_holding ?_ | with_reducible refine PySem.wpAny_standAt ?_ | with_reducible refine PySem.wpAny_point ?_ | with_reducible refine PySem.wpAny_fresh' ?_ | with_reducible refine Mine.wpTry ?_ | with_reducible refine PySem.wpAny_askSetting ?_ | ((with_reducible show wpAny _ _ (alloc _) _ _ _); (refine Mine.hAlloc rfl ?_); intro _ _ _) | ((with_reducible show wpAny _ _ (ite _ _ _) _ _ _); (first | (refine PySem.wpAny_ite_false ?hc ?_; (case hc => (kernel_rfl!; done))) | (refine PySem.wpAny_ite_true ?hc ?_; (case hc => (kernel_rfl!; done))) | (refine PySem.wpAny_ite_false ?hc ?_; (case hc => (simp [*]; done))) | (refine PySem.wpAny_ite_true ?hc ?_; (case hc => (simp [*]; done))))) | ((with_reducible show wpAny _ _ (load _) _ _ _); (first | (refine' Mine.hLd ?hm ?_; (case hm => (first | (repeat (first | exact List.Mem.head _ | apply List.Mem.tail))))) | (refine Mine.hOl (by with_reducible assumption) ?_) | ((with_reducible rename Frag.In _ _ => XF); (refine Mine.hOl (XF _ _ rfl) ?_)))) | ((with_reducible show wpAny _ _ (loadPart _ _) _ _ _); (first | (refine' Mine.hLdP ?hm ?_; (case hm => (first | (repeat (first | exact List.Mem.head _ | apply List.Mem.tail))))) | (refine Mine.hOlP (by with_reducible assumption) ?_) | ((with_reducible rename Frag.In _ _ => XF); (refine Mine.hOlP (XF _ _ rfl) ?_)))) | ((with_reducible show wpAny _ _ (update _ _) _ _ _); (first | (refine' Mine.hUpd ?hu ?hf ?_; (case hu => (repeat (first | exact Mine.Up.head | apply Mine.Up.tail))); (case hf => rfl)) | (refine' Mine.hUpdP ?hu ?hf ?_; (case hu => (repeat (first | exact Mine.Up.head | apply Mine.Up.tail))); (case hf => rfl)))) | ((with_reducible show wpAny _ _ (updatePart _ _ _) _ _ _); (first | (refine' Mine.hUpd ?hu ?hf ?_; (case hu => (repeat (first | exact Mine.Up.head | apply Mine.Up.tail))); (case hf => rfl)) | (refine' Mine.hUpdP ?hu ?hf ?_; (case hu => (repeat (first | exact Mine.Up.head | apply Mine.Up.tail))); (case hf => rfl)))) | ((with_reducible show wpAny _ _ (isSubtype (.type _) _) _ _ _); refine wpAny_of_eq (a := true) ?hc ?_; (case hc => (rw [isSubtype_type]; kernel_rfl!))) | ((with_reducible show wpAny _ _ (PySem.Builtin.notOverATurnedClass _) _ _ _); refine wpAny_of_eq (a := ()) ?hc ?_; (case hc => kernel_rfl!)) | ((first | (with_reducible show wpAny _ _ (PySem.Builtin.extendedBase _) _ _ _) | (with_reducible show wpAny _ _ (PySem.Builtin.Slots.bestBase _) _ _ _)); refine wpAny_of_eq (a := .type "object") ?hc ?_; (case hc => kernel_rfl!)) | ((first | (with_reducible show wpAny _ _ (PySem.Builtin.Slots.givesDict _) _ _ _) | (with_reducible show wpAny _ _ (PySem.Builtin.Slots.givesWeak _) _ _ _) | (with_reducible show wpAny _ _ (PySem.Builtin.Slots.varSize _) _ _ _)); refine wpAny_of_eq (a := false) ?hc ?_; (case hc => kernel_rfl!)) | ((with_reducible show wpAny _ _ (typeLookup (.ref _) _) _ _ _); unfold typeLookup) | ((with_reducible show wpAny _ _ (classOwn (.type _) _) _ _ _); (first | (refine wpAny_of_eq (a := some (.builtin "object.__new__")) ?hc ?_; (case hc => kernel_rfl!)) | (refine wpAny_of_eq (a := none) ?hc ?_; (case hc => kernel_rfl!)))) | ((with_reducible show wpAny _ _ (typeLookup (.type _) _) _ _ _); (refine wpAny_of_eq (a := none) ?hc ?_; (case hc => (rw [typeLookup_type, builtinLookup_eq_fast]; kernel_rfl!)))) | ((with_reducible show wpAny _ _ (PySem.Builtin.mroHook? _) _ _ _); refine wpAny_of_eq (a := none) ?hc ?_; (case hc => kernel_rfl!)) | ((with_reducible show wpAny _ _ (PySem.Builtin.linearize _ _) _ _ _); refine wpAny_of_eq (a := [.type "object"]) ?hc ?_; (case hc => kernel_rfl!)) | ((with_reducible show wpAny _ _ (Bind.madeBy (.type _)) _ _ _); (first | (refine wpAny_of_eq (a := some "type.__new__") ?hc ?_; (case hc => kernel_rfl!)) | (refine wpAny_of_eq (a := some "object.__new__") ?hc ?_; (case hc => kernel_rfl!)))) | ((fail_if_success (with_reducible show wpAny _ _ (List.anyM _ _) _ _ _)); (fail_if_success (with_reducible show wpAny _ _ (call _ _ _) _ _ _)); (fail_if_success (with_reducible show wpAny _ _ (collect _) _ _ _)); (fail_if_success (with_reducible show wpAny _ _ (PySem.Builtin.Slots.read _ _ _) _ _ _)); (first | wp_delta | wp_step))))
  refine hEnd fun h' D => ?_
  obtain ⟨hb', k1, k2, k3, k4, k5⟩ := def_done (jt := 8) (js := 9) (F' := fun cd x => funO (fnOf (clsBody.getD 4 (.Pass default)) "cmp_to_key.<locals>.K.__gt__" [("mycmp", c)] (.ref cd) (.ref x))) (T' := fun cd => tabObj #[rawInt 63, rawInt 8, .ref c1, rawInt 66, rawInt 8, .ref c2, rawInt 69, rawInt 8, .ref cd]) (N' := fun f => dicO #[en (hs 0) "__module__" (ts 0) (.str "cpy313.functools" m0), en (hs 1) "__qualname__" (ts 1) (.str "cmp_to_key.<locals>.K" m1), en (hs 2) "__firstlineno__" (ts 2) (.int 59 m2), en (hs 3) "__slots__" (ts 3) (.ref sl), en (hs 4) "__init__" (ts 4) (.ref f1), en (hs 5) "__lt__" (ts 5) (.ref f2), en (hashOf w "__gt__") "__gt__" (tk + 8) (.ref f)] (nd + 1)) D rfl rfl rfl rfl rfl (by kernel_rfl) (by kernel_rfl) (by kernel_rfl) (by decide) (by decide)
  exact hq hb' _ _ _ _ _ _ _ k1 k2 k3 k4 (isCode_of (tk + 1) (by kernel_rfl)) k5

theorem def4 {hb : Heap} {nsA c cc fr fv tb sl f1 c1 f2 c2 f3 c3 : Addr} {k : Nat → Tok} {hs : Nat → Int} {ts : Nat → Tok} {m0 m1 m2 : Tok} {nd : Nat} {Q : Flow → Shared → Prop} (XF : (K0 w.params).In hb) (hcc : hb.get? cc = some (ccO fv tb k)) {sl4 : Array (Option Value)} (h4 : hb.get? 4 = some (modO sl4))
    (D : Mm hb h [(tb, tabObj #[rawInt 63, rawInt 8, .ref c1, rawInt 66, rawInt 8, .ref c2, rawInt 69, rawInt 8, .ref c3]), (nsA, dicO #[en (hs 0) "__module__" (ts 0) (.str "cpy313.functools" m0), en (hs 1) "__qualname__" (ts 1) (.str "cmp_to_key.<locals>.K" m1), en (hs 2) "__firstlineno__" (ts 2) (.int 59 m2), en (hs 3) "__slots__" (ts 3) (.ref sl), en (hs 4) "__init__" (ts 4) (.ref f1), en (hs 5) "__lt__" (ts 5) (.ref f2), en (hs 6) "__gt__" (ts 6) (.ref f3)] nd)])
    (hq : ∀ hb' h' f cd ct o t1 tk', Kp hb hb' → hb.get? f = none → hb'.get? f = some (funO (fnOf (clsBody.getD 5 (.Pass default)) "cmp_to_key.<locals>.K.__eq__" [("mycmp", c)] (.ref cd) ct)) → hb'.get? cd = some o → IsCode o "cmp_to_key.<locals>.K.__eq__" →
      Mm hb' h' [(tb, tabObj #[rawInt 63, rawInt 8, .ref c1, rawInt 66, rawInt 8, .ref c2, rawInt 69, rawInt 8, .ref c3, rawInt 72, rawInt 8, .ref cd]), (nsA, dicO #[en (hs 0) "__module__" (ts 0) (.str "cpy313.functools" m0), en (hs 1) "__qualname__" (ts 1) (.str "cmp_to_key.<locals>.K" m1), en (hs 2) "__firstlineno__" (ts 2) (.int 59 m2), en (hs 3) "__slots__" (ts 3) (.ref sl), en (hs 4) "__init__" (ts 4) (.ref f1), en (hs 5) "__lt__" (ts 5) (.ref f2), en (hs 6) "__gt__" (ts 6) (.ref f3), en (hashOf w "__eq__") "__eq__" t1 (.ref f)] (nd + 1))] → Q .next ⟨h', g, dr, tk', os⟩) :
    wpAny (model PR w) A (PySem.exec (clsBody.getD 5 (.Pass default)) (cenv nsA c cc fr)) Q E ⟨h, g, dr, tk, os⟩ := by
  have eb : (clsBody.getD 5 (.Pass default)) = (clsBody.getD 5 (.Pass default)) := rfl
  conv at eb => rhs; whnf
  have es : clsScope = clsScope := rfl
  conv at es => rhs; whnf
  unfold cenv
  rw [eb, es]
  clear eb es
  refine hIn' D ?_
  repeat ((fail_if_success (first | (with_reducible show wpAny _ _ (getAttr? _ _) _ _ _) | (with_reducible show wpAny _ _ (call _ _ _) _ _ _) | (with_reducible show wpAny _ _ (run _ _) _ _ _))); (first | with_reducible refine wpAny_onRaise ?_ | ((with_reducible show wpAny _ _ enterFrame _ _ _); (with_reducible rename Heap.NoLimit _ => hl); refine Mine.hEnter hl (by decide) ?_) | ((with_reducible show wpAny _ _ (List.mapM.loop mkText (Scope.freeNames _) []) _ _ _); (first | (rw [Mine.free1 (x := Str.ofString "mycmp") ?hfr]; (case hfr => (kernel_rfl!; done))) | (rw [Mine.free0 ?hfr]; (case hfr => (kernel_rfl!; done))))) | with_reducible refine Mine.bqIn ?_ | with_reducible refine Mine.bqGo ?_ | with_reducible refine PySem.wpAny_pure ?_ | with_reducible refine PySem.wpAny_rule ?_ | with_reducible refine PySem.wpAny_holding ?_ | with_reducible refine PySem.wpAny_standAt ?_ | with_reducible refine PySem.wpAny_point ?_ | with_reducible refine PySem.wpAny_fresh' ?_ | with_reducible refine Mine.wpTry ?_ | with_reducible refine PySem.wpAny_askSetting ?_ | ((with_reducible show wpAny _ _ (alloc _) _ _ _); (refine Mine.hAlloc rfl ?_); intro _ _ _) | ((with_reducible show wpAny _ _ (ite _ _ _) _ _ _); (first | (refine PySem.wpAny_ite_false ?hc ?_; (case hc => (kernel_rfl!; done))) | (refine PySem.wpAny_ite_true ?hc ?_; (case hc => (kernel_rfl!; done))) | (refine PySem.wpAny_ite_false ?hc ?_; (case hc => (simp [*]; done))) | (refine PySem.wpAny_ite_true ?hc ?_; (case hc => (simp [*]; done))))) | ((with_reducible show wpAny _ _ (load _) _ _ _); (first | (refine' Mine.hLd ?hm ?_; (case hm => (first | (repeat (first | exact List.Mem.head _ | apply List.Mem.tail))))) | (refine Mine.hOl (by with_reducible assumption) ?_) | ((with_reducible rename Frag.In _ _ => XF); (refine Mine.hOl (XF _ _ rfl) ?_)))) | ((with_reducible show wpAny _ _ (loadPart _ _) _ _ _); (first | (refine' Mine.hLdP ?hm ?_; (case hm => (first | (repeat (first | exact List.Mem.head _ | apply List.Mem.tail))))) | (refine Mine.hOlP (by with_reducible assumption) ?_) | ((with_reducible rename Frag.In _ _ => XF); (refine Mine.hOlP (XF _ _ rfl) ?_)))) | ((with_reducible show wpAny _ _ (update _ _) _ _ _); (first | (refine' Mine.hUpd ?hu ?hf ?_; (case hu => (repeat (first | exact Mine.Up.head | apply Mine.Up.tail))); (case hf => rfl)) | (refine' Mine.hUpdP ?hu ?hf ?_; (case hu => (repeat (first | exact Mine.Up.head | apply Mine.Up.tail))); (case hf => rfl)))) | ((with_reducible show wpAny _ _ (updatePart _ _ _) _ _ _); (first | (refine' Mine.hUpd ?hu ?hf ?_; (case hu => (repeat (first | exact Mine.Up.head | apply Mine.Up.tail))); (case hf => rfl)) | (refine' Mine.hUpdP ?hu ?hf ?_; (case hu => (repeat (first | exact Mine.Up.head | apply Mine.Up.tail))); (case hf => rfl)))) | ((with_reducible show wpAny _ _ (isSubtype (.type _) _) _ _ _); refine wpAny_of_eq (a := true) ?hc ?_; (case hc => (rw [isSubtype_type]; kernel_rfl!))) | ((with_reducible show wpAny _ _ (PySem.Builtin.notOverATurnedClass _) _ _ _); refine wpAny_of_eq (a := ()) ?hc ?_; (case hc => kernel_rfl!)) | ((first | (with_reducible show wpAny _ _ (PySem.Builtin.extendedBase _) _ _ _) | (with_reducible show wpAny _ _ (PySem.Builtin.Slots.bestBase _) _ _ _)); refine wpAny_of_eq (a := .type "object") ?hc ?_; (case hc => kernel_rfl!)) | ((first | (with_reducible show wpAny _ _ (PySem.Builtin.Slots.givesDict _) _ _ _) | (with_reducible show wpAny _ _ (PySem.Builtin.Slots.givesWeak _) _ _ _) | (with_reducible show wpAny _ _ (PySem.Builtin.Slots.varSize _) _ _ _)); refine wpAny_of_eq (a := false) ?hc ?_; (case hc => kernel_rfl!)) | ((with_reducible show wpAny _ _ (typeLookup (.ref _) _) _ _ _); unfold typeLookup) | ((with_reducible show wpAny _ _ (classOwn (.type _) _) _ _ _); (first | (refine wpAny_of_eq (a := some (.builtin "object.__new__")) ?hc ?_; (case hc => kernel_rfl!)) | (refine wpAny_of_eq (a := none) ?hc ?_; (case hc => kernel_rfl!)))) | ((with_reducible show wpAny _ _ (typeLookup (.type _) _) _ _ _); (refine wpAny_of_eq (a := none) ?hc ?_; (case hc => (rw [typeLookup_type, builtinLookup_eq_fast]; kernel_rfl!)))) | ((with_reducible show wpAny _ _ (PySem.Builtin.mroHook? _) _ _ _); refine wpAny_of_eq (a := none) ?hc ?_; (case hc => kernel_rfl!)) | ((with_reducible show wpAny _ _ (PySem.Builtin.linearize _ _) _ _ _); refine wpAny_of_eq (a := [.type "object"]) ?hc ?_; (case hc => kernel_rfl!)) | ((with_reducible show wpAny _ _ (Bind.madeBy (.type _)) _ _ _); (first | (refine wpAny_of_eq (a := some "type.__new__") ?hc ?_; (case hc => kernel_rfl!)) | (refine wpAny_of_eq (a := some "object.__new__") ?hc ?_; (case hc => kernel_rfl!)))) | ((fail_if_success (with_reducible show wpAny _ _ (List.anyM _ _) _ _ _)); (fail_if_success (with_reducible show wpAny _ _ (call _ _ _) _ _ _)); (fail_if_success (with_reducible show wpAny _ _ (collect _) _ _ _)); (fail_if_success (with_reducible show wpAny _ _ (PySem.Builtin.Slots.read _ _ _) _ _ _)); (first | wp_delta | wp_step))))
  refine hEnd fun h' D => ?_
  obtain ⟨hb', k1, k2, k3, k4, k5⟩ := def_done (jt := 8) (js := 9) (F' := fun cd x => funO (fnOf (clsBody.getD 5 (.Pass default)) "cmp_to_key.<locals>.K.__eq__" [("mycmp", c)] (.ref cd) (.ref x))) (T' := fun cd => tabObj #[rawInt 63, rawInt 8, .ref c1, rawInt 66, rawInt 8, .ref c2, rawInt 69, rawInt 8, .ref c3, rawInt 72, rawInt 8, .ref cd]) (N' := fun f => dicO #[en (hs 0) "__module__" (ts 0) (.str "cpy313.functools" m0), en (hs 1) "__qualname__" (ts 1) (.str "cmp_to_key.<locals>.K" m1), en (hs 2) "__firstlineno__" (ts 2) (.int 59 m2), en (hs 3) "__slots__" (ts 3) (.ref sl), en (hs 4) "__init__" (ts 4) (.ref f1), en (hs 5) "__lt__" (ts 5) (.ref f2), en (hs 6) "__gt__" (ts 6) (.ref f3), en (hashOf w "__eq__") "__eq__" (tk + 8) (.ref f)] (nd + 1)) D rfl rfl rfl rfl rfl (by kernel_rfl) (by kernel_rfl) (by kernel_rfl) (by decide) (by decide)
  exact hq hb' _ _ _ _ _ _ _ k1 k2 k3 k4 (isCode_of (tk + 1) (by kernel_rfl)) k5

theorem def5 {hb : Heap} {nsA c cc fr fv tb sl f1 c1 f2 c2 f3 c3 f4 c4 : Addr} {k : Nat → Tok} {hs : Nat → Int} {ts : Nat → Tok} {m0 m1 m2 : Tok} {nd : Nat} {Q : Flow → Shared → Prop} (XF : (K0 w.params).In hb) (hcc : hb.get? cc = some (ccO fv tb k)) {sl4 : Array (Option Value)} (h4 : hb.get? 4 = some (modO sl4))
    (D : Mm hb h [(tb, tabObj #[rawInt 63, rawInt 8, .ref c1, rawInt 66, rawInt 8, .ref c2, rawInt 69, rawInt 8, .ref c3, rawInt 72, rawInt 8, .ref c4]), (nsA, dicO #[en (hs 0) "__module__" (ts 0) (.str "cpy313.functools" m0), en (hs 1) "__qualname__" (ts 1) (.str "cmp_to_key.<locals>.K" m1), en (hs 2) "__firstlineno__" (ts 2) (.int 59 m2), en (hs 3) "__slots__" (ts 3) (.ref sl), en (hs 4) "__init__" (ts 4) (.ref f1), en (hs 5) "__lt__" (ts 5) (.ref f2), en (hs 6) "__gt__" (ts 6) (.ref f3), en (hs 7) "__eq__" (ts 7) (.ref f4)] nd)])
    (hq : ∀ hb' h' f cd ct o t1 tk', Kp hb hb' → hb.get? f = none → hb'.get? f = some (funO (fnOf (clsBody.getD 6 (.Pass default)) "cmp_to_key.<locals>.K.__le__" [("mycmp", c)] (.ref cd) ct)) → hb'.get? cd = some o → IsCode o "cmp_to_key.<locals>.K.__le__" →
      Mm hb' h' [(tb, tabObj #[rawInt 63, rawInt 8, .ref c1, rawInt 66, rawInt 8, .ref c2, rawInt 69, rawInt 8, .ref c3, rawInt 72, rawInt 8, .ref c4, rawInt 75, rawInt 8, .ref cd]), (nsA, dicO #[en (hs 0) "__module__" (ts 0) (.str "cpy313.functools" m0), en (hs 1) "__qualname__" (ts 1) (.str "cmp_to_key.<locals>.K" m1), en (hs 2) "__firstlineno__" (ts 2) (.int 59 m2), en (hs 3) "__slots__" (ts 3) (.ref sl), en (hs 4) "__init__" (ts 4) (.ref f1), en (hs 5) "__lt__" (ts 5) (.ref f2), en (hs 6) "__gt__" (ts 6) (.ref f3), en (hs 7) "__eq__" (ts 7) (.ref f4), en (hashOf w "__le__") "__le__" t1 (.ref f)] (nd + 1))] → Q .next ⟨h', g, dr, tk', os⟩) :
    wpAny (model PR w) A (PySem.exec (clsBody.getD 6 (.Pass default)) (cenv nsA c cc fr)) Q E ⟨h, g, dr, tk, os⟩ := by
  have eb : (clsBody.getD 6 (.Pass default)) = (clsBody.getD 6 (.Pass default)) := rfl
  conv at eb => rhs; whnf
  have es : clsScope = clsScope := rfl
  conv at es => rhs; whnf
  unfold cenv
  rw [eb, es]
  clear eb es
  refine hIn' D ?_
  repeat ((fail_if_success (first | (with_reducible show wpAny _ _ (getAttr? _ _) _ _ _) | (with_reducible show wpAny _ _ (call _ _ _) _ _ _) | (with_reducible show wpAny _ _ (run _ _) _ _ _))); (first | with_reducible refine wpAny_onRaise ?_ | ((with_reducible show wpAny _ _ enterFrame _ _ _); (with_reducible rename Heap.NoLimit _ => hl); refine Mine.hEnter hl (by decide) ?_) | ((with_reducible show wpAny _ _ (List.mapM.loop mkText (Scope.freeNames _) []) _ _ _); (first | (rw [Mine.free1 (x := Str.ofString "mycmp") ?hfr]; (case hfr => (kernel_rfl!; done))) | (rw [Mine.free0 ?hfr]; (case hfr => (kernel_rfl!; done))))) | with_reducible refine Mine.bqIn ?_ | with_reducible refine Mine.bqGo ?_ | with_reducible refine PySem.wpAny_pure ?_ | with_reducible refine PySem.wpAny_rule ?_ | with_reducible refine PySem.wpAny_holding ?_ | with_reducible refine PySem.wpAny_standAt ?_ | with_reducible refine PySem.wpAny_point ?_ | with_reducible refine PySem.wpAny_fresh' ?_ | with_reducible refine Mine.wpTry ?_ | with_reducible refine PySem.wpAny_askSetting ?_ | ((with_reducible show wpAny _ _ (alloc _) _ _ _); (refine Mine.hAlloc rfl ?_); intro _ _ _) | ((with_reducible show wpAny _ _ (ite _ _ _) _ _ _); (first | (refine PySem.wpAny_ite_false ?hc ?_; (case hc => (kernel_rfl!; done))) | (refine PySem.wpAny_ite_true ?hc ?_; (case hc => (kernel_rfl!; done))) | (refine PySem.wpAny_ite_false ?hc ?_; (case hc => (simp [*]; done))) | (refine PySem.wpAny_ite_true ?hc ?_; (case hc => (simp [*]; done))))) | ((with_reducible show wpAny _ _ (load _) _ _ _); (first | (refine' Mine.hLd ?hm ?_; (case hm => (first | (repeat (first | exact List.Mem.head _ | apply List.Mem.tail))))) | (refine Mine.hOl (by with_reducible assumption) ?_) | ((with_reducible rename Frag.In _ _ => XF); (refine Mine.hOl (XF _ _ rfl) ?_)))) | ((with_reducible show wpAny _ _ (loadPart _ _) _ _ _); (first | (refine' Mine.hLdP ?hm ?_; (case hm => (first | (repeat (first | exact List.Mem.head _ | apply List.Mem.tail))))) | (refine Mine.hOlP (by with_reducible assumption) ?_) | ((with_reducible rename Frag.In _ _ => XF); (refine Mine.hOlP (XF _ _ rfl) ?_)))) | ((with_reducible show wpAny _ _ (update _ _) _ _ _); (first | (refine' Mine.hUpd ?hu ?hf ?_; (case hu => (repeat (first | exact Mine.Up.head | apply Mine.Up.tail))); (case hf => rfl)) | (refine' Mine.hUpdP ?hu ?hf ?_; (case hu => (repeat (first | exact Mine.Up.head | apply Mine.Up.tail))); (case hf => rfl)))) | ((with_reducible show wpAny _ _ (updatePart _ _ _) _ _ _); (first | (refine' Mine.hUpd ?hu ?hf ?_; (case hu => (repeat (first | exact Mine.Up.head | apply Mine.Up.tail))); (case hf => rfl)) | (refine' Mine.hUpdP ?hu ?hf ?_; (case hu => (repeat (first | exact Mine.Up.head | apply Mine.Up.tail))); (case hf => rfl)))) | ((with_reducible show wpAny _ _ (isSubtype (.type _) _) _ _ _); refine wpAny_of_eq (a := true) ?hc ?_; (case hc => (rw [isSubtype_type]; kernel_rfl!))) | ((with_reducible show wpAny _ _ (PySem.Builtin.notOverATurnedClass _) _ _ _); refine wpAny_of_eq (a := ()) ?hc ?_; (case hc => kernel_rfl!)) | ((first | (with_reducible show wpAny _ _ (PySem.Builtin.extendedBase _) _ _ _) | (with_reducible show wpAny _ _ (PySem.Builtin.Slots.bestBase _) _ _ _)); refine wpAny_of_eq (a := .type "object") ?hc ?_; (case hc => kernel_rfl!)) | ((first | (with_reducible show wpAny _ _ (PySem.Builtin.Slots.givesDict _) _ _ _) | (with_reducible show wpAny _ _ (PySem.Builtin.Slots.givesWeak _) _ _ _) | (with_reducible show wpAny _ _ (PySem.Builtin.Slots.varSize _) _ _ _)); refine wpAny_of_eq (a := false) ?hc ?_; (case hc => kernel_rfl!)) | ((with_reducible show wpAny _ _ (typeLookup (.ref _) _) _ _ _); unfold typeLookup) | ((with_reducible show wpAny _ _ (classOwn (.type _) _) _ _ _); (first | (refine wpAny_of_eq (a := some (.builtin "object.__new__")) ?hc ?_; (case hc => kernel_rfl!)) | (refine wpAny_of_eq (a := none) ?hc ?_; (case hc => kernel_rfl!)))) | ((with_reducible show wpAny _ _ (typeLookup (.type _) _) _ _ _); (refine wpAny_of_eq (a := none) ?hc ?_; (case hc => (rw [typeLookup_type, builtinLookup_eq_fast]; kernel_rfl!)))) | ((with_reducible show wpAny _ _ (PySem.Builtin.mroHook? _) _ _ _); refine wpAny_of_eq (a := none) ?hc ?_; (case hc => kernel_rfl!)) | ((with_reducible show wpAny _ _ (PySem.Builtin.linearize _ _) _ _ _); refine wpAny_of_eq (a := [.type "object"]) ?hc ?_; (case hc => kernel_rfl!)) | ((with_reducible show wpAny _ _ (Bind.madeBy (.type _)) _ _ _); (first | (refine wpAny_of_eq (a := some "type.__new__") ?hc ?_; (case hc => kernel_rfl!)) | (refine wpAny_of_eq (a := some "object.__new__") ?hc ?_; (case hc => kernel_rfl!)))) | ((fail_if_success (with_reducible show wpAny _ _ (List.anyM _ _) _ _ _)); (fail_if_success (with_reducible show wpAny _ _ (call _ _ _) _ _ _)); (fail_if_success (with_reducible show wpAny _ _ (collect _) _ _ _)); (fail_if_success (with_reducible show wpAny _ _ (PySem.Builtin.Slots.read _ _ _) _ _ _)); (first | wp_delta | wp_step))))
  refine hEnd fun h' D => ?_
  obtain ⟨hb', k1, k2, k3, k4, k5⟩ := def_done (jt := 8) (js := 9) (F' := fun cd x => funO (fnOf (clsBody.getD 6 (.Pass default)) "cmp_to_key.<locals>.K.__le__" [("mycmp", c)] (.ref cd) (.ref x))) (T' := fun cd => tabObj #[rawInt 63, rawInt 8, .ref c1, rawInt 66, rawInt 8, .ref c2, rawInt 69, rawInt 8, .ref c3, rawInt 72, rawInt 8, .ref c4, rawInt 75, rawInt 8, .ref cd]) (N' := fun f => dicO #[en (hs 0) "__module__" (ts 0) (.str "cpy313.functools" m0), en (hs 1) "__qualname__" (ts 1) (.str "cmp_to_key.<locals>.K" m1), en (hs 2) "__firstlineno__" (ts 2) (.int 59 m2), en (hs 3) "__slots__" (ts 3) (.ref sl), en (hs 4) "__init__" (ts 4) (.ref f1), en (hs 5) "__lt__" (ts 5) (.ref f2), en (hs 6) "__gt__" (ts 6) (.ref f3), en (hs 7) "__eq__" (ts 7) (.ref f4), en (hashOf w "__le__") "__le__" (tk + 8) (.ref f)] (nd + 1)) D rfl rfl rfl rfl rfl (by kernel_rfl) (by kernel_rfl) (by kernel_rfl) (by decide) (by decide)
  exact hq hb' _ _ _ _ _ _ _ k1 k2 k3 k4 (isCode_of (tk + 1) (by kernel_rfl)) k5

theorem def6 {hb : Heap} {nsA c cc fr fv tb sl f1 c1 f2 c2 f3 c3 f4 c4 f5 c5 : Addr} {k : Nat → Tok} {hs : Nat → Int} {ts : Nat → Tok} {m0 m1 m2 : Tok} {nd : Nat} {Q : Flow → Shared → Prop} (XF : (K0 w.params).In hb) (hcc : hb.get? cc = some (ccO fv tb k)) {sl4 : Array (Option Value)} (h4 : hb.get? 4 = some (modO sl4))
    (D : Mm hb h [(tb, tabObj #[rawInt 63, rawInt 8, .ref c1, rawInt 66, rawInt 8, .ref c2, rawInt 69, rawInt 8, .ref c3, rawInt 72, rawInt 8, .ref c4, rawInt 75, rawInt 8, .ref c5]), (nsA, dicO #[en (hs 0) "__module__" (ts 0) (.str "cpy313.functools" m0), en (hs 1) "__qualname__" (ts 1) (.str "cmp_to_key.<locals>.K" m1), en (hs 2) "__firstlineno__" (ts 2) (.int 59 m2), en (hs 3) "__slots__" (ts 3) (.ref sl), en (hs 4) "__init__" (ts 4) (.ref f1), en (hs 5) "__lt__" (ts 5) (.ref f2), en (hs 6) "__gt__" (ts 6) (.ref f3), en (hs 7) "__eq__" (ts 7) (.ref f4), en (hs 8) "__le__" (ts 8) (.ref f5)] nd)])
    (hq : ∀ hb' h' f cd ct o t1 tk', Kp hb hb' → hb.get? f = none → hb'.get? f = some (funO (fnOf (clsBody.getD 7 (.Pass default)) "cmp_to_key.<locals>.K.__ge__" [("mycmp", c)] (.ref cd) ct)) → hb'.get? cd = some o → IsCode o "cmp_to_key.<locals>.K.__ge__" →
      Mm hb' h' [(tb, tabObj #[rawInt 63, rawInt 8, .ref c1, rawInt 66, rawInt 8, .ref c2, rawInt 69, rawInt 8, .ref c3, rawInt 72, rawInt 8, .ref c4, rawInt 75, rawInt 8, .ref c5, rawInt 78, rawInt 8, .ref cd]), (nsA, dicO #[en (hs 0) "__module__" (ts 0) (.str "cpy313.functools" m0), en (hs 1) "__qualname__" (ts 1) (.str "cmp_to_key.<locals>.K" m1), en (hs 2) "__firstlineno__" (ts 2) (.int 59 m2), en (hs 3) "__slots__" (ts 3) (.ref sl), en (hs 4) "__init__" (ts 4) (.ref f1), en (hs 5) "__lt__" (ts 5) (.ref f2), en (hs 6) "__gt__" (ts 6) (.ref f3), en (hs 7) "__eq__" (ts 7) (.ref f4), en (hs 8) "__le__" (ts 8) (.ref f5), en (hashOf w "__ge__") "__ge__" t1 (.ref f)] (nd + 1))] → Q .next ⟨h', g, dr, tk', os⟩) :
    wpAny (model PR w) A (PySem.exec (clsBody.getD 7 (.Pass default)) (cenv nsA c cc fr)) Q E ⟨h, g, dr, tk, os⟩ := by
  have eb : (clsBody.getD 7 (.Pass default)) = (clsBody.getD 7 (.Pass default)) := rfl
  conv at eb => rhs; whnf
  have es : clsScope = clsScope := rfl
  conv at es => rhs; whnf
  unfold cenv
  rw [eb, es]
  clear eb es
  refine hIn' D ?_
  repeat ((fail_if_success (first | (with_reducible show wpAny _ _ (getAttr? _ _) _ _ _) | (with_reducible show wpAny _ _ (call _ _ _) _ _ _) | (with_reducible show wpAny _ _ (run _ _) _ _ _))); (first | with_reducible refine wpAny_onRaise ?_ | ((with_reducible show wpAny _ _ enterFrame _ _ _); (with_reducible rename Heap.NoLimit _ => hl); refine Mine.hEnter hl (by decide) ?_) | ((with_reducible show wpAny _ _ (List.mapM.loop mkText (Scope.freeNames _) []) _ _ _); (first | (rw [Mine.free1 (x := Str.ofString "mycmp") ?hfr]; (case hfr => (kernel_rfl!; done))) | (rw [Mine.free0 ?hfr]; (case hfr => (kernel_rfl!; done))))) | with_reducible refine Mine.bqIn ?_ | with_reducible refine Mine.bqGo ?_ | with_reducible refine PySem.wpAny_pure ?_ | with_reducible refine PySem.wpAny_rule ?_ | with_reducible refine PySem.wpAny_holding ?_ | with_reducible refine PySem.wpAny_standAt ?_ | with_reducible refine PySem.wpAny_point ?_ | with_reducible refine PySem.wpAny_fresh' ?_ | with_reducible refine Mine.wpTry ?_ | with_reducible refine PySem.wpAny_askSetting ?_ | ((with_reducible show wpAny _ _ (alloc _) _ _ _); (refine Mine.hAlloc rfl ?_); intro _ _ _) | ((with_reducible show wpAny _ _ (ite _ _ _) _ _ _); (first | (refine PySem.wpAny_ite_false ?hc ?_; (case hc => (kernel_rfl!; done))) | (refine PySem.wpAny_ite_true ?hc ?_; (case hc => (kernel_rfl!; done))) | (refine PySem.wpAny_ite_false ?hc ?_; (case hc => (simp [*]; done))) | (refine PySem.wpAny_ite_true ?hc ?_; (case hc => (simp [*]; done))))) | ((with_reducible show wpAny _ _ (load _) _ _ _); (first | (refine' Mine.hLd ?hm ?_; (case hm => (first | (repeat (first | exact List.Mem.head _ | apply List.Mem.tail))))) | (refine Mine.hOl (by with_reducible assumption) ?_) | ((with_reducible rename Frag.In _ _ => XF); (refine Mine.hOl (XF _ _ rfl) ?_)))) | ((with_reducible show wpAny _ _ (loadPart _ _) _ _ _); (first | (refine' Mine.hLdP ?hm ?_; (case hm => (first | (repeat (first | exact List.Mem.head _ | apply List.Mem.tail))))) | (refine Mine.hOlP (by with_reducible assumption) ?_) | ((with_reducible rename Frag.In _ _ => XF); (refine Mine.hOlP (XF _ _ rfl) ?_)))) | ((with_reducible show wpAny _ _ (update _ _) _ _ _); (first | (refine' Mine.hUpd ?hu ?hf ?_; (case hu => (repeat (first | exact Mine.Up.head | apply Mine.Up.tail))); (case hf => rfl)) | (refine' Mine.hUpdP ?hu ?hf ?_; (case hu => (repeat (first | exact Mine.Up.head | apply Mine.Up.tail))); (case hf => rfl)))) | ((with_reducible show wpAny _ _ (updatePart _ _ _) _ _ _); (first | (refine' Mine.hUpd ?hu ?hf ?_; (case hu => (repeat (first | exact Mine.Up.head | apply Mine.Up.tail))); (case hf => rfl)) | (refine' Mine.hUpdP ?hu ?hf ?_; (case hu => (repeat (first | exact Mine.Up.head | apply Mine.Up.tail))); (case hf => rfl)))) | ((with_reducible show wpAny _ _ (isSubtype (.type _) _) _ _ _); refine wpAny_of_eq (a := true) ?hc ?_; (case hc => (rw [isSubtype_type]; kernel_rfl!))) | ((with_reducible show wpAny _ _ (PySem.Builtin.notOverATurnedClass _) _ _ _); refine wpAny_of_eq (a := ()) ?hc ?_; (case hc => kernel_rfl!)) | ((first | (with_reducible show wpAny _ _ (PySem.Builtin.extendedBase _) _ _ _) | (with_reducible show wpAny _ _ (PySem.Builtin.Slots.bestBase _) _ _ _)); refine wpAny_of_eq (a := .type "object") ?hc ?_; (case hc => kernel_rfl!)) | ((first | (with_reducible show wpAny _ _ (PySem.Builtin.Slots.givesDict _) _ _ _) | (with_reducible show wpAny _ _ (PySem.Builtin.Slots.givesWeak _) _ _ _) | (with_reducible show wpAny _ _ (PySem.Builtin.Slots.varSize _) _ _ _)); refine wpAny_of_eq (a := false) ?hc ?_; (case hc => kernel_rfl!)) | ((with_reducible show wpAny _ _ (typeLookup (.ref _) _) _ _ _); unfold typeLookup) | ((with_reducible show wpAny _ _ (classOwn (.type _) _) _ _ _); (first | (refine wpAny_of_eq (a := some (.builtin "object.__new__")) ?hc ?_; (case hc => kernel_rfl!)) | (refine wpAny_of_eq (a := none) ?hc ?_; (case hc => kernel_rfl!)))) | ((with_reducible show wpAny _ _ (typeLookup (.type _) _) _ _ _); (refine wpAny_of_eq (a := none) ?hc ?_; (case hc => (rw [typeLookup_type, builtinLookup_eq_fast]; kernel_rfl!)))) | ((with_reducible show wpAny _ _ (PySem.Builtin.mroHook? _) _ _ _); refine wpAny_of_eq (a := none) ?hc ?_; (case hc => kernel_rfl!)) | ((with_reducible show wpAny _ _ (PySem.Builtin.linearize _ _) _ _ _); refine wpAny_of_eq (a := [.type "object"]) ?hc ?_; (case hc => kernel_rfl!)) | ((with_reducible show wpAny _ _ (Bind.madeBy (.type _)) _ _ _); (first | (refine wpAny_of_eq (a := some "type.__new__") ?hc ?_; (case hc => kernel_rfl!)) | (refine wpAny_of_eq (a := some "object.__new__") ?hc ?_; (case hc => kernel_rfl!)))) | ((fail_if_success (with_reducible show wpAny _ _ (List.anyM _ _) _ _ _)); (fail_if_success (with_reducible show wpAny _ _ (call _ _ _) _ _ _)); (fail_if_success (with_reducible show wpAny _ _ (collect _) _ _ _)); (fail_if_success (with_reducible show wpAny _ _ (PySem.Builtin.Slots.read _ _ _) _ _ _)); (first | wp_delta | wp_step))))
  refine hEnd fun h' D => ?_
  obtain ⟨hb', k1, k2, k3, k4, k5⟩ := def_done (jt := 8) (js := 9) (F' := fun cd x => funO (fnOf (clsBody.getD 7 (.Pass default)) "cmp_to_key.<locals>.K.__ge__" [("mycmp", c)] (.ref cd) (.ref x))) (T' := fun cd => tabObj #[rawInt 63, rawInt 8, .ref c1, rawInt 66, rawInt 8, .ref c2, rawInt 69, rawInt 8, .ref c3, rawInt 72, rawInt 8, .ref c4, rawInt 75, rawInt 8, .ref c5, rawInt 78, rawInt 8, .ref cd]) (N' := fun f => dicO #[en (hs 0) "__module__" (ts 0) (.str "cpy313.functools" m0), en (hs 1) "__qualname__" (ts 1) (.str "cmp_to_key.<locals>.K" m1), en (hs 2) "__firstlineno__" (ts 2) (.int 59 m2), en (hs 3) "__slots__" (ts 3) (.ref sl), en (hs 4) "__init__" (ts 4) (.ref f1), en (hs 5) "__lt__" (ts 5) (.ref f2), en (hs 6) "__gt__" (ts 6) (.ref f3), en (hs 7) "__eq__" (ts 7) (.ref f4), en (hs 8) "__le__" (ts 8) (.ref f5), en (hashOf w "__ge__") "__ge__" (tk + 8) (.ref f)] (nd + 1)) D rfl rfl rfl rfl rfl (by kernel_rfl) (by kernel_rfl) (by kernel_rfl) (by decide) (by decide)
  exact hq hb' _ _ _ _ _ _ _ k1 k2 k3 k4 (isCode_of (tk + 1) (by kernel_rfl)) k5
end Mine
end
section
open PySem PySem.W PySem.Calls PyProof.Rows PySem.W.X PySem.Builtin
set_option maxRecDepth 100000
set_option maxHeartbeats 0
namespace Mine
variable {w : World} {A : Around} {E : Value → Shared → Prop} {h : Heap} {g : Array GenState} {dr : Drawn} {tk : Nat} {os : OsState} {n : Nat}

/-- what the class's body leaves -/
structure BodyMade (hb hb' h' : Heap) (nsA c tb sl f1 f2 f3 f4 f5 f6 : Addr) (hs : Nat → Int) (ts : Nat → Tok) (m0 m1 m2 m3 : Tok) : Prop where
  keep : Kp hb hb'
  list : hb'.get? sl = some { cls := .type "list", data := .seq #[.str "obj" m3] 0 }
  q1 : (∃ cd ct o, hb'.get? f1 = some (funO (fnOf (clsBody.getD 2 (.Pass default)) "cmp_to_key.<locals>.K.__init__" [] (.ref cd) ct)) ∧ hb'.get? cd = some o ∧ IsCode o "cmp_to_key.<locals>.K.__init__")
  q2 : (∃ cd ct o, hb'.get? f2 = some (funO (fnOf (clsBody.getD 3 (.Pass default)) "cmp_to_key.<locals>.K.__lt__" [("mycmp", c)] (.ref cd) ct)) ∧ hb'.get? cd = some o ∧ IsCode o "cmp_to_key.<locals>.K.__lt__")
  q3 : (∃ cd ct o, hb'.get? f3 = some (funO (fnOf (clsBody.getD 4 (.Pass default)) "cmp_to_key.<locals>.K.__gt__" [("mycmp", c)] (.ref cd) ct)) ∧ hb'.get? cd = some o ∧ IsCode o "cmp_to_key.<locals>.K.__gt__")
  q4 : (∃ cd ct o, hb'.get? f4 = some (funO (fnOf (clsBody.getD 5 (.Pass default)) "cmp_to_key.<locals>.K.__eq__" [("mycmp", c)] (.ref cd) ct)) ∧ hb'.get? cd = some o ∧ IsCode o "cmp_to_key.<locals>.K.__eq__")
  q5 : (∃ cd ct o, hb'.get? f5 = some (funO (fnOf (clsBody.getD 6 (.Pass default)) "cmp_to_key.<locals>.K.__le__" [("mycmp", c)] (.ref cd) ct)) ∧ hb'.get? cd = some o ∧ IsCode o "cmp_to_key.<locals>.K.__le__")
  q6 : (∃ cd ct o, hb'.get? f6 = some (funO (fnOf (clsBody.getD 7 (.Pass default)) "cmp_to_key.<locals>.K.__ge__" [("mycmp", c)] (.ref cd) ct)) ∧ hb'.get? cd = some o ∧ IsCode o "cmp_to_key.<locals>.K.__ge__")
  tab : ∃ T nd, Mm hb' h' [(tb, T), (nsA, dicO #[en (hs 0) "__module__" (ts 0) (.str "cpy313.functools" m0), en (hs 1) "__qualname__" (ts 1) (.str "cmp_to_key.<locals>.K" m1), en (hs 2) "__firstlineno__" (ts 2) (.int 59 m2), en (hs 3) "__slots__" (ts 3) (.ref sl), en (hs 4) "__init__" (ts 4) (.ref f1), en (hs 5) "__lt__" (ts 5) (.ref f2), en (hs 6) "__gt__" (ts 6) (.ref f3), en (hs 7) "__eq__" (ts 7) (.ref f4), en (hs 8) "__le__" (ts 8) (.ref f5), en (hs 9) "__ge__" (ts 9) (.ref f6), en (hs 10) "__hash__" (ts 10) .none] nd)]
noncomputable def upN {α : Type} (f : Nat → α) (i : Nat) (v : α) : Nat → α := fun j => if j = i then v else f j
theorem rebase {hb h' : Heap} {nsA tb : Addr} {T N T' N' : Obj} {news : List (Addr × Obj)} (jt js : Nat) (D : Mm hb h' news) (it : news[jt]? = some (tb, T)) (is : news[js]? = some (nsA, N)) (eT : T = T') (eN : N = N') (hts : jt ≠ js) :
    ∃ hb', Kp hb hb' ∧ (∀ i p, news[i]? = some p → i ≠ jt → i ≠ js → hb'.get? p.1 = some p.2) ∧ Mm hb' h' [(tb, T'), (nsA, N')] := by
  subst eT eN
  have m := fun {i p} (e : news[i]? = some p) => D.nw p (List.mem_of_getElem? e)
  have ne := fun {i j p q} (e : news[i]? = some p) (e' : news[j]? = some q) (z : i ≠ j) => nd_ne D.nd e e' z
  have hts : tb ≠ nsA := ne it is hts
  refine ⟨hideAll h' [tb, nsA], fun b o e => hideAll_get _ (D.keep _ _ e) ?_, fun i p e h1 h2 => hideAll_get _ (m e).1 ?_, ?_⟩
  · simp only [List.mem_cons, List.not_mem_nil, or_false]
    rintro (rfl | rfl)
    · have := (m it).2; rw [e] at this; cases this
    · have := (m is).2; rw [e] at this; cases this
  · simp only [List.mem_cons, List.not_mem_nil, or_false]
    rintro (q | q)
    · exact ne e it h1 q
    · exact ne e is h2 q
  · refine Mm.hide (l := [(tb, T), (nsA, N)]) ?_ (by simpa using hts)
    intro p hp
    simp only [List.mem_cons, List.not_mem_nil, or_false] at hp
    rcases hp with rfl | rfl
    · exact (m it).1
    · exact (m is).1
theorem mm_eq {hb h : Heap} {tb nsA : Addr} {T N N' : Obj} (D : Mm hb h [(tb, T), (nsA, N)]) (e : N = N') : Mm hb h [(tb, T), (nsA, N')] := e ▸ D
theorem hcc_keep {hb hb' : Heap} {cc : Addr} {o : Obj} (k : Kp hb hb') (h : hb.get? cc = some o) : hb'.get? cc = some o := k _ _ h
theorem body_spec {hb : Heap} {nsA c cc fr fv tb : Addr} {k : Nat → Tok} {hs : Nat → Int} {ts : Nat → Tok} {m0 m1 m2 : Tok} {nd : Nat} {Q : Flow → Shared → Prop} (XF : (K0 w.params).In hb) (hcc : hb.get? cc = some (ccO fv tb k)) {sl4 : Array (Option Value)} (hm4 : hb.get? 4 = some (modO sl4))
    (D : Mm hb h [(tb, tabObj #[]), (nsA, dicO #[en (hs 0) "__module__" (ts 0) (.str "law_mr0186_01" m0), en (hs 1) "__qualname__" (ts 1) (.str "cmp_to_key.<locals>.K" m1), en (hs 2) "__firstlineno__" (ts 2) (.int 59 m2)] nd)])
    (hq : ∀ hb' h' sl f1 f2 f3 f4 f5 f6 hs' ts' m0' m3 tk', BodyMade hb hb' h' nsA c tb sl f1 f2 f3 f4 f5 f6 hs' ts' m0' m1 m2 m3 → Q .next ⟨h', g, dr, tk', os⟩) :
    wpAny (model PR w) AX (run (.body clsBody (cenv nsA c cc fr))) Q E ⟨h, g, dr, tk, os⟩ := by
  refine wpAny_run (codeAny_body rfl rfl ?_)
  have eb : clsBody = clsBody := rfl
  conv at eb => rhs; whnf
  have es : clsScope = clsScope := rfl
  conv at es => rhs; whnf
  unfold cenv
  rw [eb, es]
  clear eb es
  refine hIn' D ?_
  repeat ((fail_if_success (first | (with_reducible show wpAny _ _ (getAttr? _ _) _ _ _) | (with_reducible show wpAny _ _ (call _ _ _) _ _ _) | (with_reducible show wpAny _ _ (run _ _) _ _ _) | (with_reducible show wpAny _ _ (PySem.exec (Stmt.FunctionDef _ _ _ _ _ _ _ _ _ _) _) _ _ _))); (first | with_reducible refine wpAny_onRaise ?_ | ((with_reducible show wpAny _ _ enterFrame _ _ _); (with_reducible rename Heap.NoLimit _ => hl); refine Mine.hEnter hl (by decide) ?_) | ((with_reducible show wpAny _ _ (List.mapM.loop mkText (Scope.freeNames _) []) _ _ _); (first | (rw [Mine.free1 (x := Str.ofString "mycmp") ?hfr]; (case hfr => (kernel_rfl!; done))) | (rw [Mine.free0 ?hfr]; (case hfr => (kernel_rfl!; done))))) | with_reducible refine Mine.bqIn ?_ | with_reducible refine Mine.bqGo ?_ | with_reducible refine PySem.wpAny_pure ?_ | with_reducible refine PySem.wpAny_rule ?_ | with_reducible refine PySem.wpAny_holding ?_ | with_reducible refine PySem.wpAny_standAt ?_ | with_reducible refine PySem.wpAny_point ?_ | with_reducible refine PySem.wpAny_fresh' ?_ | with_reducible refine Mine.wpTry ?_ | with_reducible refine PySem.wpAny_askSetting ?_ | ((with_reducible show wpAny _ _ (alloc _) _ _ _); (refine Mine.hAlloc rfl ?_); intro _ _ _) | ((with_reducible show wpAny _ _ (ite _ _ _) _ _ _); (first | (refine PySem.wpAny_ite_false ?hc ?_; (case hc => (kernel_rfl!; done))) | (refine PySem.wpAny_ite_true ?hc ?_; (case hc => (kernel_rfl!; done))) | (refine PySem.wpAny_ite_false ?hc ?_; (case hc => (simp [*]; done))) | (refine PySem.wpAny_ite_true ?hc ?_; (case hc => (simp [*]; done))))) | ((with_reducible show wpAny _ _ (load _) _ _ _); (first | (refine' Mine.hLd ?hm ?_; (case hm => (first | (repeat (first | exact List.Mem.head _ | apply List.Mem.tail))))) | (refine Mine.hOl (by with_reducible assumption) ?_) | ((with_reducible rename Frag.In _ _ => XF); (refine Mine.hOl (XF _ _ rfl) ?_)))) | ((with_reducible show wpAny _ _ (loadPart _ _) _ _ _); (first | (refine' Mine.hLdP ?hm ?_; (case hm => (first | (repeat (first | exact List.Mem.head _ | apply List.Mem.tail))))) | (refine Mine.hOlP (by with_reducible assumption) ?_) | ((with_reducible rename Frag.In _ _ => XF); (refine Mine.hOlP (XF _ _ rfl) ?_)))) | ((with_reducible show wpAny _ _ (update _ _) _ _ _); (first | (refine' Mine.hUpd ?hu ?hf ?_; (case hu => (repeat (first | exact Mine.Up.head | apply Mine.Up.tail))); (case hf => rfl)) | (refine' Mine.hUpdP ?hu ?hf ?_; (case hu => (repeat (first | exact Mine.Up.head | apply Mine.Up.tail))); (case hf => rfl)))) | ((with_reducible show wpAny _ _ (updatePart _ _ _) _ _ _); (first | (refine' Mine.hUpd ?hu ?hf ?_; (case hu => (repeat (first | exact Mine.Up.head | apply Mine.Up.tail))); (case hf => rfl)) | (refine' Mine.hUpdP ?hu ?hf ?_; (case hu => (repeat (first | exact Mine.Up.head | apply Mine.Up.tail))); (case hf => rfl)))) | ((with_reducible show wpAny _ _ (isSubtype (.type _) _) _ _ _); refine wpAny_of_eq (a := true) ?hc ?_; (case hc => (rw [isSubtype_type]; kernel_rfl!))) | ((with_reducible show wpAny _ _ (PySem.Builtin.notOverATurnedClass _) _ _ _); refine wpAny_of_eq (a := ()) ?hc ?_; (case hc => kernel_rfl!)) | ((first | (with_reducible show wpAny _ _ (PySem.Builtin.extendedBase _) _ _ _) | (with_reducible show wpAny _ _ (PySem.Builtin.Slots.bestBase _) _ _ _)); refine wpAny_of_eq (a := .type "object") ?hc ?_; (case hc => kernel_rfl!)) | ((first | (with_reducible show wpAny _ _ (PySem.Builtin.Slots.givesDict _) _ _ _) | (with_reducible show wpAny _ _ (PySem.Builtin.Slots.givesWeak _) _ _ _) | (with_reducible show wpAny _ _ (PySem.Builtin.Slots.varSize _) _ _ _)); refine wpAny_of_eq (a := false) ?hc ?_; (case hc => kernel_rfl!)) | ((with_reducible show wpAny _ _ (typeLookup (.ref _) _) _ _ _); unfold typeLookup) | ((with_reducible show wpAny _ _ (classOwn (.type _) _) _ _ _); (first | (refine wpAny_of_eq (a := some (.builtin "object.__new__")) ?hc ?_; (case hc => kernel_rfl!)) | (refine wpAny_of_eq (a := none) ?hc ?_; (case hc => kernel_rfl!)))) | ((with_reducible show wpAny _ _ (typeLookup (.type _) _) _ _ _); (refine wpAny_of_eq (a := none) ?hc ?_; (case hc => (rw [typeLookup_type, builtinLookup_eq_fast]; kernel_rfl!)))) | ((with_reducible show wpAny _ _ (PySem.Builtin.mroHook? _) _ _ _); refine wpAny_of_eq (a := none) ?hc ?_; (case hc => kernel_rfl!)) | ((with_reducible show wpAny _ _ (PySem.Builtin.linearize _ _) _ _ _); refine wpAny_of_eq (a := [.type "object"]) ?hc ?_; (case hc => kernel_rfl!)) | ((with_reducible show wpAny _ _ (Bind.madeBy (.type _)) _ _ _); (first | (refine wpAny_of_eq (a := some "type.__new__") ?hc ?_; (case hc => kernel_rfl!)) | (refine wpAny_of_eq (a := some "object.__new__") ?hc ?_; (case hc => kernel_rfl!)))) | ((fail_if_success (with_reducible show wpAny _ _ (List.anyM _ _) _ _ _)); (fail_if_success (with_reducible show wpAny _ _ (call _ _ _) _ _ _)); (fail_if_success (with_reducible show wpAny _ _ (collect _) _ _ _)); (fail_if_success (with_reducible show wpAny _ _ (PySem.Builtin.Slots.read _ _ _) _ _ _)); (first | wp_delta | wp_step))))
  refine hOut fun h' D => ?_
  rename_i sl _ _
  have z0 := D.at' 0 rfl
  obtain ⟨hb0, k0, l0, D0⟩ := rebase 1 2 (T' := tabObj #[]) (N' := dicO #[en (upN hs 3 (hashOf w "__slots__") 0) "__module__" (upN ts 3 (tk + 3) 0) (.str "cpy313.functools" tk), en (upN hs 3 (hashOf w "__slots__") 1) "__qualname__" (upN ts 3 (tk + 3) 1) (.str "cmp_to_key.<locals>.K" m1), en (upN hs 3 (hashOf w "__slots__") 2) "__firstlineno__" (upN ts 3 (tk + 3) 2) (.int 59 m2), en (upN hs 3 (hashOf w "__slots__") 3) "__slots__" (upN ts 3 (tk + 3) 3) (.ref sl)] (nd + 1)) D rfl rfl (by kernel_rfl) (by kernel_rfl) (by decide)
  have hsl := l0 0 _ rfl (by decide) (by decide)
  dsimp only at hsl
  clear D l0 z0
  rename Frag.In _ _ => XF
  replace XF := XF.keeps k0
  replace hcc := hcc_keep k0 hcc
  replace hm4 := hcc_keep k0 hm4
  generalize upN hs 3 _ = hs0 at D0
  generalize upN ts 3 _ = ts0 at D0
  refine def1 XF hcc hm4 D0 (fun hb1 h1 f1 c1 ct1 o1 t1 tk1 k1 n1 a1 b1 i1 D1 => ?_)
  replace XF := XF.keeps k1
  replace hcc := hcc_keep k1 hcc
  replace hm4 := hcc_keep k1 hm4
  replace D1 : Mm hb1 h1 [(tb, tabObj _), (nsA, dicO #[en (upN hs0 4 (hashOf w "__init__") 0) "__module__" (upN ts0 4 t1 0) (.str "cpy313.functools" tk), en (upN hs0 4 (hashOf w "__init__") 1) "__qualname__" (upN ts0 4 t1 1) (.str "cmp_to_key.<locals>.K" m1), en (upN hs0 4 (hashOf w "__init__") 2) "__firstlineno__" (upN ts0 4 t1 2) (.int 59 m2), en (upN hs0 4 (hashOf w "__init__") 3) "__slots__" (upN ts0 4 t1 3) (.ref sl), en (upN hs0 4 (hashOf w "__init__") 4) "__init__" (upN ts0 4 t1 4) (.ref f1)] _)] := D1
  generalize upN hs0 4 _ = hs1 at D1
  generalize upN ts0 4 _ = ts1 at D1
  clear D0
  repeat ((fail_if_success (first | (with_reducible show wpAny _ _ (getAttr? _ _) _ _ _) | (with_reducible show wpAny _ _ (call _ _ _) _ _ _) | (with_reducible show wpAny _ _ (run _ _) _ _ _) | (with_reducible show wpAny _ _ (PySem.exec (Stmt.FunctionDef _ _ _ _ _ _ _ _ _ _) _) _ _ _))); (first | with_reducible refine wpAny_onRaise ?_ | ((with_reducible show wpAny _ _ enterFrame _ _ _); (with_reducible rename Heap.NoLimit _ => hl); refine Mine.hEnter hl (by decide) ?_) | ((with_reducible show wpAny _ _ (List.mapM.loop mkText (Scope.freeNames _) []) _ _ _); (first | (rw [Mine.free1 (x := Str.ofString "mycmp") ?hfr]; (case hfr => (kernel_rfl!; done))) | (rw [Mine.free0 ?hfr]; (case hfr => (kernel_rfl!; done))))) | with_reducible refine Mine.bqIn ?_ | with_reducible refine Mine.bqGo ?_ | with_reducible refine PySem.wpAny_pure ?_ | with_reducible refine PySem.wpAny_rule ?_ | with_reducible refine PySem.wpAny_holding ?_ | with_reducible refine PySem.wpAny_standAt ?_ | with_reducible refine PySem.wpAny_point ?_ | with_reducible refine PySem.wpAny_fresh' ?_ | with_reducible refine Mine.wpTry ?_ | with_reducible refine PySem.wpAny_askSetting ?_ | ((with_reducible show wpAny _ _ (alloc _) _ _ _); (refine Mine.hAlloc rfl ?_); intro _ _ _) | ((with_reducible show wpAny _ _ (ite _ _ _) _ _ _); (first | (refine PySem.wpAny_ite_false ?hc ?_; (case hc => (kernel_rfl!; done))) | (refine PySem.wpAny_ite_true ?hc ?_; (case hc => (kernel_rfl!; done))) | (refine PySem.wpAny_ite_false ?hc ?_; (case hc => (simp [*]; done))) | (refine PySem.wpAny_ite_true ?hc ?_; (case hc => (simp [*]; done))))) | ((with_reducible show wpAny _ _ (load _) _ _ _); (first | (refine' Mine.hLd ?hm ?_; (case hm => (first | (repeat (first | exact List.Mem.head _ | apply List.Mem.tail))))) | (refine Mine.hOl (by with_reducible assumption) ?_) | ((with_reducible rename Frag.In _ _ => XF); (refine Mine.hOl (XF _ _ rfl) ?_)))) | ((with_reducible show wpAny _ _ (loadPart _ _) _ _ _); (first | (refine' Mine.hLdP ?hm ?_; (case hm => (first | (repeat (first | exact List.Mem.head _ | apply List.Mem.tail))))) | (refine Mine.hOlP (by with_reducible assumption) ?_) | ((with_reducible rename Frag.In _ _ => XF); (refine Mine.hOlP (XF _ _ rfl) ?_)))) | ((with_reducible show wpAny _ _ (update _ _) _ _ _); (first | (refine' Mine.hUpd ?hu ?hf ?_; (case hu => (repeat (first | exact Mine.Up.head | apply Mine.Up.tail))); (case hf => rfl)) | (refine' Mine.hUpdP ?hu ?hf ?_; (case hu => (repeat (first | exact Mine.Up.head | apply Mine.Up.tail))); (case hf => rfl)))) | ((with_reducible show wpAny _ _ (updatePart _ _ _) _ _ _); (first | (refine' Mine.hUpd ?hu ?hf ?_; (case hu => (repeat (first | exact Mine.Up.head | apply Mine.Up.tail))); (case hf => rfl)) | (refine' Mine.hUpdP ?hu ?hf ?_; (case hu => (repeat (first | exact Mine.Up.head | apply Mine.Up.tail))); (case hf => rfl)))) | ((with_reducible show wpAny _ _ (isSubtype (.type _) _) _ _ _); refine wpAny_of_eq (a := true) ?hc ?_; (case hc => (rw [isSubtype_type]; kernel_rfl!))) | ((with_reducible show wpAny _ _ (PySem.Builtin.notOverATurnedClass _) _ _ _); refine wpAny_of_eq (a := ()) ?hc ?_; (case hc => kernel_rfl!)) | ((first | (with_reducible show wpAny _ _ (PySem.Builtin.extendedBase _) _ _ _) | (with_reducible show wpAny _ _ (PySem.Builtin.Slots.bestBase _) _ _ _)); refine wpAny_of_eq (a := .type "object") ?hc ?_; (case hc => kernel_rfl!)) | ((first | (with_reducible show wpAny _ _ (PySem.Builtin.Slots.givesDict _) _ _ _) | (with_reducible show wpAny _ _ (PySem.Builtin.Slots.givesWeak _) _ _ _) | (with_reducible show wpAny _ _ (PySem.Builtin.Slots.varSize _) _ _ _)); refine wpAny_of_eq (a := false) ?hc ?_; (case hc => kernel_rfl!)) | ((with_reducible show wpAny _ _ (typeLookup (.ref _) _) _ _ _); unfold typeLookup) | ((with_reducible show wpAny _ _ (classOwn (.type _) _) _ _ _); (first | (refine wpAny_of_eq (a := some (.builtin "object.__new__")) ?hc ?_; (case hc => kernel_rfl!)) | (refine wpAny_of_eq (a := none) ?hc ?_; (case hc => kernel_rfl!)))) | ((with_reducible show wpAny _ _ (typeLookup (.type _) _) _ _ _); (refine wpAny_of_eq (a := none) ?hc ?_; (case hc => (rw [typeLookup_type, builtinLookup_eq_fast]; kernel_rfl!)))) | ((with_reducible show wpAny _ _ (PySem.Builtin.mroHook? _) _ _ _); refine wpAny_of_eq (a := none) ?hc ?_; (case hc => kernel_rfl!)) | ((with_reducible show wpAny _ _ (PySem.Builtin.linearize _ _) _ _ _); refine wpAny_of_eq (a := [.type "object"]) ?hc ?_; (case hc => kernel_rfl!)) | ((with_reducible show wpAny _ _ (Bind.madeBy (.type _)) _ _ _); (first | (refine wpAny_of_eq (a := some "type.__new__") ?hc ?_; (case hc => kernel_rfl!)) | (refine wpAny_of_eq (a := some "object.__new__") ?hc ?_; (case hc => kernel_rfl!)))) | ((fail_if_success (with_reducible show wpAny _ _ (List.anyM _ _) _ _ _)); (fail_if_success (with_reducible show wpAny _ _ (call _ _ _) _ _ _)); (fail_if_success (with_reducible show wpAny _ _ (collect _) _ _ _)); (fail_if_success (with_reducible show wpAny _ _ (PySem.Builtin.Slots.read _ _ _) _ _ _)); (first | wp_delta | wp_step))))
  rename Frag.In _ _ => XF
  rename Mm _ _ _ => D1
  refine def2 XF hcc hm4 D1 (fun hb2 h2 f2 c2 ct2 o2 t2 tk2 k2 n2 a2 b2 i2 D2 => ?_)
  replace XF := XF.keeps k2
  replace hcc := hcc_keep k2 hcc
  replace hm4 := hcc_keep k2 hm4
  replace D2 : Mm hb2 h2 [(tb, tabObj _), (nsA, dicO #[en (upN hs1 5 (hashOf w "__lt__") 0) "__module__" (upN ts1 5 t2 0) (.str "cpy313.functools" tk), en (upN hs1 5 (hashOf w "__lt__") 1) "__qualname__" (upN ts1 5 t2 1) (.str "cmp_to_key.<locals>.K" m1), en (upN hs1 5 (hashOf w "__lt__") 2) "__firstlineno__" (upN ts1 5 t2 2) (.int 59 m2), en (upN hs1 5 (hashOf w "__lt__") 3) "__slots__" (upN ts1 5 t2 3) (.ref sl), en (upN hs1 5 (hashOf w "__lt__") 4) "__init__" (upN ts1 5 t2 4) (.ref f1), en (upN hs1 5 (hashOf w "__lt__") 5) "__lt__" (upN ts1 5 t2 5) (.ref f2)] _)] := D2
  generalize upN hs1 5 _ = hs2 at D2
  generalize upN ts1 5 _ = ts2 at D2
  clear D1
  repeat ((fail_if_success (first | (with_reducible show wpAny _ _ (getAttr? _ _) _ _ _) | (with_reducible show wpAny _ _ (call _ _ _) _ _ _) | (with_reducible show wpAny _ _ (run _ _) _ _ _) | (with_reducible show wpAny _ _ (PySem.exec (Stmt.FunctionDef _ _ _ _ _ _ _ _ _ _) _) _ _ _))); (first | with_reducible refine wpAny_onRaise ?_ | ((with_reducible show wpAny _ _ enterFrame _ _ _); (with_reducible rename Heap.NoLimit _ => hl); refine Mine.hEnter hl (by decide) ?_) | ((with_reducible show wpAny _ _ (List.mapM.loop mkText (Scope.freeNames _) []) _ _ _); (first | (rw [Mine.free1 (x := Str.ofString "mycmp") ?hfr]; (case hfr => (kernel_rfl!; done))) | (rw [Mine.free0 ?hfr]; (case hfr => (kernel_rfl!; done))))) | with_reducible refine Mine.bqIn ?_ | with_reducible refine Mine.bqGo ?_ | with_reducible refine PySem.wpAny_pure ?_ | with_reducible refine PySem.wpAny_rule ?_ | with_reducible refine PySem.wpAny_holding ?_ | with_reducible refine PySem.wpAny_standAt ?_ | with_reducible refine PySem.wpAny_point ?_ | with_reducible refine PySem.wpAny_fresh' ?_ | with_reducible refine Mine.wpTry ?_ | with_reducible refine PySem.wpAny_askSetting ?_ | ((with_reducible show wpAny _ _ (alloc _) _ _ _); (refine Mine.hAlloc rfl ?_); intro _ _ _) | ((with_reducible show wpAny _ _ (ite _ _ _) _ _ _); (first | (refine PySem.wpAny_ite_false ?hc ?_; (case hc => (kernel_rfl!; done))) | (refine PySem.wpAny_ite_true ?hc ?_; (case hc => (kernel_rfl!; done))) | (refine PySem.wpAny_ite_false ?hc ?_; (case hc => (simp [*]; done))) | (refine PySem.wpAny_ite_true ?hc ?_; (case hc => (simp [*]; done))))) | ((with_reducible show wpAny _ _ (load _) _ _ _); (first | (refine' Mine.hLd ?hm ?_; (case hm => (first | (repeat (first | exact List.Mem.head _ | apply List.Mem.tail))))) | (refine Mine.hOl (by with_reducible assumption) ?_) | ((with_reducible rename Frag.In _ _ => XF); (refine Mine.hOl (XF _ _ rfl) ?_)))) | ((with_reducible show wpAny _ _ (loadPart _ _) _ _ _); (first | (refine' Mine.hLdP ?hm ?_; (case hm => (first | (repeat (first | exact List.Mem.head _ | apply List.Mem.tail))))) | (refine Mine.hOlP (by with_reducible assumption) ?_) | ((with_reducible rename Frag.In _ _ => XF); (refine Mine.hOlP (XF _ _ rfl) ?_)))) | ((with_reducible show wpAny _ _ (update _ _) _ _ _); (first | (refine' Mine.hUpd ?hu ?hf ?_; (case hu => (repeat (first | exact Mine.Up.head | apply Mine.Up.tail))); (case hf => rfl)) | (refine' Mine.hUpdP ?hu ?hf ?_; (case hu => (repeat (first | exact Mine.Up.head | apply Mine.Up.tail))); (case hf => rfl)))) | ((with_reducible show wpAny _ _ (updatePart _ _ _) _ _ _); (first | (refine' Mine.hUpd ?hu ?hf ?_; (case hu => (repeat (first | exact Mine.Up.head | apply Mine.Up.tail))); (case hf => rfl)) | (refine' Mine.hUpdP ?hu ?hf ?_; (case hu => (repeat (first | exact Mine.Up.head | apply Mine.Up.tail))); (case hf => rfl)))) | ((with_reducible show wpAny _ _ (isSubtype (.type _) _) _ _ _); refine wpAny_of_eq (a := true) ?hc ?_; (case hc => (rw [isSubtype_type]; kernel_rfl!))) | ((with_reducible show wpAny _ _ (PySem.Builtin.notOverATurnedClass _) _ _ _); refine wpAny_of_eq (a := ()) ?hc ?_; (case hc => kernel_rfl!)) | ((first | (with_reducible show wpAny _ _ (PySem.Builtin.extendedBase _) _ _ _) | (with_reducible show wpAny _ _ (PySem.Builtin.Slots.bestBase _) _ _ _)); refine wpAny_of_eq (a := .type "object") ?hc ?_; (case hc => kernel_rfl!)) | ((first | (with_reducible show wpAny _ _ (PySem.Builtin.Slots.givesDict _) _ _ _) | (with_reducible show wpAny _ _ (PySem.Builtin.Slots.givesWeak _) _ _ _) | (with_reducible show wpAny _ _ (PySem.Builtin.Slots.varSize _) _ _ _)); refine wpAny_of_eq (a := false) ?hc ?_; (case hc => kernel_rfl!)) | ((with_reducible show wpAny _ _ (typeLookup (.ref _) _) _ _ _); unfold typeLookup) | ((with_reducible show wpAny _ _ (classOwn (.type _) _) _ _ _); (first | (refine wpAny_of_eq (a := some (.builtin "object.__new__")) ?hc ?_; (case hc => kernel_rfl!)) | (refine wpAny_of_eq (a := none) ?hc ?_; (case hc => kernel_rfl!)))) | ((with_reducible show wpAny _ _ (typeLookup (.type _) _) _ _ _); (refine wpAny_of_eq (a := none) ?hc ?_; (case hc => (rw [typeLookup_type, builtinLookup_eq_fast]; kernel_rfl!)))) | ((with_reducible show wpAny _ _ (PySem.Builtin.mroHook? _) _ _ _); refine wpAny_of_eq (a := none) ?hc ?_; (case hc => kernel_rfl!)) | ((with_reducible show wpAny _ _ (PySem.Builtin.linearize _ _) _ _ _); refine wpAny_of_eq (a := [.type "object"]) ?hc ?_; (case hc => kernel_rfl!)) | ((with_reducible show wpAny _ _ (Bind.madeBy (.type _)) _ _ _); (first | (refine wpAny_of_eq (a := some "type.__new__") ?hc ?_; (case hc => kernel_rfl!)) | (refine wpAny_of_eq (a := some "object.__new__") ?hc ?_; (case hc => kernel_rfl!)))) | ((fail_if_success (with_reducible show wpAny _ _ (List.anyM _ _) _ _ _)); (fail_if_success (with_reducible show wpAny _ _ (call _ _ _) _ _ _)); (fail_if_success (with_reducible show wpAny _ _ (collect _) _ _ _)); (fail_if_success (with_reducible show wpAny _ _ (PySem.Builtin.Slots.read _ _ _) _ _ _)); (first | wp_delta | wp_step))))
  rename Frag.In _ _ => XF
  rename Mm _ _ _ => D2
  refine def3 XF hcc hm4 D2 (fun hb3 h3 f3 c3 ct3 o3 t3 tk3 k3 n3 a3 b3 i3 D3 => ?_)
  replace XF := XF.keeps k3
  replace hcc := hcc_keep k3 hcc
  replace hm4 := hcc_keep k3 hm4
  replace D3 : Mm hb3 h3 [(tb, tabObj _), (nsA, dicO #[en (upN hs2 6 (hashOf w "__gt__") 0) "__module__" (upN ts2 6 t3 0) (.str "cpy313.functools" tk), en (upN hs2 6 (hashOf w "__gt__") 1) "__qualname__" (upN ts2 6 t3 1) (.str "cmp_to_key.<locals>.K" m1), en (upN hs2 6 (hashOf w "__gt__") 2) "__firstlineno__" (upN ts2 6 t3 2) (.int 59 m2), en (upN hs2 6 (hashOf w "__gt__") 3) "__slots__" (upN ts2 6 t3 3) (.ref sl), en (upN hs2 6 (hashOf w "__gt__") 4) "__init__" (upN ts2 6 t3 4) (.ref f1), en (upN hs2 6 (hashOf w "__gt__") 5) "__lt__" (upN ts2 6 t3 5) (.ref f2), en (upN hs2 6 (hashOf w "__gt__") 6) "__gt__" (upN ts2 6 t3 6) (.ref f3)] _)] := D3
  generalize upN hs2 6 _ = hs3 at D3
  generalize upN ts2 6 _ = ts3 at D3
  clear D2
  repeat ((fail_if_success (first | (with_reducible show wpAny _ _ (getAttr? _ _) _ _ _) | (with_reducible show wpAny _ _ (call _ _ _) _ _ _) | (with_reducible show wpAny _ _ (run _ _) _ _ _) | (with_reducible show wpAny _ _ (PySem.exec (Stmt.FunctionDef _ _ _ _ _ _ _ _ _ _) _) _ _ _))); (first | with_reducible refine wpAny_onRaise ?_ | ((with_reducible show wpAny _ _ enterFrame _ _ _); (with_reducible rename Heap.NoLimit _ => hl); refine Mine.hEnter hl (by decide) ?_) | ((with_reducible show wpAny _ _ (List.mapM.loop mkText (Scope.freeNames _) []) _ _ _); (first | (rw [Mine.free1 (x := Str.ofString "mycmp") ?hfr]; (case hfr => (kernel_rfl!; done))) | (rw [Mine.free0 ?hfr]; (case hfr => (kernel_rfl!; done))))) | with_reducible refine Mine.bqIn ?_ | with_reducible refine Mine.bqGo ?_ | with_reducible refine PySem.wpAny_pure ?_ | with_reducible refine PySem.wpAny_rule ?_ | with_reducible refine PySem.wpAny_holding ?_ | with_reducible refine PySem.wpAny_standAt ?_ | with_reducible refine PySem.wpAny_point ?_ | with_reducible refine PySem.wpAny_fresh' ?_ | with_reducible refine Mine.wpTry ?_ | with_reducible refine PySem.wpAny_askSetting ?_ | ((with_reducible show wpAny _ _ (alloc _) _ _ _); (refine Mine.hAlloc rfl ?_); intro _ _ _) | ((with_reducible show wpAny _ _ (ite _ _ _) _ _ _); (first | (refine PySem.wpAny_ite_false ?hc ?_; (case hc => (kernel_rfl!; done))) | (refine PySem.wpAny_ite_true ?hc ?_; (case hc => (kernel_rfl!; done))) | (refine PySem.wpAny_ite_false ?hc ?_; (case hc => (simp [*]; done))) | (refine PySem.wpAny_ite_true ?hc ?_; (case hc => (simp [*]; done))))) | ((with_reducible show wpAny _ _ (load _) _ _ _); (first | (refine' Mine.hLd ?hm ?_; (case hm => (first | (repeat (first | exact List.Mem.head _ | apply List.Mem.tail))))) | (refine Mine.hOl (by with_reducible assumption) ?_) | ((with_reducible rename Frag.In _ _ => XF); (refine Mine.hOl (XF _ _ rfl) ?_)))) | ((with_reducible show wpAny _ _ (loadPart _ _) _ _ _); (first | (refine' Mine.hLdP ?hm ?_; (case hm => (first | (repeat (first | exact List.Mem.head _ | apply List.Mem.tail))))) | (refine Mine.hOlP (by with_reducible assumption) ?_) | ((with_reducible rename Frag.In _ _ => XF); (refine Mine.hOlP (XF _ _ rfl) ?_)))) | ((with_reducible show wpAny _ _ (update _ _) _ _ _); (first | (refine' Mine.hUpd ?hu ?hf ?_; (case hu => (repeat (first | exact Mine.Up.head | apply Mine.Up.tail))); (case hf => rfl)) | (refine' Mine.hUpdP ?hu ?hf ?_; (case hu => (repeat (first | exact Mine.Up.head | apply Mine.Up.tail))); (case hf => rfl)))) | ((with_reducible show wpAny _ _ (updatePart _ _ _) _ _ _); (first | (refine' Mine.hUpd ?hu ?hf ?_; (case hu => (repeat (first | exact Mine.Up.head | apply Mine.Up.tail))); (case hf => rfl)) | (refine' Mine.hUpdP ?hu ?hf ?_; (case hu => (repeat (first | exact Mine.Up.head | apply Mine.Up.tail))); (case hf => rfl)))) | ((with_reducible show wpAny _ _ (isSubtype (.type _) _) _ _ _); refine wpAny_of_eq (a := true) ?hc ?_; (case hc => (rw [isSubtype_type]; kernel_rfl!))) | ((with_reducible show wpAny _ _ (PySem.Builtin.notOverATurnedClass _) _ _ _); refine wpAny_of_eq (a := ()) ?hc ?_; (case hc => kernel_rfl!)) | ((first | (with_reducible show wpAny _ _ (PySem.Builtin.extendedBase _) _ _ _) | (with_reducible show wpAny _ _ (PySem.Builtin.Slots.bestBase _) _ _ _)); refine wpAny_of_eq (a := .type "object") ?hc ?_; (case hc => kernel_rfl!)) | ((first | (with_reducible show wpAny _ _ (PySem.Builtin.Slots.givesDict _) _ _ _) | (with_reducible show wpAny _ _ (PySem.Builtin.Slots.givesWeak _) _ _ _) | (with_reducible show wpAny _ _ (PySem.Builtin.Slots.varSize _) _ _ _)); refine wpAny_of_eq (a := false) ?hc ?_; (case hc => kernel_rfl!)) | ((with_reducible show wpAny _ _ (typeLookup (.ref _) _) _ _ _); unfold typeLookup) | ((with_reducible show wpAny _ _ (classOwn (.type _) _) _ _ _); (first | (refine wpAny_of_eq (a := some (.builtin "object.__new__")) ?hc ?_; (case hc => kernel_rfl!)) | (refine wpAny_of_eq (a := none) ?hc ?_; (case hc => kernel_rfl!)))) | ((with_reducible show wpAny _ _ (typeLookup (.type _) _) _ _ _); (refine wpAny_of_eq (a := none) ?hc ?_; (case hc => (rw [typeLookup_type, builtinLookup_eq_fast]; kernel_rfl!)))) | ((with_reducible show wpAny _ _ (PySem.Builtin.mroHook? _) _ _ _); refine wpAny_of_eq (a := none) ?hc ?_; (case hc => kernel_rfl!)) | ((with_reducible show wpAny _ _ (PySem.Builtin.linearize _ _) _ _ _); refine wpAny_of_eq (a := [.type "object"]) ?hc ?_; (case hc => kernel_rfl!)) | ((with_reducible show wpAny _ _ (Bind.madeBy (.type _)) _ _ _); (first | (refine wpAny_of_eq (a := some "type.__new__") ?hc ?_; (case hc => kernel_rfl!)) | (refine wpAny_of_eq (a := some "object.__new__") ?hc ?_; (case hc => kernel_rfl!)))) | ((fail_if_success (with_reducible show wpAny _ _ (List.anyM _ _) _ _ _)); (fail_if_success (with_reducible show wpAny _ _ (call _ _ _) _ _ _)); (fail_if_success (with_reducible show wpAny _ _ (collect _) _ _ _)); (fail_if_success (with_reducible show wpAny _ _ (PySem.Builtin.Slots.read _ _ _) _ _ _)); (first | wp_delta | wp_step))))
  rename Frag.In _ _ => XF
  rename Mm _ _ _ => D3
  refine def4 XF hcc hm4 D3 (fun hb4 h4 f4 c4 ct4 o4 t4 tk4 k4 n4 a4 b4 i4 D4 => ?_)
  replace XF := XF.keeps k4
  replace hcc := hcc_keep k4 hcc
  replace hm4 := hcc_keep k4 hm4
  replace D4 : Mm hb4 h4 [(tb, tabObj _), (nsA, dicO #[en (upN hs3 7 (hashOf w "__eq__") 0) "__module__" (upN ts3 7 t4 0) (.str "cpy313.functools" tk), en (upN hs3 7 (hashOf w "__eq__") 1) "__qualname__" (upN ts3 7 t4 1) (.str "cmp_to_key.<locals>.K" m1), en (upN hs3 7 (hashOf w "__eq__") 2) "__firstlineno__" (upN ts3 7 t4 2) (.int 59 m2), en (upN hs3 7 (hashOf w "__eq__") 3) "__slots__" (upN ts3 7 t4 3) (.ref sl), en (upN hs3 7 (hashOf w "__eq__") 4) "__init__" (upN ts3 7 t4 4) (.ref f1), en (upN hs3 7 (hashOf w "__eq__") 5) "__lt__" (upN ts3 7 t4 5) (.ref f2), en (upN hs3 7 (hashOf w "__eq__") 6) "__gt__" (upN ts3 7 t4 6) (.ref f3), en (upN hs3 7 (hashOf w "__eq__") 7) "__eq__" (upN ts3 7 t4 7) (.ref f4)] _)] := D4
  generalize upN hs3 7 _ = hs4 at D4
  generalize upN ts3 7 _ = ts4 at D4
  clear D3
  repeat ((fail_if_success (first | (with_reducible show wpAny _ _ (getAttr? _ _) _ _ _) | (with_reducible show wpAny _ _ (call _ _ _) _ _ _) | (with_reducible show wpAny _ _ (run _ _) _ _ _) | (with_reducible show wpAny _ _ (PySem.exec (Stmt.FunctionDef _ _ _ _ _ _ _ _ _ _) _) _ _ _))); (first | with_reducible refine wpAny_onRaise ?_ | ((with_reducible show wpAny _ _ enterFrame _ _ _); (with_reducible rename Heap.NoLimit _ => hl); refine Mine.hEnter hl (by decide) ?_) | ((with_reducible show wpAny _ _ (List.mapM.loop mkText (Scope.freeNames _) []) _ _ _); (first | (rw [Mine.free1 (x := Str.ofString "mycmp") ?hfr]; (case hfr => (kernel_rfl!; done))) | (rw [Mine.free0 ?hfr]; (case hfr => (kernel_rfl!; done))))) | with_reducible refine Mine.bqIn ?_ | with_reducible refine Mine.bqGo ?_ | with_reducible refine PySem.wpAny_pure ?_ | with_reducible refine PySem.wpAny_rule ?_ | with_reducible refine PySem.wpAny_holding ?_ | with_reducible refine PySem.wpAny_standAt ?_ | with_reducible refine PySem.wpAny_point ?_ | with_reducible refine PySem.wpAny_fresh' ?_ | with_reducible refine Mine.wpTry ?_ | with_reducible refine PySem.wpAny_askSetting ?_ | ((with_reducible show wpAny _ _ (alloc _) _ _ _); (refine Mine.hAlloc rfl ?_); intro _ _ _) | ((with_reducible show wpAny _ _ (ite _ _ _) _ _ _); (first | (refine PySem.wpAny_ite_false ?hc ?_; (case hc => (kernel_rfl!; done))) | (refine PySem.wpAny_ite_true ?hc ?_; (case hc => (kernel_rfl!; done))) | (refine PySem.wpAny_ite_false ?hc ?_; (case hc => (simp [*]; done))) | (refine PySem.wpAny_ite_true ?hc ?_; (case hc => (simp [*]; done))))) | ((with_reducible show wpAny _ _ (load _) _ _ _); (first | (refine' Mine.hLd ?hm ?_; (case hm => (first | (repeat (first | exact List.Mem.head _ | apply List.Mem.tail))))) | (refine Mine.hOl (by with_reducible assumption) ?_) | ((with_reducible rename Frag.In _ _ => XF); (refine Mine.hOl (XF _ _ rfl) ?_)))) | ((with_reducible show wpAny _ _ (loadPart _ _) _ _ _); (first | (refine' Mine.hLdP ?hm ?_; (case hm => (first | (repeat (first | exact List.Mem.head _ | apply List.Mem.tail))))) | (refine Mine.hOlP (by with_reducible assumption) ?_) | ((with_reducible rename Frag.In _ _ => XF); (refine Mine.hOlP (XF _ _ rfl) ?_)))) | ((with_reducible show wpAny _ _ (update _ _) _ _ _); (first | (refine' Mine.hUpd ?hu ?hf ?_; (case hu => (repeat (first | exact Mine.Up.head | apply Mine.Up.tail))); (case hf => rfl)) | (refine' Mine.hUpdP ?hu ?hf ?_; (case hu => (repeat (first | exact Mine.Up.head | apply Mine.Up.tail))); (case hf => rfl)))) | ((with_reducible show wpAny _ _ (updatePart _ _ _) _ _ _); (first | (refine' Mine.hUpd ?hu ?hf ?_; (case hu => (repeat (first | exact Mine.Up.head | apply Mine.Up.tail))); (case hf => rfl)) | (refine' Mine.hUpdP ?hu ?hf ?_; (case hu => (repeat (first | exact Mine.Up.head | apply Mine.Up.tail))); (case hf => rfl)))) | ((with_reducible show wpAny _ _ (isSubtype (.type _) _) _ _ _); refine wpAny_of_eq (a := true) ?hc ?_; (case hc => (rw [isSubtype_type]; kernel_rfl!))) | ((with_reducible show wpAny _ _ (PySem.Builtin.notOverATurnedClass _) _ _ _); refine wpAny_of_eq (a := ()) ?hc ?_; (case hc => kernel_rfl!)) | ((first | (with_reducible show wpAny _ _ (PySem.Builtin.extendedBase _) _ _ _) | (with_reducible show wpAny _ _ (PySem.Builtin.Slots.bestBase _) _ _ _)); refine wpAny_of_eq (a := .type "object") ?hc ?_; (case hc => kernel_rfl!)) | ((first | (with_reducible show wpAny _ _ (PySem.Builtin.Slots.givesDict _) _ _ _) | (with_reducible show wpAny _ _ (PySem.Builtin.Slots.givesWeak _) _ _ _) | (with_reducible show wpAny _ _ (PySem.Builtin.Slots.varSize _) _ _ _)); refine wpAny_of_eq (a := false) ?hc ?_; (case hc => kernel_rfl!)) | ((with_reducible show wpAny _ _ (typeLookup (.ref _) _) _ _ _); unfold typeLookup) | ((with_reducible show wpAny _ _ (classOwn (.type _) _) _ _ _); (first | (refine wpAny_of_eq (a := some (.builtin "object.__new__")) ?hc ?_; (case hc => kernel_rfl!)) | (refine wpAny_of_eq (a := none) ?hc ?_; (case hc => kernel_rfl!)))) | ((with_reducible show wpAny _ _ (typeLookup (.type _) _) _ _ _); (refine wpAny_of_eq (a := none) ?hc ?_; (case hc => (rw [typeLookup_type, builtinLookup_eq_fast]; kernel_rfl!)))) | ((with_reducible show wpAny _ _ (PySem.Builtin.mroHook? _) _ _ _); refine wpAny_of_eq (a := none) ?hc ?_; (case hc => kernel_rfl!)) | ((with_reducible show wpAny _ _ (PySem.Builtin.linearize _ _) _ _ _); refine wpAny_of_eq (a := [.type "object"]) ?hc ?_; (case hc => kernel_rfl!)) | ((with_reducible show wpAny _ _ (Bind.madeBy (.type _)) _ _ _); (first | (refine wpAny_of_eq (a := some "type.__new__") ?hc ?_; (case hc => kernel_rfl!)) | (refine wpAny_of_eq (a := some "object.__new__") ?hc ?_; (case hc => kernel_rfl!)))) | ((fail_if_success (with_reducible show wpAny _ _ (List.anyM _ _) _ _ _)); (fail_if_success (with_reducible show wpAny _ _ (call _ _ _) _ _ _)); (fail_if_success (with_reducible show wpAny _ _ (collect _) _ _ _)); (fail_if_success (with_reducible show wpAny _ _ (PySem.Builtin.Slots.read _ _ _) _ _ _)); (first | wp_delta | wp_step))))
  rename Frag.In _ _ => XF
  rename Mm _ _ _ => D4
  refine def5 XF hcc hm4 D4 (fun hb5 h5 f5 c5 ct5 o5 t5 tk5 k5 n5 a5 b5 i5 D5 => ?_)
  replace XF := XF.keeps k5
  replace hcc := hcc_keep k5 hcc
  replace hm4 := hcc_keep k5 hm4
  replace D5 : Mm hb5 h5 [(tb, tabObj _), (nsA, dicO #[en (upN hs4 8 (hashOf w "__le__") 0) "__module__" (upN ts4 8 t5 0) (.str "cpy313.functools" tk), en (upN hs4 8 (hashOf w "__le__") 1) "__qualname__" (upN ts4 8 t5 1) (.str "cmp_to_key.<locals>.K" m1), en (upN hs4 8 (hashOf w "__le__") 2) "__firstlineno__" (upN ts4 8 t5 2) (.int 59 m2), en (upN hs4 8 (hashOf w "__le__") 3) "__slots__" (upN ts4 8 t5 3) (.ref sl), en (upN hs4 8 (hashOf w "__le__") 4) "__init__" (upN ts4 8 t5 4) (.ref f1), en (upN hs4 8 (hashOf w "__le__") 5) "__lt__" (upN ts4 8 t5 5) (.ref f2), en (upN hs4 8 (hashOf w "__le__") 6) "__gt__" (upN ts4 8 t5 6) (.ref f3), en (upN hs4 8 (hashOf w "__le__") 7) "__eq__" (upN ts4 8 t5 7) (.ref f4), en (upN hs4 8 (hashOf w "__le__") 8) "__le__" (upN ts4 8 t5 8) (.ref f5)] _)] := D5
  generalize upN hs4 8 _ = hs5 at D5
  generalize upN ts4 8 _ = ts5 at D5
  clear D4
  repeat ((fail_if_success (first | (with_reducible show wpAny _ _ (getAttr? _ _) _ _ _) | (with_reducible show wpAny _ _ (call _ _ _) _ _ _) | (with_reducible show wpAny _ _ (run _ _) _ _ _) | (with_reducible show wpAny _ _ (PySem.exec (Stmt.FunctionDef _ _ _ _ _ _ _ _ _ _) _) _ _ _))); (first | with_reducible refine wpAny_onRaise ?_ | ((with_reducible show wpAny _ _ enterFrame _ _ _); (with_reducible rename Heap.NoLimit _ => hl); refine Mine.hEnter hl (by decide) ?_) | ((with_reducible show wpAny _ _ (List.mapM.loop mkText (Scope.freeNames _) []) _ _ _); (first | (rw [Mine.free1 (x := Str.ofString "mycmp") ?hfr]; (case hfr => (kernel_rfl!; done))) | (rw [Mine.free0 ?hfr]; (case hfr => (kernel_rfl!; done))))) | with_reducible refine Mine.bqIn ?_ | with_reducible refine Mine.bqGo ?_ | with_reducible refine PySem.wpAny_pure ?_ | with_reducible refine PySem.wpAny_rule ?_ | with_reducible refine PySem.wpAny_holding ?_ | with_reducible refine PySem.wpAny_standAt ?_ | with_reducible refine PySem.wpAny_point ?_ | with_reducible refine PySem.wpAny_fresh' ?_ | with_reducible refine Mine.wpTry ?_ | with_reducible refine PySem.wpAny_askSetting ?_ | ((with_reducible show wpAny _ _ (alloc _) _ _ _); (refine Mine.hAlloc rfl ?_); intro _ _ _) | ((with_reducible show wpAny _ _ (ite _ _ _) _ _ _); (first | (refine PySem.wpAny_ite_false ?hc ?_; (case hc => (kernel_rfl!; done))) | (refine PySem.wpAny_ite_true ?hc ?_; (case hc => (kernel_rfl!; done))) | (refine PySem.wpAny_ite_false ?hc ?_; (case hc => (simp [*]; done))) | (refine PySem.wpAny_ite_true ?hc ?_; (case hc => (simp [*]; done))))) | ((with_reducible show wpAny _ _ (load _) _ _ _); (first | (refine' Mine.hLd ?hm ?_; (case hm => (first | (repeat (first | exact List.Mem.head _ | apply List.Mem.tail))))) | (refine Mine.hOl (by with_reducible assumption) ?_) | ((with_reducible rename Frag.In _ _ => XF); (refine Mine.hOl (XF _ _ rfl) ?_)))) | ((with_reducible show wpAny _ _ (loadPart _ _) _ _ _); (first | (refine' Mine.hLdP ?hm ?_; (case hm => (first | (repeat (first | exact List.Mem.head _ | apply List.Mem.tail))))) | (refine Mine.hOlP (by with_reducible assumption) ?_) | ((with_reducible rename Frag.In _ _ => XF); (refine Mine.hOlP (XF _ _ rfl) ?_)))) | ((with_reducible show wpAny _ _ (update _ _) _ _ _); (first | (refine' Mine.hUpd ?hu ?hf ?_; (case hu => (repeat (first | exact Mine.Up.head | apply Mine.Up.tail))); (case hf => rfl)) | (refine' Mine.hUpdP ?hu ?hf ?_; (case hu => (repeat (first | exact Mine.Up.head | apply Mine.Up.tail))); (case hf => rfl)))) | ((with_reducible show wpAny _ _ (updatePart _ _ _) _ _ _); (first | (refine' Mine.hUpd ?hu ?hf ?_; (case hu => (repeat (first | exact Mine.Up.head | apply Mine.Up.tail))); (case hf => rfl)) | (refine' Mine.hUpdP ?hu ?hf ?_; (case hu => (repeat (first | exact Mine.Up.head | apply Mine.Up.tail))); (case hf => rfl)))) | ((with_reducible show wpAny _ _ (isSubtype (.type _) _) _ _ _); refine wpAny_of_eq (a := true) ?hc ?_; (case hc => (rw [isSubtype_type]; kernel_rfl!))) | ((with_reducible show wpAny _ _ (PySem.Builtin.notOverATurnedClass _) _ _ _); refine wpAny_of_eq (a := ()) ?hc ?_; (case hc => kernel_rfl!)) | ((first | (with_reducible show wpAny _ _ (PySem.Builtin.extendedBase _) _ _ _) | (with_reducible show wpAny _ _ (PySem.Builtin.Slots.bestBase _) _ _ _)); refine wpAny_of_eq (a := .type "object") ?hc ?_; (case hc => kernel_rfl!)) | ((first | (with_reducible show wpAny _ _ (PySem.Builtin.Slots.givesDict _) _ _ _) | (with_reducible show wpAny _ _ (PySem.Builtin.Slots.givesWeak _) _ _ _) | (with_reducible show wpAny _ _ (PySem.Builtin.Slots.varSize _) _ _ _)); refine wpAny_of_eq (a := false) ?hc ?_; (case hc => kernel_rfl!)) | ((with_reducible show wpAny _ _ (typeLookup (.ref _) _) _ _ _); unfold typeLookup) | ((with_reducible show wpAny _ _ (classOwn (.type _) _) _ _ _); (first | (refine wpAny_of_eq (a := some (.builtin "object.__new__")) ?hc ?_; (case hc => kernel_rfl!)) | (refine wpAny_of_eq (a := none) ?hc ?_; (case hc => kernel_rfl!)))) | ((with_reducible show wpAny _ _ (typeLookup (.type _) _) _ _ _); (refine wpAny_of_eq (a := none) ?hc ?_; (case hc => (rw [typeLookup_type, builtinLookup_eq_fast]; kernel_rfl!)))) | ((with_reducible show wpAny _ _ (PySem.Builtin.mroHook? _) _ _ _); refine wpAny_of_eq (a := none) ?hc ?_; (case hc => kernel_rfl!)) | ((with_reducible show wpAny _ _ (PySem.Builtin.linearize _ _) _ _ _); refine wpAny_of_eq (a := [.type "object"]) ?hc ?_; (case hc => kernel_rfl!)) | ((with_reducible show wpAny _ _ (Bind.madeBy (.type _)) _ _ _); (first | (refine wpAny_of_eq (a := some "type.__new__") ?hc ?_; (case hc => kernel_rfl!)) | (refine wpAny_of_eq (a := some "object.__new__") ?hc ?_; (case hc => kernel_rfl!)))) | ((fail_if_success (with_reducible show wpAny _ _ (List.anyM _ _) _ _ _)); (fail_if_success (with_reducible show wpAny _ _ (call _ _ _) _ _ _)); (fail_if_success (with_reducible show wpAny _ _ (collect _) _ _ _)); (fail_if_success (with_reducible show wpAny _ _ (PySem.Builtin.Slots.read _ _ _) _ _ _)); (first | wp_delta | wp_step))))
  rename Frag.In _ _ => XF
  rename Mm _ _ _ => D5
  refine def6 XF hcc hm4 D5 (fun hb6 h6 f6 c6 ct6 o6 t6 tk6 k6 n6 a6 b6 i6 D6 => ?_)
  replace XF := XF.keeps k6
  replace hcc := hcc_keep k6 hcc
  replace hm4 := hcc_keep k6 hm4
  replace D6 : Mm hb6 h6 [(tb, tabObj _), (nsA, dicO #[en (upN hs5 9 (hashOf w "__ge__") 0) "__module__" (upN ts5 9 t6 0) (.str "cpy313.functools" tk), en (upN hs5 9 (hashOf w "__ge__") 1) "__qualname__" (upN ts5 9 t6 1) (.str "cmp_to_key.<locals>.K" m1), en (upN hs5 9 (hashOf w "__ge__") 2) "__firstlineno__" (upN ts5 9 t6 2) (.int 59 m2), en (upN hs5 9 (hashOf w "__ge__") 3) "__slots__" (upN ts5 9 t6 3) (.ref sl), en (upN hs5 9 (hashOf w "__ge__") 4) "__init__" (upN ts5 9 t6 4) (.ref f1), en (upN hs5 9 (hashOf w "__ge__") 5) "__lt__" (upN ts5 9 t6 5) (.ref f2), en (upN hs5 9 (hashOf w "__ge__") 6) "__gt__" (upN ts5 9 t6 6) (.ref f3), en (upN hs5 9 (hashOf w "__ge__") 7) "__eq__" (upN ts5 9 t6 7) (.ref f4), en (upN hs5 9 (hashOf w "__ge__") 8) "__le__" (upN ts5 9 t6 8) (.ref f5), en (upN hs5 9 (hashOf w "__ge__") 9) "__ge__" (upN ts5 9 t6 9) (.ref f6)] _)] := D6
  generalize upN hs5 9 _ = hs6 at D6
  generalize upN ts5 9 _ = ts6 at D6
  clear D5
  refine hIn' D6 ?_
  repeat ((fail_if_success (first | (with_reducible show wpAny _ _ (getAttr? _ _) _ _ _) | (with_reducible show wpAny _ _ (call _ _ _) _ _ _) | (with_reducible show wpAny _ _ (run _ _) _ _ _) | (with_reducible show wpAny _ _ (PySem.exec (Stmt.FunctionDef _ _ _ _ _ _ _ _ _ _) _) _ _ _))); (first | with_reducible refine wpAny_onRaise ?_ | ((with_reducible show wpAny _ _ enterFrame _ _ _); (with_reducible rename Heap.NoLimit _ => hl); refine Mine.hEnter hl (by decide) ?_) | ((with_reducible show wpAny _ _ (List.mapM.loop mkText (Scope.freeNames _) []) _ _ _); (first | (rw [Mine.free1 (x := Str.ofString "mycmp") ?hfr]; (case hfr => (kernel_rfl!; done))) | (rw [Mine.free0 ?hfr]; (case hfr => (kernel_rfl!; done))))) | with_reducible refine Mine.bqIn ?_ | with_reducible refine Mine.bqGo ?_ | with_reducible refine PySem.wpAny_pure ?_ | with_reducible refine PySem.wpAny_rule ?_ | with_reducible refine PySem.wpAny_holding ?_ | with_reducible refine PySem.wpAny_standAt ?_ | with_reducible refine PySem.wpAny_point ?_ | with_reducible refine PySem.wpAny_fresh' ?_ | with_reducible refine Mine.wpTry ?_ | with_reducible refine PySem.wpAny_askSetting ?_ | ((with_reducible show wpAny _ _ (alloc _) _ _ _); (refine Mine.hAlloc rfl ?_); intro _ _ _) | ((with_reducible show wpAny _ _ (ite _ _ _) _ _ _); (first | (refine PySem.wpAny_ite_false ?hc ?_; (case hc => (kernel_rfl!; done))) | (refine PySem.wpAny_ite_true ?hc ?_; (case hc => (kernel_rfl!; done))) | (refine PySem.wpAny_ite_false ?hc ?_; (case hc => (simp [*]; done))) | (refine PySem.wpAny_ite_true ?hc ?_; (case hc => (simp [*]; done))))) | ((with_reducible show wpAny _ _ (load _) _ _ _); (first | (refine' Mine.hLd ?hm ?_; (case hm => (first | (repeat (first | exact List.Mem.head _ | apply List.Mem.tail))))) | (refine Mine.hOl (by with_reducible assumption) ?_) | ((with_reducible rename Frag.In _ _ => XF); (refine Mine.hOl (XF _ _ rfl) ?_)))) | ((with_reducible show wpAny _ _ (loadPart _ _) _ _ _); (first | (refine' Mine.hLdP ?hm ?_; (case hm => (first | (repeat (first | exact List.Mem.head _ | apply List.Mem.tail))))) | (refine Mine.hOlP (by with_reducible assumption) ?_) | ((with_reducible rename Frag.In _ _ => XF); (refine Mine.hOlP (XF _ _ rfl) ?_)))) | ((with_reducible show wpAny _ _ (update _ _) _ _ _); (first | (refine' Mine.hUpd ?hu ?hf ?_; (case hu => (repeat (first | exact Mine.Up.head | apply Mine.Up.tail))); (case hf => rfl)) | (refine' Mine.hUpdP ?hu ?hf ?_; (case hu => (repeat (first | exact Mine.Up.head | apply Mine.Up.tail))); (case hf => rfl)))) | ((with_reducible show wpAny _ _ (updatePart _ _ _) _ _ _); (first | (refine' Mine.hUpd ?hu ?hf ?_; (case hu => (repeat (first | exact Mine.Up.head | apply Mine.Up.tail))); (case hf => rfl)) | (refine' Mine.hUpdP ?hu ?hf ?_; (case hu => (repeat (first | exact Mine.Up.head | apply Mine.Up.tail))); (case hf => rfl)))) | ((with_reducible show wpAny _ _ (isSubtype (.type _) _) _ _ _); refine wpAny_of_eq (a := true) ?hc ?_; (case hc => (rw [isSubtype_type]; kernel_rfl!))) | ((with_reducible show wpAny _ _ (PySem.Builtin.notOverATurnedClass _) _ _ _); refine wpAny_of_eq (a := ()) ?hc ?_; (case hc => kernel_rfl!)) | ((first | (with_reducible show wpAny _ _ (PySem.Builtin.extendedBase _) _ _ _) | (with_reducible show wpAny _ _ (PySem.Builtin.Slots.bestBase _) _ _ _)); refine wpAny_of_eq (a := .type "object") ?hc ?_; (case hc => kernel_rfl!)) | ((first | (with_reducible show wpAny _ _ (PySem.Builtin.Slots.givesDict _) _ _ _) | (with_reducible show wpAny _ _ (PySem.Builtin.Slots.givesWeak _) _ _ _) | (with_reducible show wpAny _ _ (PySem.Builtin.Slots.varSize _) _ _ _)); refine wpAny_of_eq (a := false) ?hc ?_; (case hc => kernel_rfl!)) | ((with_reducible show wpAny _ _ (typeLookup (.ref _) _) _ _ _); unfold typeLookup) | ((with_reducible show wpAny _ _ (classOwn (.type _) _) _ _ _); (first | (refine wpAny_of_eq (a := some (.builtin "object.__new__")) ?hc ?_; (case hc => kernel_rfl!)) | (refine wpAny_of_eq (a := none) ?hc ?_; (case hc => kernel_rfl!)))) | ((with_reducible show wpAny _ _ (typeLookup (.type _) _) _ _ _); (refine wpAny_of_eq (a := none) ?hc ?_; (case hc => (rw [typeLookup_type, builtinLookup_eq_fast]; kernel_rfl!)))) | ((with_reducible show wpAny _ _ (PySem.Builtin.mroHook? _) _ _ _); refine wpAny_of_eq (a := none) ?hc ?_; (case hc => kernel_rfl!)) | ((with_reducible show wpAny _ _ (PySem.Builtin.linearize _ _) _ _ _); refine wpAny_of_eq (a := [.type "object"]) ?hc ?_; (case hc => kernel_rfl!)) | ((with_reducible show wpAny _ _ (Bind.madeBy (.type _)) _ _ _); (first | (refine wpAny_of_eq (a := some "type.__new__") ?hc ?_; (case hc => kernel_rfl!)) | (refine wpAny_of_eq (a := some "object.__new__") ?hc ?_; (case hc => kernel_rfl!)))) | ((fail_if_success (with_reducible show wpAny _ _ (List.anyM _ _) _ _ _)); (fail_if_success (with_reducible show wpAny _ _ (call _ _ _) _ _ _)); (fail_if_success (with_reducible show wpAny _ _ (collect _) _ _ _)); (fail_if_success (with_reducible show wpAny _ _ (PySem.Builtin.Slots.read _ _ _) _ _ _)); (first | wp_delta | wp_step))))
  refine hEnd fun h7 D6 => ?_
  rename Frag.In _ _ => XF
  have D7 := mm_eq D6 (N' := dicO #[en (upN hs6 10 (hashOf w "__hash__") 0) "__module__" (upN ts6 10 tk6 0) (.str "cpy313.functools" tk), en (upN hs6 10 (hashOf w "__hash__") 1) "__qualname__" (upN ts6 10 tk6 1) (.str "cmp_to_key.<locals>.K" m1), en (upN hs6 10 (hashOf w "__hash__") 2) "__firstlineno__" (upN ts6 10 tk6 2) (.int 59 m2), en (upN hs6 10 (hashOf w "__hash__") 3) "__slots__" (upN ts6 10 tk6 3) (.ref sl), en (upN hs6 10 (hashOf w "__hash__") 4) "__init__" (upN ts6 10 tk6 4) (.ref f1), en (upN hs6 10 (hashOf w "__hash__") 5) "__lt__" (upN ts6 10 tk6 5) (.ref f2), en (upN hs6 10 (hashOf w "__hash__") 6) "__gt__" (upN ts6 10 tk6 6) (.ref f3), en (upN hs6 10 (hashOf w "__hash__") 7) "__eq__" (upN ts6 10 tk6 7) (.ref f4), en (upN hs6 10 (hashOf w "__hash__") 8) "__le__" (upN ts6 10 tk6 8) (.ref f5), en (upN hs6 10 (hashOf w "__hash__") 9) "__ge__" (upN ts6 10 tk6 9) (.ref f6), en (upN hs6 10 (hashOf w "__hash__") 10) "__hash__" (upN ts6 10 tk6 10) .none] (nd + 8)) (by kernel_rfl)
  exact hq hb6 _ sl f1 f2 f3 f4 f5 f6 _ _ _ _ _ ⟨fun b o e => (k6 _ _ (k5 _ _ (k4 _ _ (k3 _ _ (k2 _ _ (k1 _ _ (k0 _ _ e))))))), (k6 _ _ (k5 _ _ (k4 _ _ (k3 _ _ (k2 _ _ (k1 _ _ hsl)))))),
    ⟨c1, ct1, o1, (k6 _ _ (k5 _ _ (k4 _ _ (k3 _ _ (k2 _ _ a1))))), (k6 _ _ (k5 _ _ (k4 _ _ (k3 _ _ (k2 _ _ b1))))), i1⟩, ⟨c2, ct2, o2, (k6 _ _ (k5 _ _ (k4 _ _ (k3 _ _ a2)))), (k6 _ _ (k5 _ _ (k4 _ _ (k3 _ _ b2)))), i2⟩, ⟨c3, ct3, o3, (k6 _ _ (k5 _ _ (k4 _ _ a3))), (k6 _ _ (k5 _ _ (k4 _ _ b3))), i3⟩,
    ⟨c4, ct4, o4, (k6 _ _ (k5 _ _ a4)), (k6 _ _ (k5 _ _ b4)), i4⟩, ⟨c5, ct5, o5, (k6 _ _ a5), (k6 _ _ b5), i5⟩, ⟨c6, ct6, o6, a6, b6, i6⟩, ⟨_, _, D7⟩⟩
end Mine
end
section
open PySem PySem.W PySem.Calls PyProof.Rows PySem.W.X PySem.Builtin
set_option maxRecDepth 100000
set_option maxHeartbeats 1000000
namespace Mine
variable {w : World} {A : Around} {E : Value → Shared → Prop} {h : Heap} {g : Array GenState} {dr : Drawn} {tk : Nat} {os : OsState} {n : Nat} {loose : List Str} {mean : ExcName → Option Value} {mg mb : Str → Option Value}

/-- a wide surrounding, a little narrower -/
noncomputable abbrev AY : Around := { handled := none, depth := 700, frames := none, guards := none, units := 7000 }
theorem hNs {h₀ : Heap} {news : List (Addr × Obj)} {D : Mm h₀ h news} {a : Addr} {m : Str → Option Value} {name : Str} {v : Option Value} {Q : Option Value → Shared → Prop} (hB : h₀.Ns a m) (e : m name = v) (x : Q v ⟨hp D, g, dr, tk, os⟩) : wpAny (model PR w) A (nsGet a name) Q E ⟨hp D, g, dr, tk, os⟩ :=
  wpAny_nsGet (hB.keeps D.keep) (by rw [e]; exact x)
theorem hAY : Am AY 700 := ⟨rfl, Nat.le_refl _, Nat.le_refl _⟩
theorem toAY {α : Type} {M : Model} {A : Around} {n : Nat} {t : Sem α} {Q : α → Shared → Prop} {E : Value → Shared → Prop} {s : Shared} (hA : Am A n) (hn : n ≤ 700)
    (h : wpAny M AY t Q E s) : wpAny M A t Q E s := fun Γ p hΓ => h Γ p ⟨hΓ.1.trans hA.handled, Nat.le_trans hΓ.2.1 (Nat.le_trans hA.depth hn), (fun l e => nomatch e), (fun l e => nomatch e), Nat.le_trans hΓ.2.2.2.2 (Nat.le_trans hA.units (by show _ ≤ 7000; omega))⟩
theorem call_type_eq {x : Value} {args : List Value} {kw : List (Str × Value)} {Q : Value → Shared → Prop} {s : Shared} (hx : x = .type "type") (hk : kw = []) (hh : wpAny (model PR w) A (call (.type "type") args []) Q E s) : wpAny (model PR w) A (call x args kw) Q E s := by
  subst hx hk; exact hh
/-- the class that cmp_to_key makes -/
structure KeyAt (h : Heap) (K f1 f2 ds c : Addr) : Prop where
  cls : ∃ ns b t m1, h.get? K = some (clsO ns K b t m1) ∧ ∃ hs ts m0 m2 sl f3 f4 f5 f6 st nd, h.get? ns = some (dicO (nsF hs ts m0 m2 sl f1 f2 f3 f4 f5 f6 st ds) nd)
  mem : ∃ t, h.get? ds = some (memO K t)
  fn1 : ∃ cd ct o, h.get? f1 = some (funO (fnOf (clsBody.getD 2 (.Pass default)) "cmp_to_key.<locals>.K.__init__" [] (.ref cd) ct)) ∧ h.get? cd = some o ∧ IsCode o "cmp_to_key.<locals>.K.__init__"
  fn2 : ∃ cd ct o, h.get? f2 = some (funO (fnOf (clsBody.getD 3 (.Pass default)) "cmp_to_key.<locals>.K.__lt__" [("mycmp", c)] (.ref cd) ct)) ∧ h.get? cd = some o ∧ IsCode o "cmp_to_key.<locals>.K.__lt__"
  cell : ∃ oc, h.get? c = some oc ∧ oc.data = .cell (some (.ref 73))
noncomputable abbrev hid38 (h : Heap) : Heap := hideAll h [38]
theorem key_spec {g₀ : Heap} {Q : Value → Shared → Prop} (S₀ : Sys g₀) (X₀ : (K0 w.params).In g₀) (T₀ : Top topProg loose mean mg mb g₀) (n38 : g₀.get? 38 = none) (hk₀ : Kp g₀ h) (hA : Am A n) (hn : n < 700) (h38 : h.get? 38 = some (tabObj #[]))
    (hq : ∀ h' K f1 f2 ds c c' tk', Heap.ExtBut 38 h h' → h'.get? 38 = some (tabObj #[rawInt 59, rawInt 4, .ref c']) → KeyAt h' K f1 f2 ds c → Q (.ref K) ⟨h', g, dr, tk', os⟩) :
    wpAny (model PR w) A (call (.ref 43) [.ref 73]) Q E ⟨h, g, dr, tk, os⟩ := by
  have X := X₀.keeps hk₀
  have T := T₀.keeps hk₀
  refine wpAny_call (enter_cells (s := ⟨h, g, dr, tk, os⟩) (g := hid38 h) (binds := [("mycmp", .ref 73)]) (hA.room (by omega)) (X 43 _ rfl) rfl T.nolimit (codeRec_of X rfl) (BindsTo.of_eq rfl) rfl (by decide +kernel) (fun b o e => of_hideAll _ e) (Nat.le_of_eq (hideAll_size _ _)) fun h₁ tk cells F N0 Y hk₁ => ?_)
  k_cells Y
  (first | repeat' (first | ((fail_if_success (with_reducible show wpAny _ _ (exec (Stmt.ClassDef _ _ _ _ _ _ _ _ _ _ _) _) _ _ _)); (first | (first | (with_reducible show wpAny _ _ _ _ _ _) | (with_reducible show (if _ then _ else _)) | (with_reducible show Frag.In _ _ ∧ _) | (with_reducible show KdsFill _ _ _ _ _ _ _ _)) | (dsimp only; (first | (with_reducible show wpAny _ _ _ _ _ _) | (with_reducible show (if _ then _ else _)) | (with_reducible show Frag.In _ _ ∧ _) | (with_reducible show KdsFill _ _ _ _ _ _ _ _)))); (first | walk1 | (dsimp only; walk1)))))
  rename_i oc hoc
  dsimp only at F N0 hk₁ ⊢
  have kh : Kp g₀ (hideAll h₁ [38]) := fun b o e => hideAll_get _ (hk₁ _ _ (hk₀ _ _ e)) (by simp only [List.mem_singleton]; intro q; rw [q, n38] at e; cases e)
  have XF : (K0 w.params).In (hideAll h₁ [38]) := X₀.keeps kh
  have hlim : (hideAll h₁ [38]).NoLimit := T₀.nolimit.keeps kh
  obtain ⟨⟨sl4, hm4⟩, osys, hsys⟩ := S₀.keeps kh
  have hB := T₀.b.keeps kh
  have hb1 := (T₀.builtins "__build_class__" (by decide +kernel)).trans (show bootBuiltins "__build_class__" = some (.builtin "__build_class__") by kernel_rfl)
  have hb2 := (T₀.builtins "object" (by decide +kernel)).trans (show bootBuiltins "object" = some (.type "object") by kernel_rfl)
  have D0 : Mm (hideAll h₁ [38]) h₁ [(38, tabObj #[])] := Mm.hide (l := [(38, tabObj #[])]) (by intro p hp; obtain rfl := List.mem_singleton.mp hp; exact hk₁ _ _ h38) (by simp)
  have hcell : (hideAll h₁ [38]).get? (h.objs.size + 1) = some oc := hideAll_get _ (N0 _ (.head _)).1 (by simp only [List.mem_singleton]; exact Nat.ne_of_gt (Nat.lt_succ_of_lt (Heap.lt_size h38)))
  have h01 : ∀ b o, b ≠ 38 → h₁.get? b = some o → (hideAll h₁ [38]).get? b = some o := fun b o hb e => hideAll_get _ e (by simpa using hb)
  have L38 : h.objs.size ≠ 38 := Nat.ne_of_gt (Heap.lt_size h38)
  generalize hideAll h₁ [38] = h₀ at XF D0 hcell hlim h01 hm4 hsys hB
  clear X T h38 hk₁ kh
  refine toAY (hA.deeper _) (by omega) ?_
  rw [arm_exec_ClassDef]
  refine hIn' D0 ?_
  repeat ((fail_if_success (first | (with_reducible show wpAny _ _ (getAttr? _ _) _ _ _) | (with_reducible show wpAny _ _ (call _ _ _) _ _ _) | (with_reducible show wpAny _ _ (run _ _) _ _ _))); (first | ((with_reducible show wpAny _ _ (nsGet _ _) _ _ _); refine hNs (a := builtinsNs) (by assumption) (by assumption) ?_) | with_reducible refine wpAny_onRaise ?_ | ((with_reducible show wpAny _ _ enterFrame _ _ _); (with_reducible rename Heap.NoLimit _ => hl); refine Mine.hEnter hl (by decide) ?_) | ((with_reducible show wpAny _ _ (List.mapM.loop mkText (Scope.freeNames _) []) _ _ _); (first | (rw [Mine.free1 (x := Str.ofString "mycmp") ?hfr]; (case hfr => (kernel_rfl!; done))) | (rw [Mine.free0 ?hfr]; (case hfr => (kernel_rfl!; done))))) | with_reducible refine Mine.bqIn ?_ | with_reducible refine Mine.bqGo ?_ | with_reducible refine PySem.wpAny_pure ?_ | with_reducible refine PySem.wpAny_rule ?_ | with_reducible refine PySem.wpAny_holding ?_ | with_reducible refine PySem.wpAny_standAt ?_ | with_reducible refine PySem.wpAny_point ?_ | with_reducible refine PySem.wpAny_fresh' ?_ | with_reducible refine Mine.wpTry ?_ | with_reducible refine PySem.wpAny_askSetting ?_ | ((with_reducible show wpAny _ _ (alloc _) _ _ _); (refine Mine.hAlloc rfl ?_); intro _ _ _) | ((with_reducible show wpAny _ _ (ite _ _ _) _ _ _); (first | (refine PySem.wpAny_ite_false ?hc ?_; (case hc => (kernel_rfl!; done))) | (refine PySem.wpAny_ite_true ?hc ?_; (case hc => (kernel_rfl!; done))) | (refine PySem.wpAny_ite_false ?hc ?_; (case hc => (simp [*]; done))) | (refine PySem.wpAny_ite_true ?hc ?_; (case hc => (simp [*]; done))))) | ((with_reducible show wpAny _ _ (load _) _ _ _); (first | (refine' Mine.hLd ?hm ?_; (case hm => (first | (repeat (first | exact List.Mem.head _ | apply List.Mem.tail))))) | (refine Mine.hOl (by with_reducible assumption) ?_) | ((with_reducible rename Frag.In _ _ => XF); (refine Mine.hOl (XF _ _ rfl) ?_)))) | ((with_reducible show wpAny _ _ (loadPart _ _) _ _ _); (first | (refine' Mine.hLdP ?hm ?_; (case hm => (first | (repeat (first | exact List.Mem.head _ | apply List.Mem.tail))))) | (refine Mine.hOlP (by with_reducible assumption) ?_) | ((with_reducible rename Frag.In _ _ => XF); (refine Mine.hOlP (XF _ _ rfl) ?_)))) | ((with_reducible show wpAny _ _ (update _ _) _ _ _); (first | (refine' Mine.hUpd ?hu ?hf ?_; (case hu => (repeat (first | exact Mine.Up.head | apply Mine.Up.tail))); (case hf => rfl)) | (refine' Mine.hUpdP ?hu ?hf ?_; (case hu => (repeat (first | exact Mine.Up.head | apply Mine.Up.tail))); (case hf => rfl)))) | ((with_reducible show wpAny _ _ (updatePart _ _ _) _ _ _); (first | (refine' Mine.hUpd ?hu ?hf ?_; (case hu => (repeat (first | exact Mine.Up.head | apply Mine.Up.tail))); (case hf => rfl)) | (refine' Mine.hUpdP ?hu ?hf ?_; (case hu => (repeat (first | exact Mine.Up.head | apply Mine.Up.tail))); (case hf => rfl)))) | ((with_reducible show wpAny _ _ (isSubtype (.type _) _) _ _ _); refine wpAny_of_eq (a := true) ?hc ?_; (case hc => (rw [isSubtype_type]; kernel_rfl!))) | ((with_reducible show wpAny _ _ (PySem.Builtin.notOverATurnedClass _) _ _ _); refine wpAny_of_eq (a := ()) ?hc ?_; (case hc => kernel_rfl!)) | ((first | (with_reducible show wpAny _ _ (PySem.Builtin.extendedBase _) _ _ _) | (with_reducible show wpAny _ _ (PySem.Builtin.Slots.bestBase _) _ _ _)); refine wpAny_of_eq (a := .type "object") ?hc ?_; (case hc => kernel_rfl!)) | ((first | (with_reducible show wpAny _ _ (PySem.Builtin.Slots.givesDict _) _ _ _) | (with_reducible show wpAny _ _ (PySem.Builtin.Slots.givesWeak _) _ _ _) | (with_reducible show wpAny _ _ (PySem.Builtin.Slots.varSize _) _ _ _)); refine wpAny_of_eq (a := false) ?hc ?_; (case hc => kernel_rfl!)) | ((with_reducible show wpAny _ _ (typeLookup (.ref _) _) _ _ _); unfold typeLookup) | ((with_reducible show wpAny _ _ (classOwn (.type _) _) _ _ _); (first | (refine wpAny_of_eq (a := some (.builtin "object.__new__")) ?hc ?_; (case hc => kernel_rfl!)) | (refine wpAny_of_eq (a := none) ?hc ?_; (case hc => kernel_rfl!)))) | ((with_reducible show wpAny _ _ (typeLookup (.type _) _) _ _ _); (refine wpAny_of_eq (a := none) ?hc ?_; (case hc => (rw [typeLookup_type, builtinLookup_eq_fast]; kernel_rfl!)))) | ((with_reducible show wpAny _ _ (PySem.Builtin.mroHook? _) _ _ _); refine wpAny_of_eq (a := none) ?hc ?_; (case hc => kernel_rfl!)) | ((with_reducible show wpAny _ _ (PySem.Builtin.linearize _ _) _ _ _); refine wpAny_of_eq (a := [.type "object"]) ?hc ?_; (case hc => kernel_rfl!)) | ((with_reducible show wpAny _ _ (Bind.madeBy (.type _)) _ _ _); (first | (refine wpAny_of_eq (a := some "type.__new__") ?hc ?_; (case hc => kernel_rfl!)) | (refine wpAny_of_eq (a := some "object.__new__") ?hc ?_; (case hc => kernel_rfl!)))) | ((fail_if_success (with_reducible show wpAny _ _ (List.anyM _ _) _ _ _)); (fail_if_success (with_reducible show wpAny _ _ (call _ _ _) _ _ _)); (fail_if_success (with_reducible show wpAny _ _ (collect _) _ _ _)); (fail_if_success (with_reducible show wpAny _ _ (PySem.Builtin.Slots.read _ _ _) _ _ _)); (first | wp_delta | wp_step))))
  refine hOut fun hA₁ D₁ => ?_
  refine toAX hAY (by decide) (prep_attr fun h₂ pa D₂ => ?_)
  have D₃ := D₁.join' D₂
  clear D₁ D₂
  dsimp only [List.append_nil, List.cons_append, List.nil_append] at D₃
  refine hIn' D₃ ?_
  repeat ((fail_if_success (first | (with_reducible show wpAny _ _ (getAttr? _ _) _ _ _) | (with_reducible show wpAny _ _ (call _ _ _) _ _ _) | (with_reducible show wpAny _ _ (run _ _) _ _ _))); (first | ((with_reducible show wpAny _ _ (nsGet _ _) _ _ _); refine hNs (a := builtinsNs) (by assumption) (by assumption) ?_) | with_reducible refine wpAny_onRaise ?_ | ((with_reducible show wpAny _ _ enterFrame _ _ _); (with_reducible rename Heap.NoLimit _ => hl); refine Mine.hEnter hl (by decide) ?_) | ((with_reducible show wpAny _ _ (List.mapM.loop mkText (Scope.freeNames _) []) _ _ _); (first | (rw [Mine.free1 (x := Str.ofString "mycmp") ?hfr]; (case hfr => (kernel_rfl!; done))) | (rw [Mine.free0 ?hfr]; (case hfr => (kernel_rfl!; done))))) | with_reducible refine Mine.bqIn ?_ | with_reducible refine Mine.bqGo ?_ | with_reducible refine PySem.wpAny_pure ?_ | with_reducible refine PySem.wpAny_rule ?_ | with_reducible refine PySem.wpAny_holding ?_ | with_reducible refine PySem.wpAny_standAt ?_ | with_reducible refine PySem.wpAny_point ?_ | with_reducible refine PySem.wpAny_fresh' ?_ | with_reducible refine Mine.wpTry ?_ | with_reducible refine PySem.wpAny_askSetting ?_ | ((with_reducible show wpAny _ _ (alloc _) _ _ _); (refine Mine.hAlloc rfl ?_); intro _ _ _) | ((with_reducible show wpAny _ _ (ite _ _ _) _ _ _); (first | (refine PySem.wpAny_ite_false ?hc ?_; (case hc => (kernel_rfl!; done))) | (refine PySem.wpAny_ite_true ?hc ?_; (case hc => (kernel_rfl!; done))) | (refine PySem.wpAny_ite_false ?hc ?_; (case hc => (simp [*]; done))) | (refine PySem.wpAny_ite_true ?hc ?_; (case hc => (simp [*]; done))))) | ((with_reducible show wpAny _ _ (load _) _ _ _); (first | (refine' Mine.hLd ?hm ?_; (case hm => (first | (repeat (first | exact List.Mem.head _ | apply List.Mem.tail))))) | (refine Mine.hOl (by with_reducible assumption) ?_) | ((with_reducible rename Frag.In _ _ => XF); (refine Mine.hOl (XF _ _ rfl) ?_)))) | ((with_reducible show wpAny _ _ (loadPart _ _) _ _ _); (first | (refine' Mine.hLdP ?hm ?_; (case hm => (first | (repeat (first | exact List.Mem.head _ | apply List.Mem.tail))))) | (refine Mine.hOlP (by with_reducible assumption) ?_) | ((with_reducible rename Frag.In _ _ => XF); (refine Mine.hOlP (XF _ _ rfl) ?_)))) | ((with_reducible show wpAny _ _ (update _ _) _ _ _); (first | (refine' Mine.hUpd ?hu ?hf ?_; (case hu => (repeat (first | exact Mine.Up.head | apply Mine.Up.tail))); (case hf => rfl)) | (refine' Mine.hUpdP ?hu ?hf ?_; (case hu => (repeat (first | exact Mine.Up.head | apply Mine.Up.tail))); (case hf => rfl)))) | ((with_reducible show wpAny _ _ (updatePart _ _ _) _ _ _); (first | (refine' Mine.hUpd ?hu ?hf ?_; (case hu => (repeat (first | exact Mine.Up.head | apply Mine.Up.tail))); (case hf => rfl)) | (refine' Mine.hUpdP ?hu ?hf ?_; (case hu => (repeat (first | exact Mine.Up.head | apply Mine.Up.tail))); (case hf => rfl)))) | ((with_reducible show wpAny _ _ (isSubtype (.type _) _) _ _ _); refine wpAny_of_eq (a := true) ?hc ?_; (case hc => (rw [isSubtype_type]; kernel_rfl!))) | ((with_reducible show wpAny _ _ (PySem.Builtin.notOverATurnedClass _) _ _ _); refine wpAny_of_eq (a := ()) ?hc ?_; (case hc => kernel_rfl!)) | ((first | (with_reducible show wpAny _ _ (PySem.Builtin.extendedBase _) _ _ _) | (with_reducible show wpAny _ _ (PySem.Builtin.Slots.bestBase _) _ _ _)); refine wpAny_of_eq (a := .type "object") ?hc ?_; (case hc => kernel_rfl!)) | ((first | (with_reducible show wpAny _ _ (PySem.Builtin.Slots.givesDict _) _ _ _) | (with_reducible show wpAny _ _ (PySem.Builtin.Slots.givesWeak _) _ _ _) | (with_reducible show wpAny _ _ (PySem.Builtin.Slots.varSize _) _ _ _)); refine wpAny_of_eq (a := false) ?hc ?_; (case hc => kernel_rfl!)) | ((with_reducible show wpAny _ _ (typeLookup (.ref _) _) _ _ _); unfold typeLookup) | ((with_reducible show wpAny _ _ (classOwn (.type _) _) _ _ _); (first | (refine wpAny_of_eq (a := some (.builtin "object.__new__")) ?hc ?_; (case hc => kernel_rfl!)) | (refine wpAny_of_eq (a := none) ?hc ?_; (case hc => kernel_rfl!)))) | ((with_reducible show wpAny _ _ (typeLookup (.type _) _) _ _ _); (refine wpAny_of_eq (a := none) ?hc ?_; (case hc => (rw [typeLookup_type, builtinLookup_eq_fast]; kernel_rfl!)))) | ((with_reducible show wpAny _ _ (PySem.Builtin.mroHook? _) _ _ _); refine wpAny_of_eq (a := none) ?hc ?_; (case hc => kernel_rfl!)) | ((with_reducible show wpAny _ _ (PySem.Builtin.linearize _ _) _ _ _); refine wpAny_of_eq (a := [.type "object"]) ?hc ?_; (case hc => kernel_rfl!)) | ((with_reducible show wpAny _ _ (Bind.madeBy (.type _)) _ _ _); (first | (refine wpAny_of_eq (a := some "type.__new__") ?hc ?_; (case hc => kernel_rfl!)) | (refine wpAny_of_eq (a := some "object.__new__") ?hc ?_; (case hc => kernel_rfl!)))) | ((fail_if_success (with_reducible show wpAny _ _ (List.anyM _ _) _ _ _)); (fail_if_success (with_reducible show wpAny _ _ (call _ _ _) _ _ _)); (fail_if_success (with_reducible show wpAny _ _ (collect _) _ _ _)); (fail_if_success (with_reducible show wpAny _ _ (PySem.Builtin.Slots.read _ _ _) _ _ _)); (first | wp_delta | wp_step))))
  refine hOut fun hA₃ D₃ => ?_
  refine toAX hAY (by decide) (prep_call (D₃.at (.head _)) fun h₄ nsA D₄ => ?_)
  have D₅ := D₃.join' D₄
  clear D₃ D₄
  dsimp only [List.append_nil, List.cons_append, List.nil_append] at D₅
  have hnsA : (nsA == sysModules) = false := by
    have e := (D₅.nw _ (.head _)).2
    cases q : nsA == sysModules with
    | false => rfl
    | true =>
      rw [eq_of_beq q] at e
      dsimp only at e
      rw [hsys] at e
      cases e
  refine hIn' D₅ ?_
  repeat ((fail_if_success (first | (with_reducible show wpAny _ _ (getAttr? _ _) _ _ _) | (with_reducible show wpAny _ _ (call _ _ _) _ _ _) | (with_reducible show wpAny _ _ (run _ _) _ _ _))); (first | ((with_reducible show wpAny _ _ (nsGet _ _) _ _ _); refine hNs (a := builtinsNs) (by assumption) (by assumption) ?_) | with_reducible refine wpAny_onRaise ?_ | ((with_reducible show wpAny _ _ enterFrame _ _ _); (with_reducible rename Heap.NoLimit _ => hl); refine Mine.hEnter hl (by decide) ?_) | ((with_reducible show wpAny _ _ (List.mapM.loop mkText (Scope.freeNames _) []) _ _ _); (first | (rw [Mine.free1 (x := Str.ofString "mycmp") ?hfr]; (case hfr => (kernel_rfl!; done))) | (rw [Mine.free0 ?hfr]; (case hfr => (kernel_rfl!; done))))) | with_reducible refine Mine.bqIn ?_ | with_reducible refine Mine.bqGo ?_ | with_reducible refine PySem.wpAny_pure ?_ | with_reducible refine PySem.wpAny_rule ?_ | with_reducible refine PySem.wpAny_holding ?_ | with_reducible refine PySem.wpAny_standAt ?_ | with_reducible refine PySem.wpAny_point ?_ | with_reducible refine PySem.wpAny_fresh' ?_ | with_reducible refine Mine.wpTry ?_ | with_reducible refine PySem.wpAny_askSetting ?_ | ((with_reducible show wpAny _ _ (alloc _) _ _ _); (refine Mine.hAlloc rfl ?_); intro _ _ _) | ((with_reducible show wpAny _ _ (ite _ _ _) _ _ _); (first | (refine PySem.wpAny_ite_false ?hc ?_; (case hc => (kernel_rfl!; done))) | (refine PySem.wpAny_ite_true ?hc ?_; (case hc => (kernel_rfl!; done))) | (refine PySem.wpAny_ite_false ?hc ?_; (case hc => (simp [*]; done))) | (refine PySem.wpAny_ite_true ?hc ?_; (case hc => (simp [*]; done))))) | ((with_reducible show wpAny _ _ (load _) _ _ _); (first | (refine' Mine.hLd ?hm ?_; (case hm => (first | (repeat (first | exact List.Mem.head _ | apply List.Mem.tail))))) | (refine Mine.hOl (by with_reducible assumption) ?_) | ((with_reducible rename Frag.In _ _ => XF); (refine Mine.hOl (XF _ _ rfl) ?_)))) | ((with_reducible show wpAny _ _ (loadPart _ _) _ _ _); (first | (refine' Mine.hLdP ?hm ?_; (case hm => (first | (repeat (first | exact List.Mem.head _ | apply List.Mem.tail))))) | (refine Mine.hOlP (by with_reducible assumption) ?_) | ((with_reducible rename Frag.In _ _ => XF); (refine Mine.hOlP (XF _ _ rfl) ?_)))) | ((with_reducible show wpAny _ _ (update _ _) _ _ _); (first | (refine' Mine.hUpd ?hu ?hf ?_; (case hu => (repeat (first | exact Mine.Up.head | apply Mine.Up.tail))); (case hf => rfl)) | (refine' Mine.hUpdP ?hu ?hf ?_; (case hu => (repeat (first | exact Mine.Up.head | apply Mine.Up.tail))); (case hf => rfl)))) | ((with_reducible show wpAny _ _ (updatePart _ _ _) _ _ _); (first | (refine' Mine.hUpd ?hu ?hf ?_; (case hu => (repeat (first | exact Mine.Up.head | apply Mine.Up.tail))); (case hf => rfl)) | (refine' Mine.hUpdP ?hu ?hf ?_; (case hu => (repeat (first | exact Mine.Up.head | apply Mine.Up.tail))); (case hf => rfl)))) | ((with_reducible show wpAny _ _ (isSubtype (.type _) _) _ _ _); refine wpAny_of_eq (a := true) ?hc ?_; (case hc => (rw [isSubtype_type]; kernel_rfl!))) | ((with_reducible show wpAny _ _ (PySem.Builtin.notOverATurnedClass _) _ _ _); refine wpAny_of_eq (a := ()) ?hc ?_; (case hc => kernel_rfl!)) | ((first | (with_reducible show wpAny _ _ (PySem.Builtin.extendedBase _) _ _ _) | (with_reducible show wpAny _ _ (PySem.Builtin.Slots.bestBase _) _ _ _)); refine wpAny_of_eq (a := .type "object") ?hc ?_; (case hc => kernel_rfl!)) | ((first | (with_reducible show wpAny _ _ (PySem.Builtin.Slots.givesDict _) _ _ _) | (with_reducible show wpAny _ _ (PySem.Builtin.Slots.givesWeak _) _ _ _) | (with_reducible show wpAny _ _ (PySem.Builtin.Slots.varSize _) _ _ _)); refine wpAny_of_eq (a := false) ?hc ?_; (case hc => kernel_rfl!)) | ((with_reducible show wpAny _ _ (typeLookup (.ref _) _) _ _ _); unfold typeLookup) | ((with_reducible show wpAny _ _ (classOwn (.type _) _) _ _ _); (first | (refine wpAny_of_eq (a := some (.builtin "object.__new__")) ?hc ?_; (case hc => kernel_rfl!)) | (refine wpAny_of_eq (a := none) ?hc ?_; (case hc => kernel_rfl!)))) | ((with_reducible show wpAny _ _ (typeLookup (.type _) _) _ _ _); (refine wpAny_of_eq (a := none) ?hc ?_; (case hc => (rw [typeLookup_type, builtinLookup_eq_fast]; kernel_rfl!)))) | ((with_reducible show wpAny _ _ (PySem.Builtin.mroHook? _) _ _ _); refine wpAny_of_eq (a := none) ?hc ?_; (case hc => kernel_rfl!)) | ((with_reducible show wpAny _ _ (PySem.Builtin.linearize _ _) _ _ _); refine wpAny_of_eq (a := [.type "object"]) ?hc ?_; (case hc => kernel_rfl!)) | ((with_reducible show wpAny _ _ (Bind.madeBy (.type _)) _ _ _); (first | (refine wpAny_of_eq (a := some "type.__new__") ?hc ?_; (case hc => kernel_rfl!)) | (refine wpAny_of_eq (a := some "object.__new__") ?hc ?_; (case hc => kernel_rfl!)))) | ((fail_if_success (with_reducible show wpAny _ _ (List.anyM _ _) _ _ _)); (fail_if_success (with_reducible show wpAny _ _ (call _ _ _) _ _ _)); (fail_if_success (with_reducible show wpAny _ _ (collect _) _ _ _)); (fail_if_success (with_reducible show wpAny _ _ (PySem.Builtin.Slots.read _ _ _) _ _ _)); (first | wp_delta | wp_step))))
  refine wpAny_of_eq (a := some (.builtin "dict.__getitem__")) (by show typeLookup (.type "dict") _ = _; rw [typeLookup_type, builtinLookup_eq_fast]; kernel_rfl) ?_
  repeat ((fail_if_success (first | (with_reducible show wpAny _ _ (getAttr? _ _) _ _ _) | (with_reducible show wpAny _ _ (call _ _ _) _ _ _) | (with_reducible show wpAny _ _ (run _ _) _ _ _))); (first | ((with_reducible show wpAny _ _ (nsGet _ _) _ _ _); refine hNs (a := builtinsNs) (by assumption) (by assumption) ?_) | with_reducible refine wpAny_onRaise ?_ | ((with_reducible show wpAny _ _ enterFrame _ _ _); (with_reducible rename Heap.NoLimit _ => hl); refine Mine.hEnter hl (by decide) ?_) | ((with_reducible show wpAny _ _ (List.mapM.loop mkText (Scope.freeNames _) []) _ _ _); (first | (rw [Mine.free1 (x := Str.ofString "mycmp") ?hfr]; (case hfr => (kernel_rfl!; done))) | (rw [Mine.free0 ?hfr]; (case hfr => (kernel_rfl!; done))))) | with_reducible refine Mine.bqIn ?_ | with_reducible refine Mine.bqGo ?_ | with_reducible refine PySem.wpAny_pure ?_ | with_reducible refine PySem.wpAny_rule ?_ | with_reducible refine PySem.wpAny_holding ?_ | with_reducible refine PySem.wpAny_standAt ?_ | with_reducible refine PySem.wpAny_point ?_ | with_reducible refine PySem.wpAny_fresh' ?_ | with_reducible refine Mine.wpTry ?_ | with_reducible refine PySem.wpAny_askSetting ?_ | ((with_reducible show wpAny _ _ (alloc _) _ _ _); (refine Mine.hAlloc rfl ?_); intro _ _ _) | ((with_reducible show wpAny _ _ (ite _ _ _) _ _ _); (first | (refine PySem.wpAny_ite_false ?hc ?_; (case hc => (kernel_rfl!; done))) | (refine PySem.wpAny_ite_true ?hc ?_; (case hc => (kernel_rfl!; done))) | (refine PySem.wpAny_ite_false ?hc ?_; (case hc => (simp [*]; done))) | (refine PySem.wpAny_ite_true ?hc ?_; (case hc => (simp [*]; done))))) | ((with_reducible show wpAny _ _ (load _) _ _ _); (first | (refine' Mine.hLd ?hm ?_; (case hm => (first | (repeat (first | exact List.Mem.head _ | apply List.Mem.tail))))) | (refine Mine.hOl (by with_reducible assumption) ?_) | ((with_reducible rename Frag.In _ _ => XF); (refine Mine.hOl (XF _ _ rfl) ?_)))) | ((with_reducible show wpAny _ _ (loadPart _ _) _ _ _); (first | (refine' Mine.hLdP ?hm ?_; (case hm => (first | (repeat (first | exact List.Mem.head _ | apply List.Mem.tail))))) | (refine Mine.hOlP (by with_reducible assumption) ?_) | ((with_reducible rename Frag.In _ _ => XF); (refine Mine.hOlP (XF _ _ rfl) ?_)))) | ((with_reducible show wpAny _ _ (update _ _) _ _ _); (first | (refine' Mine.hUpd ?hu ?hf ?_; (case hu => (repeat (first | exact Mine.Up.head | apply Mine.Up.tail))); (case hf => rfl)) | (refine' Mine.hUpdP ?hu ?hf ?_; (case hu => (repeat (first | exact Mine.Up.head | apply Mine.Up.tail))); (case hf => rfl)))) | ((with_reducible show wpAny _ _ (updatePart _ _ _) _ _ _); (first | (refine' Mine.hUpd ?hu ?hf ?_; (case hu => (repeat (first | exact Mine.Up.head | apply Mine.Up.tail))); (case hf => rfl)) | (refine' Mine.hUpdP ?hu ?hf ?_; (case hu => (repeat (first | exact Mine.Up.head | apply Mine.Up.tail))); (case hf => rfl)))) | ((with_reducible show wpAny _ _ (isSubtype (.type _) _) _ _ _); refine wpAny_of_eq (a := true) ?hc ?_; (case hc => (rw [isSubtype_type]; kernel_rfl!))) | ((with_reducible show wpAny _ _ (PySem.Builtin.notOverATurnedClass _) _ _ _); refine wpAny_of_eq (a := ()) ?hc ?_; (case hc => kernel_rfl!)) | ((first | (with_reducible show wpAny _ _ (PySem.Builtin.extendedBase _) _ _ _) | (with_reducible show wpAny _ _ (PySem.Builtin.Slots.bestBase _) _ _ _)); refine wpAny_of_eq (a := .type "object") ?hc ?_; (case hc => kernel_rfl!)) | ((first | (with_reducible show wpAny _ _ (PySem.Builtin.Slots.givesDict _) _ _ _) | (with_reducible show wpAny _ _ (PySem.Builtin.Slots.givesWeak _) _ _ _) | (with_reducible show wpAny _ _ (PySem.Builtin.Slots.varSize _) _ _ _)); refine wpAny_of_eq (a := false) ?hc ?_; (case hc => kernel_rfl!)) | ((with_reducible show wpAny _ _ (typeLookup (.ref _) _) _ _ _); unfold typeLookup) | ((with_reducible show wpAny _ _ (classOwn (.type _) _) _ _ _); (first | (refine wpAny_of_eq (a := some (.builtin "object.__new__")) ?hc ?_; (case hc => kernel_rfl!)) | (refine wpAny_of_eq (a := none) ?hc ?_; (case hc => kernel_rfl!)))) | ((with_reducible show wpAny _ _ (typeLookup (.type _) _) _ _ _); (refine wpAny_of_eq (a := none) ?hc ?_; (case hc => (rw [typeLookup_type, builtinLookup_eq_fast]; kernel_rfl!)))) | ((with_reducible show wpAny _ _ (PySem.Builtin.mroHook? _) _ _ _); refine wpAny_of_eq (a := none) ?hc ?_; (case hc => kernel_rfl!)) | ((with_reducible show wpAny _ _ (PySem.Builtin.linearize _ _) _ _ _); refine wpAny_of_eq (a := [.type "object"]) ?hc ?_; (case hc => kernel_rfl!)) | ((with_reducible show wpAny _ _ (Bind.madeBy (.type _)) _ _ _); (first | (refine wpAny_of_eq (a := some "type.__new__") ?hc ?_; (case hc => kernel_rfl!)) | (refine wpAny_of_eq (a := some "object.__new__") ?hc ?_; (case hc => kernel_rfl!)))) | ((fail_if_success (with_reducible show wpAny _ _ (List.anyM _ _) _ _ _)); (fail_if_success (with_reducible show wpAny _ _ (call _ _ _) _ _ _)); (fail_if_success (with_reducible show wpAny _ _ (collect _) _ _ _)); (fail_if_success (with_reducible show wpAny _ _ (PySem.Builtin.Slots.read _ _ _) _ _ _)); (first | wp_delta | wp_step))))
  refine hOut fun hz D => ?_
  rename Frag.In _ _ => XF
  rename Heap.NoLimit _ => hlim
  rename_i bt _ _ fv _ _ tb _ _ cc _ _ fr _ _
  obtain ⟨hb0, k0, l0, D0⟩ := rebase 2 4 (T' := tabObj #[]) (N' := dicO #[en (hashOf w "__module__") "__module__" (tk + 8) (.str "law_mr0186_01" 251), en (hashOf w "__qualname__") "__qualname__" (tk + 10) (.str "cmp_to_key.<locals>.K" (tk + 9)), en (hashOf w "__firstlineno__") "__firstlineno__" (tk + 12) (.int 59 (tk + 11))] 3) D rfl rfl (by kernel_rfl) (by kernel_rfl) (by decide)
  have l38 := l0 7 _ rfl (by decide) (by decide)
  have lbt := l0 6 _ rfl (by decide) (by decide)
  have lcc : hb0.get? cc = some (ccO fv tb (fun i => if i = 0 then tk + 2 else if i = 1 then tk + 3 else if i = 2 then tk + 4 else if i = 3 then tk + 6 else tk + 7)) := (l0 1 _ rfl (by decide) (by decide)).trans (congrArg some (by kernel_rfl))
  dsimp only at l38 lbt
  refine toAX hAY (by decide) (body_spec (hs := fun i => if i = 0 then hashOf w "__module__" else if i = 1 then hashOf w "__qualname__" else hashOf w "__firstlineno__") (ts := fun i => if i = 0 then tk + 8 else if i = 1 then tk + 10 else tk + 12) (XF.keeps k0) lcc (k0 _ _ hm4) D0 (fun hb1 h1 sl f1 f2 f3 f4 f5 f6 hs1 ts1 m0 m3 tk1 B => ?_))
  obtain ⟨T1, nd1, D1⟩ := B.tab
  clear D D0
  replace XF := (XF.keeps k0).keeps B.keep
  refine hIn' D1 ?_
  repeat ((fail_if_success (first | (with_reducible show wpAny _ _ (getAttr? _ _) _ _ _) | (with_reducible show wpAny _ _ (call _ _ _) _ _ _) | (with_reducible show wpAny _ _ (run _ _) _ _ _))); (first | ((with_reducible show wpAny _ _ (nsGet _ _) _ _ _); refine hNs (a := builtinsNs) (by assumption) (by assumption) ?_) | with_reducible refine wpAny_onRaise ?_ | ((with_reducible show wpAny _ _ enterFrame _ _ _); (with_reducible rename Heap.NoLimit _ => hl); refine Mine.hEnter hl (by decide) ?_) | ((with_reducible show wpAny _ _ (List.mapM.loop mkText (Scope.freeNames _) []) _ _ _); (first | (rw [Mine.free1 (x := Str.ofString "mycmp") ?hfr]; (case hfr => (kernel_rfl!; done))) | (rw [Mine.free0 ?hfr]; (case hfr => (kernel_rfl!; done))))) | with_reducible refine Mine.bqIn ?_ | with_reducible refine Mine.bqGo ?_ | with_reducible refine PySem.wpAny_pure ?_ | with_reducible refine PySem.wpAny_rule ?_ | with_reducible refine PySem.wpAny_holding ?_ | with_reducible refine PySem.wpAny_standAt ?_ | with_reducible refine PySem.wpAny_point ?_ | with_reducible refine PySem.wpAny_fresh' ?_ | with_reducible refine Mine.wpTry ?_ | with_reducible refine PySem.wpAny_askSetting ?_ | ((with_reducible show wpAny _ _ (alloc _) _ _ _); (refine Mine.hAlloc rfl ?_); intro _ _ _) | ((with_reducible show wpAny _ _ (ite _ _ _) _ _ _); (first | (refine PySem.wpAny_ite_false ?hc ?_; (case hc => (kernel_rfl!; done))) | (refine PySem.wpAny_ite_true ?hc ?_; (case hc => (kernel_rfl!; done))) | (refine PySem.wpAny_ite_false ?hc ?_; (case hc => (simp [*]; done))) | (refine PySem.wpAny_ite_true ?hc ?_; (case hc => (simp [*]; done))))) | ((with_reducible show wpAny _ _ (load _) _ _ _); (first | (refine' Mine.hLd ?hm ?_; (case hm => (first | (repeat (first | exact List.Mem.head _ | apply List.Mem.tail))))) | (refine Mine.hOl (by with_reducible assumption) ?_) | ((with_reducible rename Frag.In _ _ => XF); (refine Mine.hOl (XF _ _ rfl) ?_)))) | ((with_reducible show wpAny _ _ (loadPart _ _) _ _ _); (first | (refine' Mine.hLdP ?hm ?_; (case hm => (first | (repeat (first | exact List.Mem.head _ | apply List.Mem.tail))))) | (refine Mine.hOlP (by with_reducible assumption) ?_) | ((with_reducible rename Frag.In _ _ => XF); (refine Mine.hOlP (XF _ _ rfl) ?_)))) | ((with_reducible show wpAny _ _ (update _ _) _ _ _); (first | (refine' Mine.hUpd ?hu ?hf ?_; (case hu => (repeat (first | exact Mine.Up.head | apply Mine.Up.tail))); (case hf => rfl)) | (refine' Mine.hUpdP ?hu ?hf ?_; (case hu => (repeat (first | exact Mine.Up.head | apply Mine.Up.tail))); (case hf => rfl)))) | ((with_reducible show wpAny _ _ (updatePart _ _ _) _ _ _); (first | (refine' Mine.hUpd ?hu ?hf ?_; (case hu => (repeat (first | exact Mine.Up.head | apply Mine.Up.tail))); (case hf => rfl)) | (refine' Mine.hUpdP ?hu ?hf ?_; (case hu => (repeat (first | exact Mine.Up.head | apply Mine.Up.tail))); (case hf => rfl)))) | ((with_reducible show wpAny _ _ (isSubtype (.type _) _) _ _ _); refine wpAny_of_eq (a := true) ?hc ?_; (case hc => (rw [isSubtype_type]; kernel_rfl!))) | ((with_reducible show wpAny _ _ (PySem.Builtin.notOverATurnedClass _) _ _ _); refine wpAny_of_eq (a := ()) ?hc ?_; (case hc => kernel_rfl!)) | ((first | (with_reducible show wpAny _ _ (PySem.Builtin.extendedBase _) _ _ _) | (with_reducible show wpAny _ _ (PySem.Builtin.Slots.bestBase _) _ _ _)); refine wpAny_of_eq (a := .type "object") ?hc ?_; (case hc => kernel_rfl!)) | ((first | (with_reducible show wpAny _ _ (PySem.Builtin.Slots.givesDict _) _ _ _) | (with_reducible show wpAny _ _ (PySem.Builtin.Slots.givesWeak _) _ _ _) | (with_reducible show wpAny _ _ (PySem.Builtin.Slots.varSize _) _ _ _)); refine wpAny_of_eq (a := false) ?hc ?_; (case hc => kernel_rfl!)) | ((with_reducible show wpAny _ _ (typeLookup (.ref _) _) _ _ _); unfold typeLookup) | ((with_reducible show wpAny _ _ (classOwn (.type _) _) _ _ _); (first | (refine wpAny_of_eq (a := some (.builtin "object.__new__")) ?hc ?_; (case hc => kernel_rfl!)) | (refine wpAny_of_eq (a := none) ?hc ?_; (case hc => kernel_rfl!)))) | ((with_reducible show wpAny _ _ (typeLookup (.type _) _) _ _ _); (refine wpAny_of_eq (a := none) ?hc ?_; (case hc => (rw [typeLookup_type, builtinLookup_eq_fast]; kernel_rfl!)))) | ((with_reducible show wpAny _ _ (PySem.Builtin.mroHook? _) _ _ _); refine wpAny_of_eq (a := none) ?hc ?_; (case hc => kernel_rfl!)) | ((with_reducible show wpAny _ _ (PySem.Builtin.linearize _ _) _ _ _); refine wpAny_of_eq (a := [.type "object"]) ?hc ?_; (case hc => kernel_rfl!)) | ((with_reducible show wpAny _ _ (Bind.madeBy (.type _)) _ _ _); (first | (refine wpAny_of_eq (a := some "type.__new__") ?hc ?_; (case hc => kernel_rfl!)) | (refine wpAny_of_eq (a := some "object.__new__") ?hc ?_; (case hc => kernel_rfl!)))) | ((fail_if_success (with_reducible show wpAny _ _ (List.anyM _ _) _ _ _)); (fail_if_success (with_reducible show wpAny _ _ (call _ _ _) _ _ _)); (fail_if_success (with_reducible show wpAny _ _ (collect _) _ _ _)); (fail_if_success (with_reducible show wpAny _ _ (PySem.Builtin.Slots.read _ _ _) _ _ _)); (first | wp_delta | wp_step))))
  refine hOut fun hy D2 => ?_
  rename_i st _ _
  have k1 : Kp h₀ hy := fun b o e => D2.keep _ _ (B.keep _ _ (k0 _ _ e))
  have kb : Kp hb0 hy := fun b o e => D2.keep _ _ (B.keep _ _ e)
  have hst : hy.get? st = some (tupO [.str "obj" tk1]) := (D2.at' 0 rfl).trans (congrArg some (by kernel_rfl))
  have hns : hy.get? nsA = some (dicO (nsK (upN hs1 11 (hashOf w "__static_attributes__")) (upN ts1 11 (tk1 + 1)) m0 (tk + 9) (tk + 11) sl f1 f2 f3 f4 f5 f6 st) (nd1 + 1)) := (D2.at' 2 rfl).trans (congrArg some (by kernel_rfl))
  have hbt : hy.get? bt = some (tupO [.type "object"]) := (kb _ _ lbt).trans (congrArg some (by kernel_rfl))
  obtain ⟨c1, ct1, o1, p1, p1', p1''⟩ := B.q1
  obtain ⟨c2, ct2, o2, p2, p2', p2''⟩ := B.q2
  obtain ⟨c3, ct3, o3, p3, p3', p3''⟩ := B.q3
  obtain ⟨c4, ct4, o4, p4, p4', p4''⟩ := B.q4
  obtain ⟨c5, ct5, o5, p5, p5', p5''⟩ := B.q5
  obtain ⟨c6, ct6, o6, p6, p6', p6''⟩ := B.q6
  rename Frag.In _ _ => XF
  refine call_type_eq (by kernel_rfl) (by kernel_rfl) ?_
  refine type_call hAY (by decide) hbt hns hnsA (D2.keep _ _ B.list) (D2.keep _ _ p1) (D2.keep _ _ p2) (D2.keep _ _ p3) (D2.keep _ _ p4) (D2.keep _ _ p5) (D2.keep _ _ p6) hst (XF.keeps D2.keep) (fun h₇ K ns ds hs' ts' tk' M => ?_)
  repeat ((fail_if_success (first | (with_reducible show wpAny _ _ (getAttr? _ _) _ _ _) | (with_reducible show wpAny _ _ (call _ _ _) _ _ _) | (with_reducible show wpAny _ _ (run _ _) _ _ _))); (fail_if_success (with_reducible show wpAny _ _ (bindName _ _ _) _ _ _)); (first | ((with_reducible show wpAny _ _ (nsGet _ _) _ _ _); refine hNs (a := builtinsNs) (by assumption) (by assumption) ?_) | with_reducible refine wpAny_onRaise ?_ | ((with_reducible show wpAny _ _ enterFrame _ _ _); (with_reducible rename Heap.NoLimit _ => hl); refine Mine.hEnter hl (by decide) ?_) | ((with_reducible show wpAny _ _ (List.mapM.loop mkText (Scope.freeNames _) []) _ _ _); (first | (rw [Mine.free1 (x := Str.ofString "mycmp") ?hfr]; (case hfr => (kernel_rfl!; done))) | (rw [Mine.free0 ?hfr]; (case hfr => (kernel_rfl!; done))))) | with_reducible refine Mine.bqIn ?_ | with_reducible refine Mine.bqGo ?_ | with_reducible refine PySem.wpAny_pure ?_ | with_reducible refine PySem.wpAny_rule ?_ | with_reducible refine PySem.wpAny_holding ?_ | with_reducible refine PySem.wpAny_standAt ?_ | with_reducible refine PySem.wpAny_point ?_ | with_reducible refine PySem.wpAny_fresh' ?_ | with_reducible refine Mine.wpTry ?_ | with_reducible refine PySem.wpAny_askSetting ?_ | ((with_reducible show wpAny _ _ (alloc _) _ _ _); (refine Mine.hAlloc rfl ?_); intro _ _ _) | ((with_reducible show wpAny _ _ (ite _ _ _) _ _ _); (first | (refine PySem.wpAny_ite_false ?hc ?_; (case hc => (kernel_rfl!; done))) | (refine PySem.wpAny_ite_true ?hc ?_; (case hc => (kernel_rfl!; done))) | (refine PySem.wpAny_ite_false ?hc ?_; (case hc => (simp [*]; done))) | (refine PySem.wpAny_ite_true ?hc ?_; (case hc => (simp [*]; done))))) | ((with_reducible show wpAny _ _ (load _) _ _ _); (first | (refine' Mine.hLd ?hm ?_; (case hm => (first | (repeat (first | exact List.Mem.head _ | apply List.Mem.tail))))) | (refine Mine.hOl (by with_reducible assumption) ?_) | ((with_reducible rename Frag.In _ _ => XF); (refine Mine.hOl (XF _ _ rfl) ?_)))) | ((with_reducible show wpAny _ _ (loadPart _ _) _ _ _); (first | (refine' Mine.hLdP ?hm ?_; (case hm => (first | (repeat (first | exact List.Mem.head _ | apply List.Mem.tail))))) | (refine Mine.hOlP (by with_reducible assumption) ?_) | ((with_reducible rename Frag.In _ _ => XF); (refine Mine.hOlP (XF _ _ rfl) ?_)))) | ((with_reducible show wpAny _ _ (update _ _) _ _ _); (first | (refine' Mine.hUpd ?hu ?hf ?_; (case hu => (repeat (first | exact Mine.Up.head | apply Mine.Up.tail))); (case hf => rfl)) | (refine' Mine.hUpdP ?hu ?hf ?_; (case hu => (repeat (first | exact Mine.Up.head | apply Mine.Up.tail))); (case hf => rfl)))) | ((with_reducible show wpAny _ _ (updatePart _ _ _) _ _ _); (first | (refine' Mine.hUpd ?hu ?hf ?_; (case hu => (repeat (first | exact Mine.Up.head | apply Mine.Up.tail))); (case hf => rfl)) | (refine' Mine.hUpdP ?hu ?hf ?_; (case hu => (repeat (first | exact Mine.Up.head | apply Mine.Up.tail))); (case hf => rfl)))) | ((with_reducible show wpAny _ _ (isSubtype (.type _) _) _ _ _); refine wpAny_of_eq (a := true) ?hc ?_; (case hc => (rw [isSubtype_type]; kernel_rfl!))) | ((with_reducible show wpAny _ _ (PySem.Builtin.notOverATurnedClass _) _ _ _); refine wpAny_of_eq (a := ()) ?hc ?_; (case hc => kernel_rfl!)) | ((first | (with_reducible show wpAny _ _ (PySem.Builtin.extendedBase _) _ _ _) | (with_reducible show wpAny _ _ (PySem.Builtin.Slots.bestBase _) _ _ _)); refine wpAny_of_eq (a := .type "object") ?hc ?_; (case hc => kernel_rfl!)) | ((first | (with_reducible show wpAny _ _ (PySem.Builtin.Slots.givesDict _) _ _ _) | (with_reducible show wpAny _ _ (PySem.Builtin.Slots.givesWeak _) _ _ _) | (with_reducible show wpAny _ _ (PySem.Builtin.Slots.varSize _) _ _ _)); refine wpAny_of_eq (a := false) ?hc ?_; (case hc => kernel_rfl!)) | ((with_reducible show wpAny _ _ (typeLookup (.ref _) _) _ _ _); unfold typeLookup) | ((with_reducible show wpAny _ _ (classOwn (.type _) _) _ _ _); (first | (refine wpAny_of_eq (a := some (.builtin "object.__new__")) ?hc ?_; (case hc => kernel_rfl!)) | (refine wpAny_of_eq (a := none) ?hc ?_; (case hc => kernel_rfl!)))) | ((with_reducible show wpAny _ _ (typeLookup (.type _) _) _ _ _); (refine wpAny_of_eq (a := none) ?hc ?_; (case hc => (rw [typeLookup_type, builtinLookup_eq_fast]; kernel_rfl!)))) | ((with_reducible show wpAny _ _ (PySem.Builtin.mroHook? _) _ _ _); refine wpAny_of_eq (a := none) ?hc ?_; (case hc => kernel_rfl!)) | ((with_reducible show wpAny _ _ (PySem.Builtin.linearize _ _) _ _ _); refine wpAny_of_eq (a := [.type "object"]) ?hc ?_; (case hc => kernel_rfl!)) | ((with_reducible show wpAny _ _ (Bind.madeBy (.type _)) _ _ _); (first | (refine wpAny_of_eq (a := some "type.__new__") ?hc ?_; (case hc => kernel_rfl!)) | (refine wpAny_of_eq (a := some "object.__new__") ?hc ?_; (case hc => kernel_rfl!)))) | ((fail_if_success (with_reducible show wpAny _ _ (List.anyM _ _) _ _ _)); (fail_if_success (with_reducible show wpAny _ _ (call _ _ _) _ _ _)); (fail_if_success (with_reducible show wpAny _ _ (collect _) _ _ _)); (fail_if_success (with_reducible show wpAny _ _ (PySem.Builtin.Slots.read _ _ _) _ _ _)); (first | wp_delta | wp_step))))
  have kz : ∀ b o, b ≠ 38 → h₁.get? b = some o → h₇.get? b = some o := fun b o hb e => M.keep _ _ (k1 _ _ (h01 _ _ hb e))
  have hL₁ := F.ns
  have hL := hL₁.at' (fun o e => kz _ o L38 e)
  have hc₇ := M.keep _ _ (k1 _ _ hcell)
  have t38 : h₇.get? 38 = some (tabObj #[rawInt 59, rawInt 4, .ref cc]) := (M.keep _ _ (kb _ _ l38)).trans (congrArg some (by kernel_rfl))
  obtain ⟨tds, hds⟩ := M.mem
  obtain ⟨nd7, hns7⟩ := M.dict
  refine bindName_ (wpAny_storeName_local rfl hL (fun h₈ hn₈ hs₈ => ?_))
  have neL : ∀ {a : Addr} {o : Obj}, h₇.get? a = some o → (∀ es n, o.data ≠ .dict es n) → a ≠ h.objs.size := by
    intro a o e hno q
    subst q
    obtain ⟨o', es, ep, e', hd', _⟩ := hL
    rw [e] at e'
    cases e'
    exact hno _ _ hd'
  have up : ∀ {a : Addr} {o : Obj}, h₇.get? a = some o → (∀ es n, o.data ≠ .dict es n) → h₈.get? a = some o := fun {a o} e hno => (hs₈.2 a (neL e hno)).trans e
  have code_no : ∀ {o : Obj} {q : Str}, IsCode o q → ∀ es n, o.data ≠ .dict es n := fun {o q} hc es n e => by
    obtain ⟨v, t, rfl⟩ := hc
    cases e
  have hoc' : oc.data = .cell (some (.ref 73)) := hoc.trans (by kernel_rfl)
  have nsL : ns ≠ h.objs.size := fun q => by
    obtain ⟨o', es, ep, e', _⟩ := hL₁
    have := M.nns
    rw [q, k1 _ _ (h01 _ _ L38 e')] at this
    cases this
  have KA : KeyAt h₈ K f1 f2 ds (h.objs.size + 1) :=
    ⟨⟨ns, bt, _, _, up M.cls (fun _ _ e => by cases e), hs', ts', m0, _, sl, f3, f4, f5, f6, st, nd7, (hs₈.2 _ nsL).trans hns7⟩, ⟨_, up hds (fun _ _ e => by cases e)⟩,
      ⟨c1, ct1, o1, up (M.keep _ _ (D2.keep _ _ p1)) (fun _ _ e => by cases e), up (M.keep _ _ (D2.keep _ _ p1')) (code_no p1''), p1''⟩,
      ⟨c2, ct2, o2, up (M.keep _ _ (D2.keep _ _ p2)) (fun _ _ e => by cases e), up (M.keep _ _ (D2.keep _ _ p2')) (code_no p2''), p2''⟩,
      ⟨oc, up hc₇ (fun _ _ e => by rw [hoc'] at e; cases e), hoc'⟩⟩
  have F₈ : Fr (hid38 h) h.objs.size h₈ _ := ⟨hn₈, fun b o e => (hs₈.2 b (fun q => by
      have := Heap.lt_size e
      rw [q] at this
      exact absurd (Nat.lt_of_lt_of_le this (Nat.le_of_eq (hideAll_size _ _))) (Nat.lt_irrefl _))).trans (kz b o (fun q => by rw [q] at e; rw [hideAll_none _ (by simp)] at e; cases e) (F.keep b o e)), F.above⟩
  have N₈ : News (hid38 h) h.objs.size h₈ [] := News.nil
  have KE : Heap.ExtBut 38 h h₈ := fun b o hb e => F₈.keep b o (hideAll_get _ e (by simpa using hb))
  have t8 := up t38 (fun _ _ e => by cases e)
  replace hq := fun tk' => hq h₈ K f1 f2 ds _ cc tk' KE t8 KA
  clear F D2 B l0 l38 lbt lcc h01 KA up neL hs₈ hL hL₁ hn₈ N0 KE t8
  refine wpAny_pure ?_
  dsimp only
  dsimp only [bindL] at F₈
  (first | repeat' (first | ((fail_if_success (with_reducible show wpAny _ _ (exec (Stmt.ClassDef _ _ _ _ _ _ _ _ _ _ _) _) _ _ _)); (first | (first | (with_reducible show wpAny _ _ _ _ _ _) | (with_reducible show (if _ then _ else _)) | (with_reducible show Frag.In _ _ ∧ _) | (with_reducible show KdsFill _ _ _ _ _ _ _ _)) | (dsimp only; (first | (with_reducible show wpAny _ _ _ _ _ _) | (with_reducible show (if _ then _ else _)) | (with_reducible show Frag.In _ _ ∧ _) | (with_reducible show KdsFill _ _ _ _ _ _ _ _)))); (first | walk1 | (dsimp only; walk1)))))
  exact hq _
end Mine
end
section
open PySem PySem.W PySem.Calls PyProof.Rows PySem.W.X PySem.Builtin
set_option maxRecDepth 100000
set_option maxHeartbeats 4000000
namespace Mine
variable {w : World} {A : Around} {E : Value → Shared → Prop} {h : Heap} {g : Array GenState} {dr : Drawn} {tk : Nat} {os : OsState}
/-- a key: an object of the class, its slot filled -/
noncomputable abbrev keyO (K dd v : Addr) : Obj := { cls := .ref K, dict := some dd, data := .plain, slots := #[some (.ref v)] }
section
theorem Mm.up {h₀ h' : Heap} {news : List (Addr × Obj)} (D : Mm h₀ h news) (k : Kp h h') : Mm h₀ h' news := ⟨fun b o e => k _ _ (D.keep _ _ e), fun p hp => ⟨k _ _ (D.nw p hp).1, (D.nw p hp).2⟩, D.nd⟩
theorem hNsC {h₀ : Heap} {news : List (Addr × Obj)} {D : Mm h₀ h news} {a : Addr} {m : Str → Option Value} {name : Str} {v : Option Value} {Q : Option Value → Shared → Prop} (hB : h.Ns a m) (e : m name = v) (x : Q v ⟨hp D, g, dr, tk, os⟩) : wpAny (model PR w) A (nsGet a name) Q E ⟨hp D, g, dr, tk, os⟩ :=
  wpAny_nsGet (show (hp D).Ns a m from hB) (by rw [e]; exact x)
noncomputable abbrev instO (K dd : Addr) : Obj := { cls := .ref K, dict := some dd }
theorem init_spec {h₀ : Heap} {K f1 f2 ds c x dd v : Addr} {Q : Value → Shared → Prop} (hlim : h₀.NoLimit) (KA : KeyAt h₀ K f1 f2 ds c) (D : Mm h₀ h [(x, instO K dd), (dd, dicO #[] 0)]) (hr : A.depth < recursionLimit)
    (hq : ∀ h' tk', Mm h₀ h' [(x, keyO K dd v), (dd, dicO #[] 0)] → Q .none ⟨h', g, dr, tk', os⟩) :
    wpAny (model PR w) A (call (.ref f1) [.ref x, .ref v]) Q E ⟨h, g, dr, tk, os⟩ := by
  obtain ⟨⟨ns, b, t, m1, hK, hs, ts, m0, m2, sl, f3, f4, f5, f6, st, nd, hns⟩, ⟨tm, hm⟩, ⟨c1, ct1, o1, hf1, hc1, ⟨v1, t1, rfl⟩⟩, ⟨c2, ct2, o2, hf2, hc2, i2⟩, ⟨oc, hoc, hoc'⟩⟩ := KA
  clear hf2 hc2 i2 hoc hoc'
  have ef : fnOf (clsBody.getD 2 (.Pass default)) "cmp_to_key.<locals>.K.__init__" [] (.ref c1) ct1 = fnOf (clsBody.getD 2 (.Pass default)) "cmp_to_key.<locals>.K.__init__" [] (.ref c1) ct1 := rfl
  conv at ef => rhs; whnf
  rw [ef] at hf1
  clear ef
  refine wpAny_call (enterX (s := ⟨h, g, dr, tk, os⟩) (binds := [("self", .ref x), ("obj", .ref v)]) hr (D.keep _ _ hf1) rfl (hlim.keeps D.keep) ⟨c1, _, _, _, rfl, D.keep _ _ hc1, rfl, rfl⟩ (BindsTo.of_eq rfl) (by decide) (locs rfl) (News.nil (h₀ := h) (L := 0)) (fun h₁ F N => ?_))
  have hk₁ : Kp h h₁ := fun b o e => F.keep b o (hideAll_get _ e (by simp))
  have hns₁ := F.ns
  have D₁ := D.up hk₁
  have e1 : (List.lookup (Str.ofString "self") ([("self", Value.ref x), ("obj", .ref v)] : List (Str × Value)).reverse) = some (.ref x) := by kernel_rfl
  have e2 : (List.lookup (Str.ofString "obj") ([("self", Value.ref x), ("obj", .ref v)] : List (Str × Value)).reverse) = some (.ref v) := by kernel_rfl
  dsimp -zeta only at hns₁ ⊢
  clear D
  refine hIn' D₁ ?_
  refine wpAny_execs_cons ?_
  repeat ((fail_if_success (with_reducible show codeAny _ _ _ _ _)); (fail_if_success (with_reducible show wpAny _ _ (nsGet _ _) _ _ _)); (first | with_reducible refine wpAny_onRaise ?_ | ((with_reducible show wpAny _ _ enterFrame _ _ _); (with_reducible rename Heap.NoLimit _ => hl); refine Mine.hEnter hl (by decide) ?_) | ((with_reducible show wpAny _ _ (List.mapM.loop mkText (Scope.freeNames _) []) _ _ _); (first | (rw [Mine.free1 (x := Str.ofString "mycmp") ?hfr]; (case hfr => (kernel_rfl!; done))) | (rw [Mine.free0 ?hfr]; (case hfr => (kernel_rfl!; done))))) | with_reducible refine Mine.bqIn ?_ | with_reducible refine Mine.bqGo ?_ | with_reducible refine PySem.wpAny_pure ?_ | with_reducible refine PySem.wpAny_rule ?_ | with_reducible refine PySem.wpAny_holding ?_ | with_reducible refine PySem.wpAny_standAt ?_ | with_reducible refine PySem.wpAny_point ?_ | with_reducible refine PySem.wpAny_fresh' ?_ | with_reducible refine Mine.wpTry ?_ | with_reducible refine PySem.wpAny_askSetting ?_ | ((with_reducible show wpAny _ _ (alloc _) _ _ _); (refine Mine.hAlloc rfl ?_); intro _ _ _) | ((with_reducible show wpAny _ _ (ite _ _ _) _ _ _); (first | (refine PySem.wpAny_ite_false ?hc ?_; (case hc => (kernel_rfl!; done))) | (refine PySem.wpAny_ite_true ?hc ?_; (case hc => (kernel_rfl!; done))) | (refine PySem.wpAny_ite_false ?hc ?_; (case hc => (simp [*]; done))) | (refine PySem.wpAny_ite_true ?hc ?_; (case hc => (simp [*]; done))))) | ((with_reducible show wpAny _ _ (load _) _ _ _); (first | (refine' Mine.hLd ?hm ?_; (case hm => (first | (repeat (first | exact List.Mem.head _ | apply List.Mem.tail))))) | (refine Mine.hOl (by with_reducible assumption) ?_) | ((with_reducible rename Frag.In _ _ => XF); (refine Mine.hOl (XF _ _ rfl) ?_)))) | ((with_reducible show wpAny _ _ (loadPart _ _) _ _ _); (first | (refine' Mine.hLdP ?hm ?_; (case hm => (first | (repeat (first | exact List.Mem.head _ | apply List.Mem.tail))))) | (refine Mine.hOlP (by with_reducible assumption) ?_) | ((with_reducible rename Frag.In _ _ => XF); (refine Mine.hOlP (XF _ _ rfl) ?_)))) | ((with_reducible show wpAny _ _ (update _ _) _ _ _); (first | (refine' Mine.hUpd ?hu ?hf ?_; (case hu => (repeat (first | exact Mine.Up.head | apply Mine.Up.tail))); (case hf => rfl)) | (refine' Mine.hUpdP ?hu ?hf ?_; (case hu => (repeat (first | exact Mine.Up.head | apply Mine.Up.tail))); (case hf => rfl)))) | ((with_reducible show wpAny _ _ (updatePart _ _ _) _ _ _); (first | (refine' Mine.hUpd ?hu ?hf ?_; (case hu => (repeat (first | exact Mine.Up.head | apply Mine.Up.tail))); (case hf => rfl)) | (refine' Mine.hUpdP ?hu ?hf ?_; (case hu => (repeat (first | exact Mine.Up.head | apply Mine.Up.tail))); (case hf => rfl)))) | ((with_reducible show wpAny _ _ (isSubtype (.type _) _) _ _ _); refine wpAny_of_eq (a := true) ?hc ?_; (case hc => (rw [isSubtype_type]; kernel_rfl!))) | ((with_reducible show wpAny _ _ (PySem.Builtin.notOverATurnedClass _) _ _ _); refine wpAny_of_eq (a := ()) ?hc ?_; (case hc => kernel_rfl!)) | ((first | (with_reducible show wpAny _ _ (PySem.Builtin.extendedBase _) _ _ _) | (with_reducible show wpAny _ _ (PySem.Builtin.Slots.bestBase _) _ _ _)); refine wpAny_of_eq (a := .type "object") ?hc ?_; (case hc => kernel_rfl!)) | ((first | (with_reducible show wpAny _ _ (PySem.Builtin.Slots.givesDict _) _ _ _) | (with_reducible show wpAny _ _ (PySem.Builtin.Slots.givesWeak _) _ _ _) | (with_reducible show wpAny _ _ (PySem.Builtin.Slots.varSize _) _ _ _)); refine wpAny_of_eq (a := false) ?hc ?_; (case hc => kernel_rfl!)) | ((with_reducible show wpAny _ _ (typeLookup (.ref _) _) _ _ _); unfold typeLookup) | ((with_reducible show wpAny _ _ (classOwn (.type _) _) _ _ _); (first | (refine wpAny_of_eq (a := some (.builtin "object.__new__")) ?hc ?_; (case hc => kernel_rfl!)) | (refine wpAny_of_eq (a := none) ?hc ?_; (case hc => kernel_rfl!)))) | ((with_reducible show wpAny _ _ (typeLookup (.type _) _) _ _ _); (refine wpAny_of_eq (a := none) ?hc ?_; (case hc => (rw [typeLookup_type, builtinLookup_eq_fast]; kernel_rfl!)))) | ((with_reducible show wpAny _ _ (PySem.Builtin.mroHook? _) _ _ _); refine wpAny_of_eq (a := none) ?hc ?_; (case hc => kernel_rfl!)) | ((with_reducible show wpAny _ _ (PySem.Builtin.linearize _ _) _ _ _); refine wpAny_of_eq (a := [.type "object"]) ?hc ?_; (case hc => kernel_rfl!)) | ((with_reducible show wpAny _ _ (Bind.madeBy (.type _)) _ _ _); (first | (refine wpAny_of_eq (a := some "type.__new__") ?hc ?_; (case hc => kernel_rfl!)) | (refine wpAny_of_eq (a := some "object.__new__") ?hc ?_; (case hc => kernel_rfl!)))) | ((fail_if_success (with_reducible show wpAny _ _ (List.anyM _ _) _ _ _)); (fail_if_success (with_reducible show wpAny _ _ (call _ _ _) _ _ _)); (fail_if_success (with_reducible show wpAny _ _ (collect _) _ _ _)); (fail_if_success (with_reducible show wpAny _ _ (PySem.Builtin.Slots.read _ _ _) _ _ _)); (first | wp_delta | wp_step))))
  refine hNsC hns₁ e2 ?_
  repeat ((fail_if_success (with_reducible show codeAny _ _ _ _ _)); (fail_if_success (with_reducible show wpAny _ _ (nsGet _ _) _ _ _)); (first | with_reducible refine wpAny_onRaise ?_ | ((with_reducible show wpAny _ _ enterFrame _ _ _); (with_reducible rename Heap.NoLimit _ => hl); refine Mine.hEnter hl (by decide) ?_) | ((with_reducible show wpAny _ _ (List.mapM.loop mkText (Scope.freeNames _) []) _ _ _); (first | (rw [Mine.free1 (x := Str.ofString "mycmp") ?hfr]; (case hfr => (kernel_rfl!; done))) | (rw [Mine.free0 ?hfr]; (case hfr => (kernel_rfl!; done))))) | with_reducible refine Mine.bqIn ?_ | with_reducible refine Mine.bqGo ?_ | with_reducible refine PySem.wpAny_pure ?_ | with_reducible refine PySem.wpAny_rule ?_ | with_reducible refine PySem.wpAny_holding ?_ | with_reducible refine PySem.wpAny_standAt ?_ | with_reducible refine PySem.wpAny_point ?_ | with_reducible refine PySem.wpAny_fresh' ?_ | with_reducible refine Mine.wpTry ?_ | with_reducible refine PySem.wpAny_askSetting ?_ | ((with_reducible show wpAny _ _ (alloc _) _ _ _); (refine Mine.hAlloc rfl ?_); intro _ _ _) | ((with_reducible show wpAny _ _ (ite _ _ _) _ _ _); (first | (refine PySem.wpAny_ite_false ?hc ?_; (case hc => (kernel_rfl!; done))) | (refine PySem.wpAny_ite_true ?hc ?_; (case hc => (kernel_rfl!; done))) | (refine PySem.wpAny_ite_false ?hc ?_; (case hc => (simp [*]; done))) | (refine PySem.wpAny_ite_true ?hc ?_; (case hc => (simp [*]; done))))) | ((with_reducible show wpAny _ _ (load _) _ _ _); (first | (refine' Mine.hLd ?hm ?_; (case hm => (first | (repeat (first | exact List.Mem.head _ | apply List.Mem.tail))))) | (refine Mine.hOl (by with_reducible assumption) ?_) | ((with_reducible rename Frag.In _ _ => XF); (refine Mine.hOl (XF _ _ rfl) ?_)))) | ((with_reducible show wpAny _ _ (loadPart _ _) _ _ _); (first | (refine' Mine.hLdP ?hm ?_; (case hm => (first | (repeat (first | exact List.Mem.head _ | apply List.Mem.tail))))) | (refine Mine.hOlP (by with_reducible assumption) ?_) | ((with_reducible rename Frag.In _ _ => XF); (refine Mine.hOlP (XF _ _ rfl) ?_)))) | ((with_reducible show wpAny _ _ (update _ _) _ _ _); (first | (refine' Mine.hUpd ?hu ?hf ?_; (case hu => (repeat (first | exact Mine.Up.head | apply Mine.Up.tail))); (case hf => rfl)) | (refine' Mine.hUpdP ?hu ?hf ?_; (case hu => (repeat (first | exact Mine.Up.head | apply Mine.Up.tail))); (case hf => rfl)))) | ((with_reducible show wpAny _ _ (updatePart _ _ _) _ _ _); (first | (refine' Mine.hUpd ?hu ?hf ?_; (case hu => (repeat (first | exact Mine.Up.head | apply Mine.Up.tail))); (case hf => rfl)) | (refine' Mine.hUpdP ?hu ?hf ?_; (case hu => (repeat (first | exact Mine.Up.head | apply Mine.Up.tail))); (case hf => rfl)))) | ((with_reducible show wpAny _ _ (isSubtype (.type _) _) _ _ _); refine wpAny_of_eq (a := true) ?hc ?_; (case hc => (rw [isSubtype_type]; kernel_rfl!))) | ((with_reducible show wpAny _ _ (PySem.Builtin.notOverATurnedClass _) _ _ _); refine wpAny_of_eq (a := ()) ?hc ?_; (case hc => kernel_rfl!)) | ((first | (with_reducible show wpAny _ _ (PySem.Builtin.extendedBase _) _ _ _) | (with_reducible show wpAny _ _ (PySem.Builtin.Slots.bestBase _) _ _ _)); refine wpAny_of_eq (a := .type "object") ?hc ?_; (case hc => kernel_rfl!)) | ((first | (with_reducible show wpAny _ _ (PySem.Builtin.Slots.givesDict _) _ _ _) | (with_reducible show wpAny _ _ (PySem.Builtin.Slots.givesWeak _) _ _ _) | (with_reducible show wpAny _ _ (PySem.Builtin.Slots.varSize _) _ _ _)); refine wpAny_of_eq (a := false) ?hc ?_; (case hc => kernel_rfl!)) | ((with_reducible show wpAny _ _ (typeLookup (.ref _) _) _ _ _); unfold typeLookup) | ((with_reducible show wpAny _ _ (classOwn (.type _) _) _ _ _); (first | (refine wpAny_of_eq (a := some (.builtin "object.__new__")) ?hc ?_; (case hc => kernel_rfl!)) | (refine wpAny_of_eq (a := none) ?hc ?_; (case hc => kernel_rfl!)))) | ((with_reducible show wpAny _ _ (typeLookup (.type _) _) _ _ _); (refine wpAny_of_eq (a := none) ?hc ?_; (case hc => (rw [typeLookup_type, builtinLookup_eq_fast]; kernel_rfl!)))) | ((with_reducible show wpAny _ _ (PySem.Builtin.mroHook? _) _ _ _); refine wpAny_of_eq (a := none) ?hc ?_; (case hc => kernel_rfl!)) | ((with_reducible show wpAny _ _ (PySem.Builtin.linearize _ _) _ _ _); refine wpAny_of_eq (a := [.type "object"]) ?hc ?_; (case hc => kernel_rfl!)) | ((with_reducible show wpAny _ _ (Bind.madeBy (.type _)) _ _ _); (first | (refine wpAny_of_eq (a := some "type.__new__") ?hc ?_; (case hc => kernel_rfl!)) | (refine wpAny_of_eq (a := some "object.__new__") ?hc ?_; (case hc => kernel_rfl!)))) | ((fail_if_success (with_reducible show wpAny _ _ (List.anyM _ _) _ _ _)); (fail_if_success (with_reducible show wpAny _ _ (call _ _ _) _ _ _)); (fail_if_success (with_reducible show wpAny _ _ (collect _) _ _ _)); (fail_if_success (with_reducible show wpAny _ _ (PySem.Builtin.Slots.read _ _ _) _ _ _)); (first | wp_delta | wp_step))))
  refine hNsC hns₁ e1 ?_
  repeat ((fail_if_success (with_reducible show codeAny _ _ _ _ _)); (fail_if_success (with_reducible show wpAny _ _ (nsGet _ _) _ _ _)); (first | with_reducible refine wpAny_onRaise ?_ | ((with_reducible show wpAny _ _ enterFrame _ _ _); (with_reducible rename Heap.NoLimit _ => hl); refine Mine.hEnter hl (by decide) ?_) | ((with_reducible show wpAny _ _ (List.mapM.loop mkText (Scope.freeNames _) []) _ _ _); (first | (rw [Mine.free1 (x := Str.ofString "mycmp") ?hfr]; (case hfr => (kernel_rfl!; done))) | (rw [Mine.free0 ?hfr]; (case hfr => (kernel_rfl!; done))))) | with_reducible refine Mine.bqIn ?_ | with_reducible refine Mine.bqGo ?_ | with_reducible refine PySem.wpAny_pure ?_ | with_reducible refine PySem.wpAny_rule ?_ | with_reducible refine PySem.wpAny_holding ?_ | with_reducible refine PySem.wpAny_standAt ?_ | with_reducible refine PySem.wpAny_point ?_ | with_reducible refine PySem.wpAny_fresh' ?_ | with_reducible refine Mine.wpTry ?_ | with_reducible refine PySem.wpAny_askSetting ?_ | ((with_reducible show wpAny _ _ (alloc _) _ _ _); (refine Mine.hAlloc rfl ?_); intro _ _ _) | ((with_reducible show wpAny _ _ (ite _ _ _) _ _ _); (first | (refine PySem.wpAny_ite_false ?hc ?_; (case hc => (kernel_rfl!; done))) | (refine PySem.wpAny_ite_true ?hc ?_; (case hc => (kernel_rfl!; done))) | (refine PySem.wpAny_ite_false ?hc ?_; (case hc => (simp [*]; done))) | (refine PySem.wpAny_ite_true ?hc ?_; (case hc => (simp [*]; done))))) | ((with_reducible show wpAny _ _ (load _) _ _ _); (first | (refine' Mine.hLd ?hm ?_; (case hm => (first | (repeat (first | exact List.Mem.head _ | apply List.Mem.tail))))) | (refine Mine.hOl (by with_reducible assumption) ?_) | ((with_reducible rename Frag.In _ _ => XF); (refine Mine.hOl (XF _ _ rfl) ?_)))) | ((with_reducible show wpAny _ _ (loadPart _ _) _ _ _); (first | (refine' Mine.hLdP ?hm ?_; (case hm => (first | (repeat (first | exact List.Mem.head _ | apply List.Mem.tail))))) | (refine Mine.hOlP (by with_reducible assumption) ?_) | ((with_reducible rename Frag.In _ _ => XF); (refine Mine.hOlP (XF _ _ rfl) ?_)))) | ((with_reducible show wpAny _ _ (update _ _) _ _ _); (first | (refine' Mine.hUpd ?hu ?hf ?_; (case hu => (repeat (first | exact Mine.Up.head | apply Mine.Up.tail))); (case hf => rfl)) | (refine' Mine.hUpdP ?hu ?hf ?_; (case hu => (repeat (first | exact Mine.Up.head | apply Mine.Up.tail))); (case hf => rfl)))) | ((with_reducible show wpAny _ _ (updatePart _ _ _) _ _ _); (first | (refine' Mine.hUpd ?hu ?hf ?_; (case hu => (repeat (first | exact Mine.Up.head | apply Mine.Up.tail))); (case hf => rfl)) | (refine' Mine.hUpdP ?hu ?hf ?_; (case hu => (repeat (first | exact Mine.Up.head | apply Mine.Up.tail))); (case hf => rfl)))) | ((with_reducible show wpAny _ _ (isSubtype (.type _) _) _ _ _); refine wpAny_of_eq (a := true) ?hc ?_; (case hc => (rw [isSubtype_type]; kernel_rfl!))) | ((with_reducible show wpAny _ _ (PySem.Builtin.notOverATurnedClass _) _ _ _); refine wpAny_of_eq (a := ()) ?hc ?_; (case hc => kernel_rfl!)) | ((first | (with_reducible show wpAny _ _ (PySem.Builtin.extendedBase _) _ _ _) | (with_reducible show wpAny _ _ (PySem.Builtin.Slots.bestBase _) _ _ _)); refine wpAny_of_eq (a := .type "object") ?hc ?_; (case hc => kernel_rfl!)) | ((first | (with_reducible show wpAny _ _ (PySem.Builtin.Slots.givesDict _) _ _ _) | (with_reducible show wpAny _ _ (PySem.Builtin.Slots.givesWeak _) _ _ _) | (with_reducible show wpAny _ _ (PySem.Builtin.Slots.varSize _) _ _ _)); refine wpAny_of_eq (a := false) ?hc ?_; (case hc => kernel_rfl!)) | ((with_reducible show wpAny _ _ (typeLookup (.ref _) _) _ _ _); unfold typeLookup) | ((with_reducible show wpAny _ _ (classOwn (.type _) _) _ _ _); (first | (refine wpAny_of_eq (a := some (.builtin "object.__new__")) ?hc ?_; (case hc => kernel_rfl!)) | (refine wpAny_of_eq (a := none) ?hc ?_; (case hc => kernel_rfl!)))) | ((with_reducible show wpAny _ _ (typeLookup (.type _) _) _ _ _); (refine wpAny_of_eq (a := none) ?hc ?_; (case hc => (rw [typeLookup_type, builtinLookup_eq_fast]; kernel_rfl!)))) | ((with_reducible show wpAny _ _ (PySem.Builtin.mroHook? _) _ _ _); refine wpAny_of_eq (a := none) ?hc ?_; (case hc => kernel_rfl!)) | ((with_reducible show wpAny _ _ (PySem.Builtin.linearize _ _) _ _ _); refine wpAny_of_eq (a := [.type "object"]) ?hc ?_; (case hc => kernel_rfl!)) | ((with_reducible show wpAny _ _ (Bind.madeBy (.type _)) _ _ _); (first | (refine wpAny_of_eq (a := some "type.__new__") ?hc ?_; (case hc => kernel_rfl!)) | (refine wpAny_of_eq (a := some "object.__new__") ?hc ?_; (case hc => kernel_rfl!)))) | ((fail_if_success (with_reducible show wpAny _ _ (List.anyM _ _) _ _ _)); (fail_if_success (with_reducible show wpAny _ _ (call _ _ _) _ _ _)); (fail_if_success (with_reducible show wpAny _ _ (collect _) _ _ _)); (fail_if_success (with_reducible show wpAny _ _ (PySem.Builtin.Slots.read _ _ _) _ _ _)); (first | wp_delta | wp_step))))
  repeat ((fail_if_success (with_reducible show codeAny _ _ _ _ _)); (first | with_reducible refine wpAny_onRaise ?_ | ((with_reducible show wpAny _ _ enterFrame _ _ _); (with_reducible rename Heap.NoLimit _ => hl); refine Mine.hEnter hl (by decide) ?_) | ((with_reducible show wpAny _ _ (List.mapM.loop mkText (Scope.freeNames _) []) _ _ _); (first | (rw [Mine.free1 (x := Str.ofString "mycmp") ?hfr]; (case hfr => (kernel_rfl!; done))) | (rw [Mine.free0 ?hfr]; (case hfr => (kernel_rfl!; done))))) | with_reducible refine Mine.bqIn ?_ | with_reducible refine Mine.bqGo ?_ | with_reducible refine PySem.wpAny_pure ?_ | with_reducible refine PySem.wpAny_rule ?_ | with_reducible refine PySem.wpAny_holding ?_ | with_reducible refine PySem.wpAny_standAt ?_ | with_reducible refine PySem.wpAny_point ?_ | with_reducible refine PySem.wpAny_fresh' ?_ | with_reducible refine Mine.wpTry ?_ | with_reducible refine PySem.wpAny_askSetting ?_ | ((with_reducible show wpAny _ _ (alloc _) _ _ _); (refine Mine.hAlloc rfl ?_); intro _ _ _) | ((with_reducible show wpAny _ _ (ite _ _ _) _ _ _); (first | (refine PySem.wpAny_ite_false ?hc ?_; (case hc => (kernel_rfl!; done))) | (refine PySem.wpAny_ite_true ?hc ?_; (case hc => (kernel_rfl!; done))) | (refine PySem.wpAny_ite_false ?hc ?_; (case hc => (simp [*]; done))) | (refine PySem.wpAny_ite_true ?hc ?_; (case hc => (simp [*]; done))))) | ((with_reducible show wpAny _ _ (load _) _ _ _); (first | (refine' Mine.hLd ?hm ?_; (case hm => (first | (repeat (first | exact List.Mem.head _ | apply List.Mem.tail))))) | (refine Mine.hOl (by with_reducible assumption) ?_) | ((with_reducible rename Frag.In _ _ => XF); (refine Mine.hOl (XF _ _ rfl) ?_)))) | ((with_reducible show wpAny _ _ (loadPart _ _) _ _ _); (first | (refine' Mine.hLdP ?hm ?_; (case hm => (first | (repeat (first | exact List.Mem.head _ | apply List.Mem.tail))))) | (refine Mine.hOlP (by with_reducible assumption) ?_) | ((with_reducible rename Frag.In _ _ => XF); (refine Mine.hOlP (XF _ _ rfl) ?_)))) | ((with_reducible show wpAny _ _ (update _ _) _ _ _); (first | (refine' Mine.hUpd ?hu ?hf ?_; (case hu => (repeat (first | exact Mine.Up.head | apply Mine.Up.tail))); (case hf => rfl)) | (refine' Mine.hUpdP ?hu ?hf ?_; (case hu => (repeat (first | exact Mine.Up.head | apply Mine.Up.tail))); (case hf => rfl)))) | ((with_reducible show wpAny _ _ (updatePart _ _ _) _ _ _); (first | (refine' Mine.hUpd ?hu ?hf ?_; (case hu => (repeat (first | exact Mine.Up.head | apply Mine.Up.tail))); (case hf => rfl)) | (refine' Mine.hUpdP ?hu ?hf ?_; (case hu => (repeat (first | exact Mine.Up.head | apply Mine.Up.tail))); (case hf => rfl)))) | ((with_reducible show wpAny _ _ (isSubtype (.type _) _) _ _ _); refine wpAny_of_eq (a := true) ?hc ?_; (case hc => (rw [isSubtype_type]; kernel_rfl!))) | ((with_reducible show wpAny _ _ (PySem.Builtin.notOverATurnedClass _) _ _ _); refine wpAny_of_eq (a := ()) ?hc ?_; (case hc => kernel_rfl!)) | ((first | (with_reducible show wpAny _ _ (PySem.Builtin.extendedBase _) _ _ _) | (with_reducible show wpAny _ _ (PySem.Builtin.Slots.bestBase _) _ _ _)); refine wpAny_of_eq (a := .type "object") ?hc ?_; (case hc => kernel_rfl!)) | ((first | (with_reducible show wpAny _ _ (PySem.Builtin.Slots.givesDict _) _ _ _) | (with_reducible show wpAny _ _ (PySem.Builtin.Slots.givesWeak _) _ _ _) | (with_reducible show wpAny _ _ (PySem.Builtin.Slots.varSize _) _ _ _)); refine wpAny_of_eq (a := false) ?hc ?_; (case hc => kernel_rfl!)) | ((with_reducible show wpAny _ _ (typeLookup (.ref _) _) _ _ _); unfold typeLookup) | ((with_reducible show wpAny _ _ (classOwn (.type _) _) _ _ _); (first | (refine wpAny_of_eq (a := some (.builtin "object.__new__")) ?hc ?_; (case hc => kernel_rfl!)) | (refine wpAny_of_eq (a := none) ?hc ?_; (case hc => kernel_rfl!)))) | ((with_reducible show wpAny _ _ (typeLookup (.type _) _) _ _ _); (refine wpAny_of_eq (a := none) ?hc ?_; (case hc => (rw [typeLookup_type, builtinLookup_eq_fast]; kernel_rfl!)))) | ((with_reducible show wpAny _ _ (PySem.Builtin.mroHook? _) _ _ _); refine wpAny_of_eq (a := none) ?hc ?_; (case hc => kernel_rfl!)) | ((with_reducible show wpAny _ _ (PySem.Builtin.linearize _ _) _ _ _); refine wpAny_of_eq (a := [.type "object"]) ?hc ?_; (case hc => kernel_rfl!)) | ((with_reducible show wpAny _ _ (Bind.madeBy (.type _)) _ _ _); (first | (refine wpAny_of_eq (a := some "type.__new__") ?hc ?_; (case hc => kernel_rfl!)) | (refine wpAny_of_eq (a := some "object.__new__") ?hc ?_; (case hc => kernel_rfl!)))) | ((fail_if_success (with_reducible show wpAny _ _ (List.anyM _ _) _ _ _)); (fail_if_success (with_reducible show wpAny _ _ (call _ _ _) _ _ _)); (fail_if_success (with_reducible show wpAny _ _ (collect _) _ _ _)); (fail_if_success (with_reducible show wpAny _ _ (PySem.Builtin.Slots.read _ _ _) _ _ _)); (first | wp_delta | wp_step))))
  refine wpAny_of_eq (a := (Value.builtin "object.__setattr__", [Value.ref x])) (by kernel_rfl) ?_
  repeat ((fail_if_success (with_reducible show codeAny _ _ _ _ _)); (first | with_reducible refine wpAny_onRaise ?_ | ((with_reducible show wpAny _ _ enterFrame _ _ _); (with_reducible rename Heap.NoLimit _ => hl); refine Mine.hEnter hl (by decide) ?_) | ((with_reducible show wpAny _ _ (List.mapM.loop mkText (Scope.freeNames _) []) _ _ _); (first | (rw [Mine.free1 (x := Str.ofString "mycmp") ?hfr]; (case hfr => (kernel_rfl!; done))) | (rw [Mine.free0 ?hfr]; (case hfr => (kernel_rfl!; done))))) | with_reducible refine Mine.bqIn ?_ | with_reducible refine Mine.bqGo ?_ | with_reducible refine PySem.wpAny_pure ?_ | with_reducible refine PySem.wpAny_rule ?_ | with_reducible refine PySem.wpAny_holding ?_ | with_reducible refine PySem.wpAny_standAt ?_ | with_reducible refine PySem.wpAny_point ?_ | with_reducible refine PySem.wpAny_fresh' ?_ | with_reducible refine Mine.wpTry ?_ | with_reducible refine PySem.wpAny_askSetting ?_ | ((with_reducible show wpAny _ _ (alloc _) _ _ _); (refine Mine.hAlloc rfl ?_); intro _ _ _) | ((with_reducible show wpAny _ _ (ite _ _ _) _ _ _); (first | (refine PySem.wpAny_ite_false ?hc ?_; (case hc => (kernel_rfl!; done))) | (refine PySem.wpAny_ite_true ?hc ?_; (case hc => (kernel_rfl!; done))) | (refine PySem.wpAny_ite_false ?hc ?_; (case hc => (simp [*]; done))) | (refine PySem.wpAny_ite_true ?hc ?_; (case hc => (simp [*]; done))))) | ((with_reducible show wpAny _ _ (load _) _ _ _); (first | (refine' Mine.hLd ?hm ?_; (case hm => (first | (repeat (first | exact List.Mem.head _ | apply List.Mem.tail))))) | (refine Mine.hOl (by with_reducible assumption) ?_) | ((with_reducible rename Frag.In _ _ => XF); (refine Mine.hOl (XF _ _ rfl) ?_)))) | ((with_reducible show wpAny _ _ (loadPart _ _) _ _ _); (first | (refine' Mine.hLdP ?hm ?_; (case hm => (first | (repeat (first | exact List.Mem.head _ | apply List.Mem.tail))))) | (refine Mine.hOlP (by with_reducible assumption) ?_) | ((with_reducible rename Frag.In _ _ => XF); (refine Mine.hOlP (XF _ _ rfl) ?_)))) | ((with_reducible show wpAny _ _ (update _ _) _ _ _); (first | (refine' Mine.hUpd ?hu ?hf ?_; (case hu => (repeat (first | exact Mine.Up.head | apply Mine.Up.tail))); (case hf => rfl)) | (refine' Mine.hUpdP ?hu ?hf ?_; (case hu => (repeat (first | exact Mine.Up.head | apply Mine.Up.tail))); (case hf => rfl)))) | ((with_reducible show wpAny _ _ (updatePart _ _ _) _ _ _); (first | (refine' Mine.hUpd ?hu ?hf ?_; (case hu => (repeat (first | exact Mine.Up.head | apply Mine.Up.tail))); (case hf => rfl)) | (refine' Mine.hUpdP ?hu ?hf ?_; (case hu => (repeat (first | exact Mine.Up.head | apply Mine.Up.tail))); (case hf => rfl)))) | ((with_reducible show wpAny _ _ (isSubtype (.type _) _) _ _ _); refine wpAny_of_eq (a := true) ?hc ?_; (case hc => (rw [isSubtype_type]; kernel_rfl!))) | ((with_reducible show wpAny _ _ (PySem.Builtin.notOverATurnedClass _) _ _ _); refine wpAny_of_eq (a := ()) ?hc ?_; (case hc => kernel_rfl!)) | ((first | (with_reducible show wpAny _ _ (PySem.Builtin.extendedBase _) _ _ _) | (with_reducible show wpAny _ _ (PySem.Builtin.Slots.bestBase _) _ _ _)); refine wpAny_of_eq (a := .type "object") ?hc ?_; (case hc => kernel_rfl!)) | ((first | (with_reducible show wpAny _ _ (PySem.Builtin.Slots.givesDict _) _ _ _) | (with_reducible show wpAny _ _ (PySem.Builtin.Slots.givesWeak _) _ _ _) | (with_reducible show wpAny _ _ (PySem.Builtin.Slots.varSize _) _ _ _)); refine wpAny_of_eq (a := false) ?hc ?_; (case hc => kernel_rfl!)) | ((with_reducible show wpAny _ _ (typeLookup (.ref _) _) _ _ _); unfold typeLookup) | ((with_reducible show wpAny _ _ (classOwn (.type _) _) _ _ _); (first | (refine wpAny_of_eq (a := some (.builtin "object.__new__")) ?hc ?_; (case hc => kernel_rfl!)) | (refine wpAny_of_eq (a := none) ?hc ?_; (case hc => kernel_rfl!)))) | ((with_reducible show wpAny _ _ (typeLookup (.type _) _) _ _ _); (refine wpAny_of_eq (a := none) ?hc ?_; (case hc => (rw [typeLookup_type, builtinLookup_eq_fast]; kernel_rfl!)))) | ((with_reducible show wpAny _ _ (PySem.Builtin.mroHook? _) _ _ _); refine wpAny_of_eq (a := none) ?hc ?_; (case hc => kernel_rfl!)) | ((with_reducible show wpAny _ _ (PySem.Builtin.linearize _ _) _ _ _); refine wpAny_of_eq (a := [.type "object"]) ?hc ?_; (case hc => kernel_rfl!)) | ((with_reducible show wpAny _ _ (Bind.madeBy (.type _)) _ _ _); (first | (refine wpAny_of_eq (a := some "type.__new__") ?hc ?_; (case hc => kernel_rfl!)) | (refine wpAny_of_eq (a := some "object.__new__") ?hc ?_; (case hc => kernel_rfl!)))) | ((fail_if_success (with_reducible show wpAny _ _ (List.anyM _ _) _ _ _)); (fail_if_success (with_reducible show wpAny _ _ (call _ _ _) _ _ _)); (fail_if_success (with_reducible show wpAny _ _ (collect _) _ _ _)); (fail_if_success (with_reducible show wpAny _ _ (PySem.Builtin.Slots.read _ _ _) _ _ _)); (first | wp_delta | wp_step))))
  refine wpAny_call (codeAny_call_builtin (by decide +kernel) (entryFor_of_tree (b := Builtin.«object.__setattr__») (by kernel_rfl)) ?_)
  unfold checkBuiltinCall
  repeat ((fail_if_success (with_reducible show codeAny _ _ _ _ _)); (first | with_reducible refine wpAny_onRaise ?_ | ((with_reducible show wpAny _ _ enterFrame _ _ _); (with_reducible rename Heap.NoLimit _ => hl); refine Mine.hEnter hl (by decide) ?_) | ((with_reducible show wpAny _ _ (List.mapM.loop mkText (Scope.freeNames _) []) _ _ _); (first | (rw [Mine.free1 (x := Str.ofString "mycmp") ?hfr]; (case hfr => (kernel_rfl!; done))) | (rw [Mine.free0 ?hfr]; (case hfr => (kernel_rfl!; done))))) | with_reducible refine Mine.bqIn ?_ | with_reducible refine Mine.bqGo ?_ | with_reducible refine PySem.wpAny_pure ?_ | with_reducible refine PySem.wpAny_rule ?_ | with_reducible refine PySem.wpAny_holding ?_ | with_reducible refine PySem.wpAny_standAt ?_ | with_reducible refine PySem.wpAny_point ?_ | with_reducible refine PySem.wpAny_fresh' ?_ | with_reducible refine Mine.wpTry ?_ | with_reducible refine PySem.wpAny_askSetting ?_ | ((with_reducible show wpAny _ _ (alloc _) _ _ _); (refine Mine.hAlloc rfl ?_); intro _ _ _) | ((with_reducible show wpAny _ _ (ite _ _ _) _ _ _); (first | (refine PySem.wpAny_ite_false ?hc ?_; (case hc => (kernel_rfl!; done))) | (refine PySem.wpAny_ite_true ?hc ?_; (case hc => (kernel_rfl!; done))) | (refine PySem.wpAny_ite_false ?hc ?_; (case hc => (simp [*]; done))) | (refine PySem.wpAny_ite_true ?hc ?_; (case hc => (simp [*]; done))))) | ((with_reducible show wpAny _ _ (load _) _ _ _); (first | (refine' Mine.hLd ?hm ?_; (case hm => (first | (repeat (first | exact List.Mem.head _ | apply List.Mem.tail))))) | (refine Mine.hOl (by with_reducible assumption) ?_) | ((with_reducible rename Frag.In _ _ => XF); (refine Mine.hOl (XF _ _ rfl) ?_)))) | ((with_reducible show wpAny _ _ (loadPart _ _) _ _ _); (first | (refine' Mine.hLdP ?hm ?_; (case hm => (first | (repeat (first | exact List.Mem.head _ | apply List.Mem.tail))))) | (refine Mine.hOlP (by with_reducible assumption) ?_) | ((with_reducible rename Frag.In _ _ => XF); (refine Mine.hOlP (XF _ _ rfl) ?_)))) | ((with_reducible show wpAny _ _ (update _ _) _ _ _); (first | (refine' Mine.hUpd ?hu ?hf ?_; (case hu => (repeat (first | exact Mine.Up.head | apply Mine.Up.tail))); (case hf => rfl)) | (refine' Mine.hUpdP ?hu ?hf ?_; (case hu => (repeat (first | exact Mine.Up.head | apply Mine.Up.tail))); (case hf => rfl)))) | ((with_reducible show wpAny _ _ (updatePart _ _ _) _ _ _); (first | (refine' Mine.hUpd ?hu ?hf ?_; (case hu => (repeat (first | exact Mine.Up.head | apply Mine.Up.tail))); (case hf => rfl)) | (refine' Mine.hUpdP ?hu ?hf ?_; (case hu => (repeat (first | exact Mine.Up.head | apply Mine.Up.tail))); (case hf => rfl)))) | ((with_reducible show wpAny _ _ (isSubtype (.type _) _) _ _ _); refine wpAny_of_eq (a := true) ?hc ?_; (case hc => (rw [isSubtype_type]; kernel_rfl!))) | ((with_reducible show wpAny _ _ (PySem.Builtin.notOverATurnedClass _) _ _ _); refine wpAny_of_eq (a := ()) ?hc ?_; (case hc => kernel_rfl!)) | ((first | (with_reducible show wpAny _ _ (PySem.Builtin.extendedBase _) _ _ _) | (with_reducible show wpAny _ _ (PySem.Builtin.Slots.bestBase _) _ _ _)); refine wpAny_of_eq (a := .type "object") ?hc ?_; (case hc => kernel_rfl!)) | ((first | (with_reducible show wpAny _ _ (PySem.Builtin.Slots.givesDict _) _ _ _) | (with_reducible show wpAny _ _ (PySem.Builtin.Slots.givesWeak _) _ _ _) | (with_reducible show wpAny _ _ (PySem.Builtin.Slots.varSize _) _ _ _)); refine wpAny_of_eq (a := false) ?hc ?_; (case hc => kernel_rfl!)) | ((with_reducible show wpAny _ _ (typeLookup (.ref _) _) _ _ _); unfold typeLookup) | ((with_reducible show wpAny _ _ (classOwn (.type _) _) _ _ _); (first | (refine wpAny_of_eq (a := some (.builtin "object.__new__")) ?hc ?_; (case hc => kernel_rfl!)) | (refine wpAny_of_eq (a := none) ?hc ?_; (case hc => kernel_rfl!)))) | ((with_reducible show wpAny _ _ (typeLookup (.type _) _) _ _ _); (refine wpAny_of_eq (a := none) ?hc ?_; (case hc => (rw [typeLookup_type, builtinLookup_eq_fast]; kernel_rfl!)))) | ((with_reducible show wpAny _ _ (PySem.Builtin.mroHook? _) _ _ _); refine wpAny_of_eq (a := none) ?hc ?_; (case hc => kernel_rfl!)) | ((with_reducible show wpAny _ _ (PySem.Builtin.linearize _ _) _ _ _); refine wpAny_of_eq (a := [.type "object"]) ?hc ?_; (case hc => kernel_rfl!)) | ((with_reducible show wpAny _ _ (Bind.madeBy (.type _)) _ _ _); (first | (refine wpAny_of_eq (a := some "type.__new__") ?hc ?_; (case hc => kernel_rfl!)) | (refine wpAny_of_eq (a := some "object.__new__") ?hc ?_; (case hc => kernel_rfl!)))) | ((fail_if_success (with_reducible show wpAny _ _ (List.anyM _ _) _ _ _)); (fail_if_success (with_reducible show wpAny _ _ (call _ _ _) _ _ _)); (fail_if_success (with_reducible show wpAny _ _ (collect _) _ _ _)); (fail_if_success (with_reducible show wpAny _ _ (PySem.Builtin.Slots.read _ _ _) _ _ _)); (first | wp_delta | wp_step))))
  refine hBack (sub_obj (D₁.keep _ _ hK) rfl rfl rfl (by kernel_rfl) (hIn2 D₁ ?_))
  repeat ((fail_if_success (with_reducible show codeAny _ _ _ _ _)); (first | with_reducible refine wpAny_onRaise ?_ | ((with_reducible show wpAny _ _ enterFrame _ _ _); (with_reducible rename Heap.NoLimit _ => hl); refine Mine.hEnter hl (by decide) ?_) | ((with_reducible show wpAny _ _ (List.mapM.loop mkText (Scope.freeNames _) []) _ _ _); (first | (rw [Mine.free1 (x := Str.ofString "mycmp") ?hfr]; (case hfr => (kernel_rfl!; done))) | (rw [Mine.free0 ?hfr]; (case hfr => (kernel_rfl!; done))))) | with_reducible refine Mine.bqIn ?_ | with_reducible refine Mine.bqGo ?_ | with_reducible refine PySem.wpAny_pure ?_ | with_reducible refine PySem.wpAny_rule ?_ | with_reducible refine PySem.wpAny_holding ?_ | with_reducible refine PySem.wpAny_standAt ?_ | with_reducible refine PySem.wpAny_point ?_ | with_reducible refine PySem.wpAny_fresh' ?_ | with_reducible refine Mine.wpTry ?_ | with_reducible refine PySem.wpAny_askSetting ?_ | ((with_reducible show wpAny _ _ (alloc _) _ _ _); (refine Mine.hAlloc rfl ?_); intro _ _ _) | ((with_reducible show wpAny _ _ (ite _ _ _) _ _ _); (first | (refine PySem.wpAny_ite_false ?hc ?_; (case hc => (kernel_rfl!; done))) | (refine PySem.wpAny_ite_true ?hc ?_; (case hc => (kernel_rfl!; done))) | (refine PySem.wpAny_ite_false ?hc ?_; (case hc => (simp [*]; done))) | (refine PySem.wpAny_ite_true ?hc ?_; (case hc => (simp [*]; done))))) | ((with_reducible show wpAny _ _ (load _) _ _ _); (first | (refine' Mine.hLd ?hm ?_; (case hm => (first | (repeat (first | exact List.Mem.head _ | apply List.Mem.tail))))) | (refine Mine.hOl (by with_reducible assumption) ?_) | ((with_reducible rename Frag.In _ _ => XF); (refine Mine.hOl (XF _ _ rfl) ?_)))) | ((with_reducible show wpAny _ _ (loadPart _ _) _ _ _); (first | (refine' Mine.hLdP ?hm ?_; (case hm => (first | (repeat (first | exact List.Mem.head _ | apply List.Mem.tail))))) | (refine Mine.hOlP (by with_reducible assumption) ?_) | ((with_reducible rename Frag.In _ _ => XF); (refine Mine.hOlP (XF _ _ rfl) ?_)))) | ((with_reducible show wpAny _ _ (update _ _) _ _ _); (first | (refine' Mine.hUpd ?hu ?hf ?_; (case hu => (repeat (first | exact Mine.Up.head | apply Mine.Up.tail))); (case hf => rfl)) | (refine' Mine.hUpdP ?hu ?hf ?_; (case hu => (repeat (first | exact Mine.Up.head | apply Mine.Up.tail))); (case hf => rfl)))) | ((with_reducible show wpAny _ _ (updatePart _ _ _) _ _ _); (first | (refine' Mine.hUpd ?hu ?hf ?_; (case hu => (repeat (first | exact Mine.Up.head | apply Mine.Up.tail))); (case hf => rfl)) | (refine' Mine.hUpdP ?hu ?hf ?_; (case hu => (repeat (first | exact Mine.Up.head | apply Mine.Up.tail))); (case hf => rfl)))) | ((with_reducible show wpAny _ _ (isSubtype (.type _) _) _ _ _); refine wpAny_of_eq (a := true) ?hc ?_; (case hc => (rw [isSubtype_type]; kernel_rfl!))) | ((with_reducible show wpAny _ _ (PySem.Builtin.notOverATurnedClass _) _ _ _); refine wpAny_of_eq (a := ()) ?hc ?_; (case hc => kernel_rfl!)) | ((first | (with_reducible show wpAny _ _ (PySem.Builtin.extendedBase _) _ _ _) | (with_reducible show wpAny _ _ (PySem.Builtin.Slots.bestBase _) _ _ _)); refine wpAny_of_eq (a := .type "object") ?hc ?_; (case hc => kernel_rfl!)) | ((first | (with_reducible show wpAny _ _ (PySem.Builtin.Slots.givesDict _) _ _ _) | (with_reducible show wpAny _ _ (PySem.Builtin.Slots.givesWeak _) _ _ _) | (with_reducible show wpAny _ _ (PySem.Builtin.Slots.varSize _) _ _ _)); refine wpAny_of_eq (a := false) ?hc ?_; (case hc => kernel_rfl!)) | ((with_reducible show wpAny _ _ (typeLookup (.ref _) _) _ _ _); unfold typeLookup) | ((with_reducible show wpAny _ _ (classOwn (.type _) _) _ _ _); (first | (refine wpAny_of_eq (a := some (.builtin "object.__new__")) ?hc ?_; (case hc => kernel_rfl!)) | (refine wpAny_of_eq (a := none) ?hc ?_; (case hc => kernel_rfl!)))) | ((with_reducible show wpAny _ _ (typeLookup (.type _) _) _ _ _); (refine wpAny_of_eq (a := none) ?hc ?_; (case hc => (rw [typeLookup_type, builtinLookup_eq_fast]; kernel_rfl!)))) | ((with_reducible show wpAny _ _ (PySem.Builtin.mroHook? _) _ _ _); refine wpAny_of_eq (a := none) ?hc ?_; (case hc => kernel_rfl!)) | ((with_reducible show wpAny _ _ (PySem.Builtin.linearize _ _) _ _ _); refine wpAny_of_eq (a := [.type "object"]) ?hc ?_; (case hc => kernel_rfl!)) | ((with_reducible show wpAny _ _ (Bind.madeBy (.type _)) _ _ _); (first | (refine wpAny_of_eq (a := some "type.__new__") ?hc ?_; (case hc => kernel_rfl!)) | (refine wpAny_of_eq (a := some "object.__new__") ?hc ?_; (case hc => kernel_rfl!)))) | ((fail_if_success (with_reducible show wpAny _ _ (List.anyM _ _) _ _ _)); (fail_if_success (with_reducible show wpAny _ _ (call _ _ _) _ _ _)); (fail_if_success (with_reducible show wpAny _ _ (collect _) _ _ _)); (fail_if_success (with_reducible show wpAny _ _ (PySem.Builtin.Slots.read _ _ _) _ _ _)); (first | wp_delta | wp_step))))
  refine wpAny_of_eq (a := some (.builtin "member_descriptor.__set__")) (by show typeLookup (.type "member_descriptor") _ = _; rw [typeLookup_type, builtinLookup_eq_fast]; kernel_rfl) ?_
  repeat ((fail_if_success (with_reducible show codeAny _ _ _ _ _)); (first | with_reducible refine wpAny_onRaise ?_ | ((with_reducible show wpAny _ _ enterFrame _ _ _); (with_reducible rename Heap.NoLimit _ => hl); refine Mine.hEnter hl (by decide) ?_) | ((with_reducible show wpAny _ _ (List.mapM.loop mkText (Scope.freeNames _) []) _ _ _); (first | (rw [Mine.free1 (x := Str.ofString "mycmp") ?hfr]; (case hfr => (kernel_rfl!; done))) | (rw [Mine.free0 ?hfr]; (case hfr => (kernel_rfl!; done))))) | with_reducible refine Mine.bqIn ?_ | with_reducible refine Mine.bqGo ?_ | with_reducible refine PySem.wpAny_pure ?_ | with_reducible refine PySem.wpAny_rule ?_ | with_reducible refine PySem.wpAny_holding ?_ | with_reducible refine PySem.wpAny_standAt ?_ | with_reducible refine PySem.wpAny_point ?_ | with_reducible refine PySem.wpAny_fresh' ?_ | with_reducible refine Mine.wpTry ?_ | with_reducible refine PySem.wpAny_askSetting ?_ | ((with_reducible show wpAny _ _ (alloc _) _ _ _); (refine Mine.hAlloc rfl ?_); intro _ _ _) | ((with_reducible show wpAny _ _ (ite _ _ _) _ _ _); (first | (refine PySem.wpAny_ite_false ?hc ?_; (case hc => (kernel_rfl!; done))) | (refine PySem.wpAny_ite_true ?hc ?_; (case hc => (kernel_rfl!; done))) | (refine PySem.wpAny_ite_false ?hc ?_; (case hc => (simp [*]; done))) | (refine PySem.wpAny_ite_true ?hc ?_; (case hc => (simp [*]; done))))) | ((with_reducible show wpAny _ _ (load _) _ _ _); (first | (refine' Mine.hLd ?hm ?_; (case hm => (first | (repeat (first | exact List.Mem.head _ | apply List.Mem.tail))))) | (refine Mine.hOl (by with_reducible assumption) ?_) | ((with_reducible rename Frag.In _ _ => XF); (refine Mine.hOl (XF _ _ rfl) ?_)))) | ((with_reducible show wpAny _ _ (loadPart _ _) _ _ _); (first | (refine' Mine.hLdP ?hm ?_; (case hm => (first | (repeat (first | exact List.Mem.head _ | apply List.Mem.tail))))) | (refine Mine.hOlP (by with_reducible assumption) ?_) | ((with_reducible rename Frag.In _ _ => XF); (refine Mine.hOlP (XF _ _ rfl) ?_)))) | ((with_reducible show wpAny _ _ (update _ _) _ _ _); (first | (refine' Mine.hUpd ?hu ?hf ?_; (case hu => (repeat (first | exact Mine.Up.head | apply Mine.Up.tail))); (case hf => rfl)) | (refine' Mine.hUpdP ?hu ?hf ?_; (case hu => (repeat (first | exact Mine.Up.head | apply Mine.Up.tail))); (case hf => rfl)))) | ((with_reducible show wpAny _ _ (updatePart _ _ _) _ _ _); (first | (refine' Mine.hUpd ?hu ?hf ?_; (case hu => (repeat (first | exact Mine.Up.head | apply Mine.Up.tail))); (case hf => rfl)) | (refine' Mine.hUpdP ?hu ?hf ?_; (case hu => (repeat (first | exact Mine.Up.head | apply Mine.Up.tail))); (case hf => rfl)))) | ((with_reducible show wpAny _ _ (isSubtype (.type _) _) _ _ _); refine wpAny_of_eq (a := true) ?hc ?_; (case hc => (rw [isSubtype_type]; kernel_rfl!))) | ((with_reducible show wpAny _ _ (PySem.Builtin.notOverATurnedClass _) _ _ _); refine wpAny_of_eq (a := ()) ?hc ?_; (case hc => kernel_rfl!)) | ((first | (with_reducible show wpAny _ _ (PySem.Builtin.extendedBase _) _ _ _) | (with_reducible show wpAny _ _ (PySem.Builtin.Slots.bestBase _) _ _ _)); refine wpAny_of_eq (a := .type "object") ?hc ?_; (case hc => kernel_rfl!)) | ((first | (with_reducible show wpAny _ _ (PySem.Builtin.Slots.givesDict _) _ _ _) | (with_reducible show wpAny _ _ (PySem.Builtin.Slots.givesWeak _) _ _ _) | (with_reducible show wpAny _ _ (PySem.Builtin.Slots.varSize _) _ _ _)); refine wpAny_of_eq (a := false) ?hc ?_; (case hc => kernel_rfl!)) | ((with_reducible show wpAny _ _ (typeLookup (.ref _) _) _ _ _); unfold typeLookup) | ((with_reducible show wpAny _ _ (classOwn (.type _) _) _ _ _); (first | (refine wpAny_of_eq (a := some (.builtin "object.__new__")) ?hc ?_; (case hc => kernel_rfl!)) | (refine wpAny_of_eq (a := none) ?hc ?_; (case hc => kernel_rfl!)))) | ((with_reducible show wpAny _ _ (typeLookup (.type _) _) _ _ _); (refine wpAny_of_eq (a := none) ?hc ?_; (case hc => (rw [typeLookup_type, builtinLookup_eq_fast]; kernel_rfl!)))) | ((with_reducible show wpAny _ _ (PySem.Builtin.mroHook? _) _ _ _); refine wpAny_of_eq (a := none) ?hc ?_; (case hc => kernel_rfl!)) | ((with_reducible show wpAny _ _ (PySem.Builtin.linearize _ _) _ _ _); refine wpAny_of_eq (a := [.type "object"]) ?hc ?_; (case hc => kernel_rfl!)) | ((with_reducible show wpAny _ _ (Bind.madeBy (.type _)) _ _ _); (first | (refine wpAny_of_eq (a := some "type.__new__") ?hc ?_; (case hc => kernel_rfl!)) | (refine wpAny_of_eq (a := some "object.__new__") ?hc ?_; (case hc => kernel_rfl!)))) | ((fail_if_success (with_reducible show wpAny _ _ (List.anyM _ _) _ _ _)); (fail_if_success (with_reducible show wpAny _ _ (call _ _ _) _ _ _)); (fail_if_success (with_reducible show wpAny _ _ (collect _) _ _ _)); (fail_if_success (with_reducible show wpAny _ _ (PySem.Builtin.Slots.read _ _ _) _ _ _)); (first | wp_delta | wp_step))))
  refine wpAny_of_eq (a := some (.builtin "member_descriptor.__set__")) (by show typeLookup (.type "member_descriptor") _ = _; rw [typeLookup_type, builtinLookup_eq_fast]; kernel_rfl) ?_
  repeat ((fail_if_success (with_reducible show codeAny _ _ _ _ _)); (first | with_reducible refine wpAny_onRaise ?_ | ((with_reducible show wpAny _ _ enterFrame _ _ _); (with_reducible rename Heap.NoLimit _ => hl); refine Mine.hEnter hl (by decide) ?_) | ((with_reducible show wpAny _ _ (List.mapM.loop mkText (Scope.freeNames _) []) _ _ _); (first | (rw [Mine.free1 (x := Str.ofString "mycmp") ?hfr]; (case hfr => (kernel_rfl!; done))) | (rw [Mine.free0 ?hfr]; (case hfr => (kernel_rfl!; done))))) | with_reducible refine Mine.bqIn ?_ | with_reducible refine Mine.bqGo ?_ | with_reducible refine PySem.wpAny_pure ?_ | with_reducible refine PySem.wpAny_rule ?_ | with_reducible refine PySem.wpAny_holding ?_ | with_reducible refine PySem.wpAny_standAt ?_ | with_reducible refine PySem.wpAny_point ?_ | with_reducible refine PySem.wpAny_fresh' ?_ | with_reducible refine Mine.wpTry ?_ | with_reducible refine PySem.wpAny_askSetting ?_ | ((with_reducible show wpAny _ _ (alloc _) _ _ _); (refine Mine.hAlloc rfl ?_); intro _ _ _) | ((with_reducible show wpAny _ _ (ite _ _ _) _ _ _); (first | (refine PySem.wpAny_ite_false ?hc ?_; (case hc => (kernel_rfl!; done))) | (refine PySem.wpAny_ite_true ?hc ?_; (case hc => (kernel_rfl!; done))) | (refine PySem.wpAny_ite_false ?hc ?_; (case hc => (simp [*]; done))) | (refine PySem.wpAny_ite_true ?hc ?_; (case hc => (simp [*]; done))))) | ((with_reducible show wpAny _ _ (load _) _ _ _); (first | (refine' Mine.hLd ?hm ?_; (case hm => (first | (repeat (first | exact List.Mem.head _ | apply List.Mem.tail))))) | (refine Mine.hOl (by with_reducible assumption) ?_) | ((with_reducible rename Frag.In _ _ => XF); (refine Mine.hOl (XF _ _ rfl) ?_)))) | ((with_reducible show wpAny _ _ (loadPart _ _) _ _ _); (first | (refine' Mine.hLdP ?hm ?_; (case hm => (first | (repeat (first | exact List.Mem.head _ | apply List.Mem.tail))))) | (refine Mine.hOlP (by with_reducible assumption) ?_) | ((with_reducible rename Frag.In _ _ => XF); (refine Mine.hOlP (XF _ _ rfl) ?_)))) | ((with_reducible show wpAny _ _ (update _ _) _ _ _); (first | (refine' Mine.hUpd ?hu ?hf ?_; (case hu => (repeat (first | exact Mine.Up.head | apply Mine.Up.tail))); (case hf => rfl)) | (refine' Mine.hUpdP ?hu ?hf ?_; (case hu => (repeat (first | exact Mine.Up.head | apply Mine.Up.tail))); (case hf => rfl)))) | ((with_reducible show wpAny _ _ (updatePart _ _ _) _ _ _); (first | (refine' Mine.hUpd ?hu ?hf ?_; (case hu => (repeat (first | exact Mine.Up.head | apply Mine.Up.tail))); (case hf => rfl)) | (refine' Mine.hUpdP ?hu ?hf ?_; (case hu => (repeat (first | exact Mine.Up.head | apply Mine.Up.tail))); (case hf => rfl)))) | ((with_reducible show wpAny _ _ (isSubtype (.type _) _) _ _ _); refine wpAny_of_eq (a := true) ?hc ?_; (case hc => (rw [isSubtype_type]; kernel_rfl!))) | ((with_reducible show wpAny _ _ (PySem.Builtin.notOverATurnedClass _) _ _ _); refine wpAny_of_eq (a := ()) ?hc ?_; (case hc => kernel_rfl!)) | ((first | (with_reducible show wpAny _ _ (PySem.Builtin.extendedBase _) _ _ _) | (with_reducible show wpAny _ _ (PySem.Builtin.Slots.bestBase _) _ _ _)); refine wpAny_of_eq (a := .type "object") ?hc ?_; (case hc => kernel_rfl!)) | ((first | (with_reducible show wpAny _ _ (PySem.Builtin.Slots.givesDict _) _ _ _) | (with_reducible show wpAny _ _ (PySem.Builtin.Slots.givesWeak _) _ _ _) | (with_reducible show wpAny _ _ (PySem.Builtin.Slots.varSize _) _ _ _)); refine wpAny_of_eq (a := false) ?hc ?_; (case hc => kernel_rfl!)) | ((with_reducible show wpAny _ _ (typeLookup (.ref _) _) _ _ _); unfold typeLookup) | ((with_reducible show wpAny _ _ (classOwn (.type _) _) _ _ _); (first | (refine wpAny_of_eq (a := some (.builtin "object.__new__")) ?hc ?_; (case hc => kernel_rfl!)) | (refine wpAny_of_eq (a := none) ?hc ?_; (case hc => kernel_rfl!)))) | ((with_reducible show wpAny _ _ (typeLookup (.type _) _) _ _ _); (refine wpAny_of_eq (a := none) ?hc ?_; (case hc => (rw [typeLookup_type, builtinLookup_eq_fast]; kernel_rfl!)))) | ((with_reducible show wpAny _ _ (PySem.Builtin.mroHook? _) _ _ _); refine wpAny_of_eq (a := none) ?hc ?_; (case hc => kernel_rfl!)) | ((with_reducible show wpAny _ _ (PySem.Builtin.linearize _ _) _ _ _); refine wpAny_of_eq (a := [.type "object"]) ?hc ?_; (case hc => kernel_rfl!)) | ((with_reducible show wpAny _ _ (Bind.madeBy (.type _)) _ _ _); (first | (refine wpAny_of_eq (a := some "type.__new__") ?hc ?_; (case hc => kernel_rfl!)) | (refine wpAny_of_eq (a := some "object.__new__") ?hc ?_; (case hc => kernel_rfl!)))) | ((fail_if_success (with_reducible show wpAny _ _ (List.anyM _ _) _ _ _)); (fail_if_success (with_reducible show wpAny _ _ (call _ _ _) _ _ _)); (fail_if_success (with_reducible show wpAny _ _ (collect _) _ _ _)); (fail_if_success (with_reducible show wpAny _ _ (PySem.Builtin.Slots.read _ _ _) _ _ _)); (first | wp_delta | wp_step))))
  refine wpAny_of_eq (KF.slot_mset.bind (Value.ref ds)) ?_
  repeat ((fail_if_success (with_reducible show codeAny _ _ _ _ _)); (first | with_reducible refine wpAny_onRaise ?_ | ((with_reducible show wpAny _ _ enterFrame _ _ _); (with_reducible rename Heap.NoLimit _ => hl); refine Mine.hEnter hl (by decide) ?_) | ((with_reducible show wpAny _ _ (List.mapM.loop mkText (Scope.freeNames _) []) _ _ _); (first | (rw [Mine.free1 (x := Str.ofString "mycmp") ?hfr]; (case hfr => (kernel_rfl!; done))) | (rw [Mine.free0 ?hfr]; (case hfr => (kernel_rfl!; done))))) | with_reducible refine Mine.bqIn ?_ | with_reducible refine Mine.bqGo ?_ | with_reducible refine PySem.wpAny_pure ?_ | with_reducible refine PySem.wpAny_rule ?_ | with_reducible refine PySem.wpAny_holding ?_ | with_reducible refine PySem.wpAny_standAt ?_ | with_reducible refine PySem.wpAny_point ?_ | with_reducible refine PySem.wpAny_fresh' ?_ | with_reducible refine Mine.wpTry ?_ | with_reducible refine PySem.wpAny_askSetting ?_ | ((with_reducible show wpAny _ _ (alloc _) _ _ _); (refine Mine.hAlloc rfl ?_); intro _ _ _) | ((with_reducible show wpAny _ _ (ite _ _ _) _ _ _); (first | (refine PySem.wpAny_ite_false ?hc ?_; (case hc => (kernel_rfl!; done))) | (refine PySem.wpAny_ite_true ?hc ?_; (case hc => (kernel_rfl!; done))) | (refine PySem.wpAny_ite_false ?hc ?_; (case hc => (simp [*]; done))) | (refine PySem.wpAny_ite_true ?hc ?_; (case hc => (simp [*]; done))))) | ((with_reducible show wpAny _ _ (load _) _ _ _); (first | (refine' Mine.hLd ?hm ?_; (case hm => (first | (repeat (first | exact List.Mem.head _ | apply List.Mem.tail))))) | (refine Mine.hOl (by with_reducible assumption) ?_) | ((with_reducible rename Frag.In _ _ => XF); (refine Mine.hOl (XF _ _ rfl) ?_)))) | ((with_reducible show wpAny _ _ (loadPart _ _) _ _ _); (first | (refine' Mine.hLdP ?hm ?_; (case hm => (first | (repeat (first | exact List.Mem.head _ | apply List.Mem.tail))))) | (refine Mine.hOlP (by with_reducible assumption) ?_) | ((with_reducible rename Frag.In _ _ => XF); (refine Mine.hOlP (XF _ _ rfl) ?_)))) | ((with_reducible show wpAny _ _ (update _ _) _ _ _); (first | (refine' Mine.hUpd ?hu ?hf ?_; (case hu => (repeat (first | exact Mine.Up.head | apply Mine.Up.tail))); (case hf => rfl)) | (refine' Mine.hUpdP ?hu ?hf ?_; (case hu => (repeat (first | exact Mine.Up.head | apply Mine.Up.tail))); (case hf => rfl)))) | ((with_reducible show wpAny _ _ (updatePart _ _ _) _ _ _); (first | (refine' Mine.hUpd ?hu ?hf ?_; (case hu => (repeat (first | exact Mine.Up.head | apply Mine.Up.tail))); (case hf => rfl)) | (refine' Mine.hUpdP ?hu ?hf ?_; (case hu => (repeat (first | exact Mine.Up.head | apply Mine.Up.tail))); (case hf => rfl)))) | ((with_reducible show wpAny _ _ (isSubtype (.type _) _) _ _ _); refine wpAny_of_eq (a := true) ?hc ?_; (case hc => (rw [isSubtype_type]; kernel_rfl!))) | ((with_reducible show wpAny _ _ (PySem.Builtin.notOverATurnedClass _) _ _ _); refine wpAny_of_eq (a := ()) ?hc ?_; (case hc => kernel_rfl!)) | ((first | (with_reducible show wpAny _ _ (PySem.Builtin.extendedBase _) _ _ _) | (with_reducible show wpAny _ _ (PySem.Builtin.Slots.bestBase _) _ _ _)); refine wpAny_of_eq (a := .type "object") ?hc ?_; (case hc => kernel_rfl!)) | ((first | (with_reducible show wpAny _ _ (PySem.Builtin.Slots.givesDict _) _ _ _) | (with_reducible show wpAny _ _ (PySem.Builtin.Slots.givesWeak _) _ _ _) | (with_reducible show wpAny _ _ (PySem.Builtin.Slots.varSize _) _ _ _)); refine wpAny_of_eq (a := false) ?hc ?_; (case hc => kernel_rfl!)) | ((with_reducible show wpAny _ _ (typeLookup (.ref _) _) _ _ _); unfold typeLookup) | ((with_reducible show wpAny _ _ (classOwn (.type _) _) _ _ _); (first | (refine wpAny_of_eq (a := some (.builtin "object.__new__")) ?hc ?_; (case hc => kernel_rfl!)) | (refine wpAny_of_eq (a := none) ?hc ?_; (case hc => kernel_rfl!)))) | ((with_reducible show wpAny _ _ (typeLookup (.type _) _) _ _ _); (refine wpAny_of_eq (a := none) ?hc ?_; (case hc => (rw [typeLookup_type, builtinLookup_eq_fast]; kernel_rfl!)))) | ((with_reducible show wpAny _ _ (PySem.Builtin.mroHook? _) _ _ _); refine wpAny_of_eq (a := none) ?hc ?_; (case hc => kernel_rfl!)) | ((with_reducible show wpAny _ _ (PySem.Builtin.linearize _ _) _ _ _); refine wpAny_of_eq (a := [.type "object"]) ?hc ?_; (case hc => kernel_rfl!)) | ((with_reducible show wpAny _ _ (Bind.madeBy (.type _)) _ _ _); (first | (refine wpAny_of_eq (a := some "type.__new__") ?hc ?_; (case hc => kernel_rfl!)) | (refine wpAny_of_eq (a := some "object.__new__") ?hc ?_; (case hc => kernel_rfl!)))) | ((fail_if_success (with_reducible show wpAny _ _ (List.anyM _ _) _ _ _)); (fail_if_success (with_reducible show wpAny _ _ (call _ _ _) _ _ _)); (fail_if_success (with_reducible show wpAny _ _ (collect _) _ _ _)); (fail_if_success (with_reducible show wpAny _ _ (PySem.Builtin.Slots.read _ _ _) _ _ _)); (first | wp_delta | wp_step))))
  refine wpAny_call (codeAny_call_builtin KF.slot_mset.plain KF.entry_mset (KF.slot_mset.check _ _ _ _ _ _ _ _ ⟨_, D₁.keep _ _ hm, rfl⟩ (KF.args_mset _ _ _) ?_))
  unfold Builtin.«member_descriptor.__set__»
  repeat ((fail_if_success (with_reducible show codeAny _ _ _ _ _)); (first | with_reducible refine wpAny_onRaise ?_ | ((with_reducible show wpAny _ _ enterFrame _ _ _); (with_reducible rename Heap.NoLimit _ => hl); refine Mine.hEnter hl (by decide) ?_) | ((with_reducible show wpAny _ _ (List.mapM.loop mkText (Scope.freeNames _) []) _ _ _); (first | (rw [Mine.free1 (x := Str.ofString "mycmp") ?hfr]; (case hfr => (kernel_rfl!; done))) | (rw [Mine.free0 ?hfr]; (case hfr => (kernel_rfl!; done))))) | with_reducible refine Mine.bqIn ?_ | with_reducible refine Mine.bqGo ?_ | with_reducible refine PySem.wpAny_pure ?_ | with_reducible refine PySem.wpAny_rule ?_ | with_reducible refine PySem.wpAny_holding ?_ | with_reducible refine PySem.wpAny_standAt ?_ | with_reducible refine PySem.wpAny_point ?_ | with_reducible refine PySem.wpAny_fresh' ?_ | with_reducible refine Mine.wpTry ?_ | with_reducible refine PySem.wpAny_askSetting ?_ | ((with_reducible show wpAny _ _ (alloc _) _ _ _); (refine Mine.hAlloc rfl ?_); intro _ _ _) | ((with_reducible show wpAny _ _ (ite _ _ _) _ _ _); (first | (refine PySem.wpAny_ite_false ?hc ?_; (case hc => (kernel_rfl!; done))) | (refine PySem.wpAny_ite_true ?hc ?_; (case hc => (kernel_rfl!; done))) | (refine PySem.wpAny_ite_false ?hc ?_; (case hc => (simp [*]; done))) | (refine PySem.wpAny_ite_true ?hc ?_; (case hc => (simp [*]; done))))) | ((with_reducible show wpAny _ _ (load _) _ _ _); (first | (refine' Mine.hLd ?hm ?_; (case hm => (first | (repeat (first | exact List.Mem.head _ | apply List.Mem.tail))))) | (refine Mine.hOl (by with_reducible assumption) ?_) | ((with_reducible rename Frag.In _ _ => XF); (refine Mine.hOl (XF _ _ rfl) ?_)))) | ((with_reducible show wpAny _ _ (loadPart _ _) _ _ _); (first | (refine' Mine.hLdP ?hm ?_; (case hm => (first | (repeat (first | exact List.Mem.head _ | apply List.Mem.tail))))) | (refine Mine.hOlP (by with_reducible assumption) ?_) | ((with_reducible rename Frag.In _ _ => XF); (refine Mine.hOlP (XF _ _ rfl) ?_)))) | ((with_reducible show wpAny _ _ (update _ _) _ _ _); (first | (refine' Mine.hUpd ?hu ?hf ?_; (case hu => (repeat (first | exact Mine.Up.head | apply Mine.Up.tail))); (case hf => rfl)) | (refine' Mine.hUpdP ?hu ?hf ?_; (case hu => (repeat (first | exact Mine.Up.head | apply Mine.Up.tail))); (case hf => rfl)))) | ((with_reducible show wpAny _ _ (updatePart _ _ _) _ _ _); (first | (refine' Mine.hUpd ?hu ?hf ?_; (case hu => (repeat (first | exact Mine.Up.head | apply Mine.Up.tail))); (case hf => rfl)) | (refine' Mine.hUpdP ?hu ?hf ?_; (case hu => (repeat (first | exact Mine.Up.head | apply Mine.Up.tail))); (case hf => rfl)))) | ((with_reducible show wpAny _ _ (isSubtype (.type _) _) _ _ _); refine wpAny_of_eq (a := true) ?hc ?_; (case hc => (rw [isSubtype_type]; kernel_rfl!))) | ((with_reducible show wpAny _ _ (PySem.Builtin.notOverATurnedClass _) _ _ _); refine wpAny_of_eq (a := ()) ?hc ?_; (case hc => kernel_rfl!)) | ((first | (with_reducible show wpAny _ _ (PySem.Builtin.extendedBase _) _ _ _) | (with_reducible show wpAny _ _ (PySem.Builtin.Slots.bestBase _) _ _ _)); refine wpAny_of_eq (a := .type "object") ?hc ?_; (case hc => kernel_rfl!)) | ((first | (with_reducible show wpAny _ _ (PySem.Builtin.Slots.givesDict _) _ _ _) | (with_reducible show wpAny _ _ (PySem.Builtin.Slots.givesWeak _) _ _ _) | (with_reducible show wpAny _ _ (PySem.Builtin.Slots.varSize _) _ _ _)); refine wpAny_of_eq (a := false) ?hc ?_; (case hc => kernel_rfl!)) | ((with_reducible show wpAny _ _ (typeLookup (.ref _) _) _ _ _); unfold typeLookup) | ((with_reducible show wpAny _ _ (classOwn (.type _) _) _ _ _); (first | (refine wpAny_of_eq (a := some (.builtin "object.__new__")) ?hc ?_; (case hc => kernel_rfl!)) | (refine wpAny_of_eq (a := none) ?hc ?_; (case hc => kernel_rfl!)))) | ((with_reducible show wpAny _ _ (typeLookup (.type _) _) _ _ _); (refine wpAny_of_eq (a := none) ?hc ?_; (case hc => (rw [typeLookup_type, builtinLookup_eq_fast]; kernel_rfl!)))) | ((with_reducible show wpAny _ _ (PySem.Builtin.mroHook? _) _ _ _); refine wpAny_of_eq (a := none) ?hc ?_; (case hc => kernel_rfl!)) | ((with_reducible show wpAny _ _ (PySem.Builtin.linearize _ _) _ _ _); refine wpAny_of_eq (a := [.type "object"]) ?hc ?_; (case hc => kernel_rfl!)) | ((with_reducible show wpAny _ _ (Bind.madeBy (.type _)) _ _ _); (first | (refine wpAny_of_eq (a := some "type.__new__") ?hc ?_; (case hc => kernel_rfl!)) | (refine wpAny_of_eq (a := some "object.__new__") ?hc ?_; (case hc => kernel_rfl!)))) | ((fail_if_success (with_reducible show wpAny _ _ (List.anyM _ _) _ _ _)); (fail_if_success (with_reducible show wpAny _ _ (call _ _ _) _ _ _)); (fail_if_success (with_reducible show wpAny _ _ (collect _) _ _ _)); (fail_if_success (with_reducible show wpAny _ _ (PySem.Builtin.Slots.read _ _ _) _ _ _)); (first | wp_delta | wp_step))))
  show wpAny _ _ (isSubtype (.ref K) (.ref K)) _ _ _
  refine hBack (sub_self (D₁.keep _ _ hK) rfl rfl (hIn2 D₁ ?_))
  repeat ((fail_if_success (with_reducible show codeAny _ _ _ _ _)); (first | with_reducible refine wpAny_onRaise ?_ | ((with_reducible show wpAny _ _ enterFrame _ _ _); (with_reducible rename Heap.NoLimit _ => hl); refine Mine.hEnter hl (by decide) ?_) | ((with_reducible show wpAny _ _ (List.mapM.loop mkText (Scope.freeNames _) []) _ _ _); (first | (rw [Mine.free1 (x := Str.ofString "mycmp") ?hfr]; (case hfr => (kernel_rfl!; done))) | (rw [Mine.free0 ?hfr]; (case hfr => (kernel_rfl!; done))))) | with_reducible refine Mine.bqIn ?_ | with_reducible refine Mine.bqGo ?_ | with_reducible refine PySem.wpAny_pure ?_ | with_reducible refine PySem.wpAny_rule ?_ | with_reducible refine PySem.wpAny_holding ?_ | with_reducible refine PySem.wpAny_standAt ?_ | with_reducible refine PySem.wpAny_point ?_ | with_reducible refine PySem.wpAny_fresh' ?_ | with_reducible refine Mine.wpTry ?_ | with_reducible refine PySem.wpAny_askSetting ?_ | ((with_reducible show wpAny _ _ (alloc _) _ _ _); (refine Mine.hAlloc rfl ?_); intro _ _ _) | ((with_reducible show wpAny _ _ (ite _ _ _) _ _ _); (first | (refine PySem.wpAny_ite_false ?hc ?_; (case hc => (kernel_rfl!; done))) | (refine PySem.wpAny_ite_true ?hc ?_; (case hc => (kernel_rfl!; done))) | (refine PySem.wpAny_ite_false ?hc ?_; (case hc => (simp [*]; done))) | (refine PySem.wpAny_ite_true ?hc ?_; (case hc => (simp [*]; done))))) | ((with_reducible show wpAny _ _ (load _) _ _ _); (first | (refine' Mine.hLd ?hm ?_; (case hm => (first | (repeat (first | exact List.Mem.head _ | apply List.Mem.tail))))) | (refine Mine.hOl (by with_reducible assumption) ?_) | ((with_reducible rename Frag.In _ _ => XF); (refine Mine.hOl (XF _ _ rfl) ?_)))) | ((with_reducible show wpAny _ _ (loadPart _ _) _ _ _); (first | (refine' Mine.hLdP ?hm ?_; (case hm => (first | (repeat (first | exact List.Mem.head _ | apply List.Mem.tail))))) | (refine Mine.hOlP (by with_reducible assumption) ?_) | ((with_reducible rename Frag.In _ _ => XF); (refine Mine.hOlP (XF _ _ rfl) ?_)))) | ((with_reducible show wpAny _ _ (update _ _) _ _ _); (first | (refine' Mine.hUpd ?hu ?hf ?_; (case hu => (repeat (first | exact Mine.Up.head | apply Mine.Up.tail))); (case hf => rfl)) | (refine' Mine.hUpdP ?hu ?hf ?_; (case hu => (repeat (first | exact Mine.Up.head | apply Mine.Up.tail))); (case hf => rfl)))) | ((with_reducible show wpAny _ _ (updatePart _ _ _) _ _ _); (first | (refine' Mine.hUpd ?hu ?hf ?_; (case hu => (repeat (first | exact Mine.Up.head | apply Mine.Up.tail))); (case hf => rfl)) | (refine' Mine.hUpdP ?hu ?hf ?_; (case hu => (repeat (first | exact Mine.Up.head | apply Mine.Up.tail))); (case hf => rfl)))) | ((with_reducible show wpAny _ _ (isSubtype (.type _) _) _ _ _); refine wpAny_of_eq (a := true) ?hc ?_; (case hc => (rw [isSubtype_type]; kernel_rfl!))) | ((with_reducible show wpAny _ _ (PySem.Builtin.notOverATurnedClass _) _ _ _); refine wpAny_of_eq (a := ()) ?hc ?_; (case hc => kernel_rfl!)) | ((first | (with_reducible show wpAny _ _ (PySem.Builtin.extendedBase _) _ _ _) | (with_reducible show wpAny _ _ (PySem.Builtin.Slots.bestBase _) _ _ _)); refine wpAny_of_eq (a := .type "object") ?hc ?_; (case hc => kernel_rfl!)) | ((first | (with_reducible show wpAny _ _ (PySem.Builtin.Slots.givesDict _) _ _ _) | (with_reducible show wpAny _ _ (PySem.Builtin.Slots.givesWeak _) _ _ _) | (with_reducible show wpAny _ _ (PySem.Builtin.Slots.varSize _) _ _ _)); refine wpAny_of_eq (a := false) ?hc ?_; (case hc => kernel_rfl!)) | ((with_reducible show wpAny _ _ (typeLookup (.ref _) _) _ _ _); unfold typeLookup) | ((with_reducible show wpAny _ _ (classOwn (.type _) _) _ _ _); (first | (refine wpAny_of_eq (a := some (.builtin "object.__new__")) ?hc ?_; (case hc => kernel_rfl!)) | (refine wpAny_of_eq (a := none) ?hc ?_; (case hc => kernel_rfl!)))) | ((with_reducible show wpAny _ _ (typeLookup (.type _) _) _ _ _); (refine wpAny_of_eq (a := none) ?hc ?_; (case hc => (rw [typeLookup_type, builtinLookup_eq_fast]; kernel_rfl!)))) | ((with_reducible show wpAny _ _ (PySem.Builtin.mroHook? _) _ _ _); refine wpAny_of_eq (a := none) ?hc ?_; (case hc => kernel_rfl!)) | ((with_reducible show wpAny _ _ (PySem.Builtin.linearize _ _) _ _ _); refine wpAny_of_eq (a := [.type "object"]) ?hc ?_; (case hc => kernel_rfl!)) | ((with_reducible show wpAny _ _ (Bind.madeBy (.type _)) _ _ _); (first | (refine wpAny_of_eq (a := some "type.__new__") ?hc ?_; (case hc => kernel_rfl!)) | (refine wpAny_of_eq (a := some "object.__new__") ?hc ?_; (case hc => kernel_rfl!)))) | ((fail_if_success (with_reducible show wpAny _ _ (List.anyM _ _) _ _ _)); (fail_if_success (with_reducible show wpAny _ _ (call _ _ _) _ _ _)); (fail_if_success (with_reducible show wpAny _ _ (collect _) _ _ _)); (fail_if_success (with_reducible show wpAny _ _ (PySem.Builtin.Slots.read _ _ _) _ _ _)); (first | wp_delta | wp_step))))
  refine ⟨Code.quiet_builtin _ (by decide +kernel), codeAny_builtin KF.entry_slotset ?_⟩
  unfold Builtin.«proto.slot#set»
  repeat ((fail_if_success (with_reducible show codeAny _ _ _ _ _)); (first | with_reducible refine wpAny_onRaise ?_ | ((with_reducible show wpAny _ _ enterFrame _ _ _); (with_reducible rename Heap.NoLimit _ => hl); refine Mine.hEnter hl (by decide) ?_) | ((with_reducible show wpAny _ _ (List.mapM.loop mkText (Scope.freeNames _) []) _ _ _); (first | (rw [Mine.free1 (x := Str.ofString "mycmp") ?hfr]; (case hfr => (kernel_rfl!; done))) | (rw [Mine.free0 ?hfr]; (case hfr => (kernel_rfl!; done))))) | with_reducible refine Mine.bqIn ?_ | with_reducible refine Mine.bqGo ?_ | with_reducible refine PySem.wpAny_pure ?_ | with_reducible refine PySem.wpAny_rule ?_ | with_reducible refine PySem.wpAny_holding ?_ | with_reducible refine PySem.wpAny_standAt ?_ | with_reducible refine PySem.wpAny_point ?_ | with_reducible refine PySem.wpAny_fresh' ?_ | with_reducible refine Mine.wpTry ?_ | with_reducible refine PySem.wpAny_askSetting ?_ | ((with_reducible show wpAny _ _ (alloc _) _ _ _); (refine Mine.hAlloc rfl ?_); intro _ _ _) | ((with_reducible show wpAny _ _ (ite _ _ _) _ _ _); (first | (refine PySem.wpAny_ite_false ?hc ?_; (case hc => (kernel_rfl!; done))) | (refine PySem.wpAny_ite_true ?hc ?_; (case hc => (kernel_rfl!; done))) | (refine PySem.wpAny_ite_false ?hc ?_; (case hc => (simp [*]; done))) | (refine PySem.wpAny_ite_true ?hc ?_; (case hc => (simp [*]; done))))) | ((with_reducible show wpAny _ _ (load _) _ _ _); (first | (refine' Mine.hLd ?hm ?_; (case hm => (first | (repeat (first | exact List.Mem.head _ | apply List.Mem.tail))))) | (refine Mine.hOl (by with_reducible assumption) ?_) | ((with_reducible rename Frag.In _ _ => XF); (refine Mine.hOl (XF _ _ rfl) ?_)))) | ((with_reducible show wpAny _ _ (loadPart _ _) _ _ _); (first | (refine' Mine.hLdP ?hm ?_; (case hm => (first | (repeat (first | exact List.Mem.head _ | apply List.Mem.tail))))) | (refine Mine.hOlP (by with_reducible assumption) ?_) | ((with_reducible rename Frag.In _ _ => XF); (refine Mine.hOlP (XF _ _ rfl) ?_)))) | ((with_reducible show wpAny _ _ (update _ _) _ _ _); (first | (refine' Mine.hUpd ?hu ?hf ?_; (case hu => (repeat (first | exact Mine.Up.head | apply Mine.Up.tail))); (case hf => rfl)) | (refine' Mine.hUpdP ?hu ?hf ?_; (case hu => (repeat (first | exact Mine.Up.head | apply Mine.Up.tail))); (case hf => rfl)))) | ((with_reducible show wpAny _ _ (updatePart _ _ _) _ _ _); (first | (refine' Mine.hUpd ?hu ?hf ?_; (case hu => (repeat (first | exact Mine.Up.head | apply Mine.Up.tail))); (case hf => rfl)) | (refine' Mine.hUpdP ?hu ?hf ?_; (case hu => (repeat (first | exact Mine.Up.head | apply Mine.Up.tail))); (case hf => rfl)))) | ((with_reducible show wpAny _ _ (isSubtype (.type _) _) _ _ _); refine wpAny_of_eq (a := true) ?hc ?_; (case hc => (rw [isSubtype_type]; kernel_rfl!))) | ((with_reducible show wpAny _ _ (PySem.Builtin.notOverATurnedClass _) _ _ _); refine wpAny_of_eq (a := ()) ?hc ?_; (case hc => kernel_rfl!)) | ((first | (with_reducible show wpAny _ _ (PySem.Builtin.extendedBase _) _ _ _) | (with_reducible show wpAny _ _ (PySem.Builtin.Slots.bestBase _) _ _ _)); refine wpAny_of_eq (a := .type "object") ?hc ?_; (case hc => kernel_rfl!)) | ((first | (with_reducible show wpAny _ _ (PySem.Builtin.Slots.givesDict _) _ _ _) | (with_reducible show wpAny _ _ (PySem.Builtin.Slots.givesWeak _) _ _ _) | (with_reducible show wpAny _ _ (PySem.Builtin.Slots.varSize _) _ _ _)); refine wpAny_of_eq (a := false) ?hc ?_; (case hc => kernel_rfl!)) | ((with_reducible show wpAny _ _ (typeLookup (.ref _) _) _ _ _); unfold typeLookup) | ((with_reducible show wpAny _ _ (classOwn (.type _) _) _ _ _); (first | (refine wpAny_of_eq (a := some (.builtin "object.__new__")) ?hc ?_; (case hc => kernel_rfl!)) | (refine wpAny_of_eq (a := none) ?hc ?_; (case hc => kernel_rfl!)))) | ((with_reducible show wpAny _ _ (typeLookup (.type _) _) _ _ _); (refine wpAny_of_eq (a := none) ?hc ?_; (case hc => (rw [typeLookup_type, builtinLookup_eq_fast]; kernel_rfl!)))) | ((with_reducible show wpAny _ _ (PySem.Builtin.mroHook? _) _ _ _); refine wpAny_of_eq (a := none) ?hc ?_; (case hc => kernel_rfl!)) | ((with_reducible show wpAny _ _ (PySem.Builtin.linearize _ _) _ _ _); refine wpAny_of_eq (a := [.type "object"]) ?hc ?_; (case hc => kernel_rfl!)) | ((with_reducible show wpAny _ _ (Bind.madeBy (.type _)) _ _ _); (first | (refine wpAny_of_eq (a := some "type.__new__") ?hc ?_; (case hc => kernel_rfl!)) | (refine wpAny_of_eq (a := some "object.__new__") ?hc ?_; (case hc => kernel_rfl!)))) | ((fail_if_success (with_reducible show wpAny _ _ (List.anyM _ _) _ _ _)); (fail_if_success (with_reducible show wpAny _ _ (call _ _ _) _ _ _)); (fail_if_success (with_reducible show wpAny _ _ (collect _) _ _ _)); (fail_if_success (with_reducible show wpAny _ _ (PySem.Builtin.Slots.read _ _ _) _ _ _)); (first | wp_delta | wp_step))))
  refine hEnd fun h' D => ?_
  exact hq _ _ (mm_head D (by kernel_rfl))
theorem make_spec {K f1 f2 ds c v : Addr} {Q : Value → Shared → Prop} (hlim : h.NoLimit) (KA : KeyAt h K f1 f2 ds c)
    (hq : ∀ h' x dd tk', Kp h h' → h.get? x = none → h'.get? x = some (keyO K dd v) → Q (.ref x) ⟨h', g, dr, tk', os⟩) :
    wpAny (model PR w) AX (call (.ref K) [.ref v]) Q E ⟨h, g, dr, tk, os⟩ := by
  have KA' := KA
  obtain ⟨⟨ns, b, t, m1, hK, hs, ts, m0, m2, sl, f3, f4, f5, f6, st, nd, hns⟩, ⟨tm, hm⟩, ⟨c1, ct1, o1, hf1, hc1, _⟩, _, _⟩ := KA
  refine wpAny_call (codeAny_of_tree ?_)
  refine hIn ?_
  repeat ((fail_if_success (with_reducible show codeAny _ _ _ _ _)); (first | with_reducible refine wpAny_onRaise ?_ | ((with_reducible show wpAny _ _ enterFrame _ _ _); (with_reducible rename Heap.NoLimit _ => hl); refine Mine.hEnter hl (by decide) ?_) | ((with_reducible show wpAny _ _ (List.mapM.loop mkText (Scope.freeNames _) []) _ _ _); (first | (rw [Mine.free1 (x := Str.ofString "mycmp") ?hfr]; (case hfr => (kernel_rfl!; done))) | (rw [Mine.free0 ?hfr]; (case hfr => (kernel_rfl!; done))))) | with_reducible refine Mine.bqIn ?_ | with_reducible refine Mine.bqGo ?_ | with_reducible refine PySem.wpAny_pure ?_ | with_reducible refine PySem.wpAny_rule ?_ | with_reducible refine PySem.wpAny_holding ?_ | with_reducible refine PySem.wpAny_standAt ?_ | with_reducible refine PySem.wpAny_point ?_ | with_reducible refine PySem.wpAny_fresh' ?_ | with_reducible refine Mine.wpTry ?_ | with_reducible refine PySem.wpAny_askSetting ?_ | ((with_reducible show wpAny _ _ (alloc _) _ _ _); (refine Mine.hAlloc rfl ?_); intro _ _ _) | ((with_reducible show wpAny _ _ (ite _ _ _) _ _ _); (first | (refine PySem.wpAny_ite_false ?hc ?_; (case hc => (kernel_rfl!; done))) | (refine PySem.wpAny_ite_true ?hc ?_; (case hc => (kernel_rfl!; done))) | (refine PySem.wpAny_ite_false ?hc ?_; (case hc => (simp [*]; done))) | (refine PySem.wpAny_ite_true ?hc ?_; (case hc => (simp [*]; done))))) | ((with_reducible show wpAny _ _ (load _) _ _ _); (first | (refine' Mine.hLd ?hm ?_; (case hm => (first | (repeat (first | exact List.Mem.head _ | apply List.Mem.tail))))) | (refine Mine.hOl (by with_reducible assumption) ?_) | ((with_reducible rename Frag.In _ _ => XF); (refine Mine.hOl (XF _ _ rfl) ?_)))) | ((with_reducible show wpAny _ _ (loadPart _ _) _ _ _); (first | (refine' Mine.hLdP ?hm ?_; (case hm => (first | (repeat (first | exact List.Mem.head _ | apply List.Mem.tail))))) | (refine Mine.hOlP (by with_reducible assumption) ?_) | ((with_reducible rename Frag.In _ _ => XF); (refine Mine.hOlP (XF _ _ rfl) ?_)))) | ((with_reducible show wpAny _ _ (update _ _) _ _ _); (first | (refine' Mine.hUpd ?hu ?hf ?_; (case hu => (repeat (first | exact Mine.Up.head | apply Mine.Up.tail))); (case hf => rfl)) | (refine' Mine.hUpdP ?hu ?hf ?_; (case hu => (repeat (first | exact Mine.Up.head | apply Mine.Up.tail))); (case hf => rfl)))) | ((with_reducible show wpAny _ _ (updatePart _ _ _) _ _ _); (first | (refine' Mine.hUpd ?hu ?hf ?_; (case hu => (repeat (first | exact Mine.Up.head | apply Mine.Up.tail))); (case hf => rfl)) | (refine' Mine.hUpdP ?hu ?hf ?_; (case hu => (repeat (first | exact Mine.Up.head | apply Mine.Up.tail))); (case hf => rfl)))) | ((with_reducible show wpAny _ _ (isSubtype (.type _) _) _ _ _); refine wpAny_of_eq (a := true) ?hc ?_; (case hc => (rw [isSubtype_type]; kernel_rfl!))) | ((with_reducible show wpAny _ _ (PySem.Builtin.notOverATurnedClass _) _ _ _); refine wpAny_of_eq (a := ()) ?hc ?_; (case hc => kernel_rfl!)) | ((first | (with_reducible show wpAny _ _ (PySem.Builtin.extendedBase _) _ _ _) | (with_reducible show wpAny _ _ (PySem.Builtin.Slots.bestBase _) _ _ _)); refine wpAny_of_eq (a := .type "object") ?hc ?_; (case hc => kernel_rfl!)) | ((first | (with_reducible show wpAny _ _ (PySem.Builtin.Slots.givesDict _) _ _ _) | (with_reducible show wpAny _ _ (PySem.Builtin.Slots.givesWeak _) _ _ _) | (with_reducible show wpAny _ _ (PySem.Builtin.Slots.varSize _) _ _ _)); refine wpAny_of_eq (a := false) ?hc ?_; (case hc => kernel_rfl!)) | ((with_reducible show wpAny _ _ (typeLookup (.ref _) _) _ _ _); unfold typeLookup) | ((with_reducible show wpAny _ _ (classOwn (.type _) _) _ _ _); (first | (refine wpAny_of_eq (a := some (.builtin "object.__new__")) ?hc ?_; (case hc => kernel_rfl!)) | (refine wpAny_of_eq (a := none) ?hc ?_; (case hc => kernel_rfl!)))) | ((with_reducible show wpAny _ _ (typeLookup (.type _) _) _ _ _); (refine wpAny_of_eq (a := none) ?hc ?_; (case hc => (rw [typeLookup_type, builtinLookup_eq_fast]; kernel_rfl!)))) | ((with_reducible show wpAny _ _ (PySem.Builtin.mroHook? _) _ _ _); refine wpAny_of_eq (a := none) ?hc ?_; (case hc => kernel_rfl!)) | ((with_reducible show wpAny _ _ (PySem.Builtin.linearize _ _) _ _ _); refine wpAny_of_eq (a := [.type "object"]) ?hc ?_; (case hc => kernel_rfl!)) | ((with_reducible show wpAny _ _ (Bind.madeBy (.type _)) _ _ _); (first | (refine wpAny_of_eq (a := some "type.__new__") ?hc ?_; (case hc => kernel_rfl!)) | (refine wpAny_of_eq (a := some "object.__new__") ?hc ?_; (case hc => kernel_rfl!)))) | ((fail_if_success (with_reducible show wpAny _ _ (List.anyM _ _) _ _ _)); (fail_if_success (with_reducible show wpAny _ _ (call _ _ _) _ _ _)); (fail_if_success (with_reducible show wpAny _ _ (collect _) _ _ _)); (fail_if_success (with_reducible show wpAny _ _ (PySem.Builtin.Slots.read _ _ _) _ _ _)); (first | wp_delta | wp_step))))
  refine wpAny_of_eq (a := some (.builtin "type.__call__")) (by show typeLookup (.type "type") _ = _; rw [typeLookup_type, builtinLookup_eq_fast]; kernel_rfl) ?_
  repeat ((fail_if_success (with_reducible show codeAny _ _ _ _ _)); (first | with_reducible refine wpAny_onRaise ?_ | ((with_reducible show wpAny _ _ enterFrame _ _ _); (with_reducible rename Heap.NoLimit _ => hl); refine Mine.hEnter hl (by decide) ?_) | ((with_reducible show wpAny _ _ (List.mapM.loop mkText (Scope.freeNames _) []) _ _ _); (first | (rw [Mine.free1 (x := Str.ofString "mycmp") ?hfr]; (case hfr => (kernel_rfl!; done))) | (rw [Mine.free0 ?hfr]; (case hfr => (kernel_rfl!; done))))) | with_reducible refine Mine.bqIn ?_ | with_reducible refine Mine.bqGo ?_ | with_reducible refine PySem.wpAny_pure ?_ | with_reducible refine PySem.wpAny_rule ?_ | with_reducible refine PySem.wpAny_holding ?_ | with_reducible refine PySem.wpAny_standAt ?_ | with_reducible refine PySem.wpAny_point ?_ | with_reducible refine PySem.wpAny_fresh' ?_ | with_reducible refine Mine.wpTry ?_ | with_reducible refine PySem.wpAny_askSetting ?_ | ((with_reducible show wpAny _ _ (alloc _) _ _ _); (refine Mine.hAlloc rfl ?_); intro _ _ _) | ((with_reducible show wpAny _ _ (ite _ _ _) _ _ _); (first | (refine PySem.wpAny_ite_false ?hc ?_; (case hc => (kernel_rfl!; done))) | (refine PySem.wpAny_ite_true ?hc ?_; (case hc => (kernel_rfl!; done))) | (refine PySem.wpAny_ite_false ?hc ?_; (case hc => (simp [*]; done))) | (refine PySem.wpAny_ite_true ?hc ?_; (case hc => (simp [*]; done))))) | ((with_reducible show wpAny _ _ (load _) _ _ _); (first | (refine' Mine.hLd ?hm ?_; (case hm => (first | (repeat (first | exact List.Mem.head _ | apply List.Mem.tail))))) | (refine Mine.hOl (by with_reducible assumption) ?_) | ((with_reducible rename Frag.In _ _ => XF); (refine Mine.hOl (XF _ _ rfl) ?_)))) | ((with_reducible show wpAny _ _ (loadPart _ _) _ _ _); (first | (refine' Mine.hLdP ?hm ?_; (case hm => (first | (repeat (first | exact List.Mem.head _ | apply List.Mem.tail))))) | (refine Mine.hOlP (by with_reducible assumption) ?_) | ((with_reducible rename Frag.In _ _ => XF); (refine Mine.hOlP (XF _ _ rfl) ?_)))) | ((with_reducible show wpAny _ _ (update _ _) _ _ _); (first | (refine' Mine.hUpd ?hu ?hf ?_; (case hu => (repeat (first | exact Mine.Up.head | apply Mine.Up.tail))); (case hf => rfl)) | (refine' Mine.hUpdP ?hu ?hf ?_; (case hu => (repeat (first | exact Mine.Up.head | apply Mine.Up.tail))); (case hf => rfl)))) | ((with_reducible show wpAny _ _ (updatePart _ _ _) _ _ _); (first | (refine' Mine.hUpd ?hu ?hf ?_; (case hu => (repeat (first | exact Mine.Up.head | apply Mine.Up.tail))); (case hf => rfl)) | (refine' Mine.hUpdP ?hu ?hf ?_; (case hu => (repeat (first | exact Mine.Up.head | apply Mine.Up.tail))); (case hf => rfl)))) | ((with_reducible show wpAny _ _ (isSubtype (.type _) _) _ _ _); refine wpAny_of_eq (a := true) ?hc ?_; (case hc => (rw [isSubtype_type]; kernel_rfl!))) | ((with_reducible show wpAny _ _ (PySem.Builtin.notOverATurnedClass _) _ _ _); refine wpAny_of_eq (a := ()) ?hc ?_; (case hc => kernel_rfl!)) | ((first | (with_reducible show wpAny _ _ (PySem.Builtin.extendedBase _) _ _ _) | (with_reducible show wpAny _ _ (PySem.Builtin.Slots.bestBase _) _ _ _)); refine wpAny_of_eq (a := .type "object") ?hc ?_; (case hc => kernel_rfl!)) | ((first | (with_reducible show wpAny _ _ (PySem.Builtin.Slots.givesDict _) _ _ _) | (with_reducible show wpAny _ _ (PySem.Builtin.Slots.givesWeak _) _ _ _) | (with_reducible show wpAny _ _ (PySem.Builtin.Slots.varSize _) _ _ _)); refine wpAny_of_eq (a := false) ?hc ?_; (case hc => kernel_rfl!)) | ((with_reducible show wpAny _ _ (typeLookup (.ref _) _) _ _ _); unfold typeLookup) | ((with_reducible show wpAny _ _ (classOwn (.type _) _) _ _ _); (first | (refine wpAny_of_eq (a := some (.builtin "object.__new__")) ?hc ?_; (case hc => kernel_rfl!)) | (refine wpAny_of_eq (a := none) ?hc ?_; (case hc => kernel_rfl!)))) | ((with_reducible show wpAny _ _ (typeLookup (.type _) _) _ _ _); (refine wpAny_of_eq (a := none) ?hc ?_; (case hc => (rw [typeLookup_type, builtinLookup_eq_fast]; kernel_rfl!)))) | ((with_reducible show wpAny _ _ (PySem.Builtin.mroHook? _) _ _ _); refine wpAny_of_eq (a := none) ?hc ?_; (case hc => kernel_rfl!)) | ((with_reducible show wpAny _ _ (PySem.Builtin.linearize _ _) _ _ _); refine wpAny_of_eq (a := [.type "object"]) ?hc ?_; (case hc => kernel_rfl!)) | ((with_reducible show wpAny _ _ (Bind.madeBy (.type _)) _ _ _); (first | (refine wpAny_of_eq (a := some "type.__new__") ?hc ?_; (case hc => kernel_rfl!)) | (refine wpAny_of_eq (a := some "object.__new__") ?hc ?_; (case hc => kernel_rfl!)))) | ((fail_if_success (with_reducible show wpAny _ _ (List.anyM _ _) _ _ _)); (fail_if_success (with_reducible show wpAny _ _ (call _ _ _) _ _ _)); (fail_if_success (with_reducible show wpAny _ _ (collect _) _ _ _)); (fail_if_success (with_reducible show wpAny _ _ (PySem.Builtin.Slots.read _ _ _) _ _ _)); (first | wp_delta | wp_step))))
  refine wpAny_of_eq (a := (Value.builtin "type.__call__", [Value.ref K])) (by kernel_rfl) ?_
  repeat ((fail_if_success (with_reducible show codeAny _ _ _ _ _)); (first | with_reducible refine wpAny_onRaise ?_ | ((with_reducible show wpAny _ _ enterFrame _ _ _); (with_reducible rename Heap.NoLimit _ => hl); refine Mine.hEnter hl (by decide) ?_) | ((with_reducible show wpAny _ _ (List.mapM.loop mkText (Scope.freeNames _) []) _ _ _); (first | (rw [Mine.free1 (x := Str.ofString "mycmp") ?hfr]; (case hfr => (kernel_rfl!; done))) | (rw [Mine.free0 ?hfr]; (case hfr => (kernel_rfl!; done))))) | with_reducible refine Mine.bqIn ?_ | with_reducible refine Mine.bqGo ?_ | with_reducible refine PySem.wpAny_pure ?_ | with_reducible refine PySem.wpAny_rule ?_ | with_reducible refine PySem.wpAny_holding ?_ | with_reducible refine PySem.wpAny_standAt ?_ | with_reducible refine PySem.wpAny_point ?_ | with_reducible refine PySem.wpAny_fresh' ?_ | with_reducible refine Mine.wpTry ?_ | with_reducible refine PySem.wpAny_askSetting ?_ | ((with_reducible show wpAny _ _ (alloc _) _ _ _); (refine Mine.hAlloc rfl ?_); intro _ _ _) | ((with_reducible show wpAny _ _ (ite _ _ _) _ _ _); (first | (refine PySem.wpAny_ite_false ?hc ?_; (case hc => (kernel_rfl!; done))) | (refine PySem.wpAny_ite_true ?hc ?_; (case hc => (kernel_rfl!; done))) | (refine PySem.wpAny_ite_false ?hc ?_; (case hc => (simp [*]; done))) | (refine PySem.wpAny_ite_true ?hc ?_; (case hc => (simp [*]; done))))) | ((with_reducible show wpAny _ _ (load _) _ _ _); (first | (refine' Mine.hLd ?hm ?_; (case hm => (first | (repeat (first | exact List.Mem.head _ | apply List.Mem.tail))))) | (refine Mine.hOl (by with_reducible assumption) ?_) | ((with_reducible rename Frag.In _ _ => XF); (refine Mine.hOl (XF _ _ rfl) ?_)))) | ((with_reducible show wpAny _ _ (loadPart _ _) _ _ _); (first | (refine' Mine.hLdP ?hm ?_; (case hm => (first | (repeat (first | exact List.Mem.head _ | apply List.Mem.tail))))) | (refine Mine.hOlP (by with_reducible assumption) ?_) | ((with_reducible rename Frag.In _ _ => XF); (refine Mine.hOlP (XF _ _ rfl) ?_)))) | ((with_reducible show wpAny _ _ (update _ _) _ _ _); (first | (refine' Mine.hUpd ?hu ?hf ?_; (case hu => (repeat (first | exact Mine.Up.head | apply Mine.Up.tail))); (case hf => rfl)) | (refine' Mine.hUpdP ?hu ?hf ?_; (case hu => (repeat (first | exact Mine.Up.head | apply Mine.Up.tail))); (case hf => rfl)))) | ((with_reducible show wpAny _ _ (updatePart _ _ _) _ _ _); (first | (refine' Mine.hUpd ?hu ?hf ?_; (case hu => (repeat (first | exact Mine.Up.head | apply Mine.Up.tail))); (case hf => rfl)) | (refine' Mine.hUpdP ?hu ?hf ?_; (case hu => (repeat (first | exact Mine.Up.head | apply Mine.Up.tail))); (case hf => rfl)))) | ((with_reducible show wpAny _ _ (isSubtype (.type _) _) _ _ _); refine wpAny_of_eq (a := true) ?hc ?_; (case hc => (rw [isSubtype_type]; kernel_rfl!))) | ((with_reducible show wpAny _ _ (PySem.Builtin.notOverATurnedClass _) _ _ _); refine wpAny_of_eq (a := ()) ?hc ?_; (case hc => kernel_rfl!)) | ((first | (with_reducible show wpAny _ _ (PySem.Builtin.extendedBase _) _ _ _) | (with_reducible show wpAny _ _ (PySem.Builtin.Slots.bestBase _) _ _ _)); refine wpAny_of_eq (a := .type "object") ?hc ?_; (case hc => kernel_rfl!)) | ((first | (with_reducible show wpAny _ _ (PySem.Builtin.Slots.givesDict _) _ _ _) | (with_reducible show wpAny _ _ (PySem.Builtin.Slots.givesWeak _) _ _ _) | (with_reducible show wpAny _ _ (PySem.Builtin.Slots.varSize _) _ _ _)); refine wpAny_of_eq (a := false) ?hc ?_; (case hc => kernel_rfl!)) | ((with_reducible show wpAny _ _ (typeLookup (.ref _) _) _ _ _); unfold typeLookup) | ((with_reducible show wpAny _ _ (classOwn (.type _) _) _ _ _); (first | (refine wpAny_of_eq (a := some (.builtin "object.__new__")) ?hc ?_; (case hc => kernel_rfl!)) | (refine wpAny_of_eq (a := none) ?hc ?_; (case hc => kernel_rfl!)))) | ((with_reducible show wpAny _ _ (typeLookup (.type _) _) _ _ _); (refine wpAny_of_eq (a := none) ?hc ?_; (case hc => (rw [typeLookup_type, builtinLookup_eq_fast]; kernel_rfl!)))) | ((with_reducible show wpAny _ _ (PySem.Builtin.mroHook? _) _ _ _); refine wpAny_of_eq (a := none) ?hc ?_; (case hc => kernel_rfl!)) | ((with_reducible show wpAny _ _ (PySem.Builtin.linearize _ _) _ _ _); refine wpAny_of_eq (a := [.type "object"]) ?hc ?_; (case hc => kernel_rfl!)) | ((with_reducible show wpAny _ _ (Bind.madeBy (.type _)) _ _ _); (first | (refine wpAny_of_eq (a := some "type.__new__") ?hc ?_; (case hc => kernel_rfl!)) | (refine wpAny_of_eq (a := some "object.__new__") ?hc ?_; (case hc => kernel_rfl!)))) | ((fail_if_success (with_reducible show wpAny _ _ (List.anyM _ _) _ _ _)); (fail_if_success (with_reducible show wpAny _ _ (call _ _ _) _ _ _)); (fail_if_success (with_reducible show wpAny _ _ (collect _) _ _ _)); (fail_if_success (with_reducible show wpAny _ _ (PySem.Builtin.Slots.read _ _ _) _ _ _)); (first | wp_delta | wp_step))))
  refine ⟨by rfl, codeAny_of_tree ?_⟩
  repeat ((fail_if_success (with_reducible show codeAny _ _ _ _ _)); (first | with_reducible refine wpAny_onRaise ?_ | ((with_reducible show wpAny _ _ enterFrame _ _ _); (with_reducible rename Heap.NoLimit _ => hl); refine Mine.hEnter hl (by decide) ?_) | ((with_reducible show wpAny _ _ (List.mapM.loop mkText (Scope.freeNames _) []) _ _ _); (first | (rw [Mine.free1 (x := Str.ofString "mycmp") ?hfr]; (case hfr => (kernel_rfl!; done))) | (rw [Mine.free0 ?hfr]; (case hfr => (kernel_rfl!; done))))) | with_reducible refine Mine.bqIn ?_ | with_reducible refine Mine.bqGo ?_ | with_reducible refine PySem.wpAny_pure ?_ | with_reducible refine PySem.wpAny_rule ?_ | with_reducible refine PySem.wpAny_holding ?_ | with_reducible refine PySem.wpAny_standAt ?_ | with_reducible refine PySem.wpAny_point ?_ | with_reducible refine PySem.wpAny_fresh' ?_ | with_reducible refine Mine.wpTry ?_ | with_reducible refine PySem.wpAny_askSetting ?_ | ((with_reducible show wpAny _ _ (alloc _) _ _ _); (refine Mine.hAlloc rfl ?_); intro _ _ _) | ((with_reducible show wpAny _ _ (ite _ _ _) _ _ _); (first | (refine PySem.wpAny_ite_false ?hc ?_; (case hc => (kernel_rfl!; done))) | (refine PySem.wpAny_ite_true ?hc ?_; (case hc => (kernel_rfl!; done))) | (refine PySem.wpAny_ite_false ?hc ?_; (case hc => (simp [*]; done))) | (refine PySem.wpAny_ite_true ?hc ?_; (case hc => (simp [*]; done))))) | ((with_reducible show wpAny _ _ (load _) _ _ _); (first | (refine' Mine.hLd ?hm ?_; (case hm => (first | (repeat (first | exact List.Mem.head _ | apply List.Mem.tail))))) | (refine Mine.hOl (by with_reducible assumption) ?_) | ((with_reducible rename Frag.In _ _ => XF); (refine Mine.hOl (XF _ _ rfl) ?_)))) | ((with_reducible show wpAny _ _ (loadPart _ _) _ _ _); (first | (refine' Mine.hLdP ?hm ?_; (case hm => (first | (repeat (first | exact List.Mem.head _ | apply List.Mem.tail))))) | (refine Mine.hOlP (by with_reducible assumption) ?_) | ((with_reducible rename Frag.In _ _ => XF); (refine Mine.hOlP (XF _ _ rfl) ?_)))) | ((with_reducible show wpAny _ _ (update _ _) _ _ _); (first | (refine' Mine.hUpd ?hu ?hf ?_; (case hu => (repeat (first | exact Mine.Up.head | apply Mine.Up.tail))); (case hf => rfl)) | (refine' Mine.hUpdP ?hu ?hf ?_; (case hu => (repeat (first | exact Mine.Up.head | apply Mine.Up.tail))); (case hf => rfl)))) | ((with_reducible show wpAny _ _ (updatePart _ _ _) _ _ _); (first | (refine' Mine.hUpd ?hu ?hf ?_; (case hu => (repeat (first | exact Mine.Up.head | apply Mine.Up.tail))); (case hf => rfl)) | (refine' Mine.hUpdP ?hu ?hf ?_; (case hu => (repeat (first | exact Mine.Up.head | apply Mine.Up.tail))); (case hf => rfl)))) | ((with_reducible show wpAny _ _ (isSubtype (.type _) _) _ _ _); refine wpAny_of_eq (a := true) ?hc ?_; (case hc => (rw [isSubtype_type]; kernel_rfl!))) | ((with_reducible show wpAny _ _ (PySem.Builtin.notOverATurnedClass _) _ _ _); refine wpAny_of_eq (a := ()) ?hc ?_; (case hc => kernel_rfl!)) | ((first | (with_reducible show wpAny _ _ (PySem.Builtin.extendedBase _) _ _ _) | (with_reducible show wpAny _ _ (PySem.Builtin.Slots.bestBase _) _ _ _)); refine wpAny_of_eq (a := .type "object") ?hc ?_; (case hc => kernel_rfl!)) | ((first | (with_reducible show wpAny _ _ (PySem.Builtin.Slots.givesDict _) _ _ _) | (with_reducible show wpAny _ _ (PySem.Builtin.Slots.givesWeak _) _ _ _) | (with_reducible show wpAny _ _ (PySem.Builtin.Slots.varSize _) _ _ _)); refine wpAny_of_eq (a := false) ?hc ?_; (case hc => kernel_rfl!)) | ((with_reducible show wpAny _ _ (typeLookup (.ref _) _) _ _ _); unfold typeLookup) | ((with_reducible show wpAny _ _ (classOwn (.type _) _) _ _ _); (first | (refine wpAny_of_eq (a := some (.builtin "object.__new__")) ?hc ?_; (case hc => kernel_rfl!)) | (refine wpAny_of_eq (a := none) ?hc ?_; (case hc => kernel_rfl!)))) | ((with_reducible show wpAny _ _ (typeLookup (.type _) _) _ _ _); (refine wpAny_of_eq (a := none) ?hc ?_; (case hc => (rw [typeLookup_type, builtinLookup_eq_fast]; kernel_rfl!)))) | ((with_reducible show wpAny _ _ (PySem.Builtin.mroHook? _) _ _ _); refine wpAny_of_eq (a := none) ?hc ?_; (case hc => kernel_rfl!)) | ((with_reducible show wpAny _ _ (PySem.Builtin.linearize _ _) _ _ _); refine wpAny_of_eq (a := [.type "object"]) ?hc ?_; (case hc => kernel_rfl!)) | ((with_reducible show wpAny _ _ (Bind.madeBy (.type _)) _ _ _); (first | (refine wpAny_of_eq (a := some "type.__new__") ?hc ?_; (case hc => kernel_rfl!)) | (refine wpAny_of_eq (a := some "object.__new__") ?hc ?_; (case hc => kernel_rfl!)))) | ((fail_if_success (with_reducible show wpAny _ _ (List.anyM _ _) _ _ _)); (fail_if_success (with_reducible show wpAny _ _ (call _ _ _) _ _ _)); (fail_if_success (with_reducible show wpAny _ _ (collect _) _ _ _)); (fail_if_success (with_reducible show wpAny _ _ (PySem.Builtin.Slots.read _ _ _) _ _ _)); (first | wp_delta | wp_step))))
  unfold checkBuiltinCall
  repeat ((fail_if_success (with_reducible show codeAny _ _ _ _ _)); (first | with_reducible refine wpAny_onRaise ?_ | ((with_reducible show wpAny _ _ enterFrame _ _ _); (with_reducible rename Heap.NoLimit _ => hl); refine Mine.hEnter hl (by decide) ?_) | ((with_reducible show wpAny _ _ (List.mapM.loop mkText (Scope.freeNames _) []) _ _ _); (first | (rw [Mine.free1 (x := Str.ofString "mycmp") ?hfr]; (case hfr => (kernel_rfl!; done))) | (rw [Mine.free0 ?hfr]; (case hfr => (kernel_rfl!; done))))) | with_reducible refine Mine.bqIn ?_ | with_reducible refine Mine.bqGo ?_ | with_reducible refine PySem.wpAny_pure ?_ | with_reducible refine PySem.wpAny_rule ?_ | with_reducible refine PySem.wpAny_holding ?_ | with_reducible refine PySem.wpAny_standAt ?_ | with_reducible refine PySem.wpAny_point ?_ | with_reducible refine PySem.wpAny_fresh' ?_ | with_reducible refine Mine.wpTry ?_ | with_reducible refine PySem.wpAny_askSetting ?_ | ((with_reducible show wpAny _ _ (alloc _) _ _ _); (refine Mine.hAlloc rfl ?_); intro _ _ _) | ((with_reducible show wpAny _ _ (ite _ _ _) _ _ _); (first | (refine PySem.wpAny_ite_false ?hc ?_; (case hc => (kernel_rfl!; done))) | (refine PySem.wpAny_ite_true ?hc ?_; (case hc => (kernel_rfl!; done))) | (refine PySem.wpAny_ite_false ?hc ?_; (case hc => (simp [*]; done))) | (refine PySem.wpAny_ite_true ?hc ?_; (case hc => (simp [*]; done))))) | ((with_reducible show wpAny _ _ (load _) _ _ _); (first | (refine' Mine.hLd ?hm ?_; (case hm => (first | (repeat (first | exact List.Mem.head _ | apply List.Mem.tail))))) | (refine Mine.hOl (by with_reducible assumption) ?_) | ((with_reducible rename Frag.In _ _ => XF); (refine Mine.hOl (XF _ _ rfl) ?_)))) | ((with_reducible show wpAny _ _ (loadPart _ _) _ _ _); (first | (refine' Mine.hLdP ?hm ?_; (case hm => (first | (repeat (first | exact List.Mem.head _ | apply List.Mem.tail))))) | (refine Mine.hOlP (by with_reducible assumption) ?_) | ((with_reducible rename Frag.In _ _ => XF); (refine Mine.hOlP (XF _ _ rfl) ?_)))) | ((with_reducible show wpAny _ _ (update _ _) _ _ _); (first | (refine' Mine.hUpd ?hu ?hf ?_; (case hu => (repeat (first | exact Mine.Up.head | apply Mine.Up.tail))); (case hf => rfl)) | (refine' Mine.hUpdP ?hu ?hf ?_; (case hu => (repeat (first | exact Mine.Up.head | apply Mine.Up.tail))); (case hf => rfl)))) | ((with_reducible show wpAny _ _ (updatePart _ _ _) _ _ _); (first | (refine' Mine.hUpd ?hu ?hf ?_; (case hu => (repeat (first | exact Mine.Up.head | apply Mine.Up.tail))); (case hf => rfl)) | (refine' Mine.hUpdP ?hu ?hf ?_; (case hu => (repeat (first | exact Mine.Up.head | apply Mine.Up.tail))); (case hf => rfl)))) | ((with_reducible show wpAny _ _ (isSubtype (.type _) _) _ _ _); refine wpAny_of_eq (a := true) ?hc ?_; (case hc => (rw [isSubtype_type]; kernel_rfl!))) | ((with_reducible show wpAny _ _ (PySem.Builtin.notOverATurnedClass _) _ _ _); refine wpAny_of_eq (a := ()) ?hc ?_; (case hc => kernel_rfl!)) | ((first | (with_reducible show wpAny _ _ (PySem.Builtin.extendedBase _) _ _ _) | (with_reducible show wpAny _ _ (PySem.Builtin.Slots.bestBase _) _ _ _)); refine wpAny_of_eq (a := .type "object") ?hc ?_; (case hc => kernel_rfl!)) | ((first | (with_reducible show wpAny _ _ (PySem.Builtin.Slots.givesDict _) _ _ _) | (with_reducible show wpAny _ _ (PySem.Builtin.Slots.givesWeak _) _ _ _) | (with_reducible show wpAny _ _ (PySem.Builtin.Slots.varSize _) _ _ _)); refine wpAny_of_eq (a := false) ?hc ?_; (case hc => kernel_rfl!)) | ((with_reducible show wpAny _ _ (typeLookup (.ref _) _) _ _ _); unfold typeLookup) | ((with_reducible show wpAny _ _ (classOwn (.type _) _) _ _ _); (first | (refine wpAny_of_eq (a := some (.builtin "object.__new__")) ?hc ?_; (case hc => kernel_rfl!)) | (refine wpAny_of_eq (a := none) ?hc ?_; (case hc => kernel_rfl!)))) | ((with_reducible show wpAny _ _ (typeLookup (.type _) _) _ _ _); (refine wpAny_of_eq (a := none) ?hc ?_; (case hc => (rw [typeLookup_type, builtinLookup_eq_fast]; kernel_rfl!)))) | ((with_reducible show wpAny _ _ (PySem.Builtin.mroHook? _) _ _ _); refine wpAny_of_eq (a := none) ?hc ?_; (case hc => kernel_rfl!)) | ((with_reducible show wpAny _ _ (PySem.Builtin.linearize _ _) _ _ _); refine wpAny_of_eq (a := [.type "object"]) ?hc ?_; (case hc => kernel_rfl!)) | ((with_reducible show wpAny _ _ (Bind.madeBy (.type _)) _ _ _); (first | (refine wpAny_of_eq (a := some "type.__new__") ?hc ?_; (case hc => kernel_rfl!)) | (refine wpAny_of_eq (a := some "object.__new__") ?hc ?_; (case hc => kernel_rfl!)))) | ((fail_if_success (with_reducible show wpAny _ _ (List.anyM _ _) _ _ _)); (fail_if_success (with_reducible show wpAny _ _ (call _ _ _) _ _ _)); (fail_if_success (with_reducible show wpAny _ _ (collect _) _ _ _)); (fail_if_success (with_reducible show wpAny _ _ (PySem.Builtin.Slots.read _ _ _) _ _ _)); (first | wp_delta | wp_step))))
  refine ⟨Code.quiet_builtin _ (by decide +kernel), codeAny_builtin F.entry_type_call ?_⟩
  unfold Builtin.«type.__call__»
  repeat ((fail_if_success (with_reducible show codeAny _ _ _ _ _)); (first | with_reducible refine wpAny_onRaise ?_ | ((with_reducible show wpAny _ _ enterFrame _ _ _); (with_reducible rename Heap.NoLimit _ => hl); refine Mine.hEnter hl (by decide) ?_) | ((with_reducible show wpAny _ _ (List.mapM.loop mkText (Scope.freeNames _) []) _ _ _); (first | (rw [Mine.free1 (x := Str.ofString "mycmp") ?hfr]; (case hfr => (kernel_rfl!; done))) | (rw [Mine.free0 ?hfr]; (case hfr => (kernel_rfl!; done))))) | with_reducible refine Mine.bqIn ?_ | with_reducible refine Mine.bqGo ?_ | with_reducible refine PySem.wpAny_pure ?_ | with_reducible refine PySem.wpAny_rule ?_ | with_reducible refine PySem.wpAny_holding ?_ | with_reducible refine PySem.wpAny_standAt ?_ | with_reducible refine PySem.wpAny_point ?_ | with_reducible refine PySem.wpAny_fresh' ?_ | with_reducible refine Mine.wpTry ?_ | with_reducible refine PySem.wpAny_askSetting ?_ | ((with_reducible show wpAny _ _ (alloc _) _ _ _); (refine Mine.hAlloc rfl ?_); intro _ _ _) | ((with_reducible show wpAny _ _ (ite _ _ _) _ _ _); (first | (refine PySem.wpAny_ite_false ?hc ?_; (case hc => (kernel_rfl!; done))) | (refine PySem.wpAny_ite_true ?hc ?_; (case hc => (kernel_rfl!; done))) | (refine PySem.wpAny_ite_false ?hc ?_; (case hc => (simp [*]; done))) | (refine PySem.wpAny_ite_true ?hc ?_; (case hc => (simp [*]; done))))) | ((with_reducible show wpAny _ _ (load _) _ _ _); (first | (refine' Mine.hLd ?hm ?_; (case hm => (first | (repeat (first | exact List.Mem.head _ | apply List.Mem.tail))))) | (refine Mine.hOl (by with_reducible assumption) ?_) | ((with_reducible rename Frag.In _ _ => XF); (refine Mine.hOl (XF _ _ rfl) ?_)))) | ((with_reducible show wpAny _ _ (loadPart _ _) _ _ _); (first | (refine' Mine.hLdP ?hm ?_; (case hm => (first | (repeat (first | exact List.Mem.head _ | apply List.Mem.tail))))) | (refine Mine.hOlP (by with_reducible assumption) ?_) | ((with_reducible rename Frag.In _ _ => XF); (refine Mine.hOlP (XF _ _ rfl) ?_)))) | ((with_reducible show wpAny _ _ (update _ _) _ _ _); (first | (refine' Mine.hUpd ?hu ?hf ?_; (case hu => (repeat (first | exact Mine.Up.head | apply Mine.Up.tail))); (case hf => rfl)) | (refine' Mine.hUpdP ?hu ?hf ?_; (case hu => (repeat (first | exact Mine.Up.head | apply Mine.Up.tail))); (case hf => rfl)))) | ((with_reducible show wpAny _ _ (updatePart _ _ _) _ _ _); (first | (refine' Mine.hUpd ?hu ?hf ?_; (case hu => (repeat (first | exact Mine.Up.head | apply Mine.Up.tail))); (case hf => rfl)) | (refine' Mine.hUpdP ?hu ?hf ?_; (case hu => (repeat (first | exact Mine.Up.head | apply Mine.Up.tail))); (case hf => rfl)))) | ((with_reducible show wpAny _ _ (isSubtype (.type _) _) _ _ _); refine wpAny_of_eq (a := true) ?hc ?_; (case hc => (rw [isSubtype_type]; kernel_rfl!))) | ((with_reducible show wpAny _ _ (PySem.Builtin.notOverATurnedClass _) _ _ _); refine wpAny_of_eq (a := ()) ?hc ?_; (case hc => kernel_rfl!)) | ((first | (with_reducible show wpAny _ _ (PySem.Builtin.extendedBase _) _ _ _) | (with_reducible show wpAny _ _ (PySem.Builtin.Slots.bestBase _) _ _ _)); refine wpAny_of_eq (a := .type "object") ?hc ?_; (case hc => kernel_rfl!)) | ((first | (with_reducible show wpAny _ _ (PySem.Builtin.Slots.givesDict _) _ _ _) | (with_reducible show wpAny _ _ (PySem.Builtin.Slots.givesWeak _) _ _ _) | (with_reducible show wpAny _ _ (PySem.Builtin.Slots.varSize _) _ _ _)); refine wpAny_of_eq (a := false) ?hc ?_; (case hc => kernel_rfl!)) | ((with_reducible show wpAny _ _ (typeLookup (.ref _) _) _ _ _); unfold typeLookup) | ((with_reducible show wpAny _ _ (classOwn (.type _) _) _ _ _); (first | (refine wpAny_of_eq (a := some (.builtin "object.__new__")) ?hc ?_; (case hc => kernel_rfl!)) | (refine wpAny_of_eq (a := none) ?hc ?_; (case hc => kernel_rfl!)))) | ((with_reducible show wpAny _ _ (typeLookup (.type _) _) _ _ _); (refine wpAny_of_eq (a := none) ?hc ?_; (case hc => (rw [typeLookup_type, builtinLookup_eq_fast]; kernel_rfl!)))) | ((with_reducible show wpAny _ _ (PySem.Builtin.mroHook? _) _ _ _); refine wpAny_of_eq (a := none) ?hc ?_; (case hc => kernel_rfl!)) | ((with_reducible show wpAny _ _ (PySem.Builtin.linearize _ _) _ _ _); refine wpAny_of_eq (a := [.type "object"]) ?hc ?_; (case hc => kernel_rfl!)) | ((with_reducible show wpAny _ _ (Bind.madeBy (.type _)) _ _ _); (first | (refine wpAny_of_eq (a := some "type.__new__") ?hc ?_; (case hc => kernel_rfl!)) | (refine wpAny_of_eq (a := some "object.__new__") ?hc ?_; (case hc => kernel_rfl!)))) | ((fail_if_success (with_reducible show wpAny _ _ (List.anyM _ _) _ _ _)); (fail_if_success (with_reducible show wpAny _ _ (call _ _ _) _ _ _)); (fail_if_success (with_reducible show wpAny _ _ (collect _) _ _ _)); (fail_if_success (with_reducible show wpAny _ _ (PySem.Builtin.Slots.read _ _ _) _ _ _)); (first | wp_delta | wp_step))))
  refine wpAny_call (codeAny_call_builtin (by decide +kernel) (entryFor_of_tree (b := Builtin.«object.__new__») (by kernel_rfl)) ?_)
  unfold checkBuiltinCall
  repeat ((fail_if_success (with_reducible show codeAny _ _ _ _ _)); (first | with_reducible refine wpAny_onRaise ?_ | ((with_reducible show wpAny _ _ enterFrame _ _ _); (with_reducible rename Heap.NoLimit _ => hl); refine Mine.hEnter hl (by decide) ?_) | ((with_reducible show wpAny _ _ (List.mapM.loop mkText (Scope.freeNames _) []) _ _ _); (first | (rw [Mine.free1 (x := Str.ofString "mycmp") ?hfr]; (case hfr => (kernel_rfl!; done))) | (rw [Mine.free0 ?hfr]; (case hfr => (kernel_rfl!; done))))) | with_reducible refine Mine.bqIn ?_ | with_reducible refine Mine.bqGo ?_ | with_reducible refine PySem.wpAny_pure ?_ | with_reducible refine PySem.wpAny_rule ?_ | with_reducible refine PySem.wpAny_holding ?_ | with_reducible refine PySem.wpAny_standAt ?_ | with_reducible refine PySem.wpAny_point ?_ | with_reducible refine PySem.wpAny_fresh' ?_ | with_reducible refine Mine.wpTry ?_ | with_reducible refine PySem.wpAny_askSetting ?_ | ((with_reducible show wpAny _ _ (alloc _) _ _ _); (refine Mine.hAlloc rfl ?_); intro _ _ _) | ((with_reducible show wpAny _ _ (ite _ _ _) _ _ _); (first | (refine PySem.wpAny_ite_false ?hc ?_; (case hc => (kernel_rfl!; done))) | (refine PySem.wpAny_ite_true ?hc ?_; (case hc => (kernel_rfl!; done))) | (refine PySem.wpAny_ite_false ?hc ?_; (case hc => (simp [*]; done))) | (refine PySem.wpAny_ite_true ?hc ?_; (case hc => (simp [*]; done))))) | ((with_reducible show wpAny _ _ (load _) _ _ _); (first | (refine' Mine.hLd ?hm ?_; (case hm => (first | (repeat (first | exact List.Mem.head _ | apply List.Mem.tail))))) | (refine Mine.hOl (by with_reducible assumption) ?_) | ((with_reducible rename Frag.In _ _ => XF); (refine Mine.hOl (XF _ _ rfl) ?_)))) | ((with_reducible show wpAny _ _ (loadPart _ _) _ _ _); (first | (refine' Mine.hLdP ?hm ?_; (case hm => (first | (repeat (first | exact List.Mem.head _ | apply List.Mem.tail))))) | (refine Mine.hOlP (by with_reducible assumption) ?_) | ((with_reducible rename Frag.In _ _ => XF); (refine Mine.hOlP (XF _ _ rfl) ?_)))) | ((with_reducible show wpAny _ _ (update _ _) _ _ _); (first | (refine' Mine.hUpd ?hu ?hf ?_; (case hu => (repeat (first | exact Mine.Up.head | apply Mine.Up.tail))); (case hf => rfl)) | (refine' Mine.hUpdP ?hu ?hf ?_; (case hu => (repeat (first | exact Mine.Up.head | apply Mine.Up.tail))); (case hf => rfl)))) | ((with_reducible show wpAny _ _ (updatePart _ _ _) _ _ _); (first | (refine' Mine.hUpd ?hu ?hf ?_; (case hu => (repeat (first | exact Mine.Up.head | apply Mine.Up.tail))); (case hf => rfl)) | (refine' Mine.hUpdP ?hu ?hf ?_; (case hu => (repeat (first | exact Mine.Up.head | apply Mine.Up.tail))); (case hf => rfl)))) | ((with_reducible show wpAny _ _ (isSubtype (.type _) _) _ _ _); refine wpAny_of_eq (a := true) ?hc ?_; (case hc => (rw [isSubtype_type]; kernel_rfl!))) | ((with_reducible show wpAny _ _ (PySem.Builtin.notOverATurnedClass _) _ _ _); refine wpAny_of_eq (a := ()) ?hc ?_; (case hc => kernel_rfl!)) | ((first | (with_reducible show wpAny _ _ (PySem.Builtin.extendedBase _) _ _ _) | (with_reducible show wpAny _ _ (PySem.Builtin.Slots.bestBase _) _ _ _)); refine wpAny_of_eq (a := .type "object") ?hc ?_; (case hc => kernel_rfl!)) | ((first | (with_reducible show wpAny _ _ (PySem.Builtin.Slots.givesDict _) _ _ _) | (with_reducible show wpAny _ _ (PySem.Builtin.Slots.givesWeak _) _ _ _) | (with_reducible show wpAny _ _ (PySem.Builtin.Slots.varSize _) _ _ _)); refine wpAny_of_eq (a := false) ?hc ?_; (case hc => kernel_rfl!)) | ((with_reducible show wpAny _ _ (typeLookup (.ref _) _) _ _ _); unfold typeLookup) | ((with_reducible show wpAny _ _ (classOwn (.type _) _) _ _ _); (first | (refine wpAny_of_eq (a := some (.builtin "object.__new__")) ?hc ?_; (case hc => kernel_rfl!)) | (refine wpAny_of_eq (a := none) ?hc ?_; (case hc => kernel_rfl!)))) | ((with_reducible show wpAny _ _ (typeLookup (.type _) _) _ _ _); (refine wpAny_of_eq (a := none) ?hc ?_; (case hc => (rw [typeLookup_type, builtinLookup_eq_fast]; kernel_rfl!)))) | ((with_reducible show wpAny _ _ (PySem.Builtin.mroHook? _) _ _ _); refine wpAny_of_eq (a := none) ?hc ?_; (case hc => kernel_rfl!)) | ((with_reducible show wpAny _ _ (PySem.Builtin.linearize _ _) _ _ _); refine wpAny_of_eq (a := [.type "object"]) ?hc ?_; (case hc => kernel_rfl!)) | ((with_reducible show wpAny _ _ (Bind.madeBy (.type _)) _ _ _); (first | (refine wpAny_of_eq (a := some "type.__new__") ?hc ?_; (case hc => kernel_rfl!)) | (refine wpAny_of_eq (a := some "object.__new__") ?hc ?_; (case hc => kernel_rfl!)))) | ((fail_if_success (with_reducible show wpAny _ _ (List.anyM _ _) _ _ _)); (fail_if_success (with_reducible show wpAny _ _ (call _ _ _) _ _ _)); (fail_if_success (with_reducible show wpAny _ _ (collect _) _ _ _)); (fail_if_success (with_reducible show wpAny _ _ (PySem.Builtin.Slots.read _ _ _) _ _ _)); (first | wp_delta | wp_step))))
  refine hBack (sub_obj hK rfl rfl rfl (by kernel_rfl) (hIn1 ?_))
  repeat ((fail_if_success (with_reducible show codeAny _ _ _ _ _)); (first | with_reducible refine wpAny_onRaise ?_ | ((with_reducible show wpAny _ _ enterFrame _ _ _); (with_reducible rename Heap.NoLimit _ => hl); refine Mine.hEnter hl (by decide) ?_) | ((with_reducible show wpAny _ _ (List.mapM.loop mkText (Scope.freeNames _) []) _ _ _); (first | (rw [Mine.free1 (x := Str.ofString "mycmp") ?hfr]; (case hfr => (kernel_rfl!; done))) | (rw [Mine.free0 ?hfr]; (case hfr => (kernel_rfl!; done))))) | with_reducible refine Mine.bqIn ?_ | with_reducible refine Mine.bqGo ?_ | with_reducible refine PySem.wpAny_pure ?_ | with_reducible refine PySem.wpAny_rule ?_ | with_reducible refine PySem.wpAny_holding ?_ | with_reducible refine PySem.wpAny_standAt ?_ | with_reducible refine PySem.wpAny_point ?_ | with_reducible refine PySem.wpAny_fresh' ?_ | with_reducible refine Mine.wpTry ?_ | with_reducible refine PySem.wpAny_askSetting ?_ | ((with_reducible show wpAny _ _ (alloc _) _ _ _); (refine Mine.hAlloc rfl ?_); intro _ _ _) | ((with_reducible show wpAny _ _ (ite _ _ _) _ _ _); (first | (refine PySem.wpAny_ite_false ?hc ?_; (case hc => (kernel_rfl!; done))) | (refine PySem.wpAny_ite_true ?hc ?_; (case hc => (kernel_rfl!; done))) | (refine PySem.wpAny_ite_false ?hc ?_; (case hc => (simp [*]; done))) | (refine PySem.wpAny_ite_true ?hc ?_; (case hc => (simp [*]; done))))) | ((with_reducible show wpAny _ _ (load _) _ _ _); (first | (refine' Mine.hLd ?hm ?_; (case hm => (first | (repeat (first | exact List.Mem.head _ | apply List.Mem.tail))))) | (refine Mine.hOl (by with_reducible assumption) ?_) | ((with_reducible rename Frag.In _ _ => XF); (refine Mine.hOl (XF _ _ rfl) ?_)))) | ((with_reducible show wpAny _ _ (loadPart _ _) _ _ _); (first | (refine' Mine.hLdP ?hm ?_; (case hm => (first | (repeat (first | exact List.Mem.head _ | apply List.Mem.tail))))) | (refine Mine.hOlP (by with_reducible assumption) ?_) | ((with_reducible rename Frag.In _ _ => XF); (refine Mine.hOlP (XF _ _ rfl) ?_)))) | ((with_reducible show wpAny _ _ (update _ _) _ _ _); (first | (refine' Mine.hUpd ?hu ?hf ?_; (case hu => (repeat (first | exact Mine.Up.head | apply Mine.Up.tail))); (case hf => rfl)) | (refine' Mine.hUpdP ?hu ?hf ?_; (case hu => (repeat (first | exact Mine.Up.head | apply Mine.Up.tail))); (case hf => rfl)))) | ((with_reducible show wpAny _ _ (updatePart _ _ _) _ _ _); (first | (refine' Mine.hUpd ?hu ?hf ?_; (case hu => (repeat (first | exact Mine.Up.head | apply Mine.Up.tail))); (case hf => rfl)) | (refine' Mine.hUpdP ?hu ?hf ?_; (case hu => (repeat (first | exact Mine.Up.head | apply Mine.Up.tail))); (case hf => rfl)))) | ((with_reducible show wpAny _ _ (isSubtype (.type _) _) _ _ _); refine wpAny_of_eq (a := true) ?hc ?_; (case hc => (rw [isSubtype_type]; kernel_rfl!))) | ((with_reducible show wpAny _ _ (PySem.Builtin.notOverATurnedClass _) _ _ _); refine wpAny_of_eq (a := ()) ?hc ?_; (case hc => kernel_rfl!)) | ((first | (with_reducible show wpAny _ _ (PySem.Builtin.extendedBase _) _ _ _) | (with_reducible show wpAny _ _ (PySem.Builtin.Slots.bestBase _) _ _ _)); refine wpAny_of_eq (a := .type "object") ?hc ?_; (case hc => kernel_rfl!)) | ((first | (with_reducible show wpAny _ _ (PySem.Builtin.Slots.givesDict _) _ _ _) | (with_reducible show wpAny _ _ (PySem.Builtin.Slots.givesWeak _) _ _ _) | (with_reducible show wpAny _ _ (PySem.Builtin.Slots.varSize _) _ _ _)); refine wpAny_of_eq (a := false) ?hc ?_; (case hc => kernel_rfl!)) | ((with_reducible show wpAny _ _ (typeLookup (.ref _) _) _ _ _); unfold typeLookup) | ((with_reducible show wpAny _ _ (classOwn (.type _) _) _ _ _); (first | (refine wpAny_of_eq (a := some (.builtin "object.__new__")) ?hc ?_; (case hc => kernel_rfl!)) | (refine wpAny_of_eq (a := none) ?hc ?_; (case hc => kernel_rfl!)))) | ((with_reducible show wpAny _ _ (typeLookup (.type _) _) _ _ _); (refine wpAny_of_eq (a := none) ?hc ?_; (case hc => (rw [typeLookup_type, builtinLookup_eq_fast]; kernel_rfl!)))) | ((with_reducible show wpAny _ _ (PySem.Builtin.mroHook? _) _ _ _); refine wpAny_of_eq (a := none) ?hc ?_; (case hc => kernel_rfl!)) | ((with_reducible show wpAny _ _ (PySem.Builtin.linearize _ _) _ _ _); refine wpAny_of_eq (a := [.type "object"]) ?hc ?_; (case hc => kernel_rfl!)) | ((with_reducible show wpAny _ _ (Bind.madeBy (.type _)) _ _ _); (first | (refine wpAny_of_eq (a := some "type.__new__") ?hc ?_; (case hc => kernel_rfl!)) | (refine wpAny_of_eq (a := some "object.__new__") ?hc ?_; (case hc => kernel_rfl!)))) | ((fail_if_success (with_reducible show wpAny _ _ (List.anyM _ _) _ _ _)); (fail_if_success (with_reducible show wpAny _ _ (call _ _ _) _ _ _)); (fail_if_success (with_reducible show wpAny _ _ (collect _) _ _ _)); (fail_if_success (with_reducible show wpAny _ _ (PySem.Builtin.Slots.read _ _ _) _ _ _)); (first | wp_delta | wp_step))))
  refine hAllocN (by rfl) fun dd hd₁ D₁ => ?_
  repeat ((fail_if_success (with_reducible show codeAny _ _ _ _ _)); (first | with_reducible refine wpAny_onRaise ?_ | ((with_reducible show wpAny _ _ enterFrame _ _ _); (with_reducible rename Heap.NoLimit _ => hl); refine Mine.hEnter hl (by decide) ?_) | ((with_reducible show wpAny _ _ (List.mapM.loop mkText (Scope.freeNames _) []) _ _ _); (first | (rw [Mine.free1 (x := Str.ofString "mycmp") ?hfr]; (case hfr => (kernel_rfl!; done))) | (rw [Mine.free0 ?hfr]; (case hfr => (kernel_rfl!; done))))) | with_reducible refine Mine.bqIn ?_ | with_reducible refine Mine.bqGo ?_ | with_reducible refine PySem.wpAny_pure ?_ | with_reducible refine PySem.wpAny_rule ?_ | with_reducible refine PySem.wpAny_holding ?_ | with_reducible refine PySem.wpAny_standAt ?_ | with_reducible refine PySem.wpAny_point ?_ | with_reducible refine PySem.wpAny_fresh' ?_ | with_reducible refine Mine.wpTry ?_ | with_reducible refine PySem.wpAny_askSetting ?_ | ((with_reducible show wpAny _ _ (alloc _) _ _ _); (refine Mine.hAlloc rfl ?_); intro _ _ _) | ((with_reducible show wpAny _ _ (ite _ _ _) _ _ _); (first | (refine PySem.wpAny_ite_false ?hc ?_; (case hc => (kernel_rfl!; done))) | (refine PySem.wpAny_ite_true ?hc ?_; (case hc => (kernel_rfl!; done))) | (refine PySem.wpAny_ite_false ?hc ?_; (case hc => (simp [*]; done))) | (refine PySem.wpAny_ite_true ?hc ?_; (case hc => (simp [*]; done))))) | ((with_reducible show wpAny _ _ (load _) _ _ _); (first | (refine' Mine.hLd ?hm ?_; (case hm => (first | (repeat (first | exact List.Mem.head _ | apply List.Mem.tail))))) | (refine Mine.hOl (by with_reducible assumption) ?_) | ((with_reducible rename Frag.In _ _ => XF); (refine Mine.hOl (XF _ _ rfl) ?_)))) | ((with_reducible show wpAny _ _ (loadPart _ _) _ _ _); (first | (refine' Mine.hLdP ?hm ?_; (case hm => (first | (repeat (first | exact List.Mem.head _ | apply List.Mem.tail))))) | (refine Mine.hOlP (by with_reducible assumption) ?_) | ((with_reducible rename Frag.In _ _ => XF); (refine Mine.hOlP (XF _ _ rfl) ?_)))) | ((with_reducible show wpAny _ _ (update _ _) _ _ _); (first | (refine' Mine.hUpd ?hu ?hf ?_; (case hu => (repeat (first | exact Mine.Up.head | apply Mine.Up.tail))); (case hf => rfl)) | (refine' Mine.hUpdP ?hu ?hf ?_; (case hu => (repeat (first | exact Mine.Up.head | apply Mine.Up.tail))); (case hf => rfl)))) | ((with_reducible show wpAny _ _ (updatePart _ _ _) _ _ _); (first | (refine' Mine.hUpd ?hu ?hf ?_; (case hu => (repeat (first | exact Mine.Up.head | apply Mine.Up.tail))); (case hf => rfl)) | (refine' Mine.hUpdP ?hu ?hf ?_; (case hu => (repeat (first | exact Mine.Up.head | apply Mine.Up.tail))); (case hf => rfl)))) | ((with_reducible show wpAny _ _ (isSubtype (.type _) _) _ _ _); refine wpAny_of_eq (a := true) ?hc ?_; (case hc => (rw [isSubtype_type]; kernel_rfl!))) | ((with_reducible show wpAny _ _ (PySem.Builtin.notOverATurnedClass _) _ _ _); refine wpAny_of_eq (a := ()) ?hc ?_; (case hc => kernel_rfl!)) | ((first | (with_reducible show wpAny _ _ (PySem.Builtin.extendedBase _) _ _ _) | (with_reducible show wpAny _ _ (PySem.Builtin.Slots.bestBase _) _ _ _)); refine wpAny_of_eq (a := .type "object") ?hc ?_; (case hc => kernel_rfl!)) | ((first | (with_reducible show wpAny _ _ (PySem.Builtin.Slots.givesDict _) _ _ _) | (with_reducible show wpAny _ _ (PySem.Builtin.Slots.givesWeak _) _ _ _) | (with_reducible show wpAny _ _ (PySem.Builtin.Slots.varSize _) _ _ _)); refine wpAny_of_eq (a := false) ?hc ?_; (case hc => kernel_rfl!)) | ((with_reducible show wpAny _ _ (typeLookup (.ref _) _) _ _ _); unfold typeLookup) | ((with_reducible show wpAny _ _ (classOwn (.type _) _) _ _ _); (first | (refine wpAny_of_eq (a := some (.builtin "object.__new__")) ?hc ?_; (case hc => kernel_rfl!)) | (refine wpAny_of_eq (a := none) ?hc ?_; (case hc => kernel_rfl!)))) | ((with_reducible show wpAny _ _ (typeLookup (.type _) _) _ _ _); (refine wpAny_of_eq (a := none) ?hc ?_; (case hc => (rw [typeLookup_type, builtinLookup_eq_fast]; kernel_rfl!)))) | ((with_reducible show wpAny _ _ (PySem.Builtin.mroHook? _) _ _ _); refine wpAny_of_eq (a := none) ?hc ?_; (case hc => kernel_rfl!)) | ((with_reducible show wpAny _ _ (PySem.Builtin.linearize _ _) _ _ _); refine wpAny_of_eq (a := [.type "object"]) ?hc ?_; (case hc => kernel_rfl!)) | ((with_reducible show wpAny _ _ (Bind.madeBy (.type _)) _ _ _); (first | (refine wpAny_of_eq (a := some "type.__new__") ?hc ?_; (case hc => kernel_rfl!)) | (refine wpAny_of_eq (a := some "object.__new__") ?hc ?_; (case hc => kernel_rfl!)))) | ((fail_if_success (with_reducible show wpAny _ _ (List.anyM _ _) _ _ _)); (fail_if_success (with_reducible show wpAny _ _ (call _ _ _) _ _ _)); (fail_if_success (with_reducible show wpAny _ _ (collect _) _ _ _)); (fail_if_success (with_reducible show wpAny _ _ (PySem.Builtin.Slots.read _ _ _) _ _ _)); (first | wp_delta | wp_step))))
  show wpAny _ _ (isSubtype (.ref K) (.ref K)) _ _ _
  refine hOut fun hz D => ?_
  rename_i x _ _
  refine sub_self (D.keep _ _ hK) rfl rfl (hIn2 D ?_)
  repeat ((fail_if_success (with_reducible show codeAny _ _ _ _ _)); (first | with_reducible refine wpAny_onRaise ?_ | ((with_reducible show wpAny _ _ enterFrame _ _ _); (with_reducible rename Heap.NoLimit _ => hl); refine Mine.hEnter hl (by decide) ?_) | ((with_reducible show wpAny _ _ (List.mapM.loop mkText (Scope.freeNames _) []) _ _ _); (first | (rw [Mine.free1 (x := Str.ofString "mycmp") ?hfr]; (case hfr => (kernel_rfl!; done))) | (rw [Mine.free0 ?hfr]; (case hfr => (kernel_rfl!; done))))) | with_reducible refine Mine.bqIn ?_ | with_reducible refine Mine.bqGo ?_ | with_reducible refine PySem.wpAny_pure ?_ | with_reducible refine PySem.wpAny_rule ?_ | with_reducible refine PySem.wpAny_holding ?_ | with_reducible refine PySem.wpAny_standAt ?_ | with_reducible refine PySem.wpAny_point ?_ | with_reducible refine PySem.wpAny_fresh' ?_ | with_reducible refine Mine.wpTry ?_ | with_reducible refine PySem.wpAny_askSetting ?_ | ((with_reducible show wpAny _ _ (alloc _) _ _ _); (refine Mine.hAlloc rfl ?_); intro _ _ _) | ((with_reducible show wpAny _ _ (ite _ _ _) _ _ _); (first | (refine PySem.wpAny_ite_false ?hc ?_; (case hc => (kernel_rfl!; done))) | (refine PySem.wpAny_ite_true ?hc ?_; (case hc => (kernel_rfl!; done))) | (refine PySem.wpAny_ite_false ?hc ?_; (case hc => (simp [*]; done))) | (refine PySem.wpAny_ite_true ?hc ?_; (case hc => (simp [*]; done))))) | ((with_reducible show wpAny _ _ (load _) _ _ _); (first | (refine' Mine.hLd ?hm ?_; (case hm => (first | (repeat (first | exact List.Mem.head _ | apply List.Mem.tail))))) | (refine Mine.hOl (by with_reducible assumption) ?_) | ((with_reducible rename Frag.In _ _ => XF); (refine Mine.hOl (XF _ _ rfl) ?_)))) | ((with_reducible show wpAny _ _ (loadPart _ _) _ _ _); (first | (refine' Mine.hLdP ?hm ?_; (case hm => (first | (repeat (first | exact List.Mem.head _ | apply List.Mem.tail))))) | (refine Mine.hOlP (by with_reducible assumption) ?_) | ((with_reducible rename Frag.In _ _ => XF); (refine Mine.hOlP (XF _ _ rfl) ?_)))) | ((with_reducible show wpAny _ _ (update _ _) _ _ _); (first | (refine' Mine.hUpd ?hu ?hf ?_; (case hu => (repeat (first | exact Mine.Up.head | apply Mine.Up.tail))); (case hf => rfl)) | (refine' Mine.hUpdP ?hu ?hf ?_; (case hu => (repeat (first | exact Mine.Up.head | apply Mine.Up.tail))); (case hf => rfl)))) | ((with_reducible show wpAny _ _ (updatePart _ _ _) _ _ _); (first | (refine' Mine.hUpd ?hu ?hf ?_; (case hu => (repeat (first | exact Mine.Up.head | apply Mine.Up.tail))); (case hf => rfl)) | (refine' Mine.hUpdP ?hu ?hf ?_; (case hu => (repeat (first | exact Mine.Up.head | apply Mine.Up.tail))); (case hf => rfl)))) | ((with_reducible show wpAny _ _ (isSubtype (.type _) _) _ _ _); refine wpAny_of_eq (a := true) ?hc ?_; (case hc => (rw [isSubtype_type]; kernel_rfl!))) | ((with_reducible show wpAny _ _ (PySem.Builtin.notOverATurnedClass _) _ _ _); refine wpAny_of_eq (a := ()) ?hc ?_; (case hc => kernel_rfl!)) | ((first | (with_reducible show wpAny _ _ (PySem.Builtin.extendedBase _) _ _ _) | (with_reducible show wpAny _ _ (PySem.Builtin.Slots.bestBase _) _ _ _)); refine wpAny_of_eq (a := .type "object") ?hc ?_; (case hc => kernel_rfl!)) | ((first | (with_reducible show wpAny _ _ (PySem.Builtin.Slots.givesDict _) _ _ _) | (with_reducible show wpAny _ _ (PySem.Builtin.Slots.givesWeak _) _ _ _) | (with_reducible show wpAny _ _ (PySem.Builtin.Slots.varSize _) _ _ _)); refine wpAny_of_eq (a := false) ?hc ?_; (case hc => kernel_rfl!)) | ((with_reducible show wpAny _ _ (typeLookup (.ref _) _) _ _ _); unfold typeLookup) | ((with_reducible show wpAny _ _ (classOwn (.type _) _) _ _ _); (first | (refine wpAny_of_eq (a := some (.builtin "object.__new__")) ?hc ?_; (case hc => kernel_rfl!)) | (refine wpAny_of_eq (a := none) ?hc ?_; (case hc => kernel_rfl!)))) | ((with_reducible show wpAny _ _ (typeLookup (.type _) _) _ _ _); (refine wpAny_of_eq (a := none) ?hc ?_; (case hc => (rw [typeLookup_type, builtinLookup_eq_fast]; kernel_rfl!)))) | ((with_reducible show wpAny _ _ (PySem.Builtin.mroHook? _) _ _ _); refine wpAny_of_eq (a := none) ?hc ?_; (case hc => kernel_rfl!)) | ((with_reducible show wpAny _ _ (PySem.Builtin.linearize _ _) _ _ _); refine wpAny_of_eq (a := [.type "object"]) ?hc ?_; (case hc => kernel_rfl!)) | ((with_reducible show wpAny _ _ (Bind.madeBy (.type _)) _ _ _); (first | (refine wpAny_of_eq (a := some "type.__new__") ?hc ?_; (case hc => kernel_rfl!)) | (refine wpAny_of_eq (a := some "object.__new__") ?hc ?_; (case hc => kernel_rfl!)))) | ((fail_if_success (with_reducible show wpAny _ _ (List.anyM _ _) _ _ _)); (fail_if_success (with_reducible show wpAny _ _ (call _ _ _) _ _ _)); (fail_if_success (with_reducible show wpAny _ _ (collect _) _ _ _)); (fail_if_success (with_reducible show wpAny _ _ (PySem.Builtin.Slots.read _ _ _) _ _ _)); (first | wp_delta | wp_step))))
  unfold bindSpecial
  repeat ((fail_if_success (with_reducible show codeAny _ _ _ _ _)); (first | with_reducible refine wpAny_onRaise ?_ | ((with_reducible show wpAny _ _ enterFrame _ _ _); (with_reducible rename Heap.NoLimit _ => hl); refine Mine.hEnter hl (by decide) ?_) | ((with_reducible show wpAny _ _ (List.mapM.loop mkText (Scope.freeNames _) []) _ _ _); (first | (rw [Mine.free1 (x := Str.ofString "mycmp") ?hfr]; (case hfr => (kernel_rfl!; done))) | (rw [Mine.free0 ?hfr]; (case hfr => (kernel_rfl!; done))))) | with_reducible refine Mine.bqIn ?_ | with_reducible refine Mine.bqGo ?_ | with_reducible refine PySem.wpAny_pure ?_ | with_reducible refine PySem.wpAny_rule ?_ | with_reducible refine PySem.wpAny_holding ?_ | with_reducible refine PySem.wpAny_standAt ?_ | with_reducible refine PySem.wpAny_point ?_ | with_reducible refine PySem.wpAny_fresh' ?_ | with_reducible refine Mine.wpTry ?_ | with_reducible refine PySem.wpAny_askSetting ?_ | ((with_reducible show wpAny _ _ (alloc _) _ _ _); (refine Mine.hAlloc rfl ?_); intro _ _ _) | ((with_reducible show wpAny _ _ (ite _ _ _) _ _ _); (first | (refine PySem.wpAny_ite_false ?hc ?_; (case hc => (kernel_rfl!; done))) | (refine PySem.wpAny_ite_true ?hc ?_; (case hc => (kernel_rfl!; done))) | (refine PySem.wpAny_ite_false ?hc ?_; (case hc => (simp [*]; done))) | (refine PySem.wpAny_ite_true ?hc ?_; (case hc => (simp [*]; done))))) | ((with_reducible show wpAny _ _ (load _) _ _ _); (first | (refine' Mine.hLd ?hm ?_; (case hm => (first | (repeat (first | exact List.Mem.head _ | apply List.Mem.tail))))) | (refine Mine.hOl (by with_reducible assumption) ?_) | ((with_reducible rename Frag.In _ _ => XF); (refine Mine.hOl (XF _ _ rfl) ?_)))) | ((with_reducible show wpAny _ _ (loadPart _ _) _ _ _); (first | (refine' Mine.hLdP ?hm ?_; (case hm => (first | (repeat (first | exact List.Mem.head _ | apply List.Mem.tail))))) | (refine Mine.hOlP (by with_reducible assumption) ?_) | ((with_reducible rename Frag.In _ _ => XF); (refine Mine.hOlP (XF _ _ rfl) ?_)))) | ((with_reducible show wpAny _ _ (update _ _) _ _ _); (first | (refine' Mine.hUpd ?hu ?hf ?_; (case hu => (repeat (first | exact Mine.Up.head | apply Mine.Up.tail))); (case hf => rfl)) | (refine' Mine.hUpdP ?hu ?hf ?_; (case hu => (repeat (first | exact Mine.Up.head | apply Mine.Up.tail))); (case hf => rfl)))) | ((with_reducible show wpAny _ _ (updatePart _ _ _) _ _ _); (first | (refine' Mine.hUpd ?hu ?hf ?_; (case hu => (repeat (first | exact Mine.Up.head | apply Mine.Up.tail))); (case hf => rfl)) | (refine' Mine.hUpdP ?hu ?hf ?_; (case hu => (repeat (first | exact Mine.Up.head | apply Mine.Up.tail))); (case hf => rfl)))) | ((with_reducible show wpAny _ _ (isSubtype (.type _) _) _ _ _); refine wpAny_of_eq (a := true) ?hc ?_; (case hc => (rw [isSubtype_type]; kernel_rfl!))) | ((with_reducible show wpAny _ _ (PySem.Builtin.notOverATurnedClass _) _ _ _); refine wpAny_of_eq (a := ()) ?hc ?_; (case hc => kernel_rfl!)) | ((first | (with_reducible show wpAny _ _ (PySem.Builtin.extendedBase _) _ _ _) | (with_reducible show wpAny _ _ (PySem.Builtin.Slots.bestBase _) _ _ _)); refine wpAny_of_eq (a := .type "object") ?hc ?_; (case hc => kernel_rfl!)) | ((first | (with_reducible show wpAny _ _ (PySem.Builtin.Slots.givesDict _) _ _ _) | (with_reducible show wpAny _ _ (PySem.Builtin.Slots.givesWeak _) _ _ _) | (with_reducible show wpAny _ _ (PySem.Builtin.Slots.varSize _) _ _ _)); refine wpAny_of_eq (a := false) ?hc ?_; (case hc => kernel_rfl!)) | ((with_reducible show wpAny _ _ (typeLookup (.ref _) _) _ _ _); unfold typeLookup) | ((with_reducible show wpAny _ _ (classOwn (.type _) _) _ _ _); (first | (refine wpAny_of_eq (a := some (.builtin "object.__new__")) ?hc ?_; (case hc => kernel_rfl!)) | (refine wpAny_of_eq (a := none) ?hc ?_; (case hc => kernel_rfl!)))) | ((with_reducible show wpAny _ _ (typeLookup (.type _) _) _ _ _); (refine wpAny_of_eq (a := none) ?hc ?_; (case hc => (rw [typeLookup_type, builtinLookup_eq_fast]; kernel_rfl!)))) | ((with_reducible show wpAny _ _ (PySem.Builtin.mroHook? _) _ _ _); refine wpAny_of_eq (a := none) ?hc ?_; (case hc => kernel_rfl!)) | ((with_reducible show wpAny _ _ (PySem.Builtin.linearize _ _) _ _ _); refine wpAny_of_eq (a := [.type "object"]) ?hc ?_; (case hc => kernel_rfl!)) | ((with_reducible show wpAny _ _ (Bind.madeBy (.type _)) _ _ _); (first | (refine wpAny_of_eq (a := some "type.__new__") ?hc ?_; (case hc => kernel_rfl!)) | (refine wpAny_of_eq (a := some "object.__new__") ?hc ?_; (case hc => kernel_rfl!)))) | ((fail_if_success (with_reducible show wpAny _ _ (List.anyM _ _) _ _ _)); (fail_if_success (with_reducible show wpAny _ _ (call _ _ _) _ _ _)); (fail_if_success (with_reducible show wpAny _ _ (collect _) _ _ _)); (fail_if_success (with_reducible show wpAny _ _ (PySem.Builtin.Slots.read _ _ _) _ _ _)); (first | wp_delta | wp_step))))
  show wpAny _ _ (call (.ref f1) [.ref x, .ref v]) _ _ _
  refine hOut fun hz D => ?_
  refine init_spec hlim KA' D (Nat.le_of_ble_eq_true (by kernel_rfl)) fun h₂ tk₂ D₂ => hIn2 D₂ ?_
  repeat ((fail_if_success (with_reducible show codeAny _ _ _ _ _)); (first | with_reducible refine wpAny_onRaise ?_ | ((with_reducible show wpAny _ _ enterFrame _ _ _); (with_reducible rename Heap.NoLimit _ => hl); refine Mine.hEnter hl (by decide) ?_) | ((with_reducible show wpAny _ _ (List.mapM.loop mkText (Scope.freeNames _) []) _ _ _); (first | (rw [Mine.free1 (x := Str.ofString "mycmp") ?hfr]; (case hfr => (kernel_rfl!; done))) | (rw [Mine.free0 ?hfr]; (case hfr => (kernel_rfl!; done))))) | with_reducible refine Mine.bqIn ?_ | with_reducible refine Mine.bqGo ?_ | with_reducible refine PySem.wpAny_pure ?_ | with_reducible refine PySem.wpAny_rule ?_ | with_reducible refine PySem.wpAny_holding ?_ | with_reducible refine PySem.wpAny_standAt ?_ | with_reducible refine PySem.wpAny_point ?_ | with_reducible refine PySem.wpAny_fresh' ?_ | with_reducible refine Mine.wpTry ?_ | with_reducible refine PySem.wpAny_askSetting ?_ | ((with_reducible show wpAny _ _ (alloc _) _ _ _); (refine Mine.hAlloc rfl ?_); intro _ _ _) | ((with_reducible show wpAny _ _ (ite _ _ _) _ _ _); (first | (refine PySem.wpAny_ite_false ?hc ?_; (case hc => (kernel_rfl!; done))) | (refine PySem.wpAny_ite_true ?hc ?_; (case hc => (kernel_rfl!; done))) | (refine PySem.wpAny_ite_false ?hc ?_; (case hc => (simp [*]; done))) | (refine PySem.wpAny_ite_true ?hc ?_; (case hc => (simp [*]; done))))) | ((with_reducible show wpAny _ _ (load _) _ _ _); (first | (refine' Mine.hLd ?hm ?_; (case hm => (first | (repeat (first | exact List.Mem.head _ | apply List.Mem.tail))))) | (refine Mine.hOl (by with_reducible assumption) ?_) | ((with_reducible rename Frag.In _ _ => XF); (refine Mine.hOl (XF _ _ rfl) ?_)))) | ((with_reducible show wpAny _ _ (loadPart _ _) _ _ _); (first | (refine' Mine.hLdP ?hm ?_; (case hm => (first | (repeat (first | exact List.Mem.head _ | apply List.Mem.tail))))) | (refine Mine.hOlP (by with_reducible assumption) ?_) | ((with_reducible rename Frag.In _ _ => XF); (refine Mine.hOlP (XF _ _ rfl) ?_)))) | ((with_reducible show wpAny _ _ (update _ _) _ _ _); (first | (refine' Mine.hUpd ?hu ?hf ?_; (case hu => (repeat (first | exact Mine.Up.head | apply Mine.Up.tail))); (case hf => rfl)) | (refine' Mine.hUpdP ?hu ?hf ?_; (case hu => (repeat (first | exact Mine.Up.head | apply Mine.Up.tail))); (case hf => rfl)))) | ((with_reducible show wpAny _ _ (updatePart _ _ _) _ _ _); (first | (refine' Mine.hUpd ?hu ?hf ?_; (case hu => (repeat (first | exact Mine.Up.head | apply Mine.Up.tail))); (case hf => rfl)) | (refine' Mine.hUpdP ?hu ?hf ?_; (case hu => (repeat (first | exact Mine.Up.head | apply Mine.Up.tail))); (case hf => rfl)))) | ((with_reducible show wpAny _ _ (isSubtype (.type _) _) _ _ _); refine wpAny_of_eq (a := true) ?hc ?_; (case hc => (rw [isSubtype_type]; kernel_rfl!))) | ((with_reducible show wpAny _ _ (PySem.Builtin.notOverATurnedClass _) _ _ _); refine wpAny_of_eq (a := ()) ?hc ?_; (case hc => kernel_rfl!)) | ((first | (with_reducible show wpAny _ _ (PySem.Builtin.extendedBase _) _ _ _) | (with_reducible show wpAny _ _ (PySem.Builtin.Slots.bestBase _) _ _ _)); refine wpAny_of_eq (a := .type "object") ?hc ?_; (case hc => kernel_rfl!)) | ((first | (with_reducible show wpAny _ _ (PySem.Builtin.Slots.givesDict _) _ _ _) | (with_reducible show wpAny _ _ (PySem.Builtin.Slots.givesWeak _) _ _ _) | (with_reducible show wpAny _ _ (PySem.Builtin.Slots.varSize _) _ _ _)); refine wpAny_of_eq (a := false) ?hc ?_; (case hc => kernel_rfl!)) | ((with_reducible show wpAny _ _ (typeLookup (.ref _) _) _ _ _); unfold typeLookup) | ((with_reducible show wpAny _ _ (classOwn (.type _) _) _ _ _); (first | (refine wpAny_of_eq (a := some (.builtin "object.__new__")) ?hc ?_; (case hc => kernel_rfl!)) | (refine wpAny_of_eq (a := none) ?hc ?_; (case hc => kernel_rfl!)))) | ((with_reducible show wpAny _ _ (typeLookup (.type _) _) _ _ _); (refine wpAny_of_eq (a := none) ?hc ?_; (case hc => (rw [typeLookup_type, builtinLookup_eq_fast]; kernel_rfl!)))) | ((with_reducible show wpAny _ _ (PySem.Builtin.mroHook? _) _ _ _); refine wpAny_of_eq (a := none) ?hc ?_; (case hc => kernel_rfl!)) | ((with_reducible show wpAny _ _ (PySem.Builtin.linearize _ _) _ _ _); refine wpAny_of_eq (a := [.type "object"]) ?hc ?_; (case hc => kernel_rfl!)) | ((with_reducible show wpAny _ _ (Bind.madeBy (.type _)) _ _ _); (first | (refine wpAny_of_eq (a := some "type.__new__") ?hc ?_; (case hc => kernel_rfl!)) | (refine wpAny_of_eq (a := some "object.__new__") ?hc ?_; (case hc => kernel_rfl!)))) | ((fail_if_success (with_reducible show wpAny _ _ (List.anyM _ _) _ _ _)); (fail_if_success (with_reducible show wpAny _ _ (call _ _ _) _ _ _)); (fail_if_success (with_reducible show wpAny _ _ (collect _) _ _ _)); (fail_if_success (with_reducible show wpAny _ _ (PySem.Builtin.Slots.read _ _ _) _ _ _)); (first | wp_delta | wp_step))))
  show Q (.ref x) _
  refine hEnd fun h' D' => ?_
  exact hq h' x dd _ D'.keep (D'.nw (x, _) (.head _)).2 (D'.nw (x, _) (.head _)).1
end
end Mine
end
section
open PySem PySem.W PySem.Calls PyProof.Rows PySem.Builtin.Str PySem.SeqAt
set_option maxRecDepth 100000
set_option maxHeartbeats 8000000
namespace Mine
variable {w : World} {A : Around} {E : Value → Shared → Prop} {s : Shared} {loose : List Str} {mean : ExcName → Option Value} {mg mb : Str → Option Value} {n : Nat}

/-- a numeral, or one other sign -/
structure PieceOk (p : List Nat) : Prop where
  ne : p ≠ []
  len : p.length ≤ 20
  asc : ∀ c ∈ p, c < 128
  kind : (isFig (p.headD 0) = true ∧ Figs p) ∨ (isFig (p.headD 0) = false ∧ p.length = 1)
noncomputable def gapP (p q : List Nat) : Int := if (isFig (p.headD 0) && isFig (q.headD 0)) = true then worthOf p - worthOf q else ((p.headD 0 : Nat) : Int) - (q.headD 0 : Nat)
noncomputable def cmpP : List (List Nat) → List (List Nat) → Int
  | p :: ps, q :: qs => if gapP p q ≠ 0 then gapP p q else cmpP ps qs
  | ps, qs => (ps.length : Int) - (qs.length : Int)
theorem cmp_at : ∀ (ps qs : List (List Nat)) (i : Nat) (p q : List Nat), ps[i]? = some p → qs[i]? = some q → (∀ j p' q', j < i → ps[j]? = some p' → qs[j]? = some q' → gapP p' q' = 0) → gapP p q ≠ 0 → cmpP ps qs = gapP p q
  | p :: ps, q :: qs, 0, _, _, hp, hq, _, hg => by
    cases hp; cases hq
    rw [cmpP, if_pos hg]
  | p :: ps, q :: qs, i + 1, p', q', hp, hq, hz, hg => by
    rw [cmpP, if_neg (by rw [hz 0 p q (by omega) rfl rfl]; simp)]
    exact cmp_at ps qs i p' q' (by simpa using hp) (by simpa using hq) (fun j a b hj ha hb => hz (j + 1) a b (by omega) (by simpa using ha) (by simpa using hb)) hg
  | [], _, _, _, _, hp, _, _, _ => by simp at hp
  | _ :: _, [], _, _, _, _, hq, _, _ => by simp at hq
theorem cmp_end : ∀ (ps qs : List (List Nat)), (∀ (j : Nat) p' q', ps[j]? = some p' → qs[j]? = some q' → gapP p' q' = 0) → cmpP ps qs = (ps.length : Int) - (qs.length : Int)
  | p :: ps, q :: qs, hz => by
    rw [cmpP, if_neg (by rw [hz 0 p q rfl rfl]; simp), cmp_end ps qs fun j a b ha hb => hz (j + 1) a b (by simpa using ha) (by simpa using hb)]
    simp only [List.length_cons]; omega
  | [], [], _ => rfl
  | [], _ :: _, _ => rfl
  | _ :: _, [], _ => rfl

theorem for_walksT {prog : Program} {R : Result → Shared → Prop} {elts : List Expr} {kt : Nat} {pt : Pos} {body : List Stmt} {env : Env} {I : Addr} {fp wr : List Addr} {n : Nat} {Pt : Nat → Array Value → Prop} {St : Nat → Heap → Prop} {Mid : Nat → Addr → Heap → Prop}
    (W : WalksT prog w A I fp wr n Pt St Mid) (J : Nat → Shared → Prop) (h0 : J 0 s) (st0 : St 0 s.heap)
    (turn : ∀ i T vals (s : Shared) h' tk, i < n → Pt i vals → J i s → St i s.heap → St (i + 1) h' → h'.IsTuple T vals → s.heap.objs.size ≤ T → (∀ b o, b ∉ wr → s.heap.get? b = some o → h'.get? b = some o) →
      ∀ Q' : Flow → Shared → Prop, (∀ s₃, J (i + 1) s₃ → St (i + 1) s₃.heap → Q' .next s₃) → (∀ v s₃, R (.ok (.ret v)) s₃ → Q' (.ret v) s₃) →
      wpAny (model prog w) A (assign (.Tuple elts kt pt) env (.ref T)) (fun _ s₂ => wpAny (model prog w) A (execs body env) Q' (fun _ _ => False) s₂) (fun _ _ => False) { s with heap := h', toks := tk })
    (done : ∀ (s : Shared) h' tk, J n s → St n s.heap → (∀ b o, b ∉ wr → s.heap.get? b = some o → h'.get? b = some o) → R (.ok .next) { s with heap := h', toks := tk }) :
    codeAny (model prog w) A (.forLoop (.Tuple elts kt pt) (.ref I) body [] env) R s := by
  refine codeAny_forLoop_any (fun k s' => ∃ i, i ≤ n ∧ k = n - i ∧ J i s' ∧ St i s'.heap) ?_ n ⟨0, Nat.zero_le _, rfl, h0, st0⟩
  rintro k s' ⟨i, hi, rfl, hJ, hst⟩
  by_cases hlt : i < n
  · refine W.item i s' _ _ hlt hst fun T vals h' tk hP hT ht hm hk => ?_
    refine W.go _ _ _ i T _ _ _ hm fun h'' hst'' hk'' => ?_
    have ht' : h''.IsTuple T vals := by
      obtain ⟨o, e, r⟩ := ht
      exact ⟨o, hk'' T o (W.apart i T h' hm) e, r⟩
    refine wpAny_mono (turn i T vals s' h'' tk hlt hP hJ hst hst'' ht' hT (fun b o hb e => hk'' b o hb (hk b o hb e)) (fun f s₃ => match f with
          | .next | .cont => J (i + 1) s₃ ∧ St (i + 1) s₃.heap
          | .brk => R (.ok .next) s₃
          | .ret v => R (.ok (.ret v)) s₃) (fun _ a b => ⟨a, b⟩) (fun _ _ a => a)) (fun _ s₂ h₂ => wpAny_mono h₂ (fun f s₃ h₃ => ?_) fun _ _ e => e.elim) fun _ _ e => e.elim
    cases f with
    | next => exact ⟨n - (i + 1), by omega, i + 1, hlt, rfl, h₃⟩
    | cont => exact ⟨n - (i + 1), by omega, i + 1, hlt, rfl, h₃⟩
    | brk => exact h₃
    | ret v => exact h₃
  · have : i = n := by omega
    subst this
    refine W.done s' _ _ hst fun h' tk hk => ?_
    exact wpAny_execs_nil (done s' h' tk hJ hst hk)

theorem tab_split {h : Heap} (t : Tab24 h) : ∃ o, h.get? 24 = some o ∧ ∀ h', Kp (hid h) h' → h'.get? 24 = some o → Tab24 h' := by
  rcases t with e | ⟨c, oc, vs, t, h1, h2, h3, h4⟩
  · exact ⟨_, e, fun h' _ e' => .inl e'⟩
  · refine ⟨_, h4, fun h' k e' => .inr ⟨c, oc, vs, t, k _ _ (hid_get h1 fun q => ?_), h2, h3, e'⟩⟩
    rw [q, h4] at h1; cases h1; cases h2; cases h3
theorem Tab24.at {h : Heap} (t : Tab24 h) : ∃ o, h.get? 24 = some o := by
  obtain ⟨o, e, _⟩ := tab_split t; exact ⟨o, e⟩

/-- a table 24 as entries of a ledger -/
theorem tab_led {g h : Heap} {zs : List Addr} (hk : Kp g h) (g24 : g.get? 24 = none) (t : Tab24 h) (hz : ∀ a ∈ zs, ∃ o, h.get? a = some o ∧ ∀ vs t, o.data = .fields vs → vs[1]? ≠ some (.str QI t)) (z24 : 24 ∉ zs) :
    ∃ o c₂ o₂, h.get? 24 = some o ∧ h.get? c₂ = some o₂ ∧ g.get? c₂ = none ∧ c₂ ∉ zs ∧ ∀ h', Kp g h' → h'.get? 24 = some o → h'.get? c₂ = some o₂ → Tab24 h' := by
  rcases t with e | ⟨c, oc, vs, t, h1, h2, h3, h4⟩
  · exact ⟨_, 24, _, e, e, g24, z24, fun h' _ e' _ => .inl e'⟩
  · cases q : g.get? c with
    | some o' =>
      have : o' = oc := by have := hk _ _ q; rw [h1] at this; cases this; rfl
      subst this
      exact ⟨_, 24, _, h4, h4, g24, z24, fun h' k e' _ => .inr ⟨c, o', vs, t, k _ _ q, h2, h3, e'⟩⟩
    | none =>
      refine ⟨_, c, oc, h4, h1, q, fun hc => ?_, fun h' _ e' e'' => .inr ⟨c, oc, vs, t, e'', h2, h3, e'⟩⟩
      obtain ⟨o, e, hno⟩ := hz c hc
      rw [h1] at e; cases e
      exact hno vs t h2 h3
theorem strs_get : ∀ {vs : List Value} {ys : List Str} {i : Nat} {x : Value}, StrsAre vs ys → vs[i]? = some x → ∃ y t, ys[i]? = some y ∧ x = .str y t
  | _, _, 0, _, .cons y t _, h => by cases h; exact ⟨y, t, rfl, rfl⟩
  | _, _, i + 1, _, .cons _ _ r, h => by
    obtain ⟨y, t, h1, h2⟩ := strs_get (i := i) r (by simpa using h)
    exact ⟨y, t, by simpa using h1, h2⟩
  | _, _, _, _, .nil, h => by simp at h
noncomputable abbrev tupP (a b : Value) : Obj := { cls := .type "tuple", data := .seq #[a, b] }
theorem compare_spec {o1 o2 l1 l2 : Addr} {n1 n2 : Value} {vs1 vs2 : List Value} {ps1 ps2 : List (List Nat)} {k1 k2 : Nat} {g₀ : Heap} {Q : Value → Shared → Prop} (G : Gd w loose mean mg mb g₀) (hk : Kp g₀ s.heap) (hA : Am A n) (hn : n < 400) (h24 : Tab24 s.heap)
    (t1 : s.heap.get? o1 = some (tupP (.ref l1) n1)) (t2 : s.heap.get? o2 = some (tupP (.ref l2) n2)) (e1 : s.heap.get? l1 = some (listOf vs1.toArray k1)) (e2 : s.heap.get? l2 = some (listOf vs2.toArray k2))
    (S1 : StrsAre vs1 (ps1.map mk)) (S2 : StrsAre vs2 (ps2.map mk)) (P1 : ∀ p ∈ ps1, PieceOk p) (P2 : ∀ p ∈ ps2, PieceOk p) (b1 : ps1.length ≤ 20) (b2 : ps2.length ≤ 20)
    (h : ∀ h' tk d t', Heap.ExtBut 24 s.heap h' → Tab24 h' → Q (.int (cmpP ps1 ps2) t') {s with heap := h', toks := tk, drawn := d}) :
    wpAny (model PR w) A (call (.ref 73) [.ref o1, .ref o2]) Q E s := by
  obtain ⟨X, T, C24⟩ := G.keeps hk
  obtain ⟨o24, ho24, h24k⟩ := tab_split h24
  refine wpAny_call (codeAny_call_def (binds := [("one", .ref o1), ("other", .ref o2)]) (hA.room (by omega)) (X 73 _ rfl) rfl T.nolimit (codeRec_of X rfl) rfl (BindsTo.of_eq rfl) (by decide) (locs rfl) (fun h₁ hns hk₁ => ?_))
  have F : Fr (hid s.heap) s.heap.objs.size h₁ _ := ⟨hns, fun b o e => hk₁ _ _ (of_hid e), Nat.le_of_eq (hideAll_size _ _)⟩
  have N : News (hid s.heap) s.heap.objs.size h₁ [(24, o24)] := news_cons (hk₁ _ _ ho24) (Nat.ne_of_lt (Heap.lt_size ho24)) (hid_none _) News.nil
  have G1 := G.hid hk
  have X1 := G1.X
  have T1 := G1.T
  have ne24 : ∀ {a : Addr} {o : Obj}, s.heap.get? a = some o → o.cls ≠ .none → a ≠ 24 := fun {a o} e hc q => by
    rcases h24 with z | ⟨c, oc, vs, t, _, _, _, z⟩ <;> (rw [q, z] at e; cases e; exact hc rfl)
  have tb1 : ∀ {h : Heap}, Kp (hid s.heap) h → IsTup h o1 #[.ref l1, n1] := fun {h} k => ⟨_, k _ _ (hid_get t1 (ne24 t1 (by simp))), rfl, _, rfl⟩
  have tb2 : ∀ {h : Heap}, Kp (hid s.heap) h → IsTup h o2 #[.ref l2, n2] := fun {h} k => ⟨_, k _ _ (hid_get t2 (ne24 t2 (by simp))), rfl, _, rfl⟩
  have lb1 : ∀ {h : Heap}, Kp (hid s.heap) h → h.IsList l1 vs1.toArray := fun {h} k => ⟨_, k _ _ (hid_get e1 (ne24 e1 (by simp))), rfl, _, rfl⟩
  have lb2 : ∀ {h : Heap}, Kp (hid s.heap) h → h.IsList l2 vs2.toArray := fun {h} k => ⟨_, k _ _ (hid_get e2 (ne24 e2 (by simp))), rfl, _, rfl⟩
  clear X T C24
  (first | repeat' (first | ((fail_if_success (first | with_reducible show wpAny _ _ (subscriptTail _ _ (Value.ref _) _) _ _ _ | with_reducible show wpAny _ _ (exec (Stmt.If _ _ _ _) _) _ _ _ | with_reducible show wpAny _ _ (call (Value.builtin "ord") _) _ _ _ | with_reducible show wpAny _ _ (call (Value.builtin "len") _) _ _ _ | with_reducible show wpAny _ _ (call (Value.type "zip") _) _ _ _ | with_reducible show wpAny _ _ (call (Value.ref _) _) _ _ _ | with_reducible show wpAny _ _ (exec (Stmt.For _ _ _ _ _) _) _ _ _)); (first | (first | (with_reducible show wpAny _ _ _ _ _ _) | (with_reducible show (if _ then _ else _)) | (with_reducible show Frag.In _ _ ∧ _) | (with_reducible show KdsFill _ _ _ _ _ _ _ _)) | (dsimp only; (first | (with_reducible show wpAny _ _ _ _ _ _) | (with_reducible show (if _ then _ else _)) | (with_reducible show Frag.In _ _ ∧ _) | (with_reducible show KdsFill _ _ _ _ _ _ _ _)))); (first | walk1 | (dsimp only; walk1)))))
  refine wpAny_For ?_
  (first | repeat' (first | ((fail_if_success (first | with_reducible show wpAny _ _ (subscriptTail _ _ (Value.ref _) _) _ _ _ | with_reducible show wpAny _ _ (exec (Stmt.If _ _ _ _) _) _ _ _ | with_reducible show wpAny _ _ (call (Value.builtin "ord") _) _ _ _ | with_reducible show wpAny _ _ (call (Value.builtin "len") _) _ _ _ | with_reducible show wpAny _ _ (call (Value.type "zip") _) _ _ _ | with_reducible show wpAny _ _ (call (Value.ref _) _) _ _ _ | with_reducible show wpAny _ _ (exec (Stmt.For _ _ _ _ _) _) _ _ _)); (first | (first | (with_reducible show wpAny _ _ _ _ _ _) | (with_reducible show (if _ then _ else _)) | (with_reducible show Frag.In _ _ ∧ _) | (with_reducible show KdsFill _ _ _ _ _ _ _ _)) | (dsimp only; (first | (with_reducible show wpAny _ _ _ _ _ _) | (with_reducible show (if _ then _ else _)) | (with_reducible show Frag.In _ _ ∧ _) | (with_reducible show KdsFill _ _ _ _ _ _ _ _)))); (first | walk1 | (dsimp only; walk1)))))
  refine item_tupleT (l := [.ref l1, n1]) (j := 0) (tb1 F.keep) (by decide) (by decide) rfl rfl ?_
  (first | repeat' (first | ((fail_if_success (first | with_reducible show wpAny _ _ (subscriptTail _ _ (Value.ref _) _) _ _ _ | with_reducible show wpAny _ _ (exec (Stmt.If _ _ _ _) _) _ _ _ | with_reducible show wpAny _ _ (call (Value.builtin "ord") _) _ _ _ | with_reducible show wpAny _ _ (call (Value.builtin "len") _) _ _ _ | with_reducible show wpAny _ _ (call (Value.type "zip") _) _ _ _ | with_reducible show wpAny _ _ (call (Value.ref _) _) _ _ _ | with_reducible show wpAny _ _ (exec (Stmt.For _ _ _ _ _) _) _ _ _)); (first | (first | (with_reducible show wpAny _ _ _ _ _ _) | (with_reducible show (if _ then _ else _)) | (with_reducible show Frag.In _ _ ∧ _) | (with_reducible show KdsFill _ _ _ _ _ _ _ _)) | (dsimp only; (first | (with_reducible show wpAny _ _ _ _ _ _) | (with_reducible show (if _ then _ else _)) | (with_reducible show Frag.In _ _ ∧ _) | (with_reducible show KdsFill _ _ _ _ _ _ _ _)))); (first | walk1 | (dsimp only; walk1)))))
  refine item_tupleT (l := [.ref l2, n2]) (j := 0) (tb2 F.keep) (by decide) (by decide) rfl rfl ?_
  (first | repeat' (first | ((fail_if_success (first | with_reducible show wpAny _ _ (subscriptTail _ _ (Value.ref _) _) _ _ _ | with_reducible show wpAny _ _ (exec (Stmt.If _ _ _ _) _) _ _ _ | with_reducible show wpAny _ _ (call (Value.builtin "ord") _) _ _ _ | with_reducible show wpAny _ _ (call (Value.builtin "len") _) _ _ _ | with_reducible show wpAny _ _ (call (Value.type "zip") _) _ _ _ | with_reducible show wpAny _ _ (call (Value.ref _) _) _ _ _ | with_reducible show wpAny _ _ (exec (Stmt.For _ _ _ _ _) _) _ _ _)); (first | (first | (with_reducible show wpAny _ _ _ _ _ _) | (with_reducible show (if _ then _ else _)) | (with_reducible show Frag.In _ _ ∧ _) | (with_reducible show KdsFill _ _ _ _ _ _ _ _)) | (dsimp only; (first | (with_reducible show wpAny _ _ _ _ _ _) | (with_reducible show (if _ then _ else _)) | (with_reducible show Frag.In _ _ ∧ _) | (with_reducible show KdsFill _ _ _ _ _ _ _ _)))); (first | walk1 | (dsimp only; walk1)))))
  refine call_zip_2 (lb1 F.keep) (lb2 F.keep) fun h₂ hz hTI hTO hi1 hi2 hsz hk₂ => ?_
  have a1 : l1 < h₁.objs.size := by obtain ⟨_, e, _⟩ := lb1 F.keep; exact Heap.lt_size e
  have a2 : l2 < h₁.objs.size := by obtain ⟨_, e, _⟩ := lb2 F.keep; exact Heap.lt_size e
  have D := zipApart_new a1 a2
  have fz := fresh_of F (a := h₁.objs.size + 4) (Nat.le_add_right _ _)
  have fTI := fresh_of F (a := h₁.objs.size + 2) (Nat.le_add_right _ _)
  have fTO := fresh_of F (a := h₁.objs.size + 3) (Nat.le_add_right _ _)
  have fi1 := fresh_of F (a := h₁.objs.size) (Nat.le_refl _)
  have fi2 := fresh_of F (a := h₁.objs.size + 1) (Nat.le_add_right _ _)
  have z24 : ∀ k, h₁.objs.size + k ≠ 24 := fun k => Nat.ne_of_gt (Nat.lt_of_lt_of_le (Heap.lt_size (N _ (.head _)).1) (Nat.le_add_right _ _))
  have F2 := fr_kp F hk₂
  have N2 := news_kp N hk₂
  have st0 := (⟨hz, hTI, ⟨_, _, hTO⟩, hi1, hi2, lb1 F2.keep, lb2 F2.keep⟩ : IsZip h₂ (h₁.objs.size + 4) (h₁.objs.size + 2) (h₁.objs.size + 3) .none ∧ IsPair h₂ (h₁.objs.size + 2) (.ref h₁.objs.size) (.ref (h₁.objs.size + 1)) ∧ (∃ a b, IsPair h₂ (h₁.objs.size + 3) a b) ∧ h₂.IsListIter h₁.objs.size l1 0 ∧ h₂.IsListIter (h₁.objs.size + 1) l2 0 ∧ h₂.IsList l1 vs1.toArray ∧ h₂.IsList l2 vs2.toArray)
  have i24 : h₁.objs.size ≠ 24 := z24 0
  have z24' := z24 4
  have T24 := z24 2
  have O24 := z24 3
  have j24 := z24 1
  clear hz hTI hTO hi1 hi2 hsz z24 a1 a2
  generalize h₁.objs.size + 4 = z at *
  generalize h₁.objs.size + 2 = TI at *
  generalize h₁.objs.size + 3 = TO at *
  generalize h₁.objs.size + 1 = i2 at *
  generalize h₁.objs.size = i1 at *
  have W := fun {A' : Around} (hh : A'.handled = none) => WalksT.zip2 (prog := PR) (w := w) (A := A') hh z TI TO i1 i2 l1 l2 D vs1.toArray vs2.toArray
  refine (W (hA.deeper _).handled).self 0 _ _ _ st0 ?_
  have zdat : ∀ {hh : Heap} {m' : Str → Option Value} {k : Nat}, (IsZip hh z TI TO .none ∧ IsPair hh TI (.ref i1) (.ref i2) ∧ (∃ a b, IsPair hh TO a b) ∧ hh.IsListIter i1 l1 k ∧ hh.IsListIter i2 l2 k ∧ hh.IsList l1 vs1.toArray ∧ hh.IsList l2 vs2.toArray) →
      hh.Ns s.heap.objs.size m' → ∀ a ∈ [s.heap.objs.size, z, TI, TO, i1, i2], ∃ o, hh.get? a = some o ∧ ∀ vs t, o.data = .fields vs → vs[1]? ≠ some (.str QI t) := by
    rintro hh m' k ⟨q1, q2, ⟨a, b, q3⟩, ⟨o1, q4, _, q4'⟩, ⟨o2, q5, _, q5'⟩, _⟩ ⟨o3, es, ep, q6, q6', _⟩ a ha
    simp only [List.mem_cons, List.not_mem_nil, or_false] at ha
    rcases ha with rfl | rfl | rfl | rfl | rfl | rfl
    · exact ⟨_, q6, fun vs t e => by rw [q6'] at e; cases e⟩
    · exact ⟨_, q1, fun vs t e => by cases e; simp⟩
    · exact ⟨_, q2, fun vs t e => by cases e⟩
    · exact ⟨_, q3, fun vs t e => by cases e⟩
    · exact ⟨_, q4, fun vs t e => by rw [q4'] at e; cases e; simp⟩
    · exact ⟨_, q5, fun vs t e => by rw [q5'] at e; cases e; simp⟩
  have z24 : 24 ∉ [s.heap.objs.size, z, TI, TO, i1, i2] := by simp [Ne.symm (Nat.ne_of_lt (Heap.lt_size ho24)), z24'.symm, T24.symm, O24.symm, i24.symm, j24.symm]; exact Nat.ne_of_lt (Heap.lt_size ho24)
  refine for_walksT (W (hA.deeper _).handled) (fun i s' => ∃ h tk d m, s' = { s with heap := h, toks := tk, drawn := d } ∧ Fr (hid s.heap) s.heap.objs.size h m ∧
      (∀ x : Str, x ≠ "a" → x ≠ "b" → x ≠ "gap" → m x = List.lookup x [(("one" : Str), Value.ref o1), ("other", .ref o2)].reverse) ∧ Tab24 h ∧
      (∀ j p q, j < i → ps1[j]? = some p → ps2[j]? = some q → gapP p q = 0)) ?h0 st0 ?turn ?done
  case h0 => exact ⟨h₂, _, _, _, rfl, F2, fun x _ _ _ => rfl, h24k _ F2.keep (N2 _ (.head _)).1, fun j _ _ hj => absurd hj (Nat.not_lt_zero _)⟩
  case turn =>
    rintro i Tt vals _ h' tk' hi hP ⟨h₉, tk, d, m, rfl, F, hm, hT, hz⟩ hst₀ hst hTt hsz hk' Q' hnx hrt
    obtain ⟨x, y, hx, hy, rfl⟩ := hP
    obtain ⟨xs, tx, hx1, rfl⟩ := strs_get S1 (by simpa using hx)
    obtain ⟨ys, ty, hy1, rfl⟩ := strs_get S2 (by simpa using hy)
    rw [List.getElem?_map] at hx1 hy1
    obtain ⟨p, hp, rfl⟩ := Option.map_eq_some_iff.mp hx1
    obtain ⟨q, hqq, rfl⟩ := Option.map_eq_some_iff.mp hy1
    have kp := P1 p (List.mem_of_getElem? hp)
    have kq := P2 q (List.mem_of_getElem? hqq)
    have F' := fr_but F hk' (by simp [fz.1, fTO.1, fi1.1, fi2.1]) (by simp [fz.2.symm, fTO.2.symm, fi1.2.symm, fi2.2.symm])
    obtain ⟨o', c₂, o₂, g1, g2, g3, g4, g5⟩ := tab_led F.keep (hid_none _) hT (zdat hst₀ F.ns) z24
    obtain ⟨q1, q2, ⟨ta, tb', q3⟩, ⟨oi1, q4, q4c, q4'⟩, ⟨oi2, q5, q5c, q5'⟩, q6, q7⟩ := id hst
    simp only [List.mem_cons, List.not_mem_nil, or_false, not_or] at g4 z24
    have NT : News (hid s.heap) s.heap.objs.size h' [(z, { cls := .type "zip", dict := none, data := .fields #[.none, .bool false, .bool false, .ref TI, .ref TO], slots := #[] }), (TI, { cls := .type "tuple", data := .seq #[.ref i1, .ref i2] }), (TO, { cls := .type "tuple", data := .seq #[ta, tb'] }), (i1, oi1), (i2, oi2)] := news_cons q1 fz.2 fz.1 (news_cons q2 fTI.2 fTI.1 (news_cons q3 fTO.2 fTO.1 (news_cons q4 fi1.2 fi1.1 (news_cons q5 fi2.2 fi2.1 News.nil))))
    obtain ⟨tl, htl⟩ : ∃ tl : List (Addr × Obj), tl = [(z, { cls := .type "zip", dict := none, data := .fields #[.none, .bool false, .bool false, .ref TI, .ref TO], slots := #[] }), (TI, { cls := .type "tuple", data := .seq #[.ref i1, .ref i2] }), (TO, { cls := .type "tuple", data := .seq #[ta, tb'] }), (i1, oi1), (i2, oi2)] := ⟨_, rfl⟩
    have zk : ∀ {hh : Heap}, News (hid s.heap) s.heap.objs.size hh tl → Kp (hid s.heap) hh → (IsZip hh z TI TO .none ∧ IsPair hh TI (.ref i1) (.ref i2) ∧ (∃ a b, IsPair hh TO a b) ∧ hh.IsListIter i1 l1 (i + 1) ∧ hh.IsListIter i2 l2 (i + 1) ∧ hh.IsList l1 vs1.toArray ∧ hh.IsList l2 vs2.toArray) := fun {hh} N k => by
      rw [htl] at N
      exact ⟨(N _ (.head _)).1, (N _ (.tail _ (.head _))).1, ⟨_, _, (N _ (.tail _ (.tail _ (.head _)))).1⟩, ⟨oi1, (N _ (.tail _ (.tail _ (.tail _ (.head _))))).1, q4c, q4'⟩, ⟨oi2, (N _ (.tail _ (.tail _ (.tail _ (.tail _ (.head _)))))).1, q5c, q5'⟩, lb1 k, lb2 k⟩
    have tl24 : ∀ p ∈ tl, p.1 ∉ [24] := by rw [htl]; simp [z24', T24, O24, i24, j24]
    rw [← htl] at NT
    have N' : News (hid s.heap) s.heap.objs.size h' ((24, o') :: (c₂, o₂) :: tl) :=
      news_cons (hk' _ _ (by simp [z24]) g1) z24.1 (hid_none _) (news_cons (hk' _ _ (by simp [g4]) g2) g4.1 g3 NT)
    clear htl NT q1 q2 q3 q6 q7
    have em : m = fun x : Str => if x = "a" then m "a" else if x = "b" then m "b" else if x = "gap" then m "gap" else List.lookup x [(("one" : Str), Value.ref o1), ("other", .ref o2)].reverse := by
      funext x
      by_cases h1 : x = "a"
      · subst h1; simp
      · by_cases h2 : x = "b"
        · subst h2; simp [h1]
        · by_cases h3 : x = "gap"
          · subst h3; simp [h1, h2]
          · simp [h1, h2, h3, hm x h1 h2 h3]
    rw [em] at F'
    refine wpAny_assign_Tuple (hA.deeper _).handled hTt rfl rfl fun h₃ hx₃ => ?_
    have k₃ : Kp h' h₃ := fun b o e => hx₃ b o (Nat.ne_of_lt (Heap.lt_size e)) e
    have F₃ := fr_kp F' k₃
    have N₃ := news_kp N' k₃
    clear F F' N' em
    generalize m "a" = va, m "b" = vb, m "gap" = vg at F₃
    dsimp only
    obtain ⟨a0, pr, rfl⟩ := List.exists_cons_of_ne_nil kp.ne
    obtain ⟨b0, qr, rfl⟩ := List.exists_cons_of_ne_nil kq.ne
    have hita : Txt.item (mk (a0 :: pr)) 0 = ch a0 := item_head a0 pr
    have hitb : Txt.item (mk (b0 :: qr)) 0 = ch b0 := item_head b0 qr
    have ha1 : a0 < 128 := kp.asc a0 (by simp)
    have hb1 : b0 < 128 := kq.asc b0 (by simp)
    (first | repeat' (first | ((fail_if_success (first | with_reducible show wpAny _ _ (subscriptTail _ _ (Value.ref _) _) _ _ _ | with_reducible show wpAny _ _ (exec (Stmt.If _ _ _ _) _) _ _ _ | with_reducible show wpAny _ _ (call (Value.builtin "ord") _) _ _ _ | with_reducible show wpAny _ _ (call (Value.builtin "len") _) _ _ _ | with_reducible show wpAny _ _ (call (Value.type "zip") _) _ _ _ | with_reducible show wpAny _ _ (call (Value.ref _) _) _ _ _ | with_reducible show wpAny _ _ (exec (Stmt.For _ _ _ _ _) _) _ _ _)); (first | (first | (with_reducible show wpAny _ _ _ _ _ _) | (with_reducible show (if _ then _ else _)) | (with_reducible show Frag.In _ _ ∧ _) | (with_reducible show KdsFill _ _ _ _ _ _ _ _)) | (dsimp only; (first | (with_reducible show wpAny _ _ _ _ _ _) | (with_reducible show (if _ then _ else _)) | (with_reducible show Frag.In _ _ ∧ _) | (with_reducible show KdsFill _ _ _ _ _ _ _ _)))); (first | walk1 | (dsimp only; walk1)))))
    rename Fr _ _ _ _ => F₄; rename News _ _ _ _ => N₄
    obtain ⟨QQ, hQQ⟩ : ∃ QQ : Flow → Shared → Prop, QQ = fun f s' => f = .next ∧ ∃ h tk d m o c₂ o₂, s' = { s with heap := h, toks := tk, drawn := d } ∧ Fr (hid s.heap) s.heap.objs.size h m ∧ (∃ t', m "gap" = some (.int (gapP (a0 :: pr) (b0 :: qr)) t')) ∧
        (∀ x : Str, x ≠ "a" → x ≠ "b" → x ≠ "gap" → m x = List.lookup x [(("one" : Str), Value.ref o1), ("other", .ref o2)].reverse) ∧
        News (hid s.heap) s.heap.objs.size h ((24, o) :: (c₂, o₂) :: tl) ∧ ∀ h', Kp (hid s.heap) h' → h'.get? 24 = some o → h'.get? c₂ = some o₂ → Tab24 h' := ⟨_, rfl⟩
    refine wpAny_mono (Q := QQ) ?_ ?_ (fun _ _ x => x)
    · refine wpAny_If ?_
      (first | repeat' (first | ((fail_if_success (first | with_reducible show wpAny _ _ (subscriptTail _ _ (Value.ref _) _) _ _ _ | with_reducible show wpAny _ _ (exec (Stmt.If _ _ _ _) _) _ _ _ | with_reducible show wpAny _ _ (call (Value.builtin "ord") _) _ _ _ | with_reducible show wpAny _ _ (call (Value.builtin "len") _) _ _ _ | with_reducible show wpAny _ _ (call (Value.type "zip") _) _ _ _ | with_reducible show wpAny _ _ (call (Value.ref _) _) _ _ _ | with_reducible show wpAny _ _ (exec (Stmt.For _ _ _ _ _) _) _ _ _)); (first | (first | (with_reducible show wpAny _ _ _ _ _ _) | (with_reducible show (if _ then _ else _)) | (with_reducible show Frag.In _ _ ∧ _) | (with_reducible show KdsFill _ _ _ _ _ _ _ _)) | (dsimp only; (first | (with_reducible show wpAny _ _ _ _ _ _) | (with_reducible show (if _ then _ else _)) | (with_reducible show Frag.In _ _ ∧ _) | (with_reducible show KdsFill _ _ _ _ _ _ _ _)))); (first | walk1 | (dsimp only; walk1)))))
      · rename_i qq _
        have hgap : gapP (a0 :: pr) (b0 :: qr) = (a0 : Int) - (b0 : Int) := by
          unfold gapP
          rw [hita, fig_in a0 ha1] at qq
          rw [if_neg]
          · rfl
          · simp at qq ⊢
            simp [qq]
        rw [hita]
        refine P.ord_of_char ?_
        (first | repeat' (first | ((fail_if_success (first | with_reducible show wpAny _ _ (subscriptTail _ _ (Value.ref _) _) _ _ _ | with_reducible show wpAny _ _ (exec (Stmt.If _ _ _ _) _) _ _ _ | with_reducible show wpAny _ _ (call (Value.builtin "ord") _) _ _ _ | with_reducible show wpAny _ _ (call (Value.builtin "len") _) _ _ _ | with_reducible show wpAny _ _ (call (Value.type "zip") _) _ _ _ | with_reducible show wpAny _ _ (call (Value.ref _) _) _ _ _ | with_reducible show wpAny _ _ (exec (Stmt.For _ _ _ _ _) _) _ _ _)); (first | (first | (with_reducible show wpAny _ _ _ _ _ _) | (with_reducible show (if _ then _ else _)) | (with_reducible show Frag.In _ _ ∧ _) | (with_reducible show KdsFill _ _ _ _ _ _ _ _)) | (dsimp only; (first | (with_reducible show wpAny _ _ _ _ _ _) | (with_reducible show (if _ then _ else _)) | (with_reducible show Frag.In _ _ ∧ _) | (with_reducible show KdsFill _ _ _ _ _ _ _ _)))); (first | walk1 | (dsimp only; walk1)))))
        rw [hitb]
        refine P.ord_of_char ?_
        (first | repeat' (first | ((fail_if_success (first | with_reducible show wpAny _ _ (subscriptTail _ _ (Value.ref _) _) _ _ _ | with_reducible show wpAny _ _ (exec (Stmt.If _ _ _ _) _) _ _ _ | with_reducible show wpAny _ _ (call (Value.builtin "ord") _) _ _ _ | with_reducible show wpAny _ _ (call (Value.builtin "len") _) _ _ _ | with_reducible show wpAny _ _ (call (Value.type "zip") _) _ _ _ | with_reducible show wpAny _ _ (call (Value.ref _) _) _ _ _ | with_reducible show wpAny _ _ (exec (Stmt.For _ _ _ _ _) _) _ _ _)); (first | (first | (with_reducible show wpAny _ _ _ _ _ _) | (with_reducible show (if _ then _ else _)) | (with_reducible show Frag.In _ _ ∧ _) | (with_reducible show KdsFill _ _ _ _ _ _ _ _)) | (dsimp only; (first | (with_reducible show wpAny _ _ _ _ _ _) | (with_reducible show (if _ then _ else _)) | (with_reducible show Frag.In _ _ ∧ _) | (with_reducible show KdsFill _ _ _ _ _ _ _ _)))); (first | walk1 | (dsimp only; walk1)))))
        rename Fr _ _ _ _ => F₆; rename News _ _ _ _ => N₆
        rw [hQQ]
        refine ⟨rfl, _, _, _, _, _, _, _, rfl, F₆, ?_, fun x h1 h2 h3 => by simp [h1, h2, h3], N₆, g5⟩
        rw [hgap]; exact ⟨_, rfl⟩
      · rename_i qq _
        have hgap : gapP (a0 :: pr) (b0 :: qr) = (a0 : Int) - (b0 : Int) := by
          unfold gapP
          rw [hitb, fig_in b0 hb1] at qq
          rw [if_neg]
          · rfl
          · simp at qq ⊢
            simp [qq]
        rw [hita]
        refine P.ord_of_char ?_
        (first | repeat' (first | ((fail_if_success (first | with_reducible show wpAny _ _ (subscriptTail _ _ (Value.ref _) _) _ _ _ | with_reducible show wpAny _ _ (exec (Stmt.If _ _ _ _) _) _ _ _ | with_reducible show wpAny _ _ (call (Value.builtin "ord") _) _ _ _ | with_reducible show wpAny _ _ (call (Value.builtin "len") _) _ _ _ | with_reducible show wpAny _ _ (call (Value.type "zip") _) _ _ _ | with_reducible show wpAny _ _ (call (Value.ref _) _) _ _ _ | with_reducible show wpAny _ _ (exec (Stmt.For _ _ _ _ _) _) _ _ _)); (first | (first | (with_reducible show wpAny _ _ _ _ _ _) | (with_reducible show (if _ then _ else _)) | (with_reducible show Frag.In _ _ ∧ _) | (with_reducible show KdsFill _ _ _ _ _ _ _ _)) | (dsimp only; (first | (with_reducible show wpAny _ _ _ _ _ _) | (with_reducible show (if _ then _ else _)) | (with_reducible show Frag.In _ _ ∧ _) | (with_reducible show KdsFill _ _ _ _ _ _ _ _)))); (first | walk1 | (dsimp only; walk1)))))
        rw [hitb]
        refine P.ord_of_char ?_
        (first | repeat' (first | ((fail_if_success (first | with_reducible show wpAny _ _ (subscriptTail _ _ (Value.ref _) _) _ _ _ | with_reducible show wpAny _ _ (exec (Stmt.If _ _ _ _) _) _ _ _ | with_reducible show wpAny _ _ (call (Value.builtin "ord") _) _ _ _ | with_reducible show wpAny _ _ (call (Value.builtin "len") _) _ _ _ | with_reducible show wpAny _ _ (call (Value.type "zip") _) _ _ _ | with_reducible show wpAny _ _ (call (Value.ref _) _) _ _ _ | with_reducible show wpAny _ _ (exec (Stmt.For _ _ _ _ _) _) _ _ _)); (first | (first | (with_reducible show wpAny _ _ _ _ _ _) | (with_reducible show (if _ then _ else _)) | (with_reducible show Frag.In _ _ ∧ _) | (with_reducible show KdsFill _ _ _ _ _ _ _ _)) | (dsimp only; (first | (with_reducible show wpAny _ _ _ _ _ _) | (with_reducible show (if _ then _ else _)) | (with_reducible show Frag.In _ _ ∧ _) | (with_reducible show KdsFill _ _ _ _ _ _ _ _)))); (first | walk1 | (dsimp only; walk1)))))
        rename Fr _ _ _ _ => F₆; rename News _ _ _ _ => N₆
        rw [hQQ]
        refine ⟨rfl, _, _, _, _, _, _, _, rfl, F₆, ?_, fun x h1 h2 h3 => by simp [h1, h2, h3], N₆, g5⟩
        rw [hgap]; exact ⟨_, rfl⟩
      · rename_i qa _ qb
        rw [hita, fig_in a0 ha1] at qa
        rw [hitb, fig_in b0 hb1] at qb
        have fa : isFig a0 = true := by simpa using qa
        have fb : isFig b0 = true := by simpa using qb
        have hgap : gapP (a0 :: pr) (b0 :: qr) = worthOf (a0 :: pr) - worthOf (b0 :: qr) := by
          unfold gapP
          rw [if_pos]
          simp [fa, fb]
        have figa : Figs (a0 :: pr) := (kp.kind.resolve_right (fun x => by have := x.1; simp [fa] at this)).2
        have figb : Figs (b0 :: qr) := (kq.kind.resolve_right (fun x => by have := x.1; simp [fb] at this)).2
        (first | repeat' (first | ((fail_if_success (first | with_reducible show wpAny _ _ (subscriptTail _ _ (Value.ref _) _) _ _ _ | with_reducible show wpAny _ _ (exec (Stmt.If _ _ _ _) _) _ _ _ | with_reducible show wpAny _ _ (call (Value.builtin "ord") _) _ _ _ | with_reducible show wpAny _ _ (call (Value.builtin "len") _) _ _ _ | with_reducible show wpAny _ _ (call (Value.type "zip") _) _ _ _ | with_reducible show wpAny _ _ (call (Value.ref _) _) _ _ _ | with_reducible show wpAny _ _ (exec (Stmt.For _ _ _ _ _) _) _ _ _)); (first | (first | (with_reducible show wpAny _ _ _ _ _ _) | (with_reducible show (if _ then _ else _)) | (with_reducible show Frag.In _ _ ∧ _) | (with_reducible show KdsFill _ _ _ _ _ _ _ _)) | (dsimp only; (first | (with_reducible show wpAny _ _ _ _ _ _) | (with_reducible show (if _ then _ else _)) | (with_reducible show Frag.In _ _ ∧ _) | (with_reducible show KdsFill _ _ _ _ _ _ _ _)))); (first | walk1 | (dsimp only; walk1)))))
        refine intFrom_spec G1 F₄.keep (hA.deeper _) (by omega) (g5 _ F₄.keep (N₄ _ (.head _)).1 (N₄ _ (.tail _ (.head _))).1) figa ⟨a0, .head _, fa⟩ kp.len (.inl (by simp)) ?_
        intro h₅ tk₅ d₅ t₅ hx₅ T₅
        have F₅ := fr_but (wr := [24]) F₄ (fun b o hb e => hx₅ b o (by simpa using hb) e) (by simpa using hid_none _) (by simpa using Ne.symm z24.1)
        have N₅ : News (hid s.heap) s.heap.objs.size h₅ tl :=
          news_but (wr := [24]) (news_tail (news_tail N₄)) (fun b o hb e => hx₅ b o (by simpa using hb) e) tl24
        obtain ⟨oL₅, esL₅, epL₅, eL₅, eL₅', _⟩ := F₅.ns
        obtain ⟨o₅, c₅, oc₅, r1, r2, r3, r4, r5⟩ := tab_led F₅.keep (hid_none _) T₅ (zs := [s.heap.objs.size]) (by
          intro a ha
          obtain rfl := List.mem_singleton.mp ha
          exact ⟨_, eL₅, fun vs t e => by rw [eL₅'] at e; cases e⟩) (by simpa using z24.1)
        simp only [List.mem_singleton] at r4
        have N₅ := news_cons r1 z24.1 (hid_none _) (news_cons r2 r4 r3 N₅)
        clear F₄ N₄
        (first | repeat' (first | ((fail_if_success (first | with_reducible show wpAny _ _ (subscriptTail _ _ (Value.ref _) _) _ _ _ | with_reducible show wpAny _ _ (exec (Stmt.If _ _ _ _) _) _ _ _ | with_reducible show wpAny _ _ (call (Value.builtin "ord") _) _ _ _ | with_reducible show wpAny _ _ (call (Value.builtin "len") _) _ _ _ | with_reducible show wpAny _ _ (call (Value.type "zip") _) _ _ _ | with_reducible show wpAny _ _ (call (Value.ref _) _) _ _ _ | with_reducible show wpAny _ _ (exec (Stmt.For _ _ _ _ _) _) _ _ _)); (first | (first | (with_reducible show wpAny _ _ _ _ _ _) | (with_reducible show (if _ then _ else _)) | (with_reducible show Frag.In _ _ ∧ _) | (with_reducible show KdsFill _ _ _ _ _ _ _ _)) | (dsimp only; (first | (with_reducible show wpAny _ _ _ _ _ _) | (with_reducible show (if _ then _ else _)) | (with_reducible show Frag.In _ _ ∧ _) | (with_reducible show KdsFill _ _ _ _ _ _ _ _)))); (first | walk1 | (dsimp only; walk1)))))
        rename Fr _ _ _ _ => F₆; rename News _ _ _ _ => N₆
        refine intFrom_spec G1 F₆.keep (hA.deeper _) (by omega) (r5 _ F₆.keep (N₆ _ (.head _)).1 (N₆ _ (.tail _ (.head _))).1) figb ⟨b0, .head _, fb⟩ kq.len (.inl (by simp)) ?_
        clear r1 r2 r3 r4 r5
        intro h₇ tk₇ d₇ t₇ hx₇ T₇
        have F₇ := fr_but (wr := [24]) F₆ (fun b o hb e => hx₇ b o (by simpa using hb) e) (by simpa using hid_none _) (by simpa using Ne.symm z24.1)
        have N₇ : News (hid s.heap) s.heap.objs.size h₇ tl :=
          news_but (wr := [24]) (news_tail (news_tail N₆)) (fun b o hb e => hx₇ b o (by simpa using hb) e) tl24
        obtain ⟨oL₇, esL₇, epL₇, eL₇, eL₇', _⟩ := F₇.ns
        obtain ⟨o₇, c₇, oc₇, r1, r2, r3, r4, r5⟩ := tab_led F₇.keep (hid_none _) T₇ (zs := [s.heap.objs.size]) (by
          intro a ha
          obtain rfl := List.mem_singleton.mp ha
          exact ⟨_, eL₇, fun vs t e => by rw [eL₇'] at e; cases e⟩) (by simpa using z24.1)
        simp only [List.mem_singleton] at r4
        have N₇ := news_cons r1 z24.1 (hid_none _) (news_cons r2 r4 r3 N₇)
        clear F₆ N₆
        (first | repeat' (first | ((fail_if_success (first | with_reducible show wpAny _ _ (subscriptTail _ _ (Value.ref _) _) _ _ _ | with_reducible show wpAny _ _ (exec (Stmt.If _ _ _ _) _) _ _ _ | with_reducible show wpAny _ _ (call (Value.builtin "ord") _) _ _ _ | with_reducible show wpAny _ _ (call (Value.builtin "len") _) _ _ _ | with_reducible show wpAny _ _ (call (Value.type "zip") _) _ _ _ | with_reducible show wpAny _ _ (call (Value.ref _) _) _ _ _ | with_reducible show wpAny _ _ (exec (Stmt.For _ _ _ _ _) _) _ _ _)); (first | (first | (with_reducible show wpAny _ _ _ _ _ _) | (with_reducible show (if _ then _ else _)) | (with_reducible show Frag.In _ _ ∧ _) | (with_reducible show KdsFill _ _ _ _ _ _ _ _)) | (dsimp only; (first | (with_reducible show wpAny _ _ _ _ _ _) | (with_reducible show (if _ then _ else _)) | (with_reducible show Frag.In _ _ ∧ _) | (with_reducible show KdsFill _ _ _ _ _ _ _ _)))); (first | walk1 | (dsimp only; walk1)))))
        rename Fr _ _ _ _ => F₈; rename News _ _ _ _ => N₈
        rw [hQQ]
        refine ⟨rfl, _, _, _, _, _, _, _, rfl, F₈, ?_, fun x h1 h2 h3 => by simp [h1, h2, h3], N₈, r5⟩
        rw [hgap]; exact ⟨_, rfl⟩
    · intro f _ hq
      rw [hQQ] at hq
      obtain ⟨rfl, h₅, tk₅, d₅, m₅, o₅, c₅, oc₅, rfl, F₅, ⟨t₅, hg₅⟩, hm₅, N₅, rec₅⟩ := hq
      have em : m₅ = fun x : Str => if x = "a" then m₅ "a" else if x = "b" then m₅ "b" else if x = "gap" then some (.int (gapP (a0 :: pr) (b0 :: qr)) t₅) else List.lookup x [(("one" : Str), Value.ref o1), ("other", .ref o2)].reverse := by
        funext x
        by_cases h1 : x = "a"
        · subst h1; simp
        · by_cases h2 : x = "b"
          · subst h2; simp [h1]
          · by_cases h3 : x = "gap"
            · subst h3; simp [h1, h2, hg₅]
            · simp [h1, h2, h3, hm₅ x h1 h2 h3]
      rw [em] at F₅
      clear N₄ F₄ em hm₅ hg₅
      generalize m₅ "a" = va, m₅ "b" = vb at F₅
      generalize hgv : gapP (a0 :: pr) (b0 :: qr) = gv at F₅
      dsimp only
      refine wpAny_execs_cons (wpAny_If ?_)
      (first | repeat' (first | ((fail_if_success (first | with_reducible show wpAny _ _ (subscriptTail _ _ (Value.ref _) _) _ _ _ | with_reducible show wpAny _ _ (exec (Stmt.If _ _ _ _) _) _ _ _ | with_reducible show wpAny _ _ (call (Value.builtin "ord") _) _ _ _ | with_reducible show wpAny _ _ (call (Value.builtin "len") _) _ _ _ | with_reducible show wpAny _ _ (call (Value.type "zip") _) _ _ _ | with_reducible show wpAny _ _ (call (Value.ref _) _) _ _ _ | with_reducible show wpAny _ _ (exec (Stmt.For _ _ _ _ _) _) _ _ _)); (first | (first | (with_reducible show wpAny _ _ _ _ _ _) | (with_reducible show (if _ then _ else _)) | (with_reducible show Frag.In _ _ ∧ _) | (with_reducible show KdsFill _ _ _ _ _ _ _ _)) | (dsimp only; (first | (with_reducible show wpAny _ _ _ _ _ _) | (with_reducible show (if _ then _ else _)) | (with_reducible show Frag.In _ _ ∧ _) | (with_reducible show KdsFill _ _ _ _ _ _ _ _)))); (first | walk1 | (dsimp only; walk1)))))
      · rename_i hne
        refine hrt _ _ ?_
        have hc : cmpP ps1 ps2 = gv := (cmp_at ps1 ps2 i _ _ hp hqq hz (by rw [hgv]; exact hne)).trans hgv
        have q := h h₅
        rw [hc] at q
        exact q _ _ _ (fun b o hb e => F₅.keep b o (hid_get e hb)) (rec₅ _ F₅.keep (N₅ _ (.head _)).1 (N₅ _ (.tail _ (.head _))).1)
      · rename_i h0
        refine hnx _ ⟨h₅, _, _, _, rfl, F₅, fun x h1 h2 h3 => by simp [h1, h2, h3], rec₅ _ F₅.keep (N₅ _ (.head _)).1 (N₅ _ (.tail _ (.head _))).1, fun j p' q' hj hp' hq' => ?_⟩ (zk (news_tail (news_tail N₅)) F₅.keep)
        by_cases hji : j < i
        · exact hz j p' q' hji hp' hq'
        · obtain rfl : j = i := by omega
          rw [hp] at hp'; rw [hqq] at hq'
          cases hp'; cases hq'
          exact hgv.trans h0
  case done =>
    rintro _ h' tk' ⟨h₉, tk, d, m, rfl, F, hm, hT, hz⟩ hst₀ hk'
    have F' := fr_but F hk' (by simp [fz.1, fTO.1, fi1.1, fi2.1]) (by simp [fz.2.symm, fTO.2.symm, fi1.2.symm, fi2.2.symm])
    have em : m = fun x : Str => if x = "a" then m "a" else if x = "b" then m "b" else if x = "gap" then m "gap" else List.lookup x [(("one" : Str), Value.ref o1), ("other", .ref o2)].reverse := by
      funext x
      by_cases h1 : x = "a"
      · subst h1; simp
      · by_cases h2 : x = "b"
        · subst h2; simp [h1]
        · by_cases h3 : x = "gap"
          · subst h3; simp [h1, h2]
          · simp [h1, h2, h3, hm x h1 h2 h3]
    rw [em] at F'
    generalize m "a" = va, m "b" = vb, m "gap" = vg at F'
    have N' : News (hid s.heap) s.heap.objs.size h' [] := News.nil
    dsimp only
    simp only [List.mem_cons, List.not_mem_nil, or_false, not_or] at z24
    obtain ⟨o', c₂, o₂, g1, g2, g3, g4, g5⟩ := tab_led F.keep (hid_none _) hT (zdat hst₀ F.ns) (by simp [z24])
    simp only [List.mem_cons, List.not_mem_nil, or_false, not_or] at g4
    have T' := g5 h' F'.keep (hk' _ _ (by simp [z24]) g1) (hk' _ _ (by simp [g4]) g2)
    clear F
    have hs1 : (vs1.toArray.size : Int) = ps1.length := by have := StrsAre.length S1; simp at this ⊢; omega
    have hs2 : (vs2.toArray.size : Int) = ps2.length := by have := StrsAre.length S2; simp at this ⊢; omega
    (first | repeat' (first | ((fail_if_success (first | with_reducible show wpAny _ _ (subscriptTail _ _ (Value.ref _) _) _ _ _ | with_reducible show wpAny _ _ (exec (Stmt.If _ _ _ _) _) _ _ _ | with_reducible show wpAny _ _ (call (Value.builtin "ord") _) _ _ _ | with_reducible show wpAny _ _ (call (Value.builtin "len") _) _ _ _ | with_reducible show wpAny _ _ (call (Value.type "zip") _) _ _ _ | with_reducible show wpAny _ _ (call (Value.ref _) _) _ _ _ | with_reducible show wpAny _ _ (exec (Stmt.For _ _ _ _ _) _) _ _ _)); (first | (first | (with_reducible show wpAny _ _ _ _ _ _) | (with_reducible show (if _ then _ else _)) | (with_reducible show Frag.In _ _ ∧ _) | (with_reducible show KdsFill _ _ _ _ _ _ _ _)) | (dsimp only; (first | (with_reducible show wpAny _ _ _ _ _ _) | (with_reducible show (if _ then _ else _)) | (with_reducible show Frag.In _ _ ∧ _) | (with_reducible show KdsFill _ _ _ _ _ _ _ _)))); (first | walk1 | (dsimp only; walk1)))))
    refine item_tupleT (l := [.ref l1, n1]) (j := 0) (tb1 F'.keep) (by decide) (by decide) rfl rfl ?_
    (first | repeat' (first | ((fail_if_success (first | with_reducible show wpAny _ _ (subscriptTail _ _ (Value.ref _) _) _ _ _ | with_reducible show wpAny _ _ (exec (Stmt.If _ _ _ _) _) _ _ _ | with_reducible show wpAny _ _ (call (Value.builtin "ord") _) _ _ _ | with_reducible show wpAny _ _ (call (Value.builtin "len") _) _ _ _ | with_reducible show wpAny _ _ (call (Value.type "zip") _) _ _ _ | with_reducible show wpAny _ _ (call (Value.ref _) _) _ _ _ | with_reducible show wpAny _ _ (exec (Stmt.For _ _ _ _ _) _) _ _ _)); (first | (first | (with_reducible show wpAny _ _ _ _ _ _) | (with_reducible show (if _ then _ else _)) | (with_reducible show Frag.In _ _ ∧ _) | (with_reducible show KdsFill _ _ _ _ _ _ _ _)) | (dsimp only; (first | (with_reducible show wpAny _ _ _ _ _ _) | (with_reducible show (if _ then _ else _)) | (with_reducible show Frag.In _ _ ∧ _) | (with_reducible show KdsFill _ _ _ _ _ _ _ _)))); (first | walk1 | (dsimp only; walk1)))))
    refine len_list (lb1 F'.keep) (by rw [hs1]; omega) ?_
    (first | repeat' (first | ((fail_if_success (first | with_reducible show wpAny _ _ (subscriptTail _ _ (Value.ref _) _) _ _ _ | with_reducible show wpAny _ _ (exec (Stmt.If _ _ _ _) _) _ _ _ | with_reducible show wpAny _ _ (call (Value.builtin "ord") _) _ _ _ | with_reducible show wpAny _ _ (call (Value.builtin "len") _) _ _ _ | with_reducible show wpAny _ _ (call (Value.type "zip") _) _ _ _ | with_reducible show wpAny _ _ (call (Value.ref _) _) _ _ _ | with_reducible show wpAny _ _ (exec (Stmt.For _ _ _ _ _) _) _ _ _)); (first | (first | (with_reducible show wpAny _ _ _ _ _ _) | (with_reducible show (if _ then _ else _)) | (with_reducible show Frag.In _ _ ∧ _) | (with_reducible show KdsFill _ _ _ _ _ _ _ _)) | (dsimp only; (first | (with_reducible show wpAny _ _ _ _ _ _) | (with_reducible show (if _ then _ else _)) | (with_reducible show Frag.In _ _ ∧ _) | (with_reducible show KdsFill _ _ _ _ _ _ _ _)))); (first | walk1 | (dsimp only; walk1)))))
    refine item_tupleT (l := [.ref l2, n2]) (j := 0) (tb2 F'.keep) (by decide) (by decide) rfl rfl ?_
    (first | repeat' (first | ((fail_if_success (first | with_reducible show wpAny _ _ (subscriptTail _ _ (Value.ref _) _) _ _ _ | with_reducible show wpAny _ _ (exec (Stmt.If _ _ _ _) _) _ _ _ | with_reducible show wpAny _ _ (call (Value.builtin "ord") _) _ _ _ | with_reducible show wpAny _ _ (call (Value.builtin "len") _) _ _ _ | with_reducible show wpAny _ _ (call (Value.type "zip") _) _ _ _ | with_reducible show wpAny _ _ (call (Value.ref _) _) _ _ _ | with_reducible show wpAny _ _ (exec (Stmt.For _ _ _ _ _) _) _ _ _)); (first | (first | (with_reducible show wpAny _ _ _ _ _ _) | (with_reducible show (if _ then _ else _)) | (with_reducible show Frag.In _ _ ∧ _) | (with_reducible show KdsFill _ _ _ _ _ _ _ _)) | (dsimp only; (first | (with_reducible show wpAny _ _ _ _ _ _) | (with_reducible show (if _ then _ else _)) | (with_reducible show Frag.In _ _ ∧ _) | (with_reducible show KdsFill _ _ _ _ _ _ _ _)))); (first | walk1 | (dsimp only; walk1)))))
    refine len_list (lb2 F'.keep) (by rw [hs2]; omega) ?_
    (first | repeat' (first | ((fail_if_success (first | with_reducible show wpAny _ _ (subscriptTail _ _ (Value.ref _) _) _ _ _ | with_reducible show wpAny _ _ (exec (Stmt.If _ _ _ _) _) _ _ _ | with_reducible show wpAny _ _ (call (Value.builtin "ord") _) _ _ _ | with_reducible show wpAny _ _ (call (Value.builtin "len") _) _ _ _ | with_reducible show wpAny _ _ (call (Value.type "zip") _) _ _ _ | with_reducible show wpAny _ _ (call (Value.ref _) _) _ _ _ | with_reducible show wpAny _ _ (exec (Stmt.For _ _ _ _ _) _) _ _ _)); (first | (first | (with_reducible show wpAny _ _ _ _ _ _) | (with_reducible show (if _ then _ else _)) | (with_reducible show Frag.In _ _ ∧ _) | (with_reducible show KdsFill _ _ _ _ _ _ _ _)) | (dsimp only; (first | (with_reducible show wpAny _ _ _ _ _ _) | (with_reducible show (if _ then _ else _)) | (with_reducible show Frag.In _ _ ∧ _) | (with_reducible show KdsFill _ _ _ _ _ _ _ _)))); (first | walk1 | (dsimp only; walk1)))))
    have hc : cmpP ps1 ps2 = (vs1.toArray.size : Int) - vs2.toArray.size := by
      rw [hs1, hs2]
      refine cmp_end ps1 ps2 fun j p' q' hp' hq' => hz j p' q' ?_ hp' hq'
      have e1 := (List.getElem?_eq_some_iff.mp hp').1
      have e2 := (List.getElem?_eq_some_iff.mp hq').1
      omega
    have q := h h'
    rw [hc] at q
    exact q _ _ _ (fun b o hb e => F'.keep b o (hid_get e hb)) T'
end Mine
end
section
open PySem PySem.W PySem.Calls PyProof.Rows
namespace Mine

/-- a strict weak order, as answers -/
structure Ord (lt : Nat → Nat → Bool) : Prop where
  irr : ∀ i, lt i i = false
  tr : ∀ i j k, lt i j = true → lt j k = true → lt i k = true
  neg : ∀ i j k, lt i j = true → lt i k = true ∨ lt k j = true
/-- the stable order over it -/
noncomputable def R (lt : Nat → Nat → Bool) (i j : Nat) : Prop := lt i j = true ∨ (lt j i = false ∧ i < j)

section
variable {lt : Nat → Nat → Bool} {n : Nat}
theorem Ord.asymm (O : Ord lt) {i j : Nat} (h : lt i j = true) : lt j i = false := by
  cases q : lt j i with
  | false => rfl
  | true => have := O.tr i j i h q; rw [O.irr] at this; cases this
theorem R.not (O : Ord lt) {i j : Nat} (h : R lt i j) : lt j i = false := h.elim O.asymm (·.1)
theorem neg' (O : Ord lt) {i j k : Nat} (h : lt i j = true) (h2 : lt k j = false) : lt i k = true := (O.neg i j k h).resolve_right (by rw [h2]; simp)
theorem neg'' (O : Ord lt) {i j k : Nat} (h : lt i j = true) (h2 : lt i k = false) : lt k j = true := (O.neg i j k h).resolve_left (by rw [h2]; simp)
theorem no_lt (O : Ord lt) {i j k : Nat} (h1 : lt i k = false) (h2 : lt k j = false) : lt i j = false := by
  cases q : lt i j with
  | false => rfl
  | true => have := neg'' O q h1; rw [h2] at this; cases this
theorem R.trans (O : Ord lt) {a b c : Nat} (h1 : R lt a b) (h2 : R lt b c) : R lt a c := by
  rcases h1 with h1 | ⟨h1, l1⟩ <;> rcases h2 with h2 | ⟨h2, l2⟩
  · exact .inl (O.tr _ _ _ h1 h2)
  · exact .inl (neg' O h1 h2)
  · exact .inl (neg'' O h2 h1)
  · exact .inr ⟨no_lt O h2 h1, by omega⟩
theorem R.irr (O : Ord lt) {a : Nat} : ¬ R lt a a := by
  rintro (h | ⟨_, h⟩)
  · rw [O.irr] at h; cases h
  · omega
theorem R.anti (O : Ord lt) {a b : Nat} (h1 : R lt a b) (h2 : R lt b a) : False := R.irr O (h1.trans O h2)

/-- what a tree of questions ends in, the answers given -/
noncomputable def pw {α : Type} (n : Nat) (lt : Nat → Nat → Bool) : KasT α → (α → Prop) → Prop
  | .ret a, Q => Q a
  | .ask i j k, Q => i < n ∧ j < n ∧ pw n lt (k (lt i j)) Q
theorem pw_bind {α β : Type} {f : α → KasT β} {Q : β → Prop} : ∀ (t : KasT α), pw n lt t (fun a => pw n lt (f a) Q) → pw n lt (t.bind f) Q
  | .ret _, h => h
  | .ask i j k, h => ⟨h.1, h.2.1, pw_bind (k (lt i j)) h.2.2⟩
theorem pw_mono {α : Type} {Q Q' : α → Prop} (hq : ∀ a, Q a → Q' a) : ∀ (t : KasT α), pw n lt t Q → pw n lt t Q'
  | .ret _, h => hq _ h
  | .ask i j k, h => ⟨h.1, h.2.1, pw_mono hq (k (lt i j)) h.2.2⟩
theorem kasWp_of_pw {α : Type} {cmp : Nat → Nat → (Bool → Shared → Prop) → Shared → Prop} {Inv : Shared → Prop} {Q : α → Prop} {G : α → Shared → Prop}
    (hc : ∀ i j (C : Bool → Shared → Prop) s, i < n → j < n → Inv s → (∀ s', Inv s' → C (lt i j) s') → cmp i j C s) (hG : ∀ a s', Q a → Inv s' → G a s') :
    ∀ (t : KasT α) (s : Shared), pw n lt t Q → Inv s → t.kasWp cmp G s
  | .ret a, s, h, hi => hG a s h hi
  | .ask i j k, s, h, hi => hc i j _ s h.1 h.2.1 hi fun s' hi' => kasWp_of_pw hc hG (k (lt i j)) s' h.2.2 hi'

theorem pw_if {α : Type} {b : Bool} {T F : KasT α} {Q : α → Prop} (h1 : b = true → pw n lt T Q) (h2 : b = false → pw n lt F Q) : pw n lt (if b = true then T else F) Q := by
  cases b with
  | true => exact h1 rfl
  | false => exact h2 rfl
noncomputable def P (p : Array Nat) (a : Nat) : Nat := p.getD a 0
theorem P_eq (p : Array Nat) (a : Nat) : P p a = (p[a]?).getD 0 := by unfold P; exact Array.getD_eq_getD_getElem? ..
structure PArr (n : Nat) (p : Array Nat) (m : Nat) : Prop where
  size : p.size = n
  perm : p.toList.Perm (List.range n)
  le : m ≤ n
  low : ∀ a, a < m → P p a < m
  id : ∀ a, m ≤ a → a < n → P p a = a
noncomputable def Srt (lt : Nat → Nat → Bool) (p : Array Nat) (m : Nat) : Prop := ∀ a b, a < b → b < m → R lt (P p a) (P p b)
noncomputable def Dsc (lt : Nat → Nat → Bool) (p : Array Nat) (m : Nat) : Prop := ∀ a b, a < b → b < m → R lt (P p b) (P p a)

theorem P_rev {p : Array Nat} {i j : Nat} (hj : j ≤ p.size) (k : Nat) : P (kas_rev p i j) k = if i ≤ k ∧ k < j then P p (i + j - 1 - k) else P p k := by
  rw [P_eq, kas_rev, getElem?_mirror_all hj]
  split <;> rw [P_eq]
theorem P_bub {p : Array Nat} {k l : Nat} (hk : k < p.size) (hl : l ≤ k) (a : Nat) : P (bubble p k (k - l)) a = if a = l then P p k else if l < a ∧ a ≤ k then P p (a - 1) else P p a := by
  rw [P_eq, getElem?_bubble hk _ (by omega), show k - (k - l) = l by omega]
  repeat' split
  all_goals rw [P_eq]
theorem PArr.rev {p : Array Nat} {m i j : Nat} (h : PArr n p m) (hij : i ≤ j) (hj : j ≤ m) : PArr n (kas_rev p i j) m := by
  have hs : j ≤ p.size := by rw [h.size]; exact Nat.le_trans hj h.le
  refine ⟨(kas_rev_size _ _).trans h.size, ?_, h.le, fun a ha => ?_, fun a ha hn => ?_⟩
  · have := mirror_perm p i j ((j - i) / 2)
    exact (Array.perm_iff_toList_perm.mp this).trans h.perm
  · rw [P_rev hs]; split
    · exact h.low _ (by omega)
    · exact h.low _ ha
  · rw [P_rev hs, if_neg (by omega)]; exact h.id a ha hn
theorem PArr.up {p : Array Nat} {m : Nat} (h : PArr n p m) (hm : m < n) : PArr n p (m + 1) := by
  refine ⟨h.size, h.perm, hm, fun a ha => ?_, fun a ha hn => h.id a (by omega) hn⟩
  by_cases q : a < m
  · exact Nat.lt_succ_of_lt (h.low a q)
  · obtain rfl : a = m := by omega
    rw [h.id a (Nat.le_refl _) hm]; omega
theorem PArr.inb {p : Array Nat} {m : Nat} (h : PArr n p m) {a : Nat} (ha : a < n) : P p a < n := by
  by_cases q : a < m
  · exact Nat.lt_of_lt_of_le (h.low a q) h.le
  · rw [h.id a (by omega) ha]; exact ha

theorem asc_pw (O : Ord lt) {p : Array Nat} : ∀ (f a : Nat), PArr n p a → Srt lt p a → 1 ≤ a → a + f ≤ n →
    pw n lt (kas_asc p f a) (fun m => a ≤ m ∧ m ≤ a + f ∧ PArr n p m ∧ Srt lt p m ∧ (m < a + f → lt (P p m) (P p (m - 1)) = true))
  | 0, a, hp, hs, h1, hf => ⟨Nat.le_refl _, Nat.le_refl _, hp, hs, fun h => by omega⟩
  | f + 1, a, hp, hs, h1, hf => by
    refine ⟨hp.inb (by omega), hp.inb (by omega), ?_⟩
    have e := hp.id a (Nat.le_refl _) (by omega)
    have l := hp.low (a - 1) (by omega)
    refine pw_if (fun q => ?_) (fun q => ?_)
    · replace q : lt (P p a) (P p (a - 1)) = true := q
      exact ⟨Nat.le_refl _, by omega, hp, hs, fun _ => q⟩
    · replace q : lt (P p a) (P p (a - 1)) = false := q
      have r : R lt (P p (a - 1)) (P p a) := .inr ⟨q, by omega⟩
      refine pw_mono (fun m hm => ⟨by omega, by omega, hm.2.2.1, hm.2.2.2.1, fun h => hm.2.2.2.2 (by omega)⟩) _ (asc_pw O f (a + 1) (hp.up (by omega)) (fun x y hxy hy => ?_) (by omega) (by omega))
      by_cases hya : y < a
      · exact hs x y hxy hya
      · obtain rfl : y = a := by omega
        by_cases hx : x = y - 1
        · subst hx; exact r
        · exact (hs x (y - 1) (by omega) (by omega)).trans O r

structure DInv (n : Nat) (lt : Nat → Nat → Bool) (p : Array Nat) (m q : Nat) : Prop where
  arr : PArr n p m
  qm : q + 1 ≤ m
  old : ∀ a b, a < b → b < m - (q + 1) → R lt (P p b) (P p a)
  cross : ∀ a b, a < m - (q + 1) → m - (q + 1) ≤ b → b < m → lt (P p b) (P p a) = true
  last : ∀ a b, m - (q + 1) ≤ a → a < b → b < m → lt (P p a) (P p b) = false ∧ lt (P p b) (P p a) = false ∧ P p a < P p b

theorem DInv.done {p : Array Nat} {m q : Nat} (D : DInv n lt p m q) : PArr n (kas_rev p (m - (q + 1)) m) m ∧ Dsc lt (kas_rev p (m - (q + 1)) m) m := by
  refine ⟨D.arr.rev (by omega) (Nat.le_refl _), fun a b hab hb => ?_⟩
  have hs : m ≤ p.size := by rw [D.arr.size]; exact D.arr.le
  have := D.qm
  rw [P_rev hs, P_rev hs]
  by_cases h1 : b < m - (q + 1)
  · rw [if_neg (by omega), if_neg (by omega)]; exact D.old a b hab h1
  · rw [if_pos (by omega)]
    by_cases h2 : a < m - (q + 1)
    · rw [if_neg (by omega)]; exact .inl (D.cross a _ h2 (by omega) (by omega))
    · rw [if_pos (by omega)]
      have z := D.last (m - (q + 1) + m - 1 - b) (m - (q + 1) + m - 1 - a) (by omega) (by omega) (by omega)
      exact .inr ⟨z.2.1, z.2.2⟩
theorem rev_one {p : Array Nat} {m : Nat} (hs : m ≤ p.size) (hm : 1 ≤ m) : ∀ k, P (kas_rev p (m - (0 + 1)) m) k = P p k := fun k => by
  rw [P_rev hs]; split
  · congr 1; omega
  · rfl
theorem DInv.done0 {p : Array Nat} {m : Nat} (D : DInv n lt p m 0) : PArr n p m ∧ Dsc lt p m := by
  refine ⟨D.arr, fun a b hab hb => ?_⟩
  have e := rev_one (p := p) (m := m) (by rw [D.arr.size]; exact D.arr.le) D.qm
  have z := D.done.2 a b hab hb
  rwa [e, e] at z
theorem DInv.next (O : Ord lt) {p p' : Array Nat} {m : Nat} (ha : PArr n p' m) (hd : Dsc lt p' m) (hm : m < n) (hl : ∀ a, a < m → lt (P p' m) (P p' a) = true) : DInv n lt p' (m + 1) 0 :=
  ⟨ha.up hm, by omega, fun a b hab hb => hd a b hab (by omega), fun a b h1 h2 h3 => (by omega : b = m) ▸ hl a (by omega), fun a b h1 h2 h3 => by omega⟩
theorem desc_pw (O : Ord lt) : ∀ (f : Nat) (p : Array Nat) (m q : Nat), DInv n lt p m q → m + f ≤ n →
    pw n lt (kas_desc f p m q) (fun r => DInv n lt r.1 r.2.1 r.2.2 ∧ m ≤ r.2.1 ∧ r.2.1 ≤ m + f)
  | 0, p, m, q, D, hf => ⟨D, Nat.le_refl _, Nat.le_refl _⟩
  | f + 1, p, m, q, D, hf => by
    have hs : m ≤ p.size := by rw [D.arr.size]; omega
    have qm := D.qm
    have em := D.arr.id m (Nat.le_refl _) (by omega)
    refine ⟨D.arr.inb (by omega), D.arr.inb (by omega), ?_⟩
    refine pw_if (fun c => ?_) (fun c => ?_)
    · replace c : lt (P p m) (P p (m - 1)) = true := c
      have hx : ∀ a, a < m → lt (P p m) (P p a) = true := fun a ha => by
        by_cases h1 : a < m - (q + 1)
        · exact O.tr _ _ _ c (D.cross a (m - 1) h1 (by omega) (by omega))
        · by_cases h2 : a = m - 1
          · rw [h2]; exact c
          · exact neg' O c (D.last a (m - 1) (by omega) (by omega) (by omega)).1
      split
      · have hx' : ∀ a, a < m → lt (P (kas_rev p (m - (q + 1)) m) m) (P (kas_rev p (m - (q + 1)) m) a) = true := fun a ha => by
          rw [P_rev hs, if_neg (by omega), P_rev hs]
          split
          · exact hx _ (by omega)
          · exact hx a ha
        exact pw_mono (fun r hr => ⟨hr.1, by omega, by omega⟩) _ (desc_pw O f _ (m + 1) 0 (DInv.next O (p := p) D.done.1 D.done.2 (by omega) hx') (by omega))
      · obtain rfl : q = 0 := by omega
        exact pw_mono (fun r hr => ⟨hr.1, by omega, by omega⟩) _ (desc_pw O f _ (m + 1) 0 (DInv.next O (p := p) D.done0.1 D.done0.2 (by omega) hx) (by omega))
    · replace c : lt (P p m) (P p (m - 1)) = false := c
      refine ⟨D.arr.inb (by omega), D.arr.inb (by omega), ?_⟩
      refine pw_if (fun d => ?_) (fun d => ?_)
      · replace d : lt (P p (m - 1)) (P p m) = true := d
        exact ⟨D, Nat.le_refl _, Nat.le_add_right _ _⟩
      · replace d : lt (P p (m - 1)) (P p m) = false := d
        refine pw_mono (fun r hr => ⟨hr.1, by omega, by omega⟩) _ (desc_pw O f p (m + 1) (q + 1) ⟨D.arr.up (by omega), by omega, fun a b h1 h2 => D.old a b h1 (by omega), fun a b h1 h2 h3 => ?_, fun a b h1 h2 h3 => ?_⟩ (by omega))
        · by_cases hb : b < m
          · exact D.cross a b (by omega) (by omega) hb
          · obtain rfl : b = m := by omega
            exact neg'' O (D.cross a (b - 1) (by omega) (by omega) (by omega)) d
        · by_cases hb : b < m
          · exact D.last a b (by omega) h2 hb
          · obtain rfl : b = m := by omega
            have hlow := D.arr.low a h2
            by_cases ha : a = b - 1
            · subst ha; exact ⟨d, c, by omega⟩
            · have z := D.last a (b - 1) (by omega) (by omega) (by omega)
              exact ⟨no_lt O z.1 d, no_lt O c z.2.1, by omega⟩

theorem tail_pw (O : Ord lt) {p : Array Nat} {m : Nat} (ha : PArr n p m) (hd : Dsc lt p m) (h1 : 1 ≤ m) :
    pw n lt (kas_tail3 m n p) (fun r => 1 ≤ r.1 ∧ r.1 ≤ n ∧ PArr n r.2 r.1 ∧ Srt lt r.2 r.1) := by
  have hs : m ≤ p.size := by rw [ha.size]; exact ha.le
  have := ha.le
  refine pw_bind _ (pw_mono (fun r hr => ⟨by omega, by omega, hr.2.2.1, hr.2.2.2.1⟩) _ (asc_pw O (n - m) m (ha.rev (Nat.zero_le _) (Nat.le_refl _)) (fun a b hab hb => ?_) h1 (by omega)))
  rw [P_rev hs, P_rev hs, if_pos (by omega), if_pos (by omega)]
  exact hd _ _ (by omega) (by omega)
theorem descPart_pw (O : Ord lt) {p : Array Nat} {m : Nat} (ha : PArr n p m) (hd : Dsc lt p m) (hm : m < n) (hl : ∀ a, a < m → lt (P p m) (P p a) = true) :
    pw n lt (kas_descPart m n p) (fun r => 1 ≤ r.1 ∧ r.1 ≤ n ∧ PArr n r.2 r.1 ∧ Srt lt r.2 r.1) := by
  refine pw_bind _ (pw_mono (fun r hr => ?_) _ (desc_pw O (n - (m + 1)) p (m + 1) 0 (DInv.next O (p := p) ha hd hm hl) (by omega)))
  obtain ⟨p', m', q⟩ := r
  obtain ⟨D, h1, h2⟩ := hr
  dsimp only at D h1 h2 ⊢
  split
  · exact tail_pw O D.done.1 D.done.2 (by omega)
  · obtain rfl : q = 0 := by omega
    exact tail_pw O D.done0.1 D.done0.2 (by omega)
theorem count_pw (O : Ord lt) {p : Array Nat} (ha : PArr n p 1) (hn : 1 ≤ n) : pw n lt (kas_count n p) (fun r => 1 ≤ r.1 ∧ r.1 ≤ n ∧ PArr n r.2 r.1 ∧ Srt lt r.2 r.1) := by
  refine pw_bind _ (pw_mono (fun m hm => ?_) _ (asc_pw O (n - 1) 1 ha (fun a b h1 h2 => by omega) (Nat.le_refl _) (by omega)))
  obtain ⟨h1, h2, A, S, c⟩ := hm
  have hs : m ≤ p.size := by rw [A.size]; exact A.le
  split
  · exact ⟨h1, by omega, A, S⟩
  · rename_i e
    have hlt : m < n := by
      have : m ≠ n := fun q => e (by rw [q]; exact beq_self_eq_true _)
      omega
    have c := c (by omega)
    split
    · refine ⟨A.inb (by omega), A.inb (by omega), ?_⟩
      refine pw_if (fun d => ?_) (fun d => ?_)
      · replace d : lt (P p 0) (P p (m - 1)) = true := d
        exact ⟨h1, by omega, A, S⟩
      · replace d : lt (P p 0) (P p (m - 1)) = false := d
        have tie : ∀ a, a < m → lt (P p a) (P p (m - 1)) = false := fun a ha => by
          by_cases h0 : a = 0
          · rw [h0]; exact d
          · exact no_lt O ((S 0 a (by omega) ha).not O) d
        refine descPart_pw O (A.rev (Nat.zero_le _) (Nat.le_refl _)) (fun a b hab hb => ?_) hlt (fun a ha => ?_)
        · rw [P_rev hs, P_rev hs, if_pos (by omega), if_pos (by omega)]
          exact S _ _ (by omega) (by omega)
        · rw [P_rev hs, P_rev hs, if_neg (by omega), if_pos (by omega)]
          exact neg' O c (tie _ (by omega))
    · obtain rfl : m = 1 := by omega
      refine descPart_pw O A (fun a b hab hb => by omega) hlt (fun a ha => ?_)
      obtain rfl : a = 0 := by omega
      exact c
theorem place_pw (O : Ord lt) {p : Array Nat} {k : Nat} (A : PArr n p k) (S : Srt lt p k) (hk : k < n) : ∀ (f l r : Nat), l ≤ r → r ≤ k → r - l ≤ f → (∀ a, a < l → lt (P p k) (P p a) = false) → (∀ a, r ≤ a → a < k → lt (P p k) (P p a) = true) →
    pw n lt (kas_place p k f l r) (fun x => x ≤ k ∧ (∀ a, a < x → lt (P p k) (P p a) = false) ∧ ∀ a, x ≤ a → a < k → lt (P p k) (P p a) = true)
  | 0, l, r, h1, h2, h3, hl, hr => ⟨by omega, hl, fun a ha => hr a (by omega)⟩
  | f + 1, l, r, h1, h2, h3, hl, hr => by
    unfold kas_place
    split
    · exact ⟨by omega, hl, fun a ha => hr a (by omega)⟩
    · refine ⟨A.inb hk, A.inb (by omega), ?_⟩
      refine pw_if (fun c => ?_) (fun c => ?_)
      · replace c : lt (P p k) (P p ((l + r) / 2)) = true := c
        refine place_pw O A S hk f l _ (by omega) (by omega) (by omega) hl fun a ha hak => ?_
        by_cases q : a = (l + r) / 2
        · rw [q]; exact c
        · exact neg' O c ((S _ a (by omega) hak).not O)
      · replace c : lt (P p k) (P p ((l + r) / 2)) = false := c
        refine place_pw O A S hk f _ r (by omega) h2 (by omega) (fun a ha => ?_) hr
        by_cases q : a = (l + r) / 2
        · rw [q]; exact c
        · exact no_lt O c ((S a _ (by omega) (by omega)).not O)
theorem bin_pw (O : Ord lt) : ∀ (f : Nat) (p : Array Nat) (k : Nat), PArr n p k → Srt lt p k → k + f = n → pw n lt (kas_bin f p k) (fun p' => PArr n p' n ∧ Srt lt p' n)
  | 0, p, k, A, S, h => by
    obtain rfl : k = n := by omega
    exact ⟨A, S⟩
  | f + 1, p, k, A, S, h => by
    refine pw_bind _ (pw_mono (fun l hl => ?_) _ (place_pw O A S (by omega) k 0 k (Nat.zero_le _) (Nat.le_refl _) (by omega) (fun a ha => by omega) (fun a h1 h2 => by omega)))
    obtain ⟨h1, h2, h3⟩ := hl
    have hk : k < p.size := by rw [A.size]; omega
    have B := P_bub hk h1
    have ek := A.id k (Nat.le_refl _) (by omega)
    refine bin_pw O f _ (k + 1) ⟨(bubble_size _ _ _).trans A.size, (Array.perm_iff_toList_perm.mp (bubble_perm _ _ _)).trans A.perm, by omega, fun a ha => ?_, fun a ha hn => ?_⟩ (fun a b hab hb => ?_) (by omega)
    · rw [B]; repeat' split
      · omega
      · exact Nat.lt_succ_of_lt (A.low _ (by omega))
      · exact Nat.lt_succ_of_lt (A.low _ (by omega))
    · rw [B, if_neg (by omega), if_neg (by omega)]; exact A.id a (by omega) hn
    · rw [B, B]
      by_cases q1 : a < l
      · rw [if_neg (by omega), if_neg (by omega)]
        by_cases q2 : b < l
        · rw [if_neg (by omega), if_neg (by omega)]; exact S a b hab (by omega)
        · by_cases q3 : b = l
          · rw [if_pos q3]; exact .inr ⟨h2 a q1, by have := A.low a (by omega); omega⟩
          · rw [if_neg q3, if_pos (by omega)]; exact S a _ (by omega) (by omega)
      · by_cases q2 : a = l
        · rw [if_pos q2, if_neg (by omega), if_pos (by omega)]; exact .inl (h3 _ (by omega) (by omega))
        · rw [if_neg q2, if_pos (by omega), if_neg (by omega), if_pos (by omega)]; exact S _ _ (by omega) (by omega)
theorem start_arr (n : Nat) (hn : 1 ≤ n) : PArr n (List.toArray (List.range n)) 1 := by
  have e : ∀ a, a < n → P (List.toArray (List.range n)) a = a := fun a ha => by
    rw [P_eq]; simp [ha]
  exact ⟨by simp, by simp, hn, fun a ha => by rw [e a (by omega)]; omega, fun a _ hn => e a hn⟩
/-- the sort asks within its bounds, and ends in the one stable order -/
theorem sort_pw (O : Ord lt) (hn : 1 ≤ n) : pw n lt (kas_sort n) (fun p => p.toList.Perm (List.range n) ∧ p.toList.Pairwise (R lt)) := by
  have fin : ∀ p : Array Nat, PArr n p n → Srt lt p n → p.toList.Perm (List.range n) ∧ p.toList.Pairwise (R lt) := fun p A S => by
    refine ⟨A.perm, List.pairwise_iff_getElem.mpr fun i j hi hj hij => ?_⟩
    have hi' : i < p.size := by simpa using hi
    have hj' : j < p.size := by simpa using hj
    have z := S i j hij (by rw [← A.size]; exact hj')
    simpa [P, Array.getD, hi', hj'] using z
  refine pw_bind _ (pw_mono (fun r hr => ?_) _ (count_pw O (start_arr n hn) hn))
  obtain ⟨h1, h2, A, S⟩ := hr
  split
  · rename_i hlt
    have e : max r.1 1 = r.1 := by omega
    rw [e]
    exact pw_mono (fun p hp => fin p hp.1 hp.2) _ (bin_pw O (n - r.1) r.2 r.1 A S (by omega))
  · have e : r.1 = n := by omega
    rw [e] at A S
    exact fin _ A S
/-- two lists with the same members, both in one strict order, are one -/
theorem sorted_unique (O : Ord lt) : ∀ {l l' : List Nat}, l.Perm l' → l.Pairwise (R lt) → l'.Pairwise (R lt) → l = l'
  | [], l', hp, _, _ => (List.Perm.nil_eq hp)
  | x :: l, [], hp, _, _ => absurd hp.length_eq (by simp)
  | x :: l, y :: l', hp, h1, h2 => by
    have hxy : x = y := by
      have hx : x ∈ y :: l' := hp.subset (.head _)
      have hy : y ∈ x :: l := hp.symm.subset (.head _)
      rcases List.mem_cons.mp hx with e | hx
      · exact e
      · rcases List.mem_cons.mp hy with e | hy
        · exact e.symm
        · exact (R.anti O ((List.pairwise_cons.mp h1).1 y hy) ((List.pairwise_cons.mp h2).1 x hx)).elim
    subst hxy
    rw [sorted_unique O (List.Perm.cons_inv hp) (List.pairwise_cons.mp h1).2 (List.pairwise_cons.mp h2).2]
end
end Mine
end
section
open PySem PySem.W PySem.Calls PyProof.Rows PySem.W.X PySem.Builtin
set_option maxRecDepth 100000
set_option maxHeartbeats 4000000
namespace Mine
section
variable {w : World} {A : Around} {E : Value → Shared → Prop} {h : Heap} {g : Array GenState} {dr : Drawn} {tk : Nat} {os : OsState}

theorem get_obj {K f1 f2 ds c x dd v : Addr} {Q : Value → Shared → Prop} (X : (K0 w.params).In h) (KA : KeyAt h K f1 f2 ds c) (hx : h.get? x = some (keyO K dd v))
    (hq : Q (.ref v) ⟨h, g, dr, tk + 1, os⟩) :
    wpAny (model PR w) AX (getAttr (.ref x) "obj" true) Q E ⟨h, g, dr, tk, os⟩ := by
  obtain ⟨⟨ns, b, t, m1, hK, hs, ts, m0, m2, sl, f3, f4, f5, f6, st, nd, hns⟩, ⟨tm, hm⟩, ⟨c1, ct1, o1, hf1, hc1, ⟨v1, t1, rfl⟩⟩, ⟨c2, ct2, o2, hf2, hc2, i2⟩, ⟨oc, hoc, hoc'⟩⟩ := KA
  have x1 := X cStatics _ rfl
  unfold clsO at hK
  unfold dicO at hns
  unfold memO at hm
  unfold keyO at hx
  clear hoc hoc' hf2 hc2 i2 hf1 hc1
  unfold getAttr
  refine hIn ?_
  repeat ((fail_if_success (with_reducible show wpAny _ _ (Sem.onRaise _ _) _ _ _)); (first | with_reducible refine wpAny_onRaise ?_ | ((with_reducible show wpAny _ _ enterFrame _ _ _); (with_reducible rename Heap.NoLimit _ => hl); refine Mine.hEnter hl (by decide) ?_) | ((with_reducible show wpAny _ _ (List.mapM.loop mkText (Scope.freeNames _) []) _ _ _); (first | (rw [Mine.free1 (x := Str.ofString "mycmp") ?hfr]; (case hfr => (kernel_rfl!; done))) | (rw [Mine.free0 ?hfr]; (case hfr => (kernel_rfl!; done))))) | with_reducible refine Mine.bqIn ?_ | with_reducible refine Mine.bqGo ?_ | with_reducible refine PySem.wpAny_pure ?_ | with_reducible refine PySem.wpAny_rule ?_ | with_reducible refine PySem.wpAny_holding ?_ | with_reducible refine PySem.wpAny_standAt ?_ | with_reducible refine PySem.wpAny_point ?_ | with_reducible refine PySem.wpAny_fresh' ?_ | with_reducible refine Mine.wpTry ?_ | with_reducible refine PySem.wpAny_askSetting ?_ | ((with_reducible show wpAny _ _ (alloc _) _ _ _); (refine Mine.hAlloc rfl ?_); intro _ _ _) | ((with_reducible show wpAny _ _ (ite _ _ _) _ _ _); (first | (refine PySem.wpAny_ite_false ?hc ?_; (case hc => (kernel_rfl!; done))) | (refine PySem.wpAny_ite_true ?hc ?_; (case hc => (kernel_rfl!; done))) | (refine PySem.wpAny_ite_false ?hc ?_; (case hc => (simp [*]; done))) | (refine PySem.wpAny_ite_true ?hc ?_; (case hc => (simp [*]; done))))) | ((with_reducible show wpAny _ _ (load _) _ _ _); (first | (refine' Mine.hLd ?hm ?_; (case hm => (first | (repeat (first | exact List.Mem.head _ | apply List.Mem.tail))))) | (refine Mine.hOl (by with_reducible assumption) ?_) | ((with_reducible rename Frag.In _ _ => XF); (refine Mine.hOl (XF _ _ rfl) ?_)))) | ((with_reducible show wpAny _ _ (loadPart _ _) _ _ _); (first | (refine' Mine.hLdP ?hm ?_; (case hm => (first | (repeat (first | exact List.Mem.head _ | apply List.Mem.tail))))) | (refine Mine.hOlP (by with_reducible assumption) ?_) | ((with_reducible rename Frag.In _ _ => XF); (refine Mine.hOlP (XF _ _ rfl) ?_)))) | ((with_reducible show wpAny _ _ (update _ _) _ _ _); (first | (refine' Mine.hUpd ?hu ?hf ?_; (case hu => (repeat (first | exact Mine.Up.head | apply Mine.Up.tail))); (case hf => rfl)) | (refine' Mine.hUpdP ?hu ?hf ?_; (case hu => (repeat (first | exact Mine.Up.head | apply Mine.Up.tail))); (case hf => rfl)))) | ((with_reducible show wpAny _ _ (updatePart _ _ _) _ _ _); (first | (refine' Mine.hUpd ?hu ?hf ?_; (case hu => (repeat (first | exact Mine.Up.head | apply Mine.Up.tail))); (case hf => rfl)) | (refine' Mine.hUpdP ?hu ?hf ?_; (case hu => (repeat (first | exact Mine.Up.head | apply Mine.Up.tail))); (case hf => rfl)))) | ((with_reducible show wpAny _ _ (isSubtype (.type _) _) _ _ _); refine wpAny_of_eq (a := true) ?hc ?_; (case hc => (rw [isSubtype_type]; kernel_rfl!))) | ((with_reducible show wpAny _ _ (PySem.Builtin.notOverATurnedClass _) _ _ _); refine wpAny_of_eq (a := ()) ?hc ?_; (case hc => kernel_rfl!)) | ((first | (with_reducible show wpAny _ _ (PySem.Builtin.extendedBase _) _ _ _) | (with_reducible show wpAny _ _ (PySem.Builtin.Slots.bestBase _) _ _ _)); refine wpAny_of_eq (a := .type "object") ?hc ?_; (case hc => kernel_rfl!)) | ((first | (with_reducible show wpAny _ _ (PySem.Builtin.Slots.givesDict _) _ _ _) | (with_reducible show wpAny _ _ (PySem.Builtin.Slots.givesWeak _) _ _ _) | (with_reducible show wpAny _ _ (PySem.Builtin.Slots.varSize _) _ _ _)); refine wpAny_of_eq (a := false) ?hc ?_; (case hc => kernel_rfl!)) | ((with_reducible show wpAny _ _ (typeLookup (.ref _) _) _ _ _); unfold typeLookup) | ((with_reducible show wpAny _ _ (classOwn (.type _) _) _ _ _); (first | (refine wpAny_of_eq (a := some (.builtin "object.__new__")) ?hc ?_; (case hc => kernel_rfl!)) | (refine wpAny_of_eq (a := none) ?hc ?_; (case hc => kernel_rfl!)))) | ((with_reducible show wpAny _ _ (typeLookup (.type _) _) _ _ _); (refine wpAny_of_eq (a := none) ?hc ?_; (case hc => (rw [typeLookup_type, builtinLookup_eq_fast]; kernel_rfl!)))) | ((with_reducible show wpAny _ _ (PySem.Builtin.mroHook? _) _ _ _); refine wpAny_of_eq (a := none) ?hc ?_; (case hc => kernel_rfl!)) | ((with_reducible show wpAny _ _ (PySem.Builtin.linearize _ _) _ _ _); refine wpAny_of_eq (a := [.type "object"]) ?hc ?_; (case hc => kernel_rfl!)) | ((with_reducible show wpAny _ _ (Bind.madeBy (.type _)) _ _ _); (first | (refine wpAny_of_eq (a := some "type.__new__") ?hc ?_; (case hc => kernel_rfl!)) | (refine wpAny_of_eq (a := some "object.__new__") ?hc ?_; (case hc => kernel_rfl!)))) | ((fail_if_success (with_reducible show wpAny _ _ (List.anyM _ _) _ _ _)); (fail_if_success (with_reducible show wpAny _ _ (call _ _ _) _ _ _)); (fail_if_success (with_reducible show wpAny _ _ (collect _) _ _ _)); (fail_if_success (with_reducible show wpAny _ _ (PySem.Builtin.Slots.read _ _ _) _ _ _)); (first | wp_delta | wp_step))))
  refine wpAny_onRaise (wpAny_runValue (codeAny_builtin F.plainObj_entry_getattr_hooked ?_))
  unfold Builtin.«proto.getattr_hooked»
  repeat ((fail_if_success (with_reducible show codeAny _ _ _ _ _)); (first | with_reducible refine wpAny_onRaise ?_ | ((with_reducible show wpAny _ _ enterFrame _ _ _); (with_reducible rename Heap.NoLimit _ => hl); refine Mine.hEnter hl (by decide) ?_) | ((with_reducible show wpAny _ _ (List.mapM.loop mkText (Scope.freeNames _) []) _ _ _); (first | (rw [Mine.free1 (x := Str.ofString "mycmp") ?hfr]; (case hfr => (kernel_rfl!; done))) | (rw [Mine.free0 ?hfr]; (case hfr => (kernel_rfl!; done))))) | with_reducible refine Mine.bqIn ?_ | with_reducible refine Mine.bqGo ?_ | with_reducible refine PySem.wpAny_pure ?_ | with_reducible refine PySem.wpAny_rule ?_ | with_reducible refine PySem.wpAny_holding ?_ | with_reducible refine PySem.wpAny_standAt ?_ | with_reducible refine PySem.wpAny_point ?_ | with_reducible refine PySem.wpAny_fresh' ?_ | with_reducible refine Mine.wpTry ?_ | with_reducible refine PySem.wpAny_askSetting ?_ | ((with_reducible show wpAny _ _ (alloc _) _ _ _); (refine Mine.hAlloc rfl ?_); intro _ _ _) | ((with_reducible show wpAny _ _ (ite _ _ _) _ _ _); (first | (refine PySem.wpAny_ite_false ?hc ?_; (case hc => (kernel_rfl!; done))) | (refine PySem.wpAny_ite_true ?hc ?_; (case hc => (kernel_rfl!; done))) | (refine PySem.wpAny_ite_false ?hc ?_; (case hc => (simp [*]; done))) | (refine PySem.wpAny_ite_true ?hc ?_; (case hc => (simp [*]; done))))) | ((with_reducible show wpAny _ _ (load _) _ _ _); (first | (refine' Mine.hLd ?hm ?_; (case hm => (first | (repeat (first | exact List.Mem.head _ | apply List.Mem.tail))))) | (refine Mine.hOl (by with_reducible assumption) ?_) | ((with_reducible rename Frag.In _ _ => XF); (refine Mine.hOl (XF _ _ rfl) ?_)))) | ((with_reducible show wpAny _ _ (loadPart _ _) _ _ _); (first | (refine' Mine.hLdP ?hm ?_; (case hm => (first | (repeat (first | exact List.Mem.head _ | apply List.Mem.tail))))) | (refine Mine.hOlP (by with_reducible assumption) ?_) | ((with_reducible rename Frag.In _ _ => XF); (refine Mine.hOlP (XF _ _ rfl) ?_)))) | ((with_reducible show wpAny _ _ (update _ _) _ _ _); (first | (refine' Mine.hUpd ?hu ?hf ?_; (case hu => (repeat (first | exact Mine.Up.head | apply Mine.Up.tail))); (case hf => rfl)) | (refine' Mine.hUpdP ?hu ?hf ?_; (case hu => (repeat (first | exact Mine.Up.head | apply Mine.Up.tail))); (case hf => rfl)))) | ((with_reducible show wpAny _ _ (updatePart _ _ _) _ _ _); (first | (refine' Mine.hUpd ?hu ?hf ?_; (case hu => (repeat (first | exact Mine.Up.head | apply Mine.Up.tail))); (case hf => rfl)) | (refine' Mine.hUpdP ?hu ?hf ?_; (case hu => (repeat (first | exact Mine.Up.head | apply Mine.Up.tail))); (case hf => rfl)))) | ((with_reducible show wpAny _ _ (isSubtype (.type _) _) _ _ _); refine wpAny_of_eq (a := true) ?hc ?_; (case hc => (rw [isSubtype_type]; kernel_rfl!))) | ((with_reducible show wpAny _ _ (PySem.Builtin.notOverATurnedClass _) _ _ _); refine wpAny_of_eq (a := ()) ?hc ?_; (case hc => kernel_rfl!)) | ((first | (with_reducible show wpAny _ _ (PySem.Builtin.extendedBase _) _ _ _) | (with_reducible show wpAny _ _ (PySem.Builtin.Slots.bestBase _) _ _ _)); refine wpAny_of_eq (a := .type "object") ?hc ?_; (case hc => kernel_rfl!)) | ((first | (with_reducible show wpAny _ _ (PySem.Builtin.Slots.givesDict _) _ _ _) | (with_reducible show wpAny _ _ (PySem.Builtin.Slots.givesWeak _) _ _ _) | (with_reducible show wpAny _ _ (PySem.Builtin.Slots.varSize _) _ _ _)); refine wpAny_of_eq (a := false) ?hc ?_; (case hc => kernel_rfl!)) | ((with_reducible show wpAny _ _ (typeLookup (.ref _) _) _ _ _); unfold typeLookup) | ((with_reducible show wpAny _ _ (classOwn (.type _) _) _ _ _); (first | (refine wpAny_of_eq (a := some (.builtin "object.__new__")) ?hc ?_; (case hc => kernel_rfl!)) | (refine wpAny_of_eq (a := none) ?hc ?_; (case hc => kernel_rfl!)))) | ((with_reducible show wpAny _ _ (typeLookup (.type _) _) _ _ _); (refine wpAny_of_eq (a := none) ?hc ?_; (case hc => (rw [typeLookup_type, builtinLookup_eq_fast]; kernel_rfl!)))) | ((with_reducible show wpAny _ _ (PySem.Builtin.mroHook? _) _ _ _); refine wpAny_of_eq (a := none) ?hc ?_; (case hc => kernel_rfl!)) | ((with_reducible show wpAny _ _ (PySem.Builtin.linearize _ _) _ _ _); refine wpAny_of_eq (a := [.type "object"]) ?hc ?_; (case hc => kernel_rfl!)) | ((with_reducible show wpAny _ _ (Bind.madeBy (.type _)) _ _ _); (first | (refine wpAny_of_eq (a := some "type.__new__") ?hc ?_; (case hc => kernel_rfl!)) | (refine wpAny_of_eq (a := some "object.__new__") ?hc ?_; (case hc => kernel_rfl!)))) | ((fail_if_success (with_reducible show wpAny _ _ (List.anyM _ _) _ _ _)); (fail_if_success (with_reducible show wpAny _ _ (call _ _ _) _ _ _)); (fail_if_success (with_reducible show wpAny _ _ (collect _) _ _ _)); (fail_if_success (with_reducible show wpAny _ _ (PySem.Builtin.Slots.read _ _ _) _ _ _)); (first | wp_delta | wp_step))))
  refine wpAny_of_eq (a := some (.builtin "member_descriptor.__get__")) (by show typeLookup (.type "member_descriptor") _ = _; rw [typeLookup_type, builtinLookup_eq_fast]; kernel_rfl) ?_
  repeat ((fail_if_success (with_reducible show codeAny _ _ _ _ _)); (first | with_reducible refine wpAny_onRaise ?_ | ((with_reducible show wpAny _ _ enterFrame _ _ _); (with_reducible rename Heap.NoLimit _ => hl); refine Mine.hEnter hl (by decide) ?_) | ((with_reducible show wpAny _ _ (List.mapM.loop mkText (Scope.freeNames _) []) _ _ _); (first | (rw [Mine.free1 (x := Str.ofString "mycmp") ?hfr]; (case hfr => (kernel_rfl!; done))) | (rw [Mine.free0 ?hfr]; (case hfr => (kernel_rfl!; done))))) | with_reducible refine Mine.bqIn ?_ | with_reducible refine Mine.bqGo ?_ | with_reducible refine PySem.wpAny_pure ?_ | with_reducible refine PySem.wpAny_rule ?_ | with_reducible refine PySem.wpAny_holding ?_ | with_reducible refine PySem.wpAny_standAt ?_ | with_reducible refine PySem.wpAny_point ?_ | with_reducible refine PySem.wpAny_fresh' ?_ | with_reducible refine Mine.wpTry ?_ | with_reducible refine PySem.wpAny_askSetting ?_ | ((with_reducible show wpAny _ _ (alloc _) _ _ _); (refine Mine.hAlloc rfl ?_); intro _ _ _) | ((with_reducible show wpAny _ _ (ite _ _ _) _ _ _); (first | (refine PySem.wpAny_ite_false ?hc ?_; (case hc => (kernel_rfl!; done))) | (refine PySem.wpAny_ite_true ?hc ?_; (case hc => (kernel_rfl!; done))) | (refine PySem.wpAny_ite_false ?hc ?_; (case hc => (simp [*]; done))) | (refine PySem.wpAny_ite_true ?hc ?_; (case hc => (simp [*]; done))))) | ((with_reducible show wpAny _ _ (load _) _ _ _); (first | (refine' Mine.hLd ?hm ?_; (case hm => (first | (repeat (first | exact List.Mem.head _ | apply List.Mem.tail))))) | (refine Mine.hOl (by with_reducible assumption) ?_) | ((with_reducible rename Frag.In _ _ => XF); (refine Mine.hOl (XF _ _ rfl) ?_)))) | ((with_reducible show wpAny _ _ (loadPart _ _) _ _ _); (first | (refine' Mine.hLdP ?hm ?_; (case hm => (first | (repeat (first | exact List.Mem.head _ | apply List.Mem.tail))))) | (refine Mine.hOlP (by with_reducible assumption) ?_) | ((with_reducible rename Frag.In _ _ => XF); (refine Mine.hOlP (XF _ _ rfl) ?_)))) | ((with_reducible show wpAny _ _ (update _ _) _ _ _); (first | (refine' Mine.hUpd ?hu ?hf ?_; (case hu => (repeat (first | exact Mine.Up.head | apply Mine.Up.tail))); (case hf => rfl)) | (refine' Mine.hUpdP ?hu ?hf ?_; (case hu => (repeat (first | exact Mine.Up.head | apply Mine.Up.tail))); (case hf => rfl)))) | ((with_reducible show wpAny _ _ (updatePart _ _ _) _ _ _); (first | (refine' Mine.hUpd ?hu ?hf ?_; (case hu => (repeat (first | exact Mine.Up.head | apply Mine.Up.tail))); (case hf => rfl)) | (refine' Mine.hUpdP ?hu ?hf ?_; (case hu => (repeat (first | exact Mine.Up.head | apply Mine.Up.tail))); (case hf => rfl)))) | ((with_reducible show wpAny _ _ (isSubtype (.type _) _) _ _ _); refine wpAny_of_eq (a := true) ?hc ?_; (case hc => (rw [isSubtype_type]; kernel_rfl!))) | ((with_reducible show wpAny _ _ (PySem.Builtin.notOverATurnedClass _) _ _ _); refine wpAny_of_eq (a := ()) ?hc ?_; (case hc => kernel_rfl!)) | ((first | (with_reducible show wpAny _ _ (PySem.Builtin.extendedBase _) _ _ _) | (with_reducible show wpAny _ _ (PySem.Builtin.Slots.bestBase _) _ _ _)); refine wpAny_of_eq (a := .type "object") ?hc ?_; (case hc => kernel_rfl!)) | ((first | (with_reducible show wpAny _ _ (PySem.Builtin.Slots.givesDict _) _ _ _) | (with_reducible show wpAny _ _ (PySem.Builtin.Slots.givesWeak _) _ _ _) | (with_reducible show wpAny _ _ (PySem.Builtin.Slots.varSize _) _ _ _)); refine wpAny_of_eq (a := false) ?hc ?_; (case hc => kernel_rfl!)) | ((with_reducible show wpAny _ _ (typeLookup (.ref _) _) _ _ _); unfold typeLookup) | ((with_reducible show wpAny _ _ (classOwn (.type _) _) _ _ _); (first | (refine wpAny_of_eq (a := some (.builtin "object.__new__")) ?hc ?_; (case hc => kernel_rfl!)) | (refine wpAny_of_eq (a := none) ?hc ?_; (case hc => kernel_rfl!)))) | ((with_reducible show wpAny _ _ (typeLookup (.type _) _) _ _ _); (refine wpAny_of_eq (a := none) ?hc ?_; (case hc => (rw [typeLookup_type, builtinLookup_eq_fast]; kernel_rfl!)))) | ((with_reducible show wpAny _ _ (PySem.Builtin.mroHook? _) _ _ _); refine wpAny_of_eq (a := none) ?hc ?_; (case hc => kernel_rfl!)) | ((with_reducible show wpAny _ _ (PySem.Builtin.linearize _ _) _ _ _); refine wpAny_of_eq (a := [.type "object"]) ?hc ?_; (case hc => kernel_rfl!)) | ((with_reducible show wpAny _ _ (Bind.madeBy (.type _)) _ _ _); (first | (refine wpAny_of_eq (a := some "type.__new__") ?hc ?_; (case hc => kernel_rfl!)) | (refine wpAny_of_eq (a := some "object.__new__") ?hc ?_; (case hc => kernel_rfl!)))) | ((fail_if_success (with_reducible show wpAny _ _ (List.anyM _ _) _ _ _)); (fail_if_success (with_reducible show wpAny _ _ (call _ _ _) _ _ _)); (fail_if_success (with_reducible show wpAny _ _ (collect _) _ _ _)); (fail_if_success (with_reducible show wpAny _ _ (PySem.Builtin.Slots.read _ _ _) _ _ _)); (first | wp_delta | wp_step))))
  refine wpAny_of_eq (a := some (.builtin "member_descriptor.__set__")) (by show typeLookup (.type "member_descriptor") _ = _; rw [typeLookup_type, builtinLookup_eq_fast]; kernel_rfl) ?_
  repeat ((fail_if_success (with_reducible show codeAny _ _ _ _ _)); (first | with_reducible refine wpAny_onRaise ?_ | ((with_reducible show wpAny _ _ enterFrame _ _ _); (with_reducible rename Heap.NoLimit _ => hl); refine Mine.hEnter hl (by decide) ?_) | ((with_reducible show wpAny _ _ (List.mapM.loop mkText (Scope.freeNames _) []) _ _ _); (first | (rw [Mine.free1 (x := Str.ofString "mycmp") ?hfr]; (case hfr => (kernel_rfl!; done))) | (rw [Mine.free0 ?hfr]; (case hfr => (kernel_rfl!; done))))) | with_reducible refine Mine.bqIn ?_ | with_reducible refine Mine.bqGo ?_ | with_reducible refine PySem.wpAny_pure ?_ | with_reducible refine PySem.wpAny_rule ?_ | with_reducible refine PySem.wpAny_holding ?_ | with_reducible refine PySem.wpAny_standAt ?_ | with_reducible refine PySem.wpAny_point ?_ | with_reducible refine PySem.wpAny_fresh' ?_ | with_reducible refine Mine.wpTry ?_ | with_reducible refine PySem.wpAny_askSetting ?_ | ((with_reducible show wpAny _ _ (alloc _) _ _ _); (refine Mine.hAlloc rfl ?_); intro _ _ _) | ((with_reducible show wpAny _ _ (ite _ _ _) _ _ _); (first | (refine PySem.wpAny_ite_false ?hc ?_; (case hc => (kernel_rfl!; done))) | (refine PySem.wpAny_ite_true ?hc ?_; (case hc => (kernel_rfl!; done))) | (refine PySem.wpAny_ite_false ?hc ?_; (case hc => (simp [*]; done))) | (refine PySem.wpAny_ite_true ?hc ?_; (case hc => (simp [*]; done))))) | ((with_reducible show wpAny _ _ (load _) _ _ _); (first | (refine' Mine.hLd ?hm ?_; (case hm => (first | (repeat (first | exact List.Mem.head _ | apply List.Mem.tail))))) | (refine Mine.hOl (by with_reducible assumption) ?_) | ((with_reducible rename Frag.In _ _ => XF); (refine Mine.hOl (XF _ _ rfl) ?_)))) | ((with_reducible show wpAny _ _ (loadPart _ _) _ _ _); (first | (refine' Mine.hLdP ?hm ?_; (case hm => (first | (repeat (first | exact List.Mem.head _ | apply List.Mem.tail))))) | (refine Mine.hOlP (by with_reducible assumption) ?_) | ((with_reducible rename Frag.In _ _ => XF); (refine Mine.hOlP (XF _ _ rfl) ?_)))) | ((with_reducible show wpAny _ _ (update _ _) _ _ _); (first | (refine' Mine.hUpd ?hu ?hf ?_; (case hu => (repeat (first | exact Mine.Up.head | apply Mine.Up.tail))); (case hf => rfl)) | (refine' Mine.hUpdP ?hu ?hf ?_; (case hu => (repeat (first | exact Mine.Up.head | apply Mine.Up.tail))); (case hf => rfl)))) | ((with_reducible show wpAny _ _ (updatePart _ _ _) _ _ _); (first | (refine' Mine.hUpd ?hu ?hf ?_; (case hu => (repeat (first | exact Mine.Up.head | apply Mine.Up.tail))); (case hf => rfl)) | (refine' Mine.hUpdP ?hu ?hf ?_; (case hu => (repeat (first | exact Mine.Up.head | apply Mine.Up.tail))); (case hf => rfl)))) | ((with_reducible show wpAny _ _ (isSubtype (.type _) _) _ _ _); refine wpAny_of_eq (a := true) ?hc ?_; (case hc => (rw [isSubtype_type]; kernel_rfl!))) | ((with_reducible show wpAny _ _ (PySem.Builtin.notOverATurnedClass _) _ _ _); refine wpAny_of_eq (a := ()) ?hc ?_; (case hc => kernel_rfl!)) | ((first | (with_reducible show wpAny _ _ (PySem.Builtin.extendedBase _) _ _ _) | (with_reducible show wpAny _ _ (PySem.Builtin.Slots.bestBase _) _ _ _)); refine wpAny_of_eq (a := .type "object") ?hc ?_; (case hc => kernel_rfl!)) | ((first | (with_reducible show wpAny _ _ (PySem.Builtin.Slots.givesDict _) _ _ _) | (with_reducible show wpAny _ _ (PySem.Builtin.Slots.givesWeak _) _ _ _) | (with_reducible show wpAny _ _ (PySem.Builtin.Slots.varSize _) _ _ _)); refine wpAny_of_eq (a := false) ?hc ?_; (case hc => kernel_rfl!)) | ((with_reducible show wpAny _ _ (typeLookup (.ref _) _) _ _ _); unfold typeLookup) | ((with_reducible show wpAny _ _ (classOwn (.type _) _) _ _ _); (first | (refine wpAny_of_eq (a := some (.builtin "object.__new__")) ?hc ?_; (case hc => kernel_rfl!)) | (refine wpAny_of_eq (a := none) ?hc ?_; (case hc => kernel_rfl!)))) | ((with_reducible show wpAny _ _ (typeLookup (.type _) _) _ _ _); (refine wpAny_of_eq (a := none) ?hc ?_; (case hc => (rw [typeLookup_type, builtinLookup_eq_fast]; kernel_rfl!)))) | ((with_reducible show wpAny _ _ (PySem.Builtin.mroHook? _) _ _ _); refine wpAny_of_eq (a := none) ?hc ?_; (case hc => kernel_rfl!)) | ((with_reducible show wpAny _ _ (PySem.Builtin.linearize _ _) _ _ _); refine wpAny_of_eq (a := [.type "object"]) ?hc ?_; (case hc => kernel_rfl!)) | ((with_reducible show wpAny _ _ (Bind.madeBy (.type _)) _ _ _); (first | (refine wpAny_of_eq (a := some "type.__new__") ?hc ?_; (case hc => kernel_rfl!)) | (refine wpAny_of_eq (a := some "object.__new__") ?hc ?_; (case hc => kernel_rfl!)))) | ((fail_if_success (with_reducible show wpAny _ _ (List.anyM _ _) _ _ _)); (fail_if_success (with_reducible show wpAny _ _ (call _ _ _) _ _ _)); (fail_if_success (with_reducible show wpAny _ _ (collect _) _ _ _)); (fail_if_success (with_reducible show wpAny _ _ (PySem.Builtin.Slots.read _ _ _) _ _ _)); (first | wp_delta | wp_step))))
  refine wpAny_call (codeAny_call_builtin KF.slot_mem.plain KF.entry_mem (KF.slot_mem.check _ _ _ _ _ _ _ _ ⟨_, hm, rfl⟩ (KF.args_mem _ _ _) ?_))
  unfold Builtin.«member_descriptor.__get__»
  repeat ((fail_if_success (with_reducible show codeAny _ _ _ _ _)); (first | with_reducible refine wpAny_onRaise ?_ | ((with_reducible show wpAny _ _ enterFrame _ _ _); (with_reducible rename Heap.NoLimit _ => hl); refine Mine.hEnter hl (by decide) ?_) | ((with_reducible show wpAny _ _ (List.mapM.loop mkText (Scope.freeNames _) []) _ _ _); (first | (rw [Mine.free1 (x := Str.ofString "mycmp") ?hfr]; (case hfr => (kernel_rfl!; done))) | (rw [Mine.free0 ?hfr]; (case hfr => (kernel_rfl!; done))))) | with_reducible refine Mine.bqIn ?_ | with_reducible refine Mine.bqGo ?_ | with_reducible refine PySem.wpAny_pure ?_ | with_reducible refine PySem.wpAny_rule ?_ | with_reducible refine PySem.wpAny_holding ?_ | with_reducible refine PySem.wpAny_standAt ?_ | with_reducible refine PySem.wpAny_point ?_ | with_reducible refine PySem.wpAny_fresh' ?_ | with_reducible refine Mine.wpTry ?_ | with_reducible refine PySem.wpAny_askSetting ?_ | ((with_reducible show wpAny _ _ (alloc _) _ _ _); (refine Mine.hAlloc rfl ?_); intro _ _ _) | ((with_reducible show wpAny _ _ (ite _ _ _) _ _ _); (first | (refine PySem.wpAny_ite_false ?hc ?_; (case hc => (kernel_rfl!; done))) | (refine PySem.wpAny_ite_true ?hc ?_; (case hc => (kernel_rfl!; done))) | (refine PySem.wpAny_ite_false ?hc ?_; (case hc => (simp [*]; done))) | (refine PySem.wpAny_ite_true ?hc ?_; (case hc => (simp [*]; done))))) | ((with_reducible show wpAny _ _ (load _) _ _ _); (first | (refine' Mine.hLd ?hm ?_; (case hm => (first | (repeat (first | exact List.Mem.head _ | apply List.Mem.tail))))) | (refine Mine.hOl (by with_reducible assumption) ?_) | ((with_reducible rename Frag.In _ _ => XF); (refine Mine.hOl (XF _ _ rfl) ?_)))) | ((with_reducible show wpAny _ _ (loadPart _ _) _ _ _); (first | (refine' Mine.hLdP ?hm ?_; (case hm => (first | (repeat (first | exact List.Mem.head _ | apply List.Mem.tail))))) | (refine Mine.hOlP (by with_reducible assumption) ?_) | ((with_reducible rename Frag.In _ _ => XF); (refine Mine.hOlP (XF _ _ rfl) ?_)))) | ((with_reducible show wpAny _ _ (update _ _) _ _ _); (first | (refine' Mine.hUpd ?hu ?hf ?_; (case hu => (repeat (first | exact Mine.Up.head | apply Mine.Up.tail))); (case hf => rfl)) | (refine' Mine.hUpdP ?hu ?hf ?_; (case hu => (repeat (first | exact Mine.Up.head | apply Mine.Up.tail))); (case hf => rfl)))) | ((with_reducible show wpAny _ _ (updatePart _ _ _) _ _ _); (first | (refine' Mine.hUpd ?hu ?hf ?_; (case hu => (repeat (first | exact Mine.Up.head | apply Mine.Up.tail))); (case hf => rfl)) | (refine' Mine.hUpdP ?hu ?hf ?_; (case hu => (repeat (first | exact Mine.Up.head | apply Mine.Up.tail))); (case hf => rfl)))) | ((with_reducible show wpAny _ _ (isSubtype (.type _) _) _ _ _); refine wpAny_of_eq (a := true) ?hc ?_; (case hc => (rw [isSubtype_type]; kernel_rfl!))) | ((with_reducible show wpAny _ _ (PySem.Builtin.notOverATurnedClass _) _ _ _); refine wpAny_of_eq (a := ()) ?hc ?_; (case hc => kernel_rfl!)) | ((first | (with_reducible show wpAny _ _ (PySem.Builtin.extendedBase _) _ _ _) | (with_reducible show wpAny _ _ (PySem.Builtin.Slots.bestBase _) _ _ _)); refine wpAny_of_eq (a := .type "object") ?hc ?_; (case hc => kernel_rfl!)) | ((first | (with_reducible show wpAny _ _ (PySem.Builtin.Slots.givesDict _) _ _ _) | (with_reducible show wpAny _ _ (PySem.Builtin.Slots.givesWeak _) _ _ _) | (with_reducible show wpAny _ _ (PySem.Builtin.Slots.varSize _) _ _ _)); refine wpAny_of_eq (a := false) ?hc ?_; (case hc => kernel_rfl!)) | ((with_reducible show wpAny _ _ (typeLookup (.ref _) _) _ _ _); unfold typeLookup) | ((with_reducible show wpAny _ _ (classOwn (.type _) _) _ _ _); (first | (refine wpAny_of_eq (a := some (.builtin "object.__new__")) ?hc ?_; (case hc => kernel_rfl!)) | (refine wpAny_of_eq (a := none) ?hc ?_; (case hc => kernel_rfl!)))) | ((with_reducible show wpAny _ _ (typeLookup (.type _) _) _ _ _); (refine wpAny_of_eq (a := none) ?hc ?_; (case hc => (rw [typeLookup_type, builtinLookup_eq_fast]; kernel_rfl!)))) | ((with_reducible show wpAny _ _ (PySem.Builtin.mroHook? _) _ _ _); refine wpAny_of_eq (a := none) ?hc ?_; (case hc => kernel_rfl!)) | ((with_reducible show wpAny _ _ (PySem.Builtin.linearize _ _) _ _ _); refine wpAny_of_eq (a := [.type "object"]) ?hc ?_; (case hc => kernel_rfl!)) | ((with_reducible show wpAny _ _ (Bind.madeBy (.type _)) _ _ _); (first | (refine wpAny_of_eq (a := some "type.__new__") ?hc ?_; (case hc => kernel_rfl!)) | (refine wpAny_of_eq (a := some "object.__new__") ?hc ?_; (case hc => kernel_rfl!)))) | ((fail_if_success (with_reducible show wpAny _ _ (List.anyM _ _) _ _ _)); (fail_if_success (with_reducible show wpAny _ _ (call _ _ _) _ _ _)); (fail_if_success (with_reducible show wpAny _ _ (collect _) _ _ _)); (fail_if_success (with_reducible show wpAny _ _ (PySem.Builtin.Slots.read _ _ _) _ _ _)); (first | wp_delta | wp_step))))
  show wpAny _ _ (isSubtype (.ref K) (.ref K)) _ _ _
  refine hBack (sub_self hK rfl rfl (hIn1 ?_))
  repeat ((fail_if_success (with_reducible show codeAny _ _ _ _ _)); (first | with_reducible refine wpAny_onRaise ?_ | ((with_reducible show wpAny _ _ enterFrame _ _ _); (with_reducible rename Heap.NoLimit _ => hl); refine Mine.hEnter hl (by decide) ?_) | ((with_reducible show wpAny _ _ (List.mapM.loop mkText (Scope.freeNames _) []) _ _ _); (first | (rw [Mine.free1 (x := Str.ofString "mycmp") ?hfr]; (case hfr => (kernel_rfl!; done))) | (rw [Mine.free0 ?hfr]; (case hfr => (kernel_rfl!; done))))) | with_reducible refine Mine.bqIn ?_ | with_reducible refine Mine.bqGo ?_ | with_reducible refine PySem.wpAny_pure ?_ | with_reducible refine PySem.wpAny_rule ?_ | with_reducible refine PySem.wpAny_holding ?_ | with_reducible refine PySem.wpAny_standAt ?_ | with_reducible refine PySem.wpAny_point ?_ | with_reducible refine PySem.wpAny_fresh' ?_ | with_reducible refine Mine.wpTry ?_ | with_reducible refine PySem.wpAny_askSetting ?_ | ((with_reducible show wpAny _ _ (alloc _) _ _ _); (refine Mine.hAlloc rfl ?_); intro _ _ _) | ((with_reducible show wpAny _ _ (ite _ _ _) _ _ _); (first | (refine PySem.wpAny_ite_false ?hc ?_; (case hc => (kernel_rfl!; done))) | (refine PySem.wpAny_ite_true ?hc ?_; (case hc => (kernel_rfl!; done))) | (refine PySem.wpAny_ite_false ?hc ?_; (case hc => (simp [*]; done))) | (refine PySem.wpAny_ite_true ?hc ?_; (case hc => (simp [*]; done))))) | ((with_reducible show wpAny _ _ (load _) _ _ _); (first | (refine' Mine.hLd ?hm ?_; (case hm => (first | (repeat (first | exact List.Mem.head _ | apply List.Mem.tail))))) | (refine Mine.hOl (by with_reducible assumption) ?_) | ((with_reducible rename Frag.In _ _ => XF); (refine Mine.hOl (XF _ _ rfl) ?_)))) | ((with_reducible show wpAny _ _ (loadPart _ _) _ _ _); (first | (refine' Mine.hLdP ?hm ?_; (case hm => (first | (repeat (first | exact List.Mem.head _ | apply List.Mem.tail))))) | (refine Mine.hOlP (by with_reducible assumption) ?_) | ((with_reducible rename Frag.In _ _ => XF); (refine Mine.hOlP (XF _ _ rfl) ?_)))) | ((with_reducible show wpAny _ _ (update _ _) _ _ _); (first | (refine' Mine.hUpd ?hu ?hf ?_; (case hu => (repeat (first | exact Mine.Up.head | apply Mine.Up.tail))); (case hf => rfl)) | (refine' Mine.hUpdP ?hu ?hf ?_; (case hu => (repeat (first | exact Mine.Up.head | apply Mine.Up.tail))); (case hf => rfl)))) | ((with_reducible show wpAny _ _ (updatePart _ _ _) _ _ _); (first | (refine' Mine.hUpd ?hu ?hf ?_; (case hu => (repeat (first | exact Mine.Up.head | apply Mine.Up.tail))); (case hf => rfl)) | (refine' Mine.hUpdP ?hu ?hf ?_; (case hu => (repeat (first | exact Mine.Up.head | apply Mine.Up.tail))); (case hf => rfl)))) | ((with_reducible show wpAny _ _ (isSubtype (.type _) _) _ _ _); refine wpAny_of_eq (a := true) ?hc ?_; (case hc => (rw [isSubtype_type]; kernel_rfl!))) | ((with_reducible show wpAny _ _ (PySem.Builtin.notOverATurnedClass _) _ _ _); refine wpAny_of_eq (a := ()) ?hc ?_; (case hc => kernel_rfl!)) | ((first | (with_reducible show wpAny _ _ (PySem.Builtin.extendedBase _) _ _ _) | (with_reducible show wpAny _ _ (PySem.Builtin.Slots.bestBase _) _ _ _)); refine wpAny_of_eq (a := .type "object") ?hc ?_; (case hc => kernel_rfl!)) | ((first | (with_reducible show wpAny _ _ (PySem.Builtin.Slots.givesDict _) _ _ _) | (with_reducible show wpAny _ _ (PySem.Builtin.Slots.givesWeak _) _ _ _) | (with_reducible show wpAny _ _ (PySem.Builtin.Slots.varSize _) _ _ _)); refine wpAny_of_eq (a := false) ?hc ?_; (case hc => kernel_rfl!)) | ((with_reducible show wpAny _ _ (typeLookup (.ref _) _) _ _ _); unfold typeLookup) | ((with_reducible show wpAny _ _ (classOwn (.type _) _) _ _ _); (first | (refine wpAny_of_eq (a := some (.builtin "object.__new__")) ?hc ?_; (case hc => kernel_rfl!)) | (refine wpAny_of_eq (a := none) ?hc ?_; (case hc => kernel_rfl!)))) | ((with_reducible show wpAny _ _ (typeLookup (.type _) _) _ _ _); (refine wpAny_of_eq (a := none) ?hc ?_; (case hc => (rw [typeLookup_type, builtinLookup_eq_fast]; kernel_rfl!)))) | ((with_reducible show wpAny _ _ (PySem.Builtin.mroHook? _) _ _ _); refine wpAny_of_eq (a := none) ?hc ?_; (case hc => kernel_rfl!)) | ((with_reducible show wpAny _ _ (PySem.Builtin.linearize _ _) _ _ _); refine wpAny_of_eq (a := [.type "object"]) ?hc ?_; (case hc => kernel_rfl!)) | ((with_reducible show wpAny _ _ (Bind.madeBy (.type _)) _ _ _); (first | (refine wpAny_of_eq (a := some "type.__new__") ?hc ?_; (case hc => kernel_rfl!)) | (refine wpAny_of_eq (a := some "object.__new__") ?hc ?_; (case hc => kernel_rfl!)))) | ((fail_if_success (with_reducible show wpAny _ _ (List.anyM _ _) _ _ _)); (fail_if_success (with_reducible show wpAny _ _ (call _ _ _) _ _ _)); (fail_if_success (with_reducible show wpAny _ _ (collect _) _ _ _)); (fail_if_success (with_reducible show wpAny _ _ (PySem.Builtin.Slots.read _ _ _) _ _ _)); (first | wp_delta | wp_step))))
  refine ⟨Code.quiet_builtin _ (by decide +kernel), codeAny_builtin KF.entry_slot ?_⟩
  unfold Builtin.«proto.slot»
  repeat ((fail_if_success (with_reducible show codeAny _ _ _ _ _)); (first | with_reducible refine wpAny_onRaise ?_ | ((with_reducible show wpAny _ _ enterFrame _ _ _); (with_reducible rename Heap.NoLimit _ => hl); refine Mine.hEnter hl (by decide) ?_) | ((with_reducible show wpAny _ _ (List.mapM.loop mkText (Scope.freeNames _) []) _ _ _); (first | (rw [Mine.free1 (x := Str.ofString "mycmp") ?hfr]; (case hfr => (kernel_rfl!; done))) | (rw [Mine.free0 ?hfr]; (case hfr => (kernel_rfl!; done))))) | with_reducible refine Mine.bqIn ?_ | with_reducible refine Mine.bqGo ?_ | with_reducible refine PySem.wpAny_pure ?_ | with_reducible refine PySem.wpAny_rule ?_ | with_reducible refine PySem.wpAny_holding ?_ | with_reducible refine PySem.wpAny_standAt ?_ | with_reducible refine PySem.wpAny_point ?_ | with_reducible refine PySem.wpAny_fresh' ?_ | with_reducible refine Mine.wpTry ?_ | with_reducible refine PySem.wpAny_askSetting ?_ | ((with_reducible show wpAny _ _ (alloc _) _ _ _); (refine Mine.hAlloc rfl ?_); intro _ _ _) | ((with_reducible show wpAny _ _ (ite _ _ _) _ _ _); (first | (refine PySem.wpAny_ite_false ?hc ?_; (case hc => (kernel_rfl!; done))) | (refine PySem.wpAny_ite_true ?hc ?_; (case hc => (kernel_rfl!; done))) | (refine PySem.wpAny_ite_false ?hc ?_; (case hc => (simp [*]; done))) | (refine PySem.wpAny_ite_true ?hc ?_; (case hc => (simp [*]; done))))) | ((with_reducible show wpAny _ _ (load _) _ _ _); (first | (refine' Mine.hLd ?hm ?_; (case hm => (first | (repeat (first | exact List.Mem.head _ | apply List.Mem.tail))))) | (refine Mine.hOl (by with_reducible assumption) ?_) | ((with_reducible rename Frag.In _ _ => XF); (refine Mine.hOl (XF _ _ rfl) ?_)))) | ((with_reducible show wpAny _ _ (loadPart _ _) _ _ _); (first | (refine' Mine.hLdP ?hm ?_; (case hm => (first | (repeat (first | exact List.Mem.head _ | apply List.Mem.tail))))) | (refine Mine.hOlP (by with_reducible assumption) ?_) | ((with_reducible rename Frag.In _ _ => XF); (refine Mine.hOlP (XF _ _ rfl) ?_)))) | ((with_reducible show wpAny _ _ (update _ _) _ _ _); (first | (refine' Mine.hUpd ?hu ?hf ?_; (case hu => (repeat (first | exact Mine.Up.head | apply Mine.Up.tail))); (case hf => rfl)) | (refine' Mine.hUpdP ?hu ?hf ?_; (case hu => (repeat (first | exact Mine.Up.head | apply Mine.Up.tail))); (case hf => rfl)))) | ((with_reducible show wpAny _ _ (updatePart _ _ _) _ _ _); (first | (refine' Mine.hUpd ?hu ?hf ?_; (case hu => (repeat (first | exact Mine.Up.head | apply Mine.Up.tail))); (case hf => rfl)) | (refine' Mine.hUpdP ?hu ?hf ?_; (case hu => (repeat (first | exact Mine.Up.head | apply Mine.Up.tail))); (case hf => rfl)))) | ((with_reducible show wpAny _ _ (isSubtype (.type _) _) _ _ _); refine wpAny_of_eq (a := true) ?hc ?_; (case hc => (rw [isSubtype_type]; kernel_rfl!))) | ((with_reducible show wpAny _ _ (PySem.Builtin.notOverATurnedClass _) _ _ _); refine wpAny_of_eq (a := ()) ?hc ?_; (case hc => kernel_rfl!)) | ((first | (with_reducible show wpAny _ _ (PySem.Builtin.extendedBase _) _ _ _) | (with_reducible show wpAny _ _ (PySem.Builtin.Slots.bestBase _) _ _ _)); refine wpAny_of_eq (a := .type "object") ?hc ?_; (case hc => kernel_rfl!)) | ((first | (with_reducible show wpAny _ _ (PySem.Builtin.Slots.givesDict _) _ _ _) | (with_reducible show wpAny _ _ (PySem.Builtin.Slots.givesWeak _) _ _ _) | (with_reducible show wpAny _ _ (PySem.Builtin.Slots.varSize _) _ _ _)); refine wpAny_of_eq (a := false) ?hc ?_; (case hc => kernel_rfl!)) | ((with_reducible show wpAny _ _ (typeLookup (.ref _) _) _ _ _); unfold typeLookup) | ((with_reducible show wpAny _ _ (classOwn (.type _) _) _ _ _); (first | (refine wpAny_of_eq (a := some (.builtin "object.__new__")) ?hc ?_; (case hc => kernel_rfl!)) | (refine wpAny_of_eq (a := none) ?hc ?_; (case hc => kernel_rfl!)))) | ((with_reducible show wpAny _ _ (typeLookup (.type _) _) _ _ _); (refine wpAny_of_eq (a := none) ?hc ?_; (case hc => (rw [typeLookup_type, builtinLookup_eq_fast]; kernel_rfl!)))) | ((with_reducible show wpAny _ _ (PySem.Builtin.mroHook? _) _ _ _); refine wpAny_of_eq (a := none) ?hc ?_; (case hc => kernel_rfl!)) | ((with_reducible show wpAny _ _ (PySem.Builtin.linearize _ _) _ _ _); refine wpAny_of_eq (a := [.type "object"]) ?hc ?_; (case hc => kernel_rfl!)) | ((with_reducible show wpAny _ _ (Bind.madeBy (.type _)) _ _ _); (first | (refine wpAny_of_eq (a := some "type.__new__") ?hc ?_; (case hc => kernel_rfl!)) | (refine wpAny_of_eq (a := some "object.__new__") ?hc ?_; (case hc => kernel_rfl!)))) | ((fail_if_success (with_reducible show wpAny _ _ (List.anyM _ _) _ _ _)); (fail_if_success (with_reducible show wpAny _ _ (call _ _ _) _ _ _)); (fail_if_success (with_reducible show wpAny _ _ (collect _) _ _ _)); (fail_if_success (with_reducible show wpAny _ _ (PySem.Builtin.Slots.read _ _ _) _ _ _)); (first | wp_delta | wp_step))))
  exact hq
theorem keyLt_spec {K f1 f2 ds c x y dd v : Addr} {Q : Bool → Shared → Prop} (KA : KeyAt h K f1 f2 ds c) (hx : h.get? x = some (keyO K dd v)) (hu : A.units < cLine)
    (hc : wpAny (model PR w) A (call (.ref f2) [.ref x, .ref y]) (fun r s' => ∃ b, r = .bool b ∧ Q b s') E ⟨h, g, dr, tk, os⟩) :
    wpAny (model PR w) A (keyLt' oneType' (.ref x) (.ref y)) Q E ⟨h, g, dr, tk, os⟩ := by
  obtain ⟨⟨ns, b, t, m1, hK, hs, ts, m0, m2, sl, f3, f4, f5, f6, st, nd, hns⟩, ⟨tm, hm⟩, ⟨c1, ct1, o1, hf1, hc1, ⟨v1, t1, rfl⟩⟩, ⟨c2, ct2, o2, hf2, hc2, i2⟩, ⟨oc, hoc, hoc'⟩⟩ := KA
  rw [keyLt'_oneType, oneLt'_eq]
  simp only [if_true]
  refine wpAny_bind (wpAny_cRoomFor hu ?_)
  refine wpAny_bind ?_
  refine hIn ?_
  repeat ((fail_if_success fail); (first | with_reducible refine wpAny_onRaise ?_ | ((with_reducible show wpAny _ _ enterFrame _ _ _); (with_reducible rename Heap.NoLimit _ => hl); refine Mine.hEnter hl (by decide) ?_) | ((with_reducible show wpAny _ _ (List.mapM.loop mkText (Scope.freeNames _) []) _ _ _); (first | (rw [Mine.free1 (x := Str.ofString "mycmp") ?hfr]; (case hfr => (kernel_rfl!; done))) | (rw [Mine.free0 ?hfr]; (case hfr => (kernel_rfl!; done))))) | with_reducible refine Mine.bqIn ?_ | with_reducible refine Mine.bqGo ?_ | with_reducible refine PySem.wpAny_pure ?_ | with_reducible refine PySem.wpAny_rule ?_ | with_reducible refine PySem.wpAny_holding ?_ | with_reducible refine PySem.wpAny_standAt ?_ | with_reducible refine PySem.wpAny_point ?_ | with_reducible refine PySem.wpAny_fresh' ?_ | with_reducible refine Mine.wpTry ?_ | with_reducible refine PySem.wpAny_askSetting ?_ | ((with_reducible show wpAny _ _ (alloc _) _ _ _); (refine Mine.hAlloc rfl ?_); intro _ _ _) | ((with_reducible show wpAny _ _ (ite _ _ _) _ _ _); (first | (refine PySem.wpAny_ite_false ?hc ?_; (case hc => (kernel_rfl!; done))) | (refine PySem.wpAny_ite_true ?hc ?_; (case hc => (kernel_rfl!; done))) | (refine PySem.wpAny_ite_false ?hc ?_; (case hc => (simp [*]; done))) | (refine PySem.wpAny_ite_true ?hc ?_; (case hc => (simp [*]; done))))) | ((with_reducible show wpAny _ _ (load _) _ _ _); (first | (refine' Mine.hLd ?hm ?_; (case hm => (first | (repeat (first | exact List.Mem.head _ | apply List.Mem.tail))))) | (refine Mine.hOl (by with_reducible assumption) ?_) | ((with_reducible rename Frag.In _ _ => XF); (refine Mine.hOl (XF _ _ rfl) ?_)))) | ((with_reducible show wpAny _ _ (loadPart _ _) _ _ _); (first | (refine' Mine.hLdP ?hm ?_; (case hm => (first | (repeat (first | exact List.Mem.head _ | apply List.Mem.tail))))) | (refine Mine.hOlP (by with_reducible assumption) ?_) | ((with_reducible rename Frag.In _ _ => XF); (refine Mine.hOlP (XF _ _ rfl) ?_)))) | ((with_reducible show wpAny _ _ (update _ _) _ _ _); (first | (refine' Mine.hUpd ?hu ?hf ?_; (case hu => (repeat (first | exact Mine.Up.head | apply Mine.Up.tail))); (case hf => rfl)) | (refine' Mine.hUpdP ?hu ?hf ?_; (case hu => (repeat (first | exact Mine.Up.head | apply Mine.Up.tail))); (case hf => rfl)))) | ((with_reducible show wpAny _ _ (updatePart _ _ _) _ _ _); (first | (refine' Mine.hUpd ?hu ?hf ?_; (case hu => (repeat (first | exact Mine.Up.head | apply Mine.Up.tail))); (case hf => rfl)) | (refine' Mine.hUpdP ?hu ?hf ?_; (case hu => (repeat (first | exact Mine.Up.head | apply Mine.Up.tail))); (case hf => rfl)))) | ((with_reducible show wpAny _ _ (isSubtype (.type _) _) _ _ _); refine wpAny_of_eq (a := true) ?hc ?_; (case hc => (rw [isSubtype_type]; kernel_rfl!))) | ((with_reducible show wpAny _ _ (PySem.Builtin.notOverATurnedClass _) _ _ _); refine wpAny_of_eq (a := ()) ?hc ?_; (case hc => kernel_rfl!)) | ((first | (with_reducible show wpAny _ _ (PySem.Builtin.extendedBase _) _ _ _) | (with_reducible show wpAny _ _ (PySem.Builtin.Slots.bestBase _) _ _ _)); refine wpAny_of_eq (a := .type "object") ?hc ?_; (case hc => kernel_rfl!)) | ((first | (with_reducible show wpAny _ _ (PySem.Builtin.Slots.givesDict _) _ _ _) | (with_reducible show wpAny _ _ (PySem.Builtin.Slots.givesWeak _) _ _ _) | (with_reducible show wpAny _ _ (PySem.Builtin.Slots.varSize _) _ _ _)); refine wpAny_of_eq (a := false) ?hc ?_; (case hc => kernel_rfl!)) | ((with_reducible show wpAny _ _ (typeLookup (.ref _) _) _ _ _); unfold typeLookup) | ((with_reducible show wpAny _ _ (classOwn (.type _) _) _ _ _); (first | (refine wpAny_of_eq (a := some (.builtin "object.__new__")) ?hc ?_; (case hc => kernel_rfl!)) | (refine wpAny_of_eq (a := none) ?hc ?_; (case hc => kernel_rfl!)))) | ((with_reducible show wpAny _ _ (typeLookup (.type _) _) _ _ _); (refine wpAny_of_eq (a := none) ?hc ?_; (case hc => (rw [typeLookup_type, builtinLookup_eq_fast]; kernel_rfl!)))) | ((with_reducible show wpAny _ _ (PySem.Builtin.mroHook? _) _ _ _); refine wpAny_of_eq (a := none) ?hc ?_; (case hc => kernel_rfl!)) | ((with_reducible show wpAny _ _ (PySem.Builtin.linearize _ _) _ _ _); refine wpAny_of_eq (a := [.type "object"]) ?hc ?_; (case hc => kernel_rfl!)) | ((with_reducible show wpAny _ _ (Bind.madeBy (.type _)) _ _ _); (first | (refine wpAny_of_eq (a := some "type.__new__") ?hc ?_; (case hc => kernel_rfl!)) | (refine wpAny_of_eq (a := some "object.__new__") ?hc ?_; (case hc => kernel_rfl!)))) | ((fail_if_success (with_reducible show wpAny _ _ (List.anyM _ _) _ _ _)); (fail_if_success (with_reducible show wpAny _ _ (call _ _ _) _ _ _)); (fail_if_success (with_reducible show wpAny _ _ (collect _) _ _ _)); (fail_if_success (with_reducible show wpAny _ _ (PySem.Builtin.Slots.read _ _ _) _ _ _)); (first | wp_delta | wp_step))))
  refine wpAny_ite ?_
  split
  all_goals repeat ((fail_if_success fail); (first | with_reducible refine wpAny_onRaise ?_ | ((with_reducible show wpAny _ _ enterFrame _ _ _); (with_reducible rename Heap.NoLimit _ => hl); refine Mine.hEnter hl (by decide) ?_) | ((with_reducible show wpAny _ _ (List.mapM.loop mkText (Scope.freeNames _) []) _ _ _); (first | (rw [Mine.free1 (x := Str.ofString "mycmp") ?hfr]; (case hfr => (kernel_rfl!; done))) | (rw [Mine.free0 ?hfr]; (case hfr => (kernel_rfl!; done))))) | with_reducible refine Mine.bqIn ?_ | with_reducible refine Mine.bqGo ?_ | with_reducible refine PySem.wpAny_pure ?_ | with_reducible refine PySem.wpAny_rule ?_ | with_reducible refine PySem.wpAny_holding ?_ | with_reducible refine PySem.wpAny_standAt ?_ | with_reducible refine PySem.wpAny_point ?_ | with_reducible refine PySem.wpAny_fresh' ?_ | with_reducible refine Mine.wpTry ?_ | with_reducible refine PySem.wpAny_askSetting ?_ | ((with_reducible show wpAny _ _ (alloc _) _ _ _); (refine Mine.hAlloc rfl ?_); intro _ _ _) | ((with_reducible show wpAny _ _ (ite _ _ _) _ _ _); (first | (refine PySem.wpAny_ite_false ?hc ?_; (case hc => (kernel_rfl!; done))) | (refine PySem.wpAny_ite_true ?hc ?_; (case hc => (kernel_rfl!; done))) | (refine PySem.wpAny_ite_false ?hc ?_; (case hc => (simp [*]; done))) | (refine PySem.wpAny_ite_true ?hc ?_; (case hc => (simp [*]; done))))) | ((with_reducible show wpAny _ _ (load _) _ _ _); (first | (refine' Mine.hLd ?hm ?_; (case hm => (first | (repeat (first | exact List.Mem.head _ | apply List.Mem.tail))))) | (refine Mine.hOl (by with_reducible assumption) ?_) | ((with_reducible rename Frag.In _ _ => XF); (refine Mine.hOl (XF _ _ rfl) ?_)))) | ((with_reducible show wpAny _ _ (loadPart _ _) _ _ _); (first | (refine' Mine.hLdP ?hm ?_; (case hm => (first | (repeat (first | exact List.Mem.head _ | apply List.Mem.tail))))) | (refine Mine.hOlP (by with_reducible assumption) ?_) | ((with_reducible rename Frag.In _ _ => XF); (refine Mine.hOlP (XF _ _ rfl) ?_)))) | ((with_reducible show wpAny _ _ (update _ _) _ _ _); (first | (refine' Mine.hUpd ?hu ?hf ?_; (case hu => (repeat (first | exact Mine.Up.head | apply Mine.Up.tail))); (case hf => rfl)) | (refine' Mine.hUpdP ?hu ?hf ?_; (case hu => (repeat (first | exact Mine.Up.head | apply Mine.Up.tail))); (case hf => rfl)))) | ((with_reducible show wpAny _ _ (updatePart _ _ _) _ _ _); (first | (refine' Mine.hUpd ?hu ?hf ?_; (case hu => (repeat (first | exact Mine.Up.head | apply Mine.Up.tail))); (case hf => rfl)) | (refine' Mine.hUpdP ?hu ?hf ?_; (case hu => (repeat (first | exact Mine.Up.head | apply Mine.Up.tail))); (case hf => rfl)))) | ((with_reducible show wpAny _ _ (isSubtype (.type _) _) _ _ _); refine wpAny_of_eq (a := true) ?hc ?_; (case hc => (rw [isSubtype_type]; kernel_rfl!))) | ((with_reducible show wpAny _ _ (PySem.Builtin.notOverATurnedClass _) _ _ _); refine wpAny_of_eq (a := ()) ?hc ?_; (case hc => kernel_rfl!)) | ((first | (with_reducible show wpAny _ _ (PySem.Builtin.extendedBase _) _ _ _) | (with_reducible show wpAny _ _ (PySem.Builtin.Slots.bestBase _) _ _ _)); refine wpAny_of_eq (a := .type "object") ?hc ?_; (case hc => kernel_rfl!)) | ((first | (with_reducible show wpAny _ _ (PySem.Builtin.Slots.givesDict _) _ _ _) | (with_reducible show wpAny _ _ (PySem.Builtin.Slots.givesWeak _) _ _ _) | (with_reducible show wpAny _ _ (PySem.Builtin.Slots.varSize _) _ _ _)); refine wpAny_of_eq (a := false) ?hc ?_; (case hc => kernel_rfl!)) | ((with_reducible show wpAny _ _ (typeLookup (.ref _) _) _ _ _); unfold typeLookup) | ((with_reducible show wpAny _ _ (classOwn (.type _) _) _ _ _); (first | (refine wpAny_of_eq (a := some (.builtin "object.__new__")) ?hc ?_; (case hc => kernel_rfl!)) | (refine wpAny_of_eq (a := none) ?hc ?_; (case hc => kernel_rfl!)))) | ((with_reducible show wpAny _ _ (typeLookup (.type _) _) _ _ _); (refine wpAny_of_eq (a := none) ?hc ?_; (case hc => (rw [typeLookup_type, builtinLookup_eq_fast]; kernel_rfl!)))) | ((with_reducible show wpAny _ _ (PySem.Builtin.mroHook? _) _ _ _); refine wpAny_of_eq (a := none) ?hc ?_; (case hc => kernel_rfl!)) | ((with_reducible show wpAny _ _ (PySem.Builtin.linearize _ _) _ _ _); refine wpAny_of_eq (a := [.type "object"]) ?hc ?_; (case hc => kernel_rfl!)) | ((with_reducible show wpAny _ _ (Bind.madeBy (.type _)) _ _ _); (first | (refine wpAny_of_eq (a := some "type.__new__") ?hc ?_; (case hc => kernel_rfl!)) | (refine wpAny_of_eq (a := some "object.__new__") ?hc ?_; (case hc => kernel_rfl!)))) | ((fail_if_success (with_reducible show wpAny _ _ (List.anyM _ _) _ _ _)); (fail_if_success (with_reducible show wpAny _ _ (call _ _ _) _ _ _)); (fail_if_success (with_reducible show wpAny _ _ (collect _) _ _ _)); (fail_if_success (with_reducible show wpAny _ _ (PySem.Builtin.Slots.read _ _ _) _ _ _)); (first | wp_delta | wp_step))))
  all_goals unfold bindSpecial
  all_goals repeat ((fail_if_success fail); (first | with_reducible refine wpAny_onRaise ?_ | ((with_reducible show wpAny _ _ enterFrame _ _ _); (with_reducible rename Heap.NoLimit _ => hl); refine Mine.hEnter hl (by decide) ?_) | ((with_reducible show wpAny _ _ (List.mapM.loop mkText (Scope.freeNames _) []) _ _ _); (first | (rw [Mine.free1 (x := Str.ofString "mycmp") ?hfr]; (case hfr => (kernel_rfl!; done))) | (rw [Mine.free0 ?hfr]; (case hfr => (kernel_rfl!; done))))) | with_reducible refine Mine.bqIn ?_ | with_reducible refine Mine.bqGo ?_ | with_reducible refine PySem.wpAny_pure ?_ | with_reducible refine PySem.wpAny_rule ?_ | with_reducible refine PySem.wpAny_holding ?_ | with_reducible refine PySem.wpAny_standAt ?_ | with_reducible refine PySem.wpAny_point ?_ | with_reducible refine PySem.wpAny_fresh' ?_ | with_reducible refine Mine.wpTry ?_ | with_reducible refine PySem.wpAny_askSetting ?_ | ((with_reducible show wpAny _ _ (alloc _) _ _ _); (refine Mine.hAlloc rfl ?_); intro _ _ _) | ((with_reducible show wpAny _ _ (ite _ _ _) _ _ _); (first | (refine PySem.wpAny_ite_false ?hc ?_; (case hc => (kernel_rfl!; done))) | (refine PySem.wpAny_ite_true ?hc ?_; (case hc => (kernel_rfl!; done))) | (refine PySem.wpAny_ite_false ?hc ?_; (case hc => (simp [*]; done))) | (refine PySem.wpAny_ite_true ?hc ?_; (case hc => (simp [*]; done))))) | ((with_reducible show wpAny _ _ (load _) _ _ _); (first | (refine' Mine.hLd ?hm ?_; (case hm => (first | (repeat (first | exact List.Mem.head _ | apply List.Mem.tail))))) | (refine Mine.hOl (by with_reducible assumption) ?_) | ((with_reducible rename Frag.In _ _ => XF); (refine Mine.hOl (XF _ _ rfl) ?_)))) | ((with_reducible show wpAny _ _ (loadPart _ _) _ _ _); (first | (refine' Mine.hLdP ?hm ?_; (case hm => (first | (repeat (first | exact List.Mem.head _ | apply List.Mem.tail))))) | (refine Mine.hOlP (by with_reducible assumption) ?_) | ((with_reducible rename Frag.In _ _ => XF); (refine Mine.hOlP (XF _ _ rfl) ?_)))) | ((with_reducible show wpAny _ _ (update _ _) _ _ _); (first | (refine' Mine.hUpd ?hu ?hf ?_; (case hu => (repeat (first | exact Mine.Up.head | apply Mine.Up.tail))); (case hf => rfl)) | (refine' Mine.hUpdP ?hu ?hf ?_; (case hu => (repeat (first | exact Mine.Up.head | apply Mine.Up.tail))); (case hf => rfl)))) | ((with_reducible show wpAny _ _ (updatePart _ _ _) _ _ _); (first | (refine' Mine.hUpd ?hu ?hf ?_; (case hu => (repeat (first | exact Mine.Up.head | apply Mine.Up.tail))); (case hf => rfl)) | (refine' Mine.hUpdP ?hu ?hf ?_; (case hu => (repeat (first | exact Mine.Up.head | apply Mine.Up.tail))); (case hf => rfl)))) | ((with_reducible show wpAny _ _ (isSubtype (.type _) _) _ _ _); refine wpAny_of_eq (a := true) ?hc ?_; (case hc => (rw [isSubtype_type]; kernel_rfl!))) | ((with_reducible show wpAny _ _ (PySem.Builtin.notOverATurnedClass _) _ _ _); refine wpAny_of_eq (a := ()) ?hc ?_; (case hc => kernel_rfl!)) | ((first | (with_reducible show wpAny _ _ (PySem.Builtin.extendedBase _) _ _ _) | (with_reducible show wpAny _ _ (PySem.Builtin.Slots.bestBase _) _ _ _)); refine wpAny_of_eq (a := .type "object") ?hc ?_; (case hc => kernel_rfl!)) | ((first | (with_reducible show wpAny _ _ (PySem.Builtin.Slots.givesDict _) _ _ _) | (with_reducible show wpAny _ _ (PySem.Builtin.Slots.givesWeak _) _ _ _) | (with_reducible show wpAny _ _ (PySem.Builtin.Slots.varSize _) _ _ _)); refine wpAny_of_eq (a := false) ?hc ?_; (case hc => kernel_rfl!)) | ((with_reducible show wpAny _ _ (typeLookup (.ref _) _) _ _ _); unfold typeLookup) | ((with_reducible show wpAny _ _ (classOwn (.type _) _) _ _ _); (first | (refine wpAny_of_eq (a := some (.builtin "object.__new__")) ?hc ?_; (case hc => kernel_rfl!)) | (refine wpAny_of_eq (a := none) ?hc ?_; (case hc => kernel_rfl!)))) | ((with_reducible show wpAny _ _ (typeLookup (.type _) _) _ _ _); (refine wpAny_of_eq (a := none) ?hc ?_; (case hc => (rw [typeLookup_type, builtinLookup_eq_fast]; kernel_rfl!)))) | ((with_reducible show wpAny _ _ (PySem.Builtin.mroHook? _) _ _ _); refine wpAny_of_eq (a := none) ?hc ?_; (case hc => kernel_rfl!)) | ((with_reducible show wpAny _ _ (PySem.Builtin.linearize _ _) _ _ _); refine wpAny_of_eq (a := [.type "object"]) ?hc ?_; (case hc => kernel_rfl!)) | ((with_reducible show wpAny _ _ (Bind.madeBy (.type _)) _ _ _); (first | (refine wpAny_of_eq (a := some "type.__new__") ?hc ?_; (case hc => kernel_rfl!)) | (refine wpAny_of_eq (a := some "object.__new__") ?hc ?_; (case hc => kernel_rfl!)))) | ((fail_if_success (with_reducible show wpAny _ _ (List.anyM _ _) _ _ _)); (fail_if_success (with_reducible show wpAny _ _ (call _ _ _) _ _ _)); (fail_if_success (with_reducible show wpAny _ _ (collect _) _ _ _)); (fail_if_success (with_reducible show wpAny _ _ (PySem.Builtin.Slots.read _ _ _) _ _ _)); (first | wp_delta | wp_step))))
  all_goals
    refine wpAny_mono hc (fun r s' hr => ?_) (fun _ _ e => e)
    obtain ⟨b, rfl, hb⟩ := hr
    refine wpAny_pure ?_
    exact wpAny_truthy_bool hb
end
section
variable {w : World} {A : Around} {E : Value → Shared → Prop} {s : Shared} {loose : List Str} {mean : ExcName → Option Value} {mg mb : Str → Option Value} {n : Nat}
theorem tab_ne {h : Heap} (t : Tab24 h) {a : Addr} {o : Obj} (e : h.get? a = some o) (hno : ∀ vs, o ≠ tabObj vs) : a ≠ 24 := fun q => by
  rcases t with z | ⟨_, _, _, _, _, _, _, z⟩ <;> (rw [q, z] at e; cases e; exact hno _ rfl)
theorem KeyAt.ext {h h' : Heap} {K f1 f2 ds c : Addr} (KA : KeyAt h K f1 f2 ds c) (t : Tab24 h) (e : Heap.ExtBut 24 h h') : KeyAt h' K f1 f2 ds c := by
  have up : ∀ {a : Addr} {o : Obj}, h.get? a = some o → (∀ vs, o ≠ tabObj vs) → h'.get? a = some o := fun {a o} z hno => e a o (tab_ne t z hno) z
  obtain ⟨⟨ns, b, t, m1, hK, hs, ts, m0, m2, sl, f3, f4, f5, f6, st, nd, hns⟩, ⟨tm, hm⟩, ⟨c1, ct1, o1, hf1, hc1, ⟨v1, t1, rfl⟩⟩, ⟨c2, ct2, o2, hf2, hc2, ⟨v2, t2, rfl⟩⟩, ⟨oc, hoc, hoc'⟩⟩ := KA
  exact ⟨⟨ns, b, t, m1, up hK (fun vs q => by cases q), hs, ts, m0, m2, sl, f3, f4, f5, f6, st, nd, up hns (fun vs q => by cases q)⟩, ⟨tm, up hm (fun vs q => by cases q)⟩, ⟨c1, ct1, _, up hf1 (fun vs q => by cases q), up hc1 (fun vs q => by cases q), ⟨v1, t1, rfl⟩⟩, ⟨c2, ct2, _, up hf2 (fun vs q => by cases q), up hc2 (fun vs q => by cases q), ⟨v2, t2, rfl⟩⟩, ⟨oc, up hoc (fun vs q => by rw [q] at hoc'; cases hoc'), hoc'⟩⟩
theorem lt_spec {K f1 f2 ds c x y dx dy o1 o2 l1 l2 : Addr} {n1 n2 : Value} {vs1 vs2 : List Value} {ps1 ps2 : List (List Nat)} {k1 k2 : Nat} {g₀ : Heap} {Q : Value → Shared → Prop} (G : Gd w loose mean mg mb g₀) (hk : Kp g₀ s.heap) (hA : Am A n) (hn : n < 360) (h24 : Tab24 s.heap)
    (KA : KeyAt s.heap K f1 f2 ds c) (hx : s.heap.get? x = some (keyO K dx o1)) (hy : s.heap.get? y = some (keyO K dy o2))
    (t1 : s.heap.get? o1 = some (tupP (.ref l1) n1)) (t2 : s.heap.get? o2 = some (tupP (.ref l2) n2)) (e1 : s.heap.get? l1 = some (listOf vs1.toArray k1)) (e2 : s.heap.get? l2 = some (listOf vs2.toArray k2))
    (S1 : StrsAre vs1 (ps1.map mk)) (S2 : StrsAre vs2 (ps2.map mk)) (P1 : ∀ p ∈ ps1, PieceOk p) (P2 : ∀ p ∈ ps2, PieceOk p) (b1 : ps1.length ≤ 20) (b2 : ps2.length ≤ 20)
    (h : ∀ h' tk d, Heap.ExtBut 24 s.heap h' → Tab24 h' → Q (.bool (decide (cmpP ps1 ps2 < 0))) {s with heap := h', toks := tk, drawn := d}) :
    wpAny (model PR w) A (call (.ref f2) [.ref x, .ref y]) Q E s := by
  obtain ⟨X, T, C24⟩ := G.keeps hk
  obtain ⟨o24, ho24, h24k⟩ := tab_split h24
  obtain ⟨cd, ct, oc, hf, hcd, ⟨v, tc, rfl⟩⟩ := KA.fn2
  obtain ⟨ocl, hcl, hcl'⟩ := KA.cell
  have ef : fnOf (clsBody.getD 3 (.Pass default)) "cmp_to_key.<locals>.K.__lt__" [("mycmp", c)] (.ref cd) ct = fnOf (clsBody.getD 3 (.Pass default)) "cmp_to_key.<locals>.K.__lt__" [("mycmp", c)] (.ref cd) ct := rfl
  conv at ef => rhs; whnf
  rw [ef] at hf
  clear ef
  have N : News (hid s.heap) s.heap.objs.size s.heap [(24, o24)] := news_cons ho24 (Nat.ne_of_lt (Heap.lt_size ho24)) (hid_none _) News.nil
  refine wpAny_call (enterX (binds := [("self", .ref x), ("other", .ref y)]) (hA.room (by omega)) hf rfl T.nolimit ⟨cd, _, _, _, rfl, hcd, rfl, rfl⟩ (BindsTo.of_eq rfl) (by decide) (locs rfl) N (fun h₁ F N => ?_))
  replace F : Fr (hid s.heap) s.heap.objs.size h₁ _ := F
  replace N : News (hid s.heap) s.heap.objs.size h₁ [(24, o24)] := N
  have G1 := G.hid hk
  have X1 := G1.X
  have T1 := G1.T
  clear X T C24
  (first | repeat' (first | ((fail_if_success (first | with_reducible show wpAny _ _ (getAttr _ _ _) _ _ _ | with_reducible show wpAny _ _ (PySem.eval (Expr.Call _ _ _ _) _) _ _ _ | with_reducible show wpAny _ _ (PySem.eval (Expr.Attribute _ _ _) _) _ _ _ | with_reducible show wpAny _ _ (call (Value.ref _) _) _ _ _)); (first | (first | (with_reducible show wpAny _ _ _ _ _ _) | (with_reducible show (if _ then _ else _)) | (with_reducible show Frag.In _ _ ∧ _) | (with_reducible show KdsFill _ _ _ _ _ _ _ _)) | (dsimp only; (first | (with_reducible show wpAny _ _ _ _ _ _) | (with_reducible show (if _ then _ else _)) | (with_reducible show Frag.In _ _ ∧ _) | (with_reducible show KdsFill _ _ _ _ _ _ _ _)))); (first | walk1 | (dsimp only; walk1)))))
  have ne24 : ∀ {a : Addr} {o : Obj}, s.heap.get? a = some o → o.cls ≠ .none → a ≠ 24 := fun {a o} e hc q => by
    rcases h24 with z | ⟨c, oc, vs, t, _, _, _, z⟩ <;> (rw [q, z] at e; cases e; exact hc rfl)
  have c24 : c ≠ 24 := fun q => by
    rcases h24 with z | ⟨_, oc, vs, t, _, _, _, z⟩ <;> (rw [q, z] at hcl; cases hcl; cases hcl')
  refine wpAny_Call_Name_kw ?_
  rw [arm_eval_Name]
  refine wpAny_bind (wpAny_standAt ?_)
  rw [if_neg (by decide +kernel)]
  refine wpAny_loadName_free (c := c) (v := .ref 73) rfl rfl (by kernel_rfl) ⟨_, F.keep _ _ (hid_get hcl c24), hcl'⟩ ?_ (by decide +kernel)
  (first | repeat' (first | ((fail_if_success (first | with_reducible show wpAny _ _ (getAttr _ _ _) _ _ _ | with_reducible show wpAny _ _ (PySem.eval (Expr.Call _ _ _ _) _) _ _ _ | with_reducible show wpAny _ _ (PySem.eval (Expr.Attribute _ _ _) _) _ _ _ | with_reducible show wpAny _ _ (call (Value.ref _) _) _ _ _)); (first | (first | (with_reducible show wpAny _ _ _ _ _ _) | (with_reducible show (if _ then _ else _)) | (with_reducible show Frag.In _ _ ∧ _) | (with_reducible show KdsFill _ _ _ _ _ _ _ _)) | (dsimp only; (first | (with_reducible show wpAny _ _ _ _ _ _) | (with_reducible show (if _ then _ else _)) | (with_reducible show Frag.In _ _ ∧ _) | (with_reducible show KdsFill _ _ _ _ _ _ _ _)))); (first | walk1 | (dsimp only; walk1)))))
  have x1 : Heap.ExtBut 24 s.heap h₁ := fun b o hb e => F.keep b o (hid_get e hb)
  have KA₁ := KA.ext h24 x1
  have nx : ∀ {a : Addr} {o : Obj}, s.heap.get? a = some o → (∀ vs, o ≠ tabObj vs) → h₁.get? a = some o := fun {a o} e hno => x1 a o (tab_ne h24 e hno) e
  have X₁ := X1.keeps F.keep
  refine Attribute_name ?_
  (first | repeat' (first | ((fail_if_success (first | with_reducible show wpAny _ _ (getAttr _ _ _) _ _ _ | with_reducible show wpAny _ _ (PySem.eval (Expr.Call _ _ _ _) _) _ _ _ | with_reducible show wpAny _ _ (PySem.eval (Expr.Attribute _ _ _) _) _ _ _ | with_reducible show wpAny _ _ (call (Value.ref _) _) _ _ _)); (first | (first | (with_reducible show wpAny _ _ _ _ _ _) | (with_reducible show (if _ then _ else _)) | (with_reducible show Frag.In _ _ ∧ _) | (with_reducible show KdsFill _ _ _ _ _ _ _ _)) | (dsimp only; (first | (with_reducible show wpAny _ _ _ _ _ _) | (with_reducible show (if _ then _ else _)) | (with_reducible show Frag.In _ _ ∧ _) | (with_reducible show KdsFill _ _ _ _ _ _ _ _)))); (first | walk1 | (dsimp only; walk1)))))
  refine toAX (hA.deeper _) (by omega) (get_obj X₁ KA₁ (nx hx (fun vs q => by cases q)) ?_)
  (first | repeat' (first | ((fail_if_success (first | with_reducible show wpAny _ _ (getAttr _ _ _) _ _ _ | with_reducible show wpAny _ _ (PySem.eval (Expr.Call _ _ _ _) _) _ _ _ | with_reducible show wpAny _ _ (PySem.eval (Expr.Attribute _ _ _) _) _ _ _ | with_reducible show wpAny _ _ (call (Value.ref _) _) _ _ _)); (first | (first | (with_reducible show wpAny _ _ _ _ _ _) | (with_reducible show (if _ then _ else _)) | (with_reducible show Frag.In _ _ ∧ _) | (with_reducible show KdsFill _ _ _ _ _ _ _ _)) | (dsimp only; (first | (with_reducible show wpAny _ _ _ _ _ _) | (with_reducible show (if _ then _ else _)) | (with_reducible show Frag.In _ _ ∧ _) | (with_reducible show KdsFill _ _ _ _ _ _ _ _)))); (first | walk1 | (dsimp only; walk1)))))
  refine Attribute_name ?_
  (first | repeat' (first | ((fail_if_success (first | with_reducible show wpAny _ _ (getAttr _ _ _) _ _ _ | with_reducible show wpAny _ _ (PySem.eval (Expr.Call _ _ _ _) _) _ _ _ | with_reducible show wpAny _ _ (PySem.eval (Expr.Attribute _ _ _) _) _ _ _ | with_reducible show wpAny _ _ (call (Value.ref _) _) _ _ _)); (first | (first | (with_reducible show wpAny _ _ _ _ _ _) | (with_reducible show (if _ then _ else _)) | (with_reducible show Frag.In _ _ ∧ _) | (with_reducible show KdsFill _ _ _ _ _ _ _ _)) | (dsimp only; (first | (with_reducible show wpAny _ _ _ _ _ _) | (with_reducible show (if _ then _ else _)) | (with_reducible show Frag.In _ _ ∧ _) | (with_reducible show KdsFill _ _ _ _ _ _ _ _)))); (first | walk1 | (dsimp only; walk1)))))
  refine toAX (hA.deeper _) (by omega) (get_obj X₁ KA₁ (nx hy (fun vs q => by cases q)) ?_)
  (first | repeat' (first | ((fail_if_success (first | with_reducible show wpAny _ _ (getAttr _ _ _) _ _ _ | with_reducible show wpAny _ _ (PySem.eval (Expr.Call _ _ _ _) _) _ _ _ | with_reducible show wpAny _ _ (PySem.eval (Expr.Attribute _ _ _) _) _ _ _ | with_reducible show wpAny _ _ (call (Value.ref _) _) _ _ _)); (first | (first | (with_reducible show wpAny _ _ _ _ _ _) | (with_reducible show (if _ then _ else _)) | (with_reducible show Frag.In _ _ ∧ _) | (with_reducible show KdsFill _ _ _ _ _ _ _ _)) | (dsimp only; (first | (with_reducible show wpAny _ _ _ _ _ _) | (with_reducible show (if _ then _ else _)) | (with_reducible show Frag.In _ _ ∧ _) | (with_reducible show KdsFill _ _ _ _ _ _ _ _)))); (first | walk1 | (dsimp only; walk1)))))
  refine compare_spec G1 F.keep (hA.deeper _) (by omega) (h24k _ F.keep (N _ (.head _)).1) (nx t1 (fun vs q => by cases q)) (nx t2 (fun vs q => by cases q)) (nx e1 (fun vs q => by cases q)) (nx e2 (fun vs q => by cases q)) S1 S2 P1 P2 b1 b2 ?_
  intro h₂ tk₂ d₂ t₂ hx₂ T₂
  have F₂ := fr_but (wr := [24]) F (fun b o hb e => hx₂ b o (by simpa using hb) e) (by simpa using hid_none _) (by simpa using Ne.symm (Nat.ne_of_lt (Heap.lt_size ho24)))
  have N₂ : News (hid s.heap) s.heap.objs.size h₂ [] := News.nil
  clear N
  (first | repeat' (first | ((fail_if_success (first | with_reducible show wpAny _ _ (getAttr _ _ _) _ _ _ | with_reducible show wpAny _ _ (PySem.eval (Expr.Call _ _ _ _) _) _ _ _ | with_reducible show wpAny _ _ (PySem.eval (Expr.Attribute _ _ _) _) _ _ _ | with_reducible show wpAny _ _ (call (Value.ref _) _) _ _ _)); (first | (first | (with_reducible show wpAny _ _ _ _ _ _) | (with_reducible show (if _ then _ else _)) | (with_reducible show Frag.In _ _ ∧ _) | (with_reducible show KdsFill _ _ _ _ _ _ _ _)) | (dsimp only; (first | (with_reducible show wpAny _ _ _ _ _ _) | (with_reducible show (if _ then _ else _)) | (with_reducible show Frag.In _ _ ∧ _) | (with_reducible show KdsFill _ _ _ _ _ _ _ _)))); (first | walk1 | (dsimp only; walk1)))))
  exact h h₂ _ _ (fun b o hb e => F₂.keep b o (hid_get e hb)) T₂
end
end Mine
end
section
open PySem PySem.W PySem.Calls PyProof.Rows
set_option maxRecDepth 100000
set_option maxHeartbeats 4000000
namespace Mine
variable {w : World} {A : Around} {E : Value → Shared → Prop} {s : Shared} {loose : List Str} {mean : ExcName → Option Value} {mg mb : Str → Option Value} {n : Nat}

/-- a thing: a pair with a list of pieces -/
structure Item (h : Heap) (o : Addr) (ps : List (List Nat)) : Prop where
  ex : ∃ l n vs k, h.get? o = some (tupP (.ref l) n) ∧ h.get? l = some (W.listOf vs.toArray k) ∧ StrsAre vs (ps.map mk)
  ok : ∀ p ∈ ps, PieceOk p
  len : ps.length ≤ 20
theorem Item.ext {h h' : Heap} {o : Addr} {ps : List (List Nat)} (I : Item h o ps) (t : Tab24 h) (e : Heap.ExtBut 24 h h') : Item h' o ps := by
  obtain ⟨⟨l, n, vs, k, h1, h2, h3⟩, h4, h5⟩ := I
  exact ⟨⟨l, n, vs, k, e _ _ (tab_ne t h1 (fun vs q => by cases q)) h1, e _ _ (tab_ne t h2 (fun vs q => by cases q)) h2, h3⟩, h4, h5⟩
noncomputable def ltP (pss : List (List (List Nat))) (i j : Nat) : Bool := decide (cmpP (pss.getD i []) (pss.getD j []) < 0)

/-- one question of the sort -/
theorem key_ask {K f1 f2 ds c x y dx dy o1 o2 : Addr} {ps1 ps2 : List (List Nat)} {g₀ : Heap} {Q : Bool → Shared → Prop} (G : Gd w loose mean mg mb g₀) (hk : Kp g₀ s.heap) (hA : Am A n) (hn : n < 350) (h24 : Tab24 s.heap)
    (KA : KeyAt s.heap K f1 f2 ds c) (hx : s.heap.get? x = some (keyO K dx o1)) (hy : s.heap.get? y = some (keyO K dy o2)) (I1 : Item s.heap o1 ps1) (I2 : Item s.heap o2 ps2)
    (h : ∀ h' tk d, Heap.ExtBut 24 s.heap h' → Tab24 h' → Q (decide (cmpP ps1 ps2 < 0)) {s with heap := h', toks := tk, drawn := d}) :
    wpAny (model PR w) A (keyLt' oneType' (.ref x) (.ref y)) Q E s := by
  obtain ⟨⟨l1, n1, vs1, k1, a1, a2, a3⟩, a4, a5⟩ := I1
  obtain ⟨⟨l2, n2, vs2, k2, c1, c2, c3⟩, c4, c5⟩ := I2
  obtain ⟨hp, gs, dr, tk, os⟩ := s
  refine keyLt_spec KA hx (hA.line (by omega)) ?_
  exact lt_spec G hk hA (by omega) h24 KA hx hy a1 c1 a2 c2 a3 c3 a4 c4 a5 c5 fun h' tk d e t => ⟨_, rfl, h h' tk d e t⟩

theorem KeyAt.kp {h h' : Heap} {K f1 f2 ds c : Addr} (KA : KeyAt h K f1 f2 ds c) (up : Kp h h') : KeyAt h' K f1 f2 ds c := by
  obtain ⟨⟨ns, b, t, m1, hK, hs, ts, m0, m2, sl, f3, f4, f5, f6, st, nd, hns⟩, ⟨tm, hm⟩, ⟨c1, ct1, o1, hf1, hc1, i1⟩, ⟨c2, ct2, o2, hf2, hc2, i2⟩, ⟨oc, hoc, hoc'⟩⟩ := KA
  exact ⟨⟨ns, b, t, m1, up _ _ hK, hs, ts, m0, m2, sl, f3, f4, f5, f6, st, nd, up _ _ hns⟩, ⟨tm, up _ _ hm⟩, ⟨c1, ct1, _, up _ _ hf1, up _ _ hc1, i1⟩, ⟨c2, ct2, _, up _ _ hf2, up _ _ hc2, i2⟩, ⟨oc, up _ _ hoc, hoc'⟩⟩
theorem Item.kp {h h' : Heap} {o : Addr} {ps : List (List Nat)} (I : Item h o ps) (up : Kp h h') : Item h' o ps := by
  obtain ⟨⟨l, n, vs, k, h1, h2, h3⟩, h4, h5⟩ := I
  exact ⟨⟨l, n, vs, k, up _ _ h1, up _ _ h2, h3⟩, h4, h5⟩
/-- the keys as they stand -/
noncomputable def KeysAt (h : Heap) (K : Addr) (ks os : List Addr) : Prop := ∀ (j : Nat) (x o : Addr), ks[j]? = some x → os[j]? = some o → ∃ dd, h.get? x = some (keyO K dd o)
theorem key_rest {K f1 f2 ds c a kS : Addr} {e1 : Nat} {os : List Addr} {pss : List (List (List Nat))} {g₀ g₁ : Heap} {P : PySem.Fin → Shared → Prop} (G : Gd w loose mean mg mb g₀) (hk₀ : Kp g₀ g₁) (hk₁ : Kp g₁ s.heap) (hA : Am A n) (hn : n < 340) (h24 : Tab24 s.heap)
    (KA : KeyAt g₁ K f1 f2 ds c) (ha : s.heap.get? a = some (seqObj "list" #[] e1)) (hkS : s.heap.get? kS = some (seqObj "list" #[] 0)) (hak : a ≠ kS) (gkS : g₁.get? kS = none) (ga : g₁.get? a = none)
    (hlen : pss.length = os.length) (h2 : 2 ≤ os.length) (h64 : os.length < 64) (hI : ∀ (i : Nat) o ps, os[i]? = some o → pss[i]? = some ps → Item g₁ o ps) (O : Ord (ltP pss))
    (h : ∀ h' tk d c (p : List Nat), Heap.ExtBut 24 g₁ h' → Tab24 h' → h'.get? a = some (W.listOf (p.map fun i => Value.ref (os.getD i 0)).toArray c) → p.Perm (List.range os.length) → p.Pairwise (R (ltP pss)) →
      P (.done (.ret .none)) {s with heap := h', toks := tk, drawn := d}) :
    wpAny (model PR w) A (ksk_rest a (.ref K) false (os.map Value.ref).toArray e1 (.ref kS)) P E s := by
  have hkS24 := tab_ne h24 hkS (fun vs q => by cases q)
  have ha24 := tab_ne h24 ha (fun vs q => by cases q)
  unfold ksk_rest
  refine wpAny_bind (wpAny_rule ?_)
  first
    | rw [List.forIn_toArray]
    | (rw [← Array.forIn_toList]; simp only [List.toList_toArray])
    | rw [← Array.forIn_toList]
  refine wpAny_bind (ksk_fold (fun i s' => ∃ h' tk ks e, s' = { s with heap := h', toks := tk } ∧ (∀ b o, b ≠ kS → s.heap.get? b = some o → h'.get? b = some o) ∧ ks.length = i ∧ h'.get? kS = some (seqObj "list" (ks.map Value.ref).toArray e) ∧ KeysAt h' K ks os) (os.map Value.ref) 0 s
    ⟨s.heap, s.toks, [], 0, rfl, fun _ _ _ e => e, rfl, hkS, fun j x o h1 => by simp at h1⟩ ?step ?done)
  case step =>
    rintro j x s' hx ⟨h', tk, ks, e, rfl, kp, hl, hks, KK⟩
    simp only [Nat.zero_add] at hl ⊢
    rw [List.getElem?_map] at hx
    obtain ⟨v, hv, rfl⟩ := Option.map_eq_some_iff.mp hx
    have hj : j < os.length := (List.getElem?_eq_some_iff.mp hv).1
    have kg : Kp g₁ h' := fun b o e => kp b o (fun q => by rw [q, gkS] at e; cases e) (hk₁ _ _ e)
    have KA' := KA.kp kg
    have hk' : Kp g₀ h' := fun b o e => kg _ _ (hk₀ _ _ e)
    refine wpAny_bind (wpAny_attempt (toAX hA (by omega) (make_spec (G.T.nolimit.keeps hk') KA' (fun h₁ x dd tk₁ k₁ n₁ e₁ => ?_))))
    dsimp only
    have hks₁ := k₁ _ _ hks
    have xk : x ≠ kS := fun q => by rw [q, hks] at n₁; cases n₁
    have s1 := Heap.SameBut.update h₁ kS (Obj.mapSeq (·.push (.ref x)))
    obtain ⟨c2, hc2⟩ : ∃ c2, (h₁.update kS (Obj.mapSeq (·.push (.ref x)))).get? kS = some (seqObj "list" (((ks.map Value.ref).toArray).push (.ref x)) c2) := ⟨_, get?_update_seq hks₁ (·.push (.ref x))⟩
    refine wpAny_bind (listUpdate_at hks₁ rfl ?_ (by rw [sizeLine_eq]; simp; omega) (by rw [sizeLine_eq]; simp; omega))
    refine wpAny_pure ⟨rfl, _, _, ks ++ [x], c2, rfl, fun b o hb e => (s1.2 b hb).trans (k₁ _ _ (kp b o hb e)), by simp [hl], by rw [hc2]; simp, fun i y o h1 h2 => ?_⟩
    by_cases hi : i < ks.length
    · rw [List.getElem?_append_left hi] at h1
      obtain ⟨dd', z⟩ := KK i y o h1 h2
      have yk : y ≠ kS := fun q => by rw [q, hks] at z; cases z
      exact ⟨dd', (s1.2 y yk).trans (k₁ _ _ z)⟩
    · have hi' : i = ks.length := by
        have := (List.getElem?_eq_some_iff.mp h1).1
        simp at this; omega
      subst hi'
      simp at h1
      subst h1
      rw [hl, hv] at h2
      cases h2
      exact ⟨dd, (s1.2 x xk).trans e₁⟩
  case done =>
    rintro s' ⟨h', tk, ks, e, rfl, kp, hl, hks, KK⟩
    have kg : Kp g₁ h' := fun b o e => kp b o (fun q => by rw [q, gkS] at e; cases e) (hk₁ _ _ e)
    have KA' := KA.kp kg
    have hk' : Kp g₀ h' := fun b o e => kg _ _ (hk₀ _ _ e)
    have T' : Tab24 h' := by
      rcases h24 with z | ⟨c, oc, vs, t, z1, z2, z3, z⟩
      · exact .inl (kp _ _ hkS24.symm z)
      · exact .inr ⟨c, oc, vs, t, kp _ _ (fun q => by rw [q, hkS] at z1; cases z1; cases z2) z1, z2, z3, kp _ _ hkS24.symm z⟩
    have I' : ∀ (i : Nat) o ps, os[i]? = some o → pss[i]? = some ps → Item h' o ps := fun i o ps h1 h2 => (hI i o ps h1 h2).kp kg
    have ha' : h'.get? a = some (seqObj "list" #[] e1) := kp _ _ hak ha
    rw [List.length_map, Nat.zero_add] at hl
    refine wpAny_bind (listItems_at hks rfl ?_)
    unfold ksk_end
    have hz : (os.map Value.ref).toArray.size = os.length := by simp
    simp only [Bool.false_eq_true, if_false]
    rw [if_neg (by rw [hz]; omega), if_neg (by rw [hz]; omega)]
    refine wpAny_bind (kas_kind (T := .ref K) (by simp [hl]; omega) (fun v hv => ?_) rfl (beq_self_eq_true _) ?_)
    · obtain ⟨x, hx, rfl⟩ := List.mem_map.mp hv
      obtain ⟨j, hj⟩ := List.getElem?_of_mem hx
      have hjl : j < os.length := by have := (List.getElem?_eq_some_iff.mp hj).1; omega
      obtain ⟨dd, z⟩ := KK j x _ hj (List.getElem?_eq_getElem hjl)
      show Looks _ _ (typeOf (.ref x)) (keyO K dd os[j]).cls
      exact (Looks.ld z).andThen .now
    have hit : ∀ i, i < os.length → kas_item ((ks.map Value.ref).toArray.zip (os.map Value.ref).toArray) i = (.ref (ks.getD i 0), .ref (os.getD i 0)) := fun i hi => by
      have hi' : i < ks.length := by omega
      unfold kas_item
      simp [Array.getD, hi, hi']
      exact dif_pos (by omega)
    have est : SortSt.mk' oneType' ((ks.map Value.ref).toArray.zip (os.map Value.ref).toArray) #[] 7 none = kas_st oneType' ((ks.map Value.ref).toArray.zip (os.map Value.ref).toArray) (List.toArray (List.range os.length)) := by
      unfold kas_st
      have e := kas_range ((ks.map Value.ref).toArray.zip (os.map Value.ref).toArray)
      rw [show ((ks.map Value.ref).toArray.zip (os.map Value.ref).toArray).size = os.length by simp [hl]] at e
      rw [e]
    rw [est]
    refine wpAny_bind (wpAny_mono (kas_runs (E := E) (Q := fun _ st' s' => ∃ h₅ tk₅ d₅, ∃ p : Array Nat, s' = { s with heap := h₅, toks := tk₅, drawn := d₅ } ∧ Heap.ExtBut 24 h' h₅ ∧ Tab24 h₅ ∧ arrOf st' = p.map (kas_item ((ks.map Value.ref).toArray.zip (os.map Value.ref).toArray)) ∧ failedOf st' = none ∧ p.toList.Perm (List.range os.length) ∧ p.toList.Pairwise (R (ltP pss)))
      (G := fun p s' => ∃ h₅ tk₅ d₅, s' = { s with heap := h₅, toks := tk₅, drawn := d₅ } ∧ Heap.ExtBut 24 h' h₅ ∧ Tab24 h₅ ∧ p.toList.Perm (List.range os.length) ∧ p.toList.Pairwise (R (ltP pss)))
      h2 h64 (fun p' st' s' _ h1 h2 h3 => ?_) ?_) ?_ (fun _ _ e => e))
    · obtain ⟨h₅, tk₅, d₅, q1, q2, q3, q4, q5⟩ := h3
      exact ⟨h₅, tk₅, d₅, p', q1, q2, q3, h1, h2, q4, q5⟩
    · refine kasWp_of_pw (lt := ltP pss) (n := os.length) (Inv := fun s' => ∃ h₅ tk₅ d₅, s' = { s with heap := h₅, toks := tk₅, drawn := d₅ } ∧ Heap.ExtBut 24 h' h₅ ∧ Tab24 h₅) (fun i j C s₆ hi hj hinv hC => ?_) (fun p s' hp hs' => ?_) _ _ (sort_pw O (by omega)) ⟨_, _, _, rfl, fun _ _ _ e => e, T'⟩
      · obtain ⟨h₅, tk₅, d₅, rfl, q2, q3⟩ := hinv
        unfold kas_cmp
        rw [hit i hi, hit j hj]
        have e5 : ∀ {b o}, h'.get? b = some o → (∀ vs, o ≠ tabObj vs) → h₅.get? b = some o := fun {b o} e hno => q2 b o (tab_ne T' e hno) e
        have ki : ∀ (i : Nat) (_ : i < os.length), ∃ dd, h₅.get? (ks.getD i 0) = some (keyO K dd (os.getD i 0)) := fun i hi => by
          have hi' : i < ks.length := by omega
          obtain ⟨dd, z⟩ := KK i ks[i] os[i] (List.getElem?_eq_getElem hi') (List.getElem?_eq_getElem hi)
          refine ⟨dd, ?_⟩
          have := e5 z (fun vs q => by cases q)
          simpa [hi, hi'] using this
        have ii : ∀ (i : Nat) (_ : i < os.length), Item h₅ (os.getD i 0) (pss.getD i []) := fun i hi => by
          have hi' : i < pss.length := by omega
          have := (I' i os[i] pss[i] (List.getElem?_eq_getElem hi) (List.getElem?_eq_getElem hi')).ext T' q2
          simpa [hi, hi'] using this
        obtain ⟨di, zi⟩ := ki i hi
        obtain ⟨dj, zj⟩ := ki j hj
        have hk5 : Kp g₀ h₅ := fun b o e => q2 b o (fun q => by rw [q, G.n24] at e; cases e) (hk' _ _ e)
        exact key_ask G hk5 hA (by omega) q3 (KA'.ext T' q2) zi zj (ii i hi) (ii j hj) fun h₆ tk₆ d₆ x₆ T₆ => hC _ ⟨h₆, tk₆, d₆, rfl, fun b o hb e => x₆ b o hb (q2 b o hb e), T₆⟩
      · obtain ⟨h₅, tk₅, d₅, q1, q2, q3⟩ := hs'
        exact ⟨h₅, tk₅, d₅, q1, q2, q3, hp.1, hp.2⟩
    · rintro ⟨⟨⟩, st'⟩ s' ⟨h₅, tk₅, d₅, p, rfl, q2, q3, q4, q5, q6, q7⟩
      dsimp only at q4 q5 ⊢
      have nk := q2 _ _ hkS24 hks
      have na := q2 _ _ ha24 ha'
      have hout : (arrOf st').map (·.2) = (p.toList.map fun i => Value.ref (os.getD i 0)).toArray := by
        apply Array.toList_inj.mp
        rw [q4, Array.map_map, Array.toList_map]
        refine List.map_congr_left fun i hi => ?_
        show (kas_item _ i).2 = _
        rw [hit i (List.mem_range.mp (q6.subset hi))]
      have s1 := Heap.SameBut.update h₅ kS (Obj.mapSeq fun _ => (#[] : Array Value))
      have na1 : (h₅.update kS (Obj.mapSeq fun _ => (#[] : Array Value))).get? a = some (seqObj "list" #[] e1) := (s1.2 a hak).trans na
      have s2 := Heap.SameBut.update (h₅.update kS (Obj.mapSeq fun _ => (#[] : Array Value))) a (Obj.mapSeq fun _ => (arrOf st').map (·.2))
      obtain ⟨c2, hc2⟩ : ∃ c2, ((h₅.update kS (Obj.mapSeq fun _ => (#[] : Array Value))).update a (Obj.mapSeq fun _ => (arrOf st').map (·.2))).get? a = some (seqObj "list" ((arrOf st').map (·.2)) c2) := ⟨_, get?_update_seq na1 fun _ => (arrOf st').map (·.2)⟩
      have hsz : ((arrOf st').map (·.2)).size = os.length := by rw [hout]; simp [q6.length_eq]
      unfold ksk_tail
      try dsimp only
      refine wpAny_bind (listUpdate_at nk rfl ?_ (by rw [sizeLine_eq]; simp; omega) (Nat.zero_le _))
      refine wpAny_bind (wpAny_letGo ?_)
      refine wpAny_bind (seqEpoch_at na1 rfl ?_)
      refine wpAny_bind (listUpdate_at na1 rfl ?_ (Nat.zero_le _) (Nat.le_trans (Nat.le_of_eq hsz) (by rw [sizeLine_eq]; omega)))
      rw [q5]
      simp only [bne_self_eq_false, Bool.false_eq_true, if_false]
      have ext : ∀ b o, b ≠ a → b ≠ kS → h₅.get? b = some o → ((h₅.update kS (Obj.mapSeq fun _ => (#[] : Array Value))).update a (Obj.mapSeq fun _ => (arrOf st').map (·.2))).get? b = some o := fun b o h1 h2 e => (s2.2 b h1).trans ((s1.2 b h2).trans e)
      refine wpAny_pure (h _ _ _ c2 p.toList (fun b o hb e => ?_) ?_ ?_ q6 q7)
      · exact ext b o (fun q => by rw [q, ga] at e; cases e) (fun q => by rw [q, gkS] at e; cases e) (q2 b o hb (kg _ _ e))
      · rcases q3 with z | ⟨c, oc, vs, t, z1, z2, z3, z⟩
        · exact .inl (ext _ _ ha24.symm hkS24.symm z)
        · exact .inr ⟨c, oc, vs, t, ext _ _ (fun q => by rw [q, na] at z1; cases z1; cases z2) (fun q => by rw [q, nk] at z1; cases z1; cases z2) z1, z2, z3, ext _ _ ha24.symm hkS24.symm z⟩
      · rw [hc2, hout]
/-- sorted(things, key=K) -/
theorem told_spec {K f1 f2 ds c l : Addr} {kT : Nat} {os : List Addr} {pss : List (List (List Nat))} {g₀ : Heap} {Q : Value → Shared → Prop} (G : Gd w loose mean mg mb g₀) (hk : Kp g₀ s.heap) (hA : Am A n) (hn : n < 330) (h24 : Tab24 s.heap)
    (KA : KeyAt s.heap K f1 f2 ds c) (hT : s.heap.get? l = some (W.listOf (os.map Value.ref).toArray kT)) (hlen : pss.length = os.length) (h2 : 2 ≤ os.length) (h64 : os.length < 64) (hI : ∀ (i : Nat) o ps, os[i]? = some o → pss[i]? = some ps → Item s.heap o ps) (O : Ord (ltP pss))
    (h : ∀ h' tk d D c (p : List Nat), Heap.ExtBut 24 s.heap h' → Tab24 h' → s.heap.get? D = none → h'.get? D = some (W.listOf (p.map fun i => Value.ref (os.getD i 0)).toArray c) → p.Perm (List.range os.length) → p.Pairwise (R (ltP pss)) →
      Q (.ref D) {s with heap := h', toks := tk, drawn := d}) :
    wpAny (model PR w) A (call (.builtin "sorted") [.ref l] [(Str.ofString "key", .ref K)]) Q E s := by
  have hl : s.heap.IsList l (os.map Value.ref).toArray := ⟨_, hT, rfl, _, rfl⟩
  have hz : (os.map Value.ref).length = os.length := by simp
  refine call_function_entry_kw kind_sorted plain_sorted entry_sorted (ksk_s1 _ _) ?_
  unfold Builtin.«sorted»
  refine wpAny_bind (m := checkCount "sorted" 1 1 _) (wpAny_pure ?_)
  refine wpAny_bind (collect_list hl ?_ (by rw [sizeLine_eq]; omega))
  refine wpAny_bind (wpAny_newList ?_ (by rw [sizeLine_eq]; omega))
  have hsz : ((s.heap.push (seqObj "list" #[] 0)).update s.heap.objs.size (Obj.mapSeq (· ++ (os.map Value.ref).toArray))).objs.size = s.heap.objs.size + 1 := by
    rw [Heap.size_update, size_push']
  have hoL : (((s.heap.push (seqObj "list" #[] 0)).update s.heap.objs.size (Obj.mapSeq (· ++ (os.map Value.ref).toArray))).push (seqObj "list" (os.map Value.ref).toArray 0)).get? (s.heap.objs.size + 1) = some (seqObj "list" (os.map Value.ref).toArray 0) := by
    rw [← hsz]; exact Heap.get?_push_size _ rfl
  have keep : ∀ b o, s.heap.get? b = some o → (((s.heap.push (seqObj "list" #[] 0)).update s.heap.objs.size (Obj.mapSeq (· ++ (os.map Value.ref).toArray))).push (seqObj "list" (os.map Value.ref).toArray 0)).get? b = some o := fun b o q => by
    have hlt : b < s.heap.objs.size := Heap.lt_size q
    rw [Heap.get?_push_ne _ _ _ (by rw [hsz]; exact Nat.ne_of_lt (Nat.lt_succ_of_lt hlt)), Heap.get?_update_ne _ _ _ _ (Nat.ne_of_lt hlt), Heap.get?_push_ne _ _ _ (Nat.ne_of_lt hlt)]
    exact q
  have hsL : s.heap.objs.size + 1 < (((s.heap.push (seqObj "list" #[] 0)).update s.heap.objs.size (Obj.mapSeq (· ++ (os.map Value.ref).toArray))).push (seqObj "list" (os.map Value.ref).toArray 0)).objs.size := Heap.lt_size hoL
  have hge := Nat.le_of_lt (Nat.lt_of_le_of_lt (Nat.le_add_right s.heap.objs.size 1) hsL)
  show wpAny _ _ _ _ _ { s with heap := ((s.heap.push (seqObj "list" #[] 0)).update s.heap.objs.size (Obj.mapSeq (· ++ (os.map Value.ref).toArray))).push (seqObj "list" (os.map Value.ref).toArray 0) }
  rw [hsz]
  generalize ((s.heap.push (seqObj "list" #[] 0)).update s.heap.objs.size (Obj.mapSeq (· ++ (os.map Value.ref).toArray))).push (seqObj "list" (os.map Value.ref).toArray 0) = hL at hoL keep hsL hge
  have gD : s.heap.get? (s.heap.objs.size + 1) = none := Heap.get?_none_of_le (Nat.le_add_right _ _)
  generalize s.heap.objs.size + 1 = D at hoL hsL gD
  refine wpAny_bind (wpAny_holding (wpAny_call_entry_kw slot_list_sort ⟨_, hoL, rfl⟩ entry_list_sort ?body (ksk_l1 _ _)))
  case body =>
    show wpAny (model PR w) A.in1.in1 (Builtin.«list.sort» ⟨[.ref D], [(Str.ofString "key", .ref K)]⟩) _ _ _
    rw [ksk_t1]
    have s1 := Heap.SameBut.update hL D (Obj.mapSeq fun _ => (#[] : Array Value))
    obtain ⟨e1, ho1⟩ : ∃ e1, (hL.update D (Obj.mapSeq fun _ => (#[] : Array Value))).get? D = some (seqObj "list" #[] e1) := ⟨_, get?_update_seq hoL fun _ => #[]⟩
    unfold ksk_tree
    refine wpAny_bind (listItems_at hoL rfl ?_)
    refine wpAny_bind (listUpdate_at hoL rfl ?_ (by rw [sizeLine_eq]; simp; omega) (Nat.zero_le _))
    refine wpAny_bind (seqEpoch_at ho1 rfl ?_)
    refine wpAny_bind (wpAny_newTuple ?_ (by show (os.map Value.ref).length ≤ _; rw [sizeLine_eq]; omega))
    refine wpAny_bind (wpAny_newList ?_ (Nat.zero_le _))
    refine wpAny_holding ?_
    have hkS : ((hL.update D (Obj.mapSeq fun _ => (#[] : Array Value))).push (seqObj "tuple" (os.map Value.ref).toArray 0)).objs.size = hL.objs.size + 1 := by rw [size_push', Heap.size_update]
    have up : ∀ b o, b ≠ D → hL.get? b = some o → (((hL.update D (Obj.mapSeq fun _ => (#[] : Array Value))).push (seqObj "tuple" (os.map Value.ref).toArray 0)).push (seqObj "list" #[] 0)).get? b = some o := fun b o hb e => Heap.get?_push_of_some _ (Heap.get?_push_of_some _ ((s1.2 b hb).trans e))
    have kg : Kp s.heap (((hL.update D (Obj.mapSeq fun _ => (#[] : Array Value))).push (seqObj "tuple" (os.map Value.ref).toArray 0)).push (seqObj "list" #[] 0)) := fun b o e => up b o (fun q => by rw [q, gD] at e; cases e) (keep b o e)
    refine key_rest (s := { s with heap := ((hL.update D (Obj.mapSeq fun _ => (#[] : Array Value))).push (seqObj "tuple" (os.map Value.ref).toArray 0)).push (seqObj "list" #[] 0) }) (kS := ((hL.update D (Obj.mapSeq fun _ => (#[] : Array Value))).push (seqObj "tuple" (os.map Value.ref).toArray 0)).objs.size)
      G hk kg hA.in1.in1 (by omega) (h24.kp kg) KA (Heap.get?_push_of_some _ (Heap.get?_push_of_some _ ho1)) (Heap.get?_push_size _ rfl) (by rw [hkS]; exact Nat.ne_of_lt (Nat.lt_succ_of_lt hsL)) ?_ gD hlen h2 h64 hI O fun h' tk d c p x1 x2 x3 x4 x5 => ?_
    · refine Heap.get?_none_of_le ?_
      rw [hkS]
      exact Nat.le_succ_of_le hge
    · exact ⟨_, rfl, wpAny_pure ⟨_, rfl, h h' tk d D c p x1 x2 gD x3 x4 x5⟩⟩
end Mine
end
section
open PySem PySem.W PySem.Calls PyProof.Rows
set_option maxRecDepth 100000
set_option maxHeartbeats 4000000
namespace Mine
variable {w : World} {A : Around} {E : Value → Shared → Prop} {s : Shared} {n : Nat}
noncomputable abbrev tupQ (a b : Value) : Obj := { cls := .type "tuple", data := .seq #[a, b] }
noncomputable def ltT (xs : List (List Nat)) (i j : Nat) : Bool := if xs.getD i [] = xs.getD j [] then decide (i < j) else decide (xs.getD i [] < xs.getD j [])
/-- sorted of pairs of a text and its place -/
theorem due_spec {h₀ : Heap} {L l : Addr} {m : Str → Option Value} {news : List (Addr × Obj)} {ts : List Addr} {xs : List (List Nat)} {Q : Value → Shared → Prop} (F : Fr h₀ L s.heap m) (N : News h₀ L s.heap news) (hl : s.heap.IsList l (ts.map Value.ref).toArray)
    (hlen : xs.length = ts.length) (h2 : 2 ≤ ts.length) (h64 : ts.length < 64)
    (hT : ∀ h', Fr h₀ L h' m → News h₀ L h' news → ∀ (i : Nat) a x, ts[i]? = some a → xs[i]? = some x → ∃ t u, h'.get? a = some (tupQ (.str (mk x) t) (.int i u))) (O : Ord (ltT xs))
    (h : ∀ h' tk D c (p : List Nat), Fr h₀ L h' m → News h₀ L h' ((D, W.listOf (p.map fun i => Value.ref (ts.getD i 0)).toArray c) :: news) → (∀ q ∈ news, q.1 < D) → p.Perm (List.range ts.length) → p.Pairwise (R (ltT xs)) → Q (.ref D) {s with heap := h', toks := tk}) :
    wpAny (model PR w) A (call (.builtin "sorted") [.ref l]) Q E s := by
  have hz : (ts.map Value.ref).length = ts.length := by simp
  refine kat_sorted F N hl (by omega) (by omega) fun D e1 h' F' N' hlt => ?_
  have N'' : News h₀ L h' news := news_tail N'
  have tup := hT h' F' N''
  have tupD : ∀ i, i < ts.length → ∃ t u, h'.get? (ts.getD i 0) = some (tupQ (.str (mk (xs.getD i [])) t) (.int i u)) := fun i hi => by
    have hi' : i < xs.length := by omega
    obtain ⟨t, u, e⟩ := tup i ts[i] xs[i] (List.getElem?_eq_getElem hi) (List.getElem?_eq_getElem hi')
    exact ⟨t, u, by simpa [hi, hi'] using e⟩
  obtain ⟨fs, hfl, hfs⟩ : ∃ fs, (fs.length = ts.length ∧ ∀ v ∈ fs, ∃ x t, v = Value.str x t) ∧ KatTups h' (ts.map Value.ref) fs := by
    have : ∀ (k : Nat) (us : List Addr), (∀ j a, us[j]? = some a → ts[k + j]? = some a) → ∃ fs, (fs.length = us.length ∧ ∀ v ∈ fs, ∃ x t, v = Value.str x t) ∧ KatTups h' (us.map Value.ref) fs := by
      intro k us
      induction us generalizing k with
      | nil => intro _; exact ⟨[], ⟨rfl, fun v hv => by cases hv⟩, .nil⟩
      | cons a us ih =>
        intro hu
        obtain ⟨fs, ⟨hl, hv⟩, hk⟩ := ih (k + 1) (fun j b hb => by have := hu (j + 1) b (by simpa using hb); rw [show k + 1 + j = k + (j + 1) by omega]; exact this)
        have hka : ts[k]? = some a := hu 0 a rfl
        have hki : k < xs.length := by have := (List.getElem?_eq_some_iff.mp hka).1; omega
        obtain ⟨t, u, e⟩ := tup k a xs[k] hka (List.getElem?_eq_getElem hki)
        exact ⟨.str (mk xs[k]) t :: fs, ⟨by simp [hl], fun v hv' => by rcases List.mem_cons.mp hv' with rfl | h; exact ⟨_, _, rfl⟩; exact hv v h⟩, .cons e rfl rfl rfl hk⟩
    exact this 0 ts (fun j a ha => by simpa using ha)
  refine kat_kind (T := .type "str") hfs (by omega) (fun v hv => ?_) rfl ?_
  · obtain ⟨x, t, rfl⟩ := hfl.2 v hv
    exact Looks.of_pure rfl
  rw [hz]
  refine kasWp_of_pw (lt := ltT xs) (n := ts.length) (Inv := fun s' => ∃ tk, s' = { s with heap := h', toks := tk }) (fun i j C s₆ hi hj hinv hC => ?_) (fun p s' hp hs' => ?_) _ _ (sort_pw O (by omega)) ⟨_, rfl⟩
  · obtain ⟨tk, rfl⟩ := hinv
    unfold kas_ask
    have gi : (ts.map Value.ref).getD i Value.none = .ref (ts.getD i 0) := by simp [hi]
    have gj : (ts.map Value.ref).getD j Value.none = .ref (ts.getD j 0) := by simp [hj]
    rw [gi, gj]
    obtain ⟨t1, u1, z1⟩ := tupD i hi
    obtain ⟨t2, u2, z2⟩ := tupD j hj
    refine kat_lt z1 rfl z2 rfl ?_
    show KatLex PR w _ true false _ [(Value.str (mk (xs.getD i [])) t1, Value.str (mk (xs.getD j [])) t2), (Value.int i u1, Value.int j u2)] 0 _
    have hmk : ∀ a b : List Nat, (mk a = mk b) = (a = b) := fun a b => by
      apply propext
      constructor
      · intro h
        have := congrArg (fun x : Str => x.cps.toList) h
        simpa using this
      · rintro rfl; rfl
    refine kat_cons (wpAny_eqBool_str ?_)
    by_cases he : xs.getD i [] = xs.getD j []
    · have hd : decide (mk (xs.getD i []) = mk (xs.getD j [])) = true := decide_eq_true (by rw [hmk]; exact he)
      rw [hd]
      refine kat_yes (kat_cons (wpAny_eqBool_int ?_))
      have hv : ltT xs i j = decide (i < j) := by unfold ltT; rw [if_pos he]
      by_cases hij : i = j
      · subst hij
        rw [show ((i : Int) == (i : Int)) = true from beq_self_eq_true _]
        refine kat_yes (kat_nil ?_)
        have := hC _ ⟨tk, rfl⟩
        rw [hv] at this
        simpa using this
      · rw [show ((i : Int) == (j : Int)) = false from by rw [beq_eq_false_iff_ne]; omega]
        refine kat_no ?_
        show wpAny _ _ (oneLt' (true && (0 + 1 == 0)) _ _) _ _ _
        refine kat_one _ _ (lt_int ?_)
        have := hC { s with heap := h', toks := tk } ⟨tk, rfl⟩
        rw [hv] at this
        show C _ _
        simpa using this
    · have hd : decide (mk (xs.getD i []) = mk (xs.getD j [])) = false := decide_eq_false (by rw [hmk]; exact he)
      rw [hd]
      refine kat_no ?_
      have hv : ltT xs i j = decide (xs.getD i [] < xs.getD j []) := by unfold ltT; rw [if_neg he]
      refine oneLt_str ?_
      have := hC _ ⟨tk, rfl⟩
      rw [hv] at this
      simpa using this
  · obtain ⟨tk, rfl⟩ := hs'
    refine KasFin.intro (news := (D, seqObj "list" #[] e1) :: news) (g := fun o => (D, o) :: news) F' N' (.head fun p hp => Nat.ne_of_lt (hlt p hp)) fun h₄ c F₄ N₄ => ?_
    have e : (p.toList.map fun i => (ts.map Value.ref).getD i Value.none) = p.toList.map fun i => Value.ref (ts.getD i 0) := by
      refine List.map_congr_left fun i hi => ?_
      have := List.mem_range.mp (hp.1.subset hi)
      simp [this]
    rw [e] at N₄
    exact h h₄ tk D c p.toList F₄ N₄ hlt hp.1 hp.2
end Mine
end
section
open PySem PySem.W PySem.Calls PyProof.Rows PySem.Builtin.Str PySem.SeqAt
set_option maxRecDepth 100000
set_option maxHeartbeats 8000000
namespace Mine
variable {w : World} {A : Around} {E : Value → Shared → Prop} {s : Shared} {loose : List Str} {mean : ExcName → Option Value} {mg mb : Str → Option Value} {n : Nat}

noncomputable def figsOf (p : List Nat) : List Nat := p.filter (· != 95)
/-- a piece, filled up -/
noncomputable def fillP (p : List Nat) : List Nat := if isFig (p.headD 0) = true then List.replicate (12 - (figsOf p).length) 48 ++ figsOf p else p
noncomputable def fillAll (ps : List (List Nat)) : List Nat := (ps.map fillP).flatten

theorem foldl_cps : ∀ (l : List Str) (a : Array Nat), (l.foldl (fun acc (p : Str) => acc ++ (Str.ofString "").cps ++ p.cps) a).toList = a.toList ++ (l.map (·.cps.toList)).flatten
  | [], a => by simp
  | x :: l, a => by
    rw [List.foldl_cons, foldl_cps l]
    have e : (Str.ofString "").cps = #[] := by decide +kernel
    simp [e]
theorem join_cps (xs : List Str) : (Txt.join (Str.ofString "") xs).cps.toList = (xs.map (·.cps.toList)).flatten := by
  unfold Txt.join glued
  cases xs with
  | nil => simp; rfl
  | cons x xs =>
    simp only [List.drop_succ_cons, List.drop_zero, List.headD_cons]
    rw [foldl_cps]
    simp
theorem str_ext {a b : Str} (h : a.cps.toList = b.cps.toList) : a = b := by
  cases a; cases b
  simp only [Str.mk.injEq]
  exact Array.toList_inj.mp h
theorem signs_figs (p : List Nat) : (((signs (mk p)).filter (fun a => a != Str.ofString "_")).map (·.cps.toList)).flatten = figsOf p := by
  have e : Str.ofString "_" = ch 95 := by decide +kernel
  rw [e]
  unfold signs figsOf
  induction p with
  | nil => rfl
  | cons c r ih =>
    simp only [List.map_cons] at ih ⊢
    by_cases hc : c = 95
    · subst hc
      rw [List.filter_cons_of_neg (by simp), List.filter_cons_of_neg (by simp)]
      exact ih
    · rw [List.filter_cons_of_pos (by simp [bne_iff_ne]; exact hc), List.filter_cons_of_pos (by simpa using hc)]
      simp only [List.map_cons, List.flatten_cons]
      rw [ih]
      rfl
theorem join_figs (p : List Nat) : Txt.join (Str.ofString "") ((signs (mk p)).filter (fun a => a != Str.ofString "_")) = mk (figsOf p) := str_ext (by rw [join_cps, signs_figs])
theorem zeros_val : ∀ L : Nat, L < 21 → Txt.mul (Str.ofString "0") ((12 : Int) - (L : Int)) = mk (List.replicate (12 - L) 48) := by decide +kernel
theorem zeros_ok : ∀ L : Nat, L < 21 → MulOk (Str.ofString "0") ((12 : Int) - (L : Int)) := by unfold MulOk; decide +kernel
theorem fillP_len {p : List Nat} (h : p.length ≤ 20) : (fillP p).length ≤ 20 := by
  unfold fillP
  have := List.length_filter_le (· != 95) p
  split
  · simp only [List.length_append, List.length_replicate]; unfold figsOf; omega
  · exact h
theorem fillAll_len : ∀ {ps : List (List Nat)}, (∀ p ∈ ps, p.length ≤ 20) → (fillAll ps).length ≤ 20 * ps.length
  | [], _ => by simp [fillAll]
  | p :: ps, h => by
    have h1 := fillP_len (h p (.head _))
    have h2 := fillAll_len (ps := ps) fun q hq => h q (.tail _ hq)
    unfold fillAll at h2 ⊢
    simp only [List.map_cons, List.flatten_cons, List.length_append, List.length_cons]
    omega
theorem fillAll_snoc {ps : List (List Nat)} {i : Nat} {p : List Nat} (h : ps[i]? = some p) : fillAll (ps.take (i + 1)) = fillAll (ps.take i) ++ fillP p := by
  unfold fillAll
  rw [List.take_add_one, h]
  simp
/-- the signs of a text that pass a test -/
theorem signs_comp {prog : Program} {h₀ : Heap} {L : Addr} {m : Str → Option Value} {news : List (Addr × Obj)} {env : Env} {elt iter : Expr} {x : Str} {px : Pos} {ifs : List Expr} {scope : Scope} {pos : Pos} {Q : Value → Shared → Prop} {y : Str} {t : Tok} (pz : Str → Bool) (F : Fr h₀ L s.heap m) (N : News h₀ L s.heap news)
    (hh : A.handled = none) (hfree : ∀ y ∈ scope.names, y.2 ≠ .free) (hcell : ∀ y ∈ scope.names, y.2 ≠ .cell) (hkind : scope.kind = .function)
    (hnames : ∀ y ∈ scope.names, y.2 = .local → scope.names.lookup y.1 = some .local) (hx : scope.names.lookup x = some .local) (hy : y.length ≤ sizeLine)
    (hi : ∀ {Q' : Value → Shared → Prop}, Q' (.str y t) s → wpAny (model prog w) A (eval iter env) Q' E s)
    (ht : ∀ C a v s₂ m₂ E', ItemKind.str.is a v → s₂.heap.Ns (compEnv scope C env).locals m₂ → m₂ x = some v →
        wpAny (model prog w) A (forIn ifs true fun c r => if r = true then do let ok ← isTrue c (compEnv scope C env) (eval c (compEnv scope C env)); pure (ForInStep.yield ok) else pure (ForInStep.yield r))
          (fun ok s₃ => ok = pz a ∧ Keeps s₂ s₃) E' s₂)
    (he : ∀ C a v s₂ m₂ E', ItemKind.str.is a v → pz a = true → s₂.heap.Ns (compEnv scope C env).locals m₂ → m₂ x = some v → wpAny (model prog w) A (eval elt (compEnv scope C env)) (fun r s₃ => Carried r (.str a) ∧ Keeps s₂ s₃) E' s₂)
    (hq : ∀ D (ys : List Value) h' tk, Fr h₀ L h' m → News h₀ L h' news → h'.IsList D ys.toArray → CarriedAll ys (((signs y).filter pz).map PyData.str) → Q (.ref D) { s with heap := h', toks := tk })
    (hs : ∀ x, foldedSetIterable iter env x = pure x) :
    wpAny (model prog w) A (eval (.ListComp elt [⟨.Name x px, iter, ifs, 0⟩] scope pos) env) Q E s :=
  ListComp_signsD (pz := pz) (d := PyData.str) hh hfree hcell hkind hnames hx (hi ⟨y, t, rfl, hy, F, N, ht, he, fun D ys h' tk F' N' _ hl _ hc => hq D ys h' tk F' N' hl hc⟩) hs
theorem strs_of_carried : ∀ {ys : List Value} {xs : List Str}, CarriedAll ys (xs.map PyData.str) → StrsAre ys xs
  | _, [], h => by cases h; exact .nil
  | _, x :: xs, h => by
    cases h with
    | cons hc hr =>
      cases hc
      exact .cons _ _ (strs_of_carried hr)
theorem filled_spec {l : Addr} {vs : List Value} {ps : List (List Nat)} {k : Nat} {Q : Value → Shared → Prop} (X : (K0 w.params).In s.heap) (T : Top topProg loose mean mg mb s.heap) (hA : Am A n) (hn : n < 600)
    (e1 : s.heap.get? l = some (listOf vs.toArray k)) (S1 : StrsAre vs (ps.map mk)) (P1 : ∀ p ∈ ps, PieceOk p) (b1 : ps.length ≤ 20)
    (h : ∀ h' tk t', Kp s.heap h' → Q (.str (mk (fillAll ps)) t') {s with heap := h', toks := tk}) :
    wpAny (model PR w) A (call (.ref 78) [.ref l]) Q E s := by
  refine wpAny_call (codeAny_call_def (binds := [("pieces", .ref l)]) (hA.room (by omega)) (X 78 _ rfl) rfl T.nolimit (codeRec_of X rfl) rfl (BindsTo.of_eq rfl) (by decide) (locs rfl) (fun h₁ hns hk₁ => ?_))
  have F : Fr s.heap s.heap.objs.size h₁ _ := ⟨hns, hk₁, Nat.le_refl _⟩
  have N : News s.heap s.heap.objs.size h₁ [] := News.nil
  (first | repeat' (first | ((fail_if_success (first | with_reducible show wpAny _ _ (binaryOp Operator.Add _ _) _ _ _ | with_reducible show wpAny _ _ (binaryOp Operator.Mult _ _) _ _ _ | with_reducible show wpAny _ _ (call (Value.builtin "str.join") _) _ _ _ | with_reducible show wpAny _ _ (eval (Expr.ListComp _ _ _ _) _) _ _ _ | with_reducible show wpAny _ _ (exec (Stmt.For _ _ _ _ _) _) _ _ _)); (first | (first | (with_reducible show wpAny _ _ _ _ _ _) | (with_reducible show (if _ then _ else _)) | (with_reducible show Frag.In _ _ ∧ _) | (with_reducible show KdsFill _ _ _ _ _ _ _ _)) | (dsimp only; (first | (with_reducible show wpAny _ _ _ _ _ _) | (with_reducible show (if _ then _ else _)) | (with_reducible show Frag.In _ _ ∧ _) | (with_reducible show KdsFill _ _ _ _ _ _ _ _)))); (first | walk1 | (dsimp only; walk1)))))
  refine wpAny_For ?_
  (first | repeat' (first | ((fail_if_success (first | with_reducible show wpAny _ _ (binaryOp Operator.Add _ _) _ _ _ | with_reducible show wpAny _ _ (binaryOp Operator.Mult _ _) _ _ _ | with_reducible show wpAny _ _ (call (Value.builtin "str.join") _) _ _ _ | with_reducible show wpAny _ _ (eval (Expr.ListComp _ _ _ _) _) _ _ _ | with_reducible show wpAny _ _ (exec (Stmt.For _ _ _ _ _) _) _ _ _)); (first | (first | (with_reducible show wpAny _ _ _ _ _ _) | (with_reducible show (if _ then _ else _)) | (with_reducible show Frag.In _ _ ∧ _) | (with_reducible show KdsFill _ _ _ _ _ _ _ _)) | (dsimp only; (first | (with_reducible show wpAny _ _ _ _ _ _) | (with_reducible show (if _ then _ else _)) | (with_reducible show Frag.In _ _ ∧ _) | (with_reducible show KdsFill _ _ _ _ _ _ _ _)))); (first | walk1 | (dsimp only; walk1)))))
  rename Fr _ _ _ _ => F₁; rename News _ _ _ _ => N₁
  rename_i _ h₂
  have hl₁ : h₂.IsList l vs.toArray := ⟨_, F₁.keep _ _ e1, rfl, _, rfl⟩
  refine wpAny_pyIter_list hl₁ ?_
  have fI := fresh_of F₁ (Nat.le_refl h₂.objs.size)
  have hlI : l ≠ h₂.objs.size := by obtain ⟨_, e, _⟩ := hl₁; exact Nat.ne_of_lt (Heap.lt_size e)
  have F2 := F₁.push { cls := .type "list_iterator", data := .fields #[.ref l, .int 0 0] }
  have hI0 : (h₂.push { cls := .type "list_iterator", data := .fields #[.ref l, .int 0 0] }).get? h₂.objs.size = some { cls := .type "list_iterator", data := .fields #[.ref l, .int 0 0] } := Heap.get?_push_size _ rfl
  generalize h₂.push { cls := .type "list_iterator", data := .fields #[.ref l, .int 0 0] } = h₃ at F2 hI0 ⊢
  generalize h₂.objs.size = I at fI F2 hI0 hlI ⊢
  have lb : ∀ {hh : Heap}, Kp s.heap hh → hh.IsList l vs.toArray := fun {hh} k => ⟨_, k _ _ e1, rfl, _, rfl⟩
  dsimp only
  refine for_walks (Walks.list (hA.deeper _).handled I l hlI vs.toArray) (fun i s' => ∃ h tk m, s' = { s with heap := h, toks := tk } ∧ Fr s.heap s.heap.objs.size h m ∧
      (∃ t, m "text" = some (.str (mk (fillAll (ps.take i))) t)) ∧ (∀ z : Str, z ≠ "text" → z ≠ "piece" → z ≠ "figures" → z ≠ "sign" → m z = List.lookup z [(("pieces" : Str), Value.ref l)].reverse)) ?h0 ⟨⟨_, hI0, rfl, rfl⟩, lb F2.keep⟩ ?turn ?done
  case h0 =>
    refine ⟨h₃, _, _, rfl, F2, ?_, fun z h1 h2 h3 h4 => by simp [h1]⟩
    rw [show mk (fillAll (ps.take 0)) = Str.ofString "" from by simp [fillAll]; decide +kernel]
    exact ⟨_, rfl⟩
  case turn =>
    rintro i v _ h' tk' hi hP ⟨h₉, tk, m, rfl, F, ⟨t, hv⟩, hm⟩ hst hk Q' hnx _
    obtain ⟨x, tx, hx1, rfl⟩ := strs_get S1 (by simpa using hP)
    rw [List.getElem?_map] at hx1
    obtain ⟨p, hp, rfl⟩ := Option.map_eq_some_iff.mp hx1
    have kp := P1 p (List.mem_of_getElem? hp)
    obtain ⟨oI, hoI, hoc, hod⟩ := id hst.1
    have F' := fr_but F hk (by simpa using fI.1) (by simpa using fI.2.symm)
    have N' : News s.heap s.heap.objs.size h' [(I, oI)] := news_cons hoI fI.2 fI.1 News.nil
    have em : m = fun x : Str => if x = "text" then some (.str (mk (fillAll (ps.take i))) t) else if x = "piece" then m "piece" else if x = "figures" then m "figures" else if x = "sign" then m "sign" else List.lookup x [(("pieces" : Str), Value.ref l)].reverse := by
      funext x
      by_cases h1 : x = "text"
      · subst h1; simp [hv]
      · by_cases h2 : x = "piece"
        · subst h2; simp [h1]
        · by_cases h3 : x = "figures"
          · subst h3; simp [h1, h2]
          · by_cases h4 : x = "sign"
            · subst h4; simp [h1, h2, h3]
            · simp [h1, h2, h3, h4, hm x h1 h2 h3 h4]
    rw [em] at F'
    generalize m "piece" = v1, m "figures" = v2, m "sign" = v3 at F'
    clear F hm hk em hv
    obtain ⟨a0, pr, rfl⟩ := List.exists_cons_of_ne_nil kp.ne
    have hita : Txt.item (mk (a0 :: pr)) 0 = ch a0 := item_head a0 pr
    have ha1 : a0 < 128 := kp.asc a0 (by simp)
    refine wpAny_assign_Name ?_
    (first | repeat' (first | ((fail_if_success (first | with_reducible show wpAny _ _ (binaryOp Operator.Add _ _) _ _ _ | with_reducible show wpAny _ _ (binaryOp Operator.Mult _ _) _ _ _ | with_reducible show wpAny _ _ (call (Value.builtin "str.join") _) _ _ _ | with_reducible show wpAny _ _ (eval (Expr.ListComp _ _ _ _) _) _ _ _ | with_reducible show wpAny _ _ (exec (Stmt.For _ _ _ _ _) _) _ _ _)); (first | (first | (with_reducible show wpAny _ _ _ _ _ _) | (with_reducible show (if _ then _ else _)) | (with_reducible show Frag.In _ _ ∧ _) | (with_reducible show KdsFill _ _ _ _ _ _ _ _)) | (dsimp only; (first | (with_reducible show wpAny _ _ _ _ _ _) | (with_reducible show (if _ then _ else _)) | (with_reducible show Frag.In _ _ ∧ _) | (with_reducible show KdsFill _ _ _ _ _ _ _ _)))); (first | walk1 | (dsimp only; walk1)))))
    · rename_i _ qq
      rename Fr _ _ _ _ => F₅; rename News _ _ _ _ => N₅
      rw [hita, fig_in a0 ha1] at qq
      have fa : isFig a0 = false := by simpa using qq
      have htl : (fillAll (ps.take i)).length ≤ 400 := by
        have := fillAll_len (ps := ps.take i) fun q hq => (P1 q (List.mem_of_mem_take hq)).len
        rw [List.length_take] at this
        omega
      refine SB.add (fun t₆ k₆ => ?_) ?hz
      case hz =>
        have := kp.len
        show (fillAll (ps.take i)).length + (a0 :: pr).length ≤ sizeLine
        rw [sizeLine_eq]; omega
      have eadd : (mk (fillAll (ps.take i)) ++ mk (a0 :: pr) : Str) = mk (fillAll (ps.take (i + 1))) := by
        rw [mk_append, fillAll_snoc hp]
        congr 2
        unfold fillP
        rw [if_neg (by simp [fa])]
      dsimp only
      erw [eadd]
      (first | repeat' (first | ((fail_if_success (first | with_reducible show wpAny _ _ (binaryOp Operator.Add _ _) _ _ _ | with_reducible show wpAny _ _ (binaryOp Operator.Mult _ _) _ _ _ | with_reducible show wpAny _ _ (call (Value.builtin "str.join") _) _ _ _ | with_reducible show wpAny _ _ (eval (Expr.ListComp _ _ _ _) _) _ _ _ | with_reducible show wpAny _ _ (exec (Stmt.For _ _ _ _ _) _) _ _ _)); (first | (first | (with_reducible show wpAny _ _ _ _ _ _) | (with_reducible show (if _ then _ else _)) | (with_reducible show Frag.In _ _ ∧ _) | (with_reducible show KdsFill _ _ _ _ _ _ _ _)) | (dsimp only; (first | (with_reducible show wpAny _ _ _ _ _ _) | (with_reducible show (if _ then _ else _)) | (with_reducible show Frag.In _ _ ∧ _) | (with_reducible show KdsFill _ _ _ _ _ _ _ _)))); (first | walk1 | (dsimp only; walk1)))))
      rename Fr _ _ _ _ => F₇; rename News _ _ _ _ => N₇
      refine hnx _ ⟨_, _, _, rfl, F₇, ⟨_, rfl⟩, fun z h1 h2 h3 h4 => by simp [h1, h2, h3, h4]⟩ ⟨⟨oI, (N₇ _ (.head _)).1, hoc, hod⟩, lb F₇.keep⟩
    · rename_i _ qq
      rename Fr _ _ _ _ => F₅; rename News _ _ _ _ => N₅
      refine signs_comp (y := mk (a0 :: pr)) (t := tx) (fun a => a != Str.ofString "_") F₅ N₅ (hA.deeper _).handled (by decide) (by decide) rfl (by decide) rfl ?_ ?_ ?_ ?_ ?_ (fun _ => rfl)
      · have := kp.len
        show (a0 :: pr).length ≤ sizeLine
        rw [sizeLine_eq]; omega
      · intro Q' hQ'
        (first | repeat' (first | ((fail_if_success (first | with_reducible show wpAny _ _ (binaryOp Operator.Add _ _) _ _ _ | with_reducible show wpAny _ _ (binaryOp Operator.Mult _ _) _ _ _ | with_reducible show wpAny _ _ (call (Value.builtin "str.join") _) _ _ _ | with_reducible show wpAny _ _ (eval (Expr.ListComp _ _ _ _) _) _ _ _ | with_reducible show wpAny _ _ (exec (Stmt.For _ _ _ _ _) _) _ _ _)); (first | (first | (with_reducible show wpAny _ _ _ _ _ _) | (with_reducible show (if _ then _ else _)) | (with_reducible show Frag.In _ _ ∧ _) | (with_reducible show KdsFill _ _ _ _ _ _ _ _)) | (dsimp only; (first | (with_reducible show wpAny _ _ _ _ _ _) | (with_reducible show (if _ then _ else _)) | (with_reducible show Frag.In _ _ ∧ _) | (with_reducible show KdsFill _ _ _ _ _ _ _ _)))); (first | walk1 | (dsimp only; walk1)))))
        exact hQ'
      · rintro C a v s₂ m₂ E' ⟨u, rfl⟩ hn hm
        rw [List.forIn_cons]
        simp only [if_true]
        refine wpAny_bind (wpAny_bind (wpAny_isTrue_Compare1 (wpAny_Name (wpAny_loadName_local rfl rfl hn hm (Constant_str (ne_str ?_))))))
        refine wpAny_truthy_bool (wpAny_pure ?_)
        dsimp only
        rw [List.forIn_nil]
        exact wpAny_pure ⟨rfl, _, _, rfl, fun _ _ e => e⟩
      · rintro C a v s₂ m₂ E' ⟨u, rfl⟩ hpz hn hm
        exact wpAny_Name (wpAny_loadName_local rfl rfl hn hm ⟨.str a u, _, _, rfl, fun _ _ e => e⟩)
      · intro D ys h₆ tk₆ F₆ N₆ hl₆ hc₆
        clear F₅ N₅
        (first | repeat' (first | ((fail_if_success (first | with_reducible show wpAny _ _ (binaryOp Operator.Add _ _) _ _ _ | with_reducible show wpAny _ _ (binaryOp Operator.Mult _ _) _ _ _ | with_reducible show wpAny _ _ (call (Value.builtin "str.join") _) _ _ _ | with_reducible show wpAny _ _ (eval (Expr.ListComp _ _ _ _) _) _ _ _ | with_reducible show wpAny _ _ (exec (Stmt.For _ _ _ _ _) _) _ _ _)); (first | (first | (with_reducible show wpAny _ _ _ _ _ _) | (with_reducible show (if _ then _ else _)) | (with_reducible show Frag.In _ _ ∧ _) | (with_reducible show KdsFill _ _ _ _ _ _ _ _)) | (dsimp only; (first | (with_reducible show wpAny _ _ _ _ _ _) | (with_reducible show (if _ then _ else _)) | (with_reducible show Frag.In _ _ ∧ _) | (with_reducible show KdsFill _ _ _ _ _ _ _ _)))); (first | walk1 | (dsimp only; walk1)))))
        refine join_list hl₆ (ys := (signs (mk (a0 :: pr))).filter (fun a => a != Str.ofString "_")) (by simpa using strs_of_carried hc₆) ?_ (fun t₇ k₇ => ?_)
        · have e0 : (Str.ofString "").length = 0 := by decide +kernel
          rw [e0, Nat.mul_zero, Nat.add_zero]
          have h1 : ∀ l : List Str, (∀ x ∈ l, x.length = 1) → (l.map (·.length)).sum = l.length := by
            intro l
            induction l with
            | nil => intro _; rfl
            | cons x l ih => intro hx; simp only [List.map_cons, List.sum_cons, List.length_cons]; rw [ih fun y hy => hx y (.tail _ hy), hx x (.head _)]; omega
          rw [h1 _ fun x hx => ?_]
          · have h2 := List.length_filter_le (fun a => a != Str.ofString "_") (signs (mk (a0 :: pr)))
            rw [signs_length] at h2
            have h3 : (mk (a0 :: pr)).length = (a0 :: pr).length := rfl
            have := kp.len
            omega
          · have hx' := (List.mem_filter.mp hx).1
            unfold signs at hx'
            obtain ⟨c, _, rfl⟩ := List.mem_map.mp hx'
            rfl
        rw [join_figs]
        have hfl : (figsOf (a0 :: pr)).length ≤ 20 := Nat.le_trans (List.length_filter_le _ _) kp.len
        (first | repeat' (first | ((fail_if_success (first | with_reducible show wpAny _ _ (binaryOp Operator.Add _ _) _ _ _ | with_reducible show wpAny _ _ (binaryOp Operator.Mult _ _) _ _ _ | with_reducible show wpAny _ _ (call (Value.builtin "str.join") _) _ _ _ | with_reducible show wpAny _ _ (eval (Expr.ListComp _ _ _ _) _) _ _ _ | with_reducible show wpAny _ _ (exec (Stmt.For _ _ _ _ _) _) _ _ _)); (first | (first | (with_reducible show wpAny _ _ _ _ _ _) | (with_reducible show (if _ then _ else _)) | (with_reducible show Frag.In _ _ ∧ _) | (with_reducible show KdsFill _ _ _ _ _ _ _ _)) | (dsimp only; (first | (with_reducible show wpAny _ _ _ _ _ _) | (with_reducible show (if _ then _ else _)) | (with_reducible show Frag.In _ _ ∧ _) | (with_reducible show KdsFill _ _ _ _ _ _ _ _)))); (first | walk1 | (dsimp only; walk1)))))
        refine SBL.len (by show ((figsOf (a0 :: pr)).length : Int) < _; omega) ?_
        (first | repeat' (first | ((fail_if_success (first | with_reducible show wpAny _ _ (binaryOp Operator.Add _ _) _ _ _ | with_reducible show wpAny _ _ (binaryOp Operator.Mult _ _) _ _ _ | with_reducible show wpAny _ _ (call (Value.builtin "str.join") _) _ _ _ | with_reducible show wpAny _ _ (eval (Expr.ListComp _ _ _ _) _) _ _ _ | with_reducible show wpAny _ _ (exec (Stmt.For _ _ _ _ _) _) _ _ _)); (first | (first | (with_reducible show wpAny _ _ _ _ _ _) | (with_reducible show (if _ then _ else _)) | (with_reducible show Frag.In _ _ ∧ _) | (with_reducible show KdsFill _ _ _ _ _ _ _ _)) | (dsimp only; (first | (with_reducible show wpAny _ _ _ _ _ _) | (with_reducible show (if _ then _ else _)) | (with_reducible show Frag.In _ _ ∧ _) | (with_reducible show KdsFill _ _ _ _ _ _ _ _)))); (first | walk1 | (dsimp only; walk1)))))
        refine SB.mul (zeros_ok _ (Nat.lt_succ_of_le hfl)) (fun t₈ k₈ => ?_)
        rw [show Txt.mul (Str.ofString "0") ((12 : Int) - ((mk (figsOf (a0 :: pr))).length : Int)) = _ from zeros_val _ (Nat.lt_succ_of_le hfl)]
        (first | repeat' (first | ((fail_if_success (first | with_reducible show wpAny _ _ (binaryOp Operator.Add _ _) _ _ _ | with_reducible show wpAny _ _ (binaryOp Operator.Mult _ _) _ _ _ | with_reducible show wpAny _ _ (call (Value.builtin "str.join") _) _ _ _ | with_reducible show wpAny _ _ (eval (Expr.ListComp _ _ _ _) _) _ _ _ | with_reducible show wpAny _ _ (exec (Stmt.For _ _ _ _ _) _) _ _ _)); (first | (first | (with_reducible show wpAny _ _ _ _ _ _) | (with_reducible show (if _ then _ else _)) | (with_reducible show Frag.In _ _ ∧ _) | (with_reducible show KdsFill _ _ _ _ _ _ _ _)) | (dsimp only; (first | (with_reducible show wpAny _ _ _ _ _ _) | (with_reducible show (if _ then _ else _)) | (with_reducible show Frag.In _ _ ∧ _) | (with_reducible show KdsFill _ _ _ _ _ _ _ _)))); (first | walk1 | (dsimp only; walk1)))))
        rw [hita, fig_in a0 ha1] at qq
        have fa : isFig a0 = true := by simpa using qq
        have htl : (fillAll (ps.take i)).length ≤ 400 := by
          have := fillAll_len (ps := ps.take i) fun q hq => (P1 q (List.mem_of_mem_take hq)).len
          rw [List.length_take] at this
          omega
        have hrl : (List.replicate (12 - (mk (figsOf (a0 :: pr))).length) 48).length ≤ 12 := by rw [List.length_replicate]; omega
        refine SB.add (fun t₉ k₉ => ?_) ?hz1
        case hz1 =>
          show (fillAll (ps.take i)).length + (List.replicate (12 - (mk (figsOf (a0 :: pr))).length) 48).length ≤ sizeLine
          rw [sizeLine_eq]; omega
        dsimp only
        erw [mk_append]
        (first | repeat' (first | ((fail_if_success (first | with_reducible show wpAny _ _ (binaryOp Operator.Add _ _) _ _ _ | with_reducible show wpAny _ _ (binaryOp Operator.Mult _ _) _ _ _ | with_reducible show wpAny _ _ (call (Value.builtin "str.join") _) _ _ _ | with_reducible show wpAny _ _ (eval (Expr.ListComp _ _ _ _) _) _ _ _ | with_reducible show wpAny _ _ (exec (Stmt.For _ _ _ _ _) _) _ _ _)); (first | (first | (with_reducible show wpAny _ _ _ _ _ _) | (with_reducible show (if _ then _ else _)) | (with_reducible show Frag.In _ _ ∧ _) | (with_reducible show KdsFill _ _ _ _ _ _ _ _)) | (dsimp only; (first | (with_reducible show wpAny _ _ _ _ _ _) | (with_reducible show (if _ then _ else _)) | (with_reducible show Frag.In _ _ ∧ _) | (with_reducible show KdsFill _ _ _ _ _ _ _ _)))); (first | walk1 | (dsimp only; walk1)))))
        refine SB.add (fun t₁₀ k₁₀ => ?_) ?hz2
        case hz2 =>
          show (fillAll (ps.take i) ++ List.replicate (12 - (mk (figsOf (a0 :: pr))).length) 48).length + (figsOf (a0 :: pr)).length ≤ sizeLine
          rw [List.length_append, sizeLine_eq]; omega
        have eadd : (mk (fillAll (ps.take i) ++ List.replicate (12 - (mk (figsOf (a0 :: pr))).length) 48) ++ mk (figsOf (a0 :: pr)) : Str) = mk (fillAll (ps.take (i + 1))) := by
          rw [mk_append, fillAll_snoc hp]
          unfold fillP
          rw [if_pos (by simp [fa]), List.append_assoc]
          rfl
        dsimp only
        erw [eadd]
        (first | repeat' (first | ((fail_if_success (first | with_reducible show wpAny _ _ (binaryOp Operator.Add _ _) _ _ _ | with_reducible show wpAny _ _ (binaryOp Operator.Mult _ _) _ _ _ | with_reducible show wpAny _ _ (call (Value.builtin "str.join") _) _ _ _ | with_reducible show wpAny _ _ (eval (Expr.ListComp _ _ _ _) _) _ _ _ | with_reducible show wpAny _ _ (exec (Stmt.For _ _ _ _ _) _) _ _ _)); (first | (first | (with_reducible show wpAny _ _ _ _ _ _) | (with_reducible show (if _ then _ else _)) | (with_reducible show Frag.In _ _ ∧ _) | (with_reducible show KdsFill _ _ _ _ _ _ _ _)) | (dsimp only; (first | (with_reducible show wpAny _ _ _ _ _ _) | (with_reducible show (if _ then _ else _)) | (with_reducible show Frag.In _ _ ∧ _) | (with_reducible show KdsFill _ _ _ _ _ _ _ _)))); (first | walk1 | (dsimp only; walk1)))))
        rename Fr _ _ _ _ => F₇; rename News _ _ _ _ => N₇
        refine hnx _ ⟨_, _, _, rfl, F₇, ⟨_, rfl⟩, fun z h1 h2 h3 h4 => by simp [h1, h2, h3, h4]⟩ ⟨⟨oI, (N₇ _ (.head _)).1, hoc, hod⟩, lb F₇.keep⟩
  case done =>
    rintro _ h' tk' ⟨h₉, tk, m, rfl, F, ⟨t, hv⟩, hm⟩ hk
    have F' := fr_but F hk (by simpa using fI.1) (by simpa using fI.2.symm)
    have em : m = fun x : Str => if x = "text" then some (.str (mk (fillAll ps)) t) else m x := by
      funext x
      by_cases h1 : x = "text"
      · subst h1
        rw [List.take_of_length_le] at hv
        · simp [hv]
        · have := StrsAre.length S1; simp at this ⊢; omega
      · simp [h1]
    rw [em] at F'
    have N' : News s.heap s.heap.objs.size h' [] := News.nil
    clear F hm hk em
    dsimp only
    (first | repeat' (first | ((fail_if_success (first | with_reducible show wpAny _ _ (binaryOp Operator.Add _ _) _ _ _ | with_reducible show wpAny _ _ (binaryOp Operator.Mult _ _) _ _ _ | with_reducible show wpAny _ _ (call (Value.builtin "str.join") _) _ _ _ | with_reducible show wpAny _ _ (eval (Expr.ListComp _ _ _ _) _) _ _ _ | with_reducible show wpAny _ _ (exec (Stmt.For _ _ _ _ _) _) _ _ _)); (first | (first | (with_reducible show wpAny _ _ _ _ _ _) | (with_reducible show (if _ then _ else _)) | (with_reducible show Frag.In _ _ ∧ _) | (with_reducible show KdsFill _ _ _ _ _ _ _ _)) | (dsimp only; (first | (with_reducible show wpAny _ _ _ _ _ _) | (with_reducible show (if _ then _ else _)) | (with_reducible show Frag.In _ _ ∧ _) | (with_reducible show KdsFill _ _ _ _ _ _ _ _)))); (first | walk1 | (dsimp only; walk1)))))
    exact h h' _ t F'.keep
end Mine
end
section
open PySem PySem.W PySem.Calls PyProof.Rows
namespace Mine
/-- the value of figures -/
noncomputable def val (l : List Nat) : Nat := l.foldl (fun acc c => acc * 10 + (c - 48)) 0
noncomputable def Dig (l : List Nat) : Prop := ∀ c ∈ l, 48 ≤ c ∧ c ≤ 57
theorem val_acc : ∀ (l : List Nat) (k : Nat), l.foldl (fun acc c => acc * 10 + (c - 48)) k = k * 10 ^ l.length + val l
  | [], k => by simp [val]
  | c :: l, k => by
    unfold val
    rw [List.foldl_cons, List.foldl_cons, val_acc l, val_acc l (0 * 10 + (c - 48)), List.length_cons, Nat.pow_succ]
    rw [Nat.add_mul, Nat.zero_mul, Nat.zero_add, Nat.mul_assoc, Nat.mul_comm 10, Nat.add_assoc]
theorem val_cons (c : Nat) (l : List Nat) : val (c :: l) = (c - 48) * 10 ^ l.length + val l := by
  show (c :: l).foldl _ 0 = _
  rw [List.foldl_cons, val_acc]; simp
theorem val_lt : ∀ {l : List Nat}, Dig l → val l < 10 ^ l.length
  | [], _ => by simp [val]
  | c :: l, h => by
    rw [val_cons, List.length_cons, Nat.pow_succ]
    have h1 := val_lt (l := l) fun d hd => h d (.tail _ hd)
    have h2 := h c (.head _)
    have h3 : (c - 48) * 10 ^ l.length ≤ 9 * 10 ^ l.length := Nat.mul_le_mul_right _ (by omega)
    omega
theorem val_lex : ∀ {l m : List Nat}, Dig l → Dig m → l.length = m.length → (val l < val m ↔ l < m)
  | [], [], _, _, _ => by simp [val]
  | c :: l, d :: m, hl, hm, hn => by
    have hn' : l.length = m.length := by simpa using hn
    have ih := val_lex (l := l) (m := m) (fun x hx => hl x (.tail _ hx)) (fun x hx => hm x (.tail _ hx)) hn'
    have b1 := val_lt (l := l) fun x hx => hl x (.tail _ hx)
    have b2 := val_lt (l := m) fun x hx => hm x (.tail _ hx)
    have hc := hl c (.head _)
    have hd := hm d (.head _)
    rw [val_cons, val_cons, hn', List.cons_lt_cons_iff]
    rw [hn'] at b1
    rcases Nat.lt_trichotomy c d with q | q | q
    · have : (c - 48 + 1) * 10 ^ m.length ≤ (d - 48) * 10 ^ m.length := Nat.mul_le_mul_right _ (by omega)
      rw [Nat.add_mul, Nat.one_mul] at this
      exact ⟨fun _ => .inl q, fun _ => by omega⟩
    · subst q
      rw [← ih]
      constructor
      · intro h; exact .inr ⟨rfl, by omega⟩
      · rintro (h | ⟨_, h⟩) <;> omega
    · have : (d - 48 + 1) * 10 ^ m.length ≤ (c - 48) * 10 ^ m.length := Nat.mul_le_mul_right _ (by omega)
      rw [Nat.add_mul, Nat.one_mul] at this
      constructor
      · intro h; omega
      · rintro (h | ⟨h, _⟩) <;> omega
  | [], _ :: _, _, _, h => by simp at h
  | _ :: _, [], _, _, h => by simp at h
theorem val_zeros (k : Nat) (l : List Nat) : val (List.replicate k 48 ++ l) = val l := by
  induction k with
  | zero => simp
  | succ k ih => rw [List.replicate_succ, List.cons_append, val_cons, ih]; simp
theorem lex_append : ∀ {l m : List Nat} (a b : List Nat), l.length = m.length → l ≠ m → (l ++ a < m ++ b ↔ l < m)
  | [], [], _, _, _, h => absurd rfl h
  | c :: l, d :: m, a, b, hn, hne => by
    rw [List.cons_append, List.cons_append, List.cons_lt_cons_iff, List.cons_lt_cons_iff]
    by_cases q : c = d
    · subst q
      rw [lex_append (l := l) (m := m) a b (by simpa using hn) (fun e => hne (by rw [e]))]
    · constructor
      · rintro (h | ⟨h, _⟩)
        · exact .inl h
        · exact absurd h q
      · rintro (h | ⟨h, _⟩)
        · exact .inl h
        · exact absurd h q
  | [], _ :: _, _, _, h, _ => by simp at h
  | _ :: _, [], _, _, h, _ => by simp at h
theorem lex_same : ∀ (l a b : List Nat), (l ++ a < l ++ b ↔ a < b)
  | [], _, _ => Iff.rfl
  | c :: l, a, b => by
    rw [List.cons_append, List.cons_append, List.cons_lt_cons_iff, lex_same l]
    constructor
    · rintro (h | ⟨_, h⟩)
      · omega
      · exact h
    · intro h; exact .inr ⟨rfl, h⟩

/-- a piece as the law makes it -/
structure PieceG (p : List Nat) : Prop extends PieceOk p where
  figs : (figsOf p).length ≤ 12
  high : isFig (p.headD 0) = false → 58 ≤ p.headD 0
theorem figs_dig {p : List Nat} (h : Figs p) : Dig (figsOf p) := fun c hc => by
  obtain ⟨h1, h2⟩ := List.mem_filter.mp hc
  rcases h c h1 with q | q
  · rcases isFig_cases q with rfl | rfl | rfl | rfl <;> decide
  · rw [q] at h2; cases h2
theorem worth_val {p : List Nat} (h : Figs p) : worthOf p = (val (figsOf p) : Int) := by rw [worth_digits h]; rfl
theorem fill_fig {p : List Nat} (g : PieceG p) (hf : isFig (p.headD 0) = true) : fillP p = List.replicate (12 - (figsOf p).length) 48 ++ figsOf p ∧ (fillP p).length = 12 ∧ Dig (fillP p) ∧ worthOf p = (val (fillP p) : Int) := by
  have hF : Figs p := (g.kind.resolve_right fun x => by rw [x.1] at hf; cases hf).2
  have e : fillP p = List.replicate (12 - (figsOf p).length) 48 ++ figsOf p := by unfold fillP; rw [if_pos hf]
  have := g.figs
  refine ⟨e, by rw [e]; simp; omega, fun c hc => ?_, by rw [e, val_zeros, worth_val hF]⟩
  rw [e] at hc
  rcases List.mem_append.mp hc with hc | hc
  · rw [(List.mem_replicate.mp hc).2]; decide
  · exact figs_dig hF c hc
theorem fill_sign {p : List Nat} (g : PieceG p) (hf : isFig (p.headD 0) = false) : fillP p = [p.headD 0] := by
  have hl := (g.kind.resolve_left fun x => by rw [x.1] at hf; cases hf).2
  unfold fillP
  rw [if_neg (by rw [hf]; simp)]
  match p, hl with
  | [c], _ => rfl
theorem fill_ne {p : List Nat} (g : PieceG p) : fillP p ≠ [] := by
  cases hf : isFig (p.headD 0) with
  | true => intro q; have := (fill_fig g hf).2.1; rw [q] at this; cases this
  | false => rw [fill_sign g hf]; simp
/-- one piece against another -/
theorem gap_fill {p q : List Nat} (gp : PieceG p) (gq : PieceG q) (a b : List Nat) : (gapP p q = 0 → fillP p = fillP q) ∧ (gapP p q ≠ 0 → ((fillP p ++ a < fillP q ++ b) ↔ gapP p q < 0)) := by
  cases hp : isFig (p.headD 0) with
  | true =>
    obtain ⟨_, l1, d1, w1⟩ := fill_fig gp hp
    cases hq : isFig (q.headD 0) with
    | true =>
      obtain ⟨_, l2, d2, w2⟩ := fill_fig gq hq
      have e : gapP p q = (val (fillP p) : Int) - val (fillP q) := by unfold gapP; rw [if_pos (by rw [hp, hq]; rfl), w1, w2]
      have L1 := val_lex d1 d2 (l1.trans l2.symm)
      have L2 := val_lex d2 d1 (l2.trans l1.symm)
      rw [e]
      refine ⟨fun h => ?_, fun h => ?_⟩
      · have h1 : ¬ fillP p < fillP q := by rw [← L1]; omega
        have h2 : ¬ fillP q < fillP p := by rw [← L2]; omega
        exact List.le_antisymm (List.not_lt.mp h2) (List.not_lt.mp h1)
      · rw [lex_append a b (l1.trans l2.symm) (fun z => h (by rw [z]; omega)), ← L1]
        omega
    | false =>
      have e : gapP p q = ((p.headD 0 : Nat) : Int) - (q.headD 0 : Nat) := by unfold gapP; rw [if_neg (by rw [hp, hq]; simp)]
      have h58 := gq.high hq
      have h57 : p.headD 0 ≤ 57 := by rcases isFig_cases hp with h | h | h | h <;> omega
      rw [e, fill_sign gq hq]
      refine ⟨fun h => by omega, fun _ => ⟨fun _ => by omega, fun _ => ?_⟩⟩
      cases hf : fillP p with
      | nil => rw [hf] at l1; cases l1
      | cons c r =>
        have := d1 c (by rw [hf]; exact .head _)
        rw [List.cons_append, List.cons_append, List.cons_lt_cons_iff]
        exact .inl (by omega)
  | false =>
    have s1 := fill_sign gp hp
    have h58 := gp.high hp
    cases hq : isFig (q.headD 0) with
    | true =>
      obtain ⟨_, l2, d2, w2⟩ := fill_fig gq hq
      have e : gapP p q = ((p.headD 0 : Nat) : Int) - (q.headD 0 : Nat) := by unfold gapP; rw [if_neg (by rw [hp]; simp)]
      have h57 : q.headD 0 ≤ 57 := by rcases isFig_cases hq with h | h | h | h <;> omega
      rw [e, s1]
      refine ⟨fun h => by omega, fun _ => ⟨fun h => ?_, fun _ => by omega⟩⟩
      cases hf : fillP q with
      | nil => rw [hf] at l2; cases l2
      | cons c r =>
        have := d2 c (by rw [hf]; exact .head _)
        rw [hf, List.cons_append, List.cons_append, List.cons_lt_cons_iff] at h
        rcases h with h | ⟨h, _⟩ <;> omega
    | false =>
      have s2 := fill_sign gq hq
      have e : gapP p q = ((p.headD 0 : Nat) : Int) - (q.headD 0 : Nat) := by unfold gapP; rw [if_neg (by rw [hp]; simp)]
      rw [e, s1, s2]
      refine ⟨fun h => by rw [show p.headD 0 = q.headD 0 by omega], fun h => ?_⟩
      rw [List.cons_append, List.cons_append, List.cons_lt_cons_iff]
      constructor
      · rintro (z | ⟨z, _⟩) <;> omega
      · intro z; exact .inl (by omega)
theorem cmp_fill : ∀ {ps qs : List (List Nat)}, (∀ p ∈ ps, PieceG p) → (∀ q ∈ qs, PieceG q) → (fillAll ps < fillAll qs ↔ cmpP ps qs < 0)
  | [], [], _, _ => by simp [fillAll, cmpP]
  | [], q :: qs, _, hq => by
    have h1 : cmpP [] (q :: qs) = 0 - ((q :: qs).length : Int) := rfl
    rw [h1]
    unfold fillAll
    rw [List.map_cons, List.flatten_cons, List.map_nil, List.flatten_nil]
    have := fill_ne (hq q (.head _))
    cases hf : fillP q with
    | nil => exact absurd hf this
    | cons c r => simp
  | p :: ps, [], hp, _ => by
    have h1 : cmpP (p :: ps) [] = ((p :: ps).length : Int) - 0 := rfl
    rw [h1]
    unfold fillAll
    simp
    omega
  | p :: ps, q :: qs, hp, hq => by
    have G := gap_fill (hp p (.head _)) (hq q (.head _)) (fillAll ps) (fillAll qs)
    have ih := cmp_fill (ps := ps) (qs := qs) (fun x hx => hp x (.tail _ hx)) (fun x hx => hq x (.tail _ hx))
    have e : ∀ (x : List Nat) (xs : List (List Nat)), fillAll (x :: xs) = fillP x ++ fillAll xs := fun x xs => by simp [fillAll]
    rw [e, e, cmpP]
    by_cases h0 : gapP p q = 0
    · rw [if_neg (by simp [h0]), G.1 h0, lex_same, ih]
    · rw [if_pos h0, G.2 h0]

/-- the texts of the names -/
theorem fill_getD (pss : List (List (List Nat))) (i : Nat) : (pss.map fillAll).getD i [] = fillAll (pss.getD i []) := by
  rw [List.getD_eq_getElem?_getD, List.getD_eq_getElem?_getD, List.getElem?_map]
  cases pss[i]? <;> simp [fillAll]
theorem all_getD {pss : List (List (List Nat))} (h : ∀ ps ∈ pss, ∀ p ∈ ps, PieceG p) (i : Nat) : ∀ p ∈ pss.getD i [], PieceG p := by
  rw [List.getD_eq_getElem?_getD]
  cases q : pss[i]? with
  | none => intro p hp; simp at hp
  | some ps => exact h ps (List.mem_of_getElem? q)
theorem ltP_fill {pss : List (List (List Nat))} (h : ∀ ps ∈ pss, ∀ p ∈ ps, PieceG p) (i j : Nat) : ltP pss i j = decide ((pss.map fillAll).getD i [] < (pss.map fillAll).getD j []) := by
  unfold ltP
  rw [fill_getD, fill_getD]
  exact decide_eq_decide.mpr (cmp_fill (all_getD h i) (all_getD h j)).symm
theorem ord_lex (f : Nat → List Nat) : Ord fun i j => decide (f i < f j) := by
  refine ⟨fun i => by simpa using List.lt_irrefl (f i), fun i j k h1 h2 => ?_, fun i j k h => ?_⟩
  · simp only [decide_eq_true_eq] at *
    exact List.lt_trans h1 h2
  · simp only [decide_eq_true_eq] at *
    by_cases q : f i < f k
    · exact .inl q
    · refine .inr ?_
      have hle := List.not_lt.mp q
      exact List.lt_of_le_of_lt hle h
theorem ord_ltP {pss : List (List (List Nat))} (h : ∀ ps ∈ pss, ∀ p ∈ ps, PieceG p) : Ord (ltP pss) := by
  have e : ltP pss = fun i j => decide ((pss.map fillAll).getD i [] < (pss.map fillAll).getD j []) := by
    funext i j; exact ltP_fill h i j
  rw [e]; exact ord_lex _
theorem ltT_iff (xs : List (List Nat)) (i j : Nat) : ltT xs i j = true ↔ (xs.getD i [] < xs.getD j [] ∨ (xs.getD i [] = xs.getD j [] ∧ i < j)) := by
  unfold ltT
  split
  · rename_i e
    simp only [decide_eq_true_eq, e, true_and]
    constructor
    · exact .inr
    · rintro (h | h)
      · exact absurd h (List.lt_irrefl _)
      · exact h
  · rename_i e
    rw [decide_eq_true_eq]
    exact ⟨.inl, fun h => h.elim id fun z => absurd z.1 e⟩
theorem ord_ltT (xs : List (List Nat)) : Ord (ltT xs) := by
  have tr : ∀ i j k, ltT xs i j = true → ltT xs j k = true → ltT xs i k = true := by
    intro i j k h1 h2
    rw [ltT_iff] at *
    rcases h1 with h1 | ⟨h1, g1⟩ <;> rcases h2 with h2 | ⟨h2, g2⟩
    · exact .inl (List.lt_trans h1 h2)
    · exact .inl (h2 ▸ h1)
    · exact .inl (h1 ▸ h2)
    · exact .inr ⟨h1.trans h2, by omega⟩
  have irr : ∀ i, ltT xs i i = false := by
    intro i
    cases q : ltT xs i i with
    | false => rfl
    | true =>
      rw [ltT_iff] at q
      rcases q with q | ⟨_, q⟩
      · exact absurd q (List.lt_irrefl _)
      · omega
  refine ⟨irr, tr, fun i j k h => ?_⟩
  by_cases q : ltT xs i k = true
  · exact .inl q
  · refine .inr ?_
    rw [ltT_iff] at *
    have q1 : ¬ xs.getD i [] < xs.getD k [] := fun z => q (.inl z)
    have q2 := List.not_lt.mp q1
    by_cases e : xs.getD i [] = xs.getD k []
    · have q3 : ¬ i < k := fun z => q (.inr ⟨e, z⟩)
      rcases h with h | ⟨h, g⟩
      · exact .inl (e ▸ h)
      · exact .inr ⟨e ▸ h, by omega⟩
    · have q4 : xs.getD k [] < xs.getD i [] := by
        by_cases z : xs.getD k [] < xs.getD i []
        · exact z
        · exact absurd (List.le_antisymm (List.not_lt.mp z) q2) e
      rcases h with h | ⟨h, g⟩
      · exact .inl (List.lt_trans q4 h)
      · exact .inl (h ▸ q4)
theorem R_same {pss : List (List (List Nat))} (h : ∀ ps ∈ pss, ∀ p ∈ ps, PieceG p) {i j : Nat} (hr : R (ltP pss) i j) : R (ltT (pss.map fillAll)) i j := by
  refine .inl ((ltT_iff _ i j).mpr ?_)
  rcases hr with hr | ⟨hr, hij⟩
  · rw [ltP_fill h] at hr
    exact .inl (by simpa using hr)
  · rw [ltP_fill h] at hr
    have q1 : ¬ (pss.map fillAll).getD j [] < (pss.map fillAll).getD i [] := by simpa using hr
    have q2 := List.not_lt.mp q1
    by_cases z : (pss.map fillAll).getD i [] < (pss.map fillAll).getD j []
    · exact .inl z
    · exact .inr ⟨List.le_antisymm q2 (List.not_lt.mp z), hij⟩
/-- both sorts end in one order -/
theorem orders_same {pss : List (List (List Nat))} (h : ∀ ps ∈ pss, ∀ p ∈ ps, PieceG p) {n : Nat} {p q : List Nat} (hp : p.Perm (List.range n)) (hq : q.Perm (List.range n)) (rp : p.Pairwise (R (ltP pss))) (rq : q.Pairwise (R (ltT (pss.map fillAll)))) : p = q :=
  sorted_unique (ord_ltT _) (hp.trans hq.symm) (rp.imp fun {a b} hr => R_same h hr) rq
end Mine
end
section
open PySem PySem.W PySem.Calls PyProof.Rows
set_option maxRecDepth 100000
set_option maxHeartbeats 8000000
namespace Mine
section
variable {prog : Program} {w : World} {A : Around} {E : Value → Shared → Prop} {env : Env}

/-- what a comprehension has made: its list's items, and the new objects behind them -/
noncomputable def Made (G : Nat → Value → List (Addr × Obj) → Prop) (h₀ : Heap) (wr : List Addr) (C D : Addr) (n : Nat) (ys : List Value) (h : Heap) : Prop :=
  ∃ rest : List (Addr × Obj), (∀ p ∈ rest, h₀.get? p.1 = none ∧ p.1 ≠ C ∧ p.1 ≠ D ∧ p.1 ∉ wr ∧ h.get? p.1 = some p.2) ∧ ys.length = n ∧
    (∀ i y, ys[i]? = some y → ∃ nw, G i y nw ∧ ∀ p ∈ nw, p ∈ rest) ∧ (∀ b o, b ≠ C → b ∉ wr → b ≠ D → h₀.get? b = some o → h.get? b = some o)
theorem Made.keep {G : Nat → Value → List (Addr × Obj) → Prop} {h₀ h h' : Heap} {wr : List Addr} {C D : Addr} {n : Nat} {ys : List Value} (x : Made G h₀ wr C D n ys h)
    (hk : ∀ b o, b ≠ C → b ∉ wr → b ≠ D → h.get? b = some o → h'.get? b = some o) : Made G h₀ wr C D n ys h' := by
  obtain ⟨rest, h1, h2, h3, h4⟩ := x
  exact ⟨rest, fun p hp => by obtain ⟨a, b, c, d, e⟩ := h1 p hp; exact ⟨a, b, c, d, hk _ _ b d c e⟩, h2, h3, fun b o hb hw hD e => hk b o hb hw hD (h4 b o hb hw hD e)⟩

theorem comp_core {elt iter : Expr} {x : Str} {px : Pos} {scope : Scope} {cl : List (Str × Addr)} {pos : Pos} {s₂ : Shared} {I : Addr} {fp wr : List Addr} {n : Nat} {P : Nat → Value → Prop}
    {St : Nat → Heap → Prop} (W : Walks prog w A I fp wr n P St) (hsz : n ≤ sizeLine) (G : Nat → Value → List (Addr × Obj) → Prop) {RR : Value → Addr → Result → Shared → Prop}
    (hlive : ∀ i h, St i h → ∀ b ∈ wr, ∃ o, h.get? b = some o)
    (hcell : ∀ y ∈ scope.names, y.2 ≠ .cell) (hkind : scope.kind = .function) (hx : scope.names.lookup x = some .local) (hst : St 0 s₂.heap) (hfp : ∀ b ∈ fp, b < s₂.heap.objs.size)
    (helt : ∀ C i v s₃ m₃, s₂.heap.objs.size ≤ C → i < n → P i v → s₃.heap.Ns C m₃ → m₃ x = some v → (∀ b o, b ∉ wr → s₂.heap.get? b = some o → s₃.heap.get? b = some o) →
      wpAny (model prog w) A (eval elt (compEnvC scope cl C env)) (fun y s₄ => (∃ nw, G i y nw ∧ ∀ p ∈ nw, s₃.heap.get? p.1 = none ∧ s₄.heap.get? p.1 = some p.2) ∧ Keeps s₃ s₄) (fun _ _ => False) s₃)
    (hRR : ∀ D C h' tk m' (ys : List Value) (rest : List (Addr × Obj)), s₂.heap.get? D = none → s₂.heap.get? C = none → D ≠ C → h'.Ns C m' → h'.PlainList D ys.toArray → ys.length = n →
      (∀ p ∈ rest, s₂.heap.get? p.1 = none ∧ p.1 ≠ C ∧ p.1 ≠ D ∧ h'.get? p.1 = some p.2) → (∀ i y, ys[i]? = some y → ∃ nw, G i y nw ∧ ∀ p ∈ nw, p ∈ rest) →
      (∀ b o, b ∉ wr → s₂.heap.get? b = some o → h'.get? b = some o) → RR (.ref D) C (.ok .next) { s₂ with heap := h', toks := tk }) :
    wpAny (model prog w) A (newList []) (fun acc s₃ => wpAny (model prog w) A (newFunctionEnv scope env.globals cl [] env.qual none .none (some env)) (fun cenv s₄ =>
      codeAny (model prog w) A (.compStart (.ListComp elt [⟨.Name x px, iter, [], 0⟩] scope pos) 0 (.ref I) acc { cenv with scope := relabel scope env }) (RR acc cenv.locals) s₄) E s₃) E s₂ := by
  refine wpAny_newObj_type (wpAny_newFunctionEnv hcell (by intro y hy; simp at hy) (fun h₁ hns₁ hsb₁ => ?_) hkind)
  dsimp only at hns₁ hsb₁ ⊢
  generalize hH2 : s₂.heap.push { cls := .type "list", dict := none, data := .seq ([] : List Value).toArray } = H2 at hns₁ hsb₁ ⊢
  have hC : H2.objs.size = s₂.heap.objs.size + 1 := by rw [← hH2, Heap.size_push]
  have hDC : s₂.heap.objs.size ≠ H2.objs.size := by rw [hC]; exact Nat.ne_of_lt (Nat.lt_succ_self _)
  have hCle : s₂.heap.objs.size ≤ H2.objs.size := by rw [hC]; exact Nat.le_succ _
  have below : ∀ b, b < s₂.heap.objs.size → b ≠ H2.objs.size ∧ b ≠ s₂.heap.objs.size := fun b hb => ⟨by rw [hC]; exact Nat.ne_of_lt (Nat.lt_succ_of_lt hb), Nat.ne_of_lt hb⟩
  have hDf : s₂.heap.objs.size ∉ fp := fun hm => Nat.lt_irrefl _ (hfp _ hm)
  have hCf : H2.objs.size ∉ fp := fun hm => by have := hfp _ hm; rw [hC] at this; exact Nat.lt_irrefl _ (Nat.lt_of_succ_lt this)
  have old : ∀ b o, s₂.heap.get? b = some o → h₁.get? b = some o := fun b o e => hsb₁.extBut b o (below b (Heap.lt_size e)).1 (Heap.get?_push_of_some _ (hH2 ▸ Heap.get?_push_of_some _ e))
  have hacc : h₁.PlainList s₂.heap.objs.size #[] := ⟨_, hsb₁.extBut _ _ hDC (Heap.get?_push_of_some _ (hH2 ▸ Heap.get?_push_size _ rfl))⟩
  have hst₁ : St 0 h₁ := W.frame _ _ _ hst fun b _ o e => old b o e
  have loop : ∀ s₃ : Shared, s₃ = { s₂ with heap := h₁, toks := s₂.toks + ([] : List (Str × Value)).length } →
      codeAny (model prog w) A (.compLoop (.ListComp elt [⟨.Name x px, iter, [], 0⟩] scope pos) 0 (.ref I) (.ref s₂.heap.objs.size) (compEnvC scope cl H2.objs.size env))
        (RR (.ref s₂.heap.objs.size) H2.objs.size) s₃ := by
    rintro s₃ rfl
    refine comp_walks (hsz := hsz) (cenv := compEnvC scope cl H2.objs.size env) W (Made G s₂.heap wr H2.objs.size s₂.heap.objs.size) (lookup_relabel_local hx) (by simp [compEnvC, relabel, hkind]) hDC hDf hCf [] hst₁ hacc hns₁
      ⟨[], (fun _ h => nomatch h), rfl, (fun i y h => by simp at h), fun b o _ _ _ e => old b o e⟩ (fun i ys h h' hm hk => hm.keep hk) ?turn ?done
    case turn =>
      intro i v ys s' m' hi hP hm hn hv hD hst' _
      rw [List.forIn_nil]
      refine wpAny_pure ?_
      rw [if_pos rfl]
      obtain ⟨rest, h1, h2, h3, h4⟩ := hm
      refine wpAny_mono (helt H2.objs.size i v s' m' hCle hi hP hn hv fun b o hb e => h4 b o (below b (Heap.lt_size e)).1 hb (below b (Heap.lt_size e)).2 e) ?_ fun _ _ e => e
      rintro y s₄ ⟨⟨nw, hG, hnw⟩, h₄, tk₄, rfl, hk₄⟩
      have hnwC : ∀ p ∈ nw, p.1 ≠ H2.objs.size := fun p hp q => by obtain ⟨o, _, _, ho, _⟩ := hn; have := (hnw p hp).1; rw [q] at this; rw [show s'.heap.get? H2.objs.size = _ from ho] at this; cases this
      have hnwD : ∀ p ∈ nw, p.1 ≠ s₂.heap.objs.size := fun p hp q => by obtain ⟨o, ho⟩ := hD; have := (hnw p hp).1; rw [q, ho] at this; cases this
      have hnww : ∀ p ∈ nw, p.1 ∉ wr := fun p hp q => by obtain ⟨o, ho⟩ := hlive _ _ hst' _ q; have := (hnw p hp).1; rw [ho] at this; cases this
      refine ⟨⟨rest ++ nw, fun p hp => ?_, by simp [h2], fun j y' hj => ?_, fun b o hb hw hD e => hk₄ b o (h4 b o hb hw hD e)⟩, ⟨m', hn.keeps hk₄⟩, hD.at fun o e => hk₄ _ o e, W.frame _ _ _ hst' fun b _ o e => hk₄ b o e, h₄, tk₄, rfl⟩
      · rcases List.mem_append.mp hp with hp | hp
        · obtain ⟨a, b, c, d, e⟩ := h1 p hp; exact ⟨a, b, c, d, hk₄ _ _ e⟩
        · refine ⟨?_, hnwC p hp, hnwD p hp, hnww p hp, (hnw p hp).2⟩
          cases e : s₂.heap.get? p.1 with
          | none => rfl
          | some o => have := h4 _ o (hnwC p hp) (hnww p hp) (hnwD p hp) e; rw [(hnw p hp).1] at this; cases this
      · rcases Nat.lt_trichotomy j ys.length with h | h | h
        · obtain ⟨nw', a, b⟩ := h3 j y' (by rwa [List.getElem?_append_left h] at hj)
          exact ⟨nw', a, fun p hp => List.mem_append_left _ (b p hp)⟩
        · subst h
          simp at hj; subst hj
          exact ⟨nw, h2 ▸ hG, fun p hp => List.mem_append_right _ hp⟩
        · have hnone : (ys ++ [y])[j]? = none := List.getElem?_eq_none (by rw [List.length_append, List.length_singleton]; omega)
          rw [hnone] at hj; cases hj
    case done =>
      intro ys h' tk m' hm hn hD _
      obtain ⟨rest, h1, h2, h3, h4⟩ := hm
      refine hRR _ _ h' tk m' ys rest (Heap.get?_none_of_le (Nat.le_refl _)) (Heap.get?_none_of_le hCle) hDC hn hD h2 (fun p hp => ?_) h3 fun b o hb e => h4 b o (below b (Heap.lt_size e)).1 hb (below b (Heap.lt_size e)).2 e
      obtain ⟨a, b, c, _, e⟩ := h1 p hp
      exact ⟨a, b, c, e⟩
  exact codeAny_compStart_list (loop _ rfl) (W.self 0 _ _ _ hst₁ (loop _ rfl))

/-- what a comprehension asks of the walk over its source -/
noncomputable def Over (prog : Program) (w : World) (A : Around) (env : Env) (scope : Scope) (cl : List (Str × Addr)) (x : Str) (elt : Expr) (Q : Value → Shared → Prop) (it : Value) (s₂ : Shared) : Prop :=
    ∃ I fp wr n P St, ∃ G : Nat → Value → List (Addr × Obj) → Prop, it = .ref I ∧ Walks prog w A I fp wr n P St ∧ n ≤ sizeLine ∧ (∀ i h, St i h → ∀ b ∈ wr, ∃ o, h.get? b = some o) ∧ St 0 s₂.heap ∧ (∀ b ∈ fp, b < s₂.heap.objs.size) ∧
      (∀ C i v s₃ m₃, s₂.heap.objs.size ≤ C → i < n → P i v → s₃.heap.Ns C m₃ → m₃ x = some v → (∀ b o, b ∉ wr → s₂.heap.get? b = some o → s₃.heap.get? b = some o) →
        wpAny (model prog w) A (eval elt (compEnvC scope cl C env)) (fun y s₄ => (∃ nw, G i y nw ∧ ∀ p ∈ nw, s₃.heap.get? p.1 = none ∧ s₄.heap.get? p.1 = some p.2) ∧ Keeps s₃ s₄) (fun _ _ => False) s₃) ∧
      (∀ D h' tk (ys : List Value) (rest : List (Addr × Obj)), s₂.heap.get? D = none → h'.PlainList D ys.toArray → ys.length = n → (∀ p ∈ rest, s₂.heap.get? p.1 = none ∧ p.1 ≠ D ∧ h'.get? p.1 = some p.2) →
        (∀ i y, ys[i]? = some y → ∃ nw, G i y nw ∧ ∀ p ∈ nw, p ∈ rest) → (∀ b o, b ∉ wr → s₂.heap.get? b = some o → h'.get? b = some o) → Q (.ref D) { s₂ with heap := h', toks := tk })
noncomputable def OverA (prog : Program) (w : World) (A : Around) (env : Env) (scope : Scope) (cl : List (Str × Addr)) (x : Str) (elt : Expr) (y : Str) (Q : Flow → Shared → Prop) (it : Value) (s₂ : Shared) : Prop :=
    ∃ I fp wr n P St m, ∃ G : Nat → Value → List (Addr × Obj) → Prop, it = .ref I ∧ Walks prog w A I fp wr n P St ∧ n ≤ sizeLine ∧ (∀ i h, St i h → ∀ b ∈ wr, ∃ o, h.get? b = some o) ∧ St 0 s₂.heap ∧ (∀ b ∈ fp, b < s₂.heap.objs.size) ∧
      env.locals ∉ wr ∧ s₂.heap.Ns env.locals m ∧
      (∀ C i v s₃ m₃, s₂.heap.objs.size ≤ C → i < n → P i v → s₃.heap.Ns C m₃ → m₃ x = some v → (∀ b o, b ∉ wr → s₂.heap.get? b = some o → s₃.heap.get? b = some o) →
        wpAny (model prog w) A (eval elt (compEnvC scope cl C env)) (fun y s₄ => (∃ nw, G i y nw ∧ ∀ p ∈ nw, s₃.heap.get? p.1 = none ∧ s₄.heap.get? p.1 = some p.2) ∧ Keeps s₃ s₄) (fun _ _ => False) s₃) ∧
      (∀ D h' tk (ys : List Value) (rest : List (Addr × Obj)), s₂.heap.get? D = none → h'.PlainList D ys.toArray → ys.length = n → (∀ p ∈ rest, s₂.heap.get? p.1 = none ∧ p.1 ≠ D ∧ h'.get? p.1 = some p.2) →
        (∀ i y, ys[i]? = some y → ∃ nw, G i y nw ∧ ∀ p ∈ nw, p ∈ rest) → h'.Ns env.locals (fun z => if z = y then some (.ref D) else m z) → (∀ b o, b ≠ env.locals → b ∉ wr → s₂.heap.get? b = some o → h'.get? b = some o) → Q .next { s₂ with heap := h', toks := tk })

/-- a list comprehension, by what each item makes -/
theorem list_comp {s : Shared} {elt iter : Expr} {x : Str} {px : Pos} {scope : Scope} {cl : List (Str × Addr)} {pos : Pos} {Q : Value → Shared → Prop}
    (hclos : closureFor scope env = pure cl) (hcell : ∀ y ∈ scope.names, y.2 ≠ .cell) (hkind : scope.kind = .function)
    (hnames : ∀ y ∈ scope.names, y.2 = .local → scope.names.lookup y.1 = some .local) (hx : scope.names.lookup x = some .local)
    (h : wpAny (model prog w) A (eval iter env) (fun xv s₁ => wpAny (model prog w) A (pyIter xv) (fun it s₂ => Over prog w A env scope cl x elt Q it s₂) E s₁) E s)
    (hs : ∀ x, foldedSetIterable iter env x = pure x := by intro _; rfl) :
    wpAny (model prog w) A (eval (.ListComp elt [⟨.Name x px, iter, [], 0⟩] scope pos) env) Q E s := by
  rw [eval_ListComp]
  refine wpAny_comprehension_free (use := none) rfl hs hclos hkind hnames (wpAny_mono h (fun xv s₁ h₁ => wpAny_mono h₁ (fun it s₂ h₂ => ?_) fun _ _ e => e) fun _ _ e => e)
  obtain ⟨I, fp, wr, n, P, St, G, rfl, W, hsz, hlive, hst, hfp, helt, hQ⟩ := h₂
  refine comp_core (RR := fun acc C => compPost (model prog w) A E none Q acc C) W hsz G hlive hcell hkind hx hst hfp helt ?_
  intro D C h' tk m' ys rest hD hC hDC hn hpl hlen hrest hG hk
  refine ⟨m', hn, fun h'' hs'' => hQ D h'' tk ys rest hD (hpl.extBut hs''.extBut hDC) hlen (fun p hp => ?_) hG fun b o hbf e => hs''.extBut b o (by rintro rfl; rw [hC] at e; cases e) (hk b o hbf e)⟩
  obtain ⟨a, b, c, d⟩ := hrest p hp
  exact ⟨a, c, hs''.extBut _ _ b d⟩

/-- the same, stored under a local name -/
theorem assign_comp {s : Shared} {elt iter : Expr} {x y : Str} {px py : Pos} {scope : Scope} {cl : List (Str × Addr)} {pos spos : Pos} {Q : Flow → Shared → Prop}
    (hsw : swapsWith (.ListComp elt [⟨.Name x px, iter, [], 0⟩] scope pos) (some (.Name y py)) spos.line env = pure true)
    (hclos : closureFor scope env = pure cl) (hcell : ∀ y ∈ scope.names, y.2 ≠ .cell) (hkind : scope.kind = .function)
    (hnames : ∀ y ∈ scope.names, y.2 = .local → scope.names.lookup y.1 = some .local) (hx : scope.names.lookup x = some .local)
    (hy : env.kindOf y = some .local) (hp : (env.scope.kind == .class || (env.scope.kind == .module && env.locals != env.globals)) = false)
    (h : wpAny (model prog w) A (eval iter env) (fun xv s₁ => wpAny (model prog w) A (pyIter xv) (fun it s₂ => OverA prog w A env scope cl x elt y Q it s₂) E s₁) E s)
    (hs : ∀ x, foldedSetIterable iter env x = pure x := by intro _; rfl) :
    wpAny (model prog w) A (exec (.Assign [.Name y py] (.ListComp elt [⟨.Name x px, iter, [], 0⟩] scope pos) spos) env) Q E s := by
  rw [exec_Assign_Name_used _ _ _ _ hsw]
  refine wpAny_bind (wpAny_standAt (wpAny_bind ?_))
  show wpAny _ A (do let _ ← comprehension (.ListComp elt [⟨.Name x px, iter, [], 0⟩] scope pos) scope env _ (newList []) false (eval iter env) (some (assign (.Name y py) env))) _ _ s
  refine wpAny_bind (wpAny_mono (wpAny_comprehension_free (use := some (assign (.Name y py) env)) (Q := fun _ s' => Q .next s') rfl hs hclos hkind hnames
    (wpAny_mono h (fun xv s₁ h₁ => wpAny_mono h₁ (fun it s₂ h₂ => ?_) fun _ _ e => e) fun _ _ e => e)) (fun _ s' hq => wpAny_pure (wpAny_pure hq)) fun _ _ e => e)
  obtain ⟨I, fp, wr, n, P, St, m, G, rfl, W, hsz, hlive, hst, hfp, hLf, hn, helt, hQ⟩ := h₂
  refine comp_core (RR := fun acc C => compPost (model prog w) A E (some (assign (.Name y py) env)) (fun _ s' => Q .next s') acc C) W hsz G hlive hcell hkind hx hst hfp helt ?_
  intro D C h' tk m' ys rest hD hC hDC hnC hplD hlen hrest hG hk
  have hLC : env.locals ≠ C := by rintro rfl; obtain ⟨o, _, _, ho, _⟩ := hn; rw [hC] at ho; cases ho
  have hLD : env.locals ≠ D := by rintro rfl; obtain ⟨o, _, _, ho, _⟩ := hn; rw [hD] at ho; cases ho
  show wpAny _ A (assign (.Name y py) env (.ref D)) _ _ _
  refine wpAny_assign_Name (wpAny_storeName_local hy (hn.at' fun o e => hk _ o hLf e) (fun h₂ hn₂ hs₂ => ?_) hp)
  refine ⟨m', hnC.sameBut hs₂ (Ne.symm hLC), fun h₃ hs₃ => ?_⟩
  refine hQ D h₃ _ ys rest hD ((hplD.extBut hs₂.extBut (Ne.symm hLD)).extBut hs₃.extBut hDC) hlen (fun p hp => ?_) hG (hn₂.sameBut hs₃ hLC) fun b o hbL hbf e =>
    hs₃.extBut b o (by rintro rfl; rw [hC] at e; cases e) (hs₂.extBut b o hbL (hk b o hbf e))
  obtain ⟨a, b, c, d⟩ := hrest p hp
  have hpL : p.1 ≠ env.locals := fun q => by obtain ⟨o, _, _, ho, _⟩ := hn; rw [q] at a; rw [show s₂.heap.get? env.locals = _ from ho] at a; cases a
  exact ⟨a, c, hs₃.extBut _ _ b (hs₂.extBut _ _ hpL d)⟩
section
variable {elt : Expr} {x : Str} {scope : Scope} {cl : List (Str × Addr)} {s₁ : Shared} {h₀ : Heap} {L : Addr} {m : Str → Option Value} {news : List (Addr × Obj)}
theorem news_of_rest {h₀ h₁ h' : Heap} {L : Addr} {m : Str → Option Value} {rest : List (Addr × Obj)} (F : Fr h₀ L h₁ m) (h : ∀ p ∈ rest, h₁.get? p.1 = none ∧ h'.get? p.1 = some p.2) : News h₀ L h' rest := fun p hp => by
  refine ⟨(h p hp).2, fun q => ?_, ?_⟩
  · obtain ⟨o, _, _, ho, _⟩ := F.ns
    have := (h p hp).1
    rw [q, show h₁.get? L = _ from ho] at this; cases this
  · cases e : h₀.get? p.1 with
    | none => rfl
    | some o => have := F.keep _ _ e; rw [(h p hp).1] at this; cases this
theorem none_back {h h' : Heap} {a : Addr} (hk : Kp h h') (e : h'.get? a = none) : h.get? a = none := by
  cases q : h.get? a with
  | none => rfl
  | some o => rw [hk _ _ q] at e; cases e
/-- the walk over a new iterator -/
theorem over_gen {ito : Obj} {n : Nat} {P : Nat → Value → Prop} {St : Nat → Heap → Prop} {fp : List Addr} {Q : Value → Shared → Prop} (W : Walks prog w A s₁.heap.objs.size fp [s₁.heap.objs.size] n P St)
    (hlive : ∀ i h, St i h → ∃ o, h.get? s₁.heap.objs.size = some o) (hst : St 0 (s₁.heap.push ito)) (hfp : ∀ b ∈ fp, b ≤ s₁.heap.objs.size) (hsz : n ≤ sizeLine)
    (G : Nat → Value → List (Addr × Obj) → Prop) (F : Fr h₀ L s₁.heap m) (N : News h₀ L s₁.heap news)
    (helt : ∀ C i v s₃ m₃, i < n → P i v → Fr s₁.heap C s₃.heap m₃ → m₃ x = some v →
      wpAny (model prog w) A (eval elt (compEnvC scope cl C env)) (fun y s₄ => (∃ nw, G i y nw ∧ ∀ p ∈ nw, s₃.heap.get? p.1 = none ∧ s₄.heap.get? p.1 = some p.2) ∧ Keeps s₃ s₄) (fun _ _ => False) s₃)
    (hq : ∀ D c h' tk (ys : List Value) (rest : List (Addr × Obj)), Kp s₁.heap h' → Fr h₀ L h' m → News h₀ L h' ((D, listOf ys.toArray c) :: news) → News h₀ L h' rest → ys.length = n → (∀ p ∈ rest, p.1 ≠ D ∧ s₁.heap.get? p.1 = none) →
      (∀ i y, ys[i]? = some y → ∃ nw, G i y nw ∧ ∀ p ∈ nw, p ∈ rest) → s₁.heap.get? D = none → Q (.ref D) { s₁ with heap := h', toks := tk }) :
    Over prog w A env scope cl x elt Q (.ref s₁.heap.objs.size) { s₁ with heap := s₁.heap.push ito } := by
  have up : ∀ {h' : Heap}, (∀ b o, b ∉ [s₁.heap.objs.size] → (s₁.heap.push ito).get? b = some o → h'.get? b = some o) → Kp s₁.heap h' :=
    fun hk b o e => hk b o (fun hm => by rcases List.mem_cons.mp hm with rfl | hm; exact Nat.lt_irrefl _ (Heap.lt_size e); cases hm) (Heap.get?_push_of_some _ e)
  refine ⟨s₁.heap.objs.size, fp, [s₁.heap.objs.size], n, P, St, G, rfl, W, hsz, (fun i h st b hb => by rw [List.mem_singleton.mp hb]; exact hlive i h st), hst, ?_, ?_, ?_⟩
  · intro b hb
    show b < (s₁.heap.push _).objs.size
    rw [Heap.size_push]
    exact Nat.lt_succ_of_le (hfp b hb)
  · intro C i v s₃ m₃ hC hi hP hn hm hk
    exact helt C i v s₃ m₃ hi hP ⟨hn, up hk, Nat.le_of_succ_le (by simpa [Heap.size_push] using hC)⟩ hm
  · intro D h' tk ys rest hD hpl hlen hrest hG hk
    obtain ⟨c, hc⟩ := hpl
    have k := up hk
    have kp : Kp s₁.heap (s₁.heap.push ito) := fun b o e => Heap.get?_push_of_some _ e
    have hD1 := none_back kp hD
    have hr1 : ∀ p ∈ rest, s₁.heap.get? p.1 = none := fun p hp => none_back kp (hrest p hp).1
    refine hq D c h' tk ys rest k (fr_kp F k) ?_ (news_of_rest F fun p hp => ⟨hr1 p hp, (hrest p hp).2.2⟩) hlen (fun p hp => ⟨(hrest p hp).2.1, hr1 p hp⟩) hG hD1
    intro p hp
    rcases List.mem_cons.mp hp with rfl | hp
    · exact news_of_rest (rest := [(D, _)]) F (fun p hp => by rw [List.mem_singleton.mp hp]; exact ⟨hD1, hc⟩) _ (.head _)
    · exact news_kp N k p hp
theorem overA_gen {ito : Obj} {n : Nat} {P : Nat → Value → Prop} {St : Nat → Heap → Prop} {fp : List Addr} {y : Str} {Q : Flow → Shared → Prop} (hL : env.locals = L) (W : Walks prog w A s₁.heap.objs.size fp [s₁.heap.objs.size] n P St)
    (hlive : ∀ i h, St i h → ∃ o, h.get? s₁.heap.objs.size = some o) (hst : St 0 (s₁.heap.push ito)) (hfp : ∀ b ∈ fp, b ≤ s₁.heap.objs.size) (hsz : n ≤ sizeLine)
    (G : Nat → Value → List (Addr × Obj) → Prop) (F : Fr h₀ L s₁.heap m) (N : News h₀ L s₁.heap news)
    (helt : ∀ C i v s₃ m₃, i < n → P i v → Fr s₁.heap C s₃.heap m₃ → m₃ x = some v →
      wpAny (model prog w) A (eval elt (compEnvC scope cl C env)) (fun y s₄ => (∃ nw, G i y nw ∧ ∀ p ∈ nw, s₃.heap.get? p.1 = none ∧ s₄.heap.get? p.1 = some p.2) ∧ Keeps s₃ s₄) (fun _ _ => False) s₃)
    (hq : ∀ D c h' tk (ys : List Value) (rest : List (Addr × Obj)), (∀ b o, b ≠ L → s₁.heap.get? b = some o → h'.get? b = some o) → Fr h₀ L h' (fun z => if z = y then some (.ref D) else m z) → News h₀ L h' ((D, listOf ys.toArray c) :: news) → News h₀ L h' rest → ys.length = n → (∀ p ∈ rest, p.1 ≠ D ∧ s₁.heap.get? p.1 = none) →
      (∀ i y, ys[i]? = some y → ∃ nw, G i y nw ∧ ∀ p ∈ nw, p ∈ rest) → s₁.heap.get? D = none → Q .next { s₁ with heap := h', toks := tk }) :
    OverA prog w A env scope cl x elt y Q (.ref s₁.heap.objs.size) { s₁ with heap := s₁.heap.push ito } := by
  subst hL
  have up : ∀ {h' : Heap}, (∀ b o, b ∉ [s₁.heap.objs.size] → (s₁.heap.push ito).get? b = some o → h'.get? b = some o) → Kp s₁.heap h' :=
    fun hk b o e => hk b o (fun hm => by rcases List.mem_cons.mp hm with rfl | hm; exact Nat.lt_irrefl _ (Heap.lt_size e); cases hm) (Heap.get?_push_of_some _ e)
  refine ⟨s₁.heap.objs.size, fp, [s₁.heap.objs.size], n, P, St, m, G, rfl, W, hsz, (fun i h st b hb => by rw [List.mem_singleton.mp hb]; exact hlive i h st), hst, ?_, ?_, F.ns.keeps (fun b o e => Heap.get?_push_of_some _ e), ?_, ?_⟩
  · intro b hb
    show b < (s₁.heap.push _).objs.size
    rw [Heap.size_push]
    exact Nat.lt_succ_of_le (hfp b hb)
  · simp only [List.mem_singleton]; exact Nat.ne_of_lt F.ns.lt
  · intro C i v s₃ m₃ hC hi hP hn hm hk
    exact helt C i v s₃ m₃ hi hP ⟨hn, up hk, Nat.le_of_succ_le (by simpa [Heap.size_push] using hC)⟩ hm
  · intro D h' tk ys rest hD hpl hlen hrest hG hns hk
    obtain ⟨c, hc⟩ := hpl
    have k : ∀ b o, b ≠ env.locals → s₁.heap.get? b = some o → h'.get? b = some o := fun b o hb e => hk b o hb (fun hm => by rcases List.mem_cons.mp hm with rfl | hm; exact Nat.lt_irrefl _ (Heap.lt_size e); cases hm) (Heap.get?_push_of_some _ e)
    have kp : Kp s₁.heap (s₁.heap.push ito) := fun b o e => Heap.get?_push_of_some _ e
    have hD1 := none_back kp hD
    have hr1 : ∀ p ∈ rest, s₁.heap.get? p.1 = none := fun p hp => none_back kp (hrest p hp).1
    refine hq D c h' tk ys rest k ⟨hns, fun b o e => k b o (Nat.ne_of_lt (Nat.lt_of_lt_of_le (Heap.lt_size e) F.above)) (F.keep b o e), F.above⟩ ?_ (news_of_rest F fun p hp => ⟨hr1 p hp, (hrest p hp).2.2⟩) hlen (fun p hp => ⟨(hrest p hp).2.1, hr1 p hp⟩) hG hD1
    intro p hp
    rcases List.mem_cons.mp hp with rfl | hp
    · exact news_of_rest (rest := [(D, _)]) F (fun p hp => by rw [List.mem_singleton.mp hp]; exact ⟨hD1, hc⟩) _ (.head _)
    · exact ⟨k _ _ (N p hp).2.1 (N p hp).1, (N p hp).2⟩
/-- over a list -/
theorem over_list {ax : Addr} {items : List Value} {Q : Value → Shared → Prop} (hh : A.handled = none) (hl : s₁.heap.IsList ax items.toArray) (hsz : items.length ≤ sizeLine)
    (G : Nat → Value → List (Addr × Obj) → Prop) (F : Fr h₀ L s₁.heap m) (N : News h₀ L s₁.heap news)
    (helt : ∀ C i v s₃ m₃, i < items.length → items[i]? = some v → Fr s₁.heap C s₃.heap m₃ → m₃ x = some v →
      wpAny (model prog w) A (eval elt (compEnvC scope cl C env)) (fun y s₄ => (∃ nw, G i y nw ∧ ∀ p ∈ nw, s₃.heap.get? p.1 = none ∧ s₄.heap.get? p.1 = some p.2) ∧ Keeps s₃ s₄) (fun _ _ => False) s₃)
    (hq : ∀ D c h' tk (ys : List Value) (rest : List (Addr × Obj)), Kp s₁.heap h' → Fr h₀ L h' m → News h₀ L h' ((D, listOf ys.toArray c) :: news) → News h₀ L h' rest → ys.length = items.length → (∀ p ∈ rest, p.1 ≠ D ∧ s₁.heap.get? p.1 = none) →
      (∀ i y, ys[i]? = some y → ∃ nw, G i y nw ∧ ∀ p ∈ nw, p ∈ rest) → s₁.heap.get? D = none → Q (.ref D) { s₁ with heap := h', toks := tk }) :
    wpAny (model prog w) A (pyIter (.ref ax)) (fun it s₂ => Over prog w A env scope cl x elt Q it s₂) E s₁ := by
  refine wpAny_pyIter_list hl ?_
  have hax : ax < s₁.heap.objs.size := by obtain ⟨o, ho, _⟩ := hl; exact Heap.lt_size ho
  refine over_gen (n := items.length) (P := fun i v => items[i]? = some v) (St := fun i h => h.IsListIter s₁.heap.objs.size ax i ∧ h.IsList ax items.toArray) (fp := [s₁.heap.objs.size, ax]) ?_ ?_ ?_ ?_ hsz G F N helt hq
  · have := Walks.list (prog := prog) (w := w) hh s₁.heap.objs.size ax (Nat.ne_of_lt hax) items.toArray
    simpa using this
  · rintro i h ⟨⟨o, ho, _⟩, _⟩; exact ⟨o, ho⟩
  · exact ⟨⟨_, Heap.get?_push_size _ rfl, rfl, rfl⟩, hl.push _⟩
  · intro b hb
    rcases List.mem_cons.mp hb with rfl | hb
    · exact Nat.le_refl _
    · rw [List.mem_singleton.mp hb]; exact Nat.le_of_lt hax
theorem small_of : ∀ n : Nat, n < 64 → Builtin.Range.small 0 (n : Int) 1 = true := by decide +kernel
/-- over `range(n)` -/
theorem over_range {r : Addr} {t u v : Tok} {n : Nat} {Q : Value → Shared → Prop} (hh : A.handled = none) (hr : IsRange s₁.heap r 0 n 1 t u v) (hn : n < 64)
    (G : Nat → Value → List (Addr × Obj) → Prop) (F : Fr h₀ L s₁.heap m) (N : News h₀ L s₁.heap news)
    (helt : ∀ C i v s₃ m₃, i < n → (∃ t, v = .int i t) → Fr s₁.heap C s₃.heap m₃ → m₃ x = some v →
      wpAny (model prog w) A (eval elt (compEnvC scope cl C env)) (fun y s₄ => (∃ nw, G i y nw ∧ ∀ p ∈ nw, s₃.heap.get? p.1 = none ∧ s₄.heap.get? p.1 = some p.2) ∧ Keeps s₃ s₄) (fun _ _ => False) s₃)
    (hq : ∀ D c h' tk (ys : List Value) (rest : List (Addr × Obj)), Kp s₁.heap h' → Fr h₀ L h' m → News h₀ L h' ((D, listOf ys.toArray c) :: news) → News h₀ L h' rest → ys.length = n → (∀ p ∈ rest, p.1 ≠ D ∧ s₁.heap.get? p.1 = none) →
      (∀ i y, ys[i]? = some y → ∃ nw, G i y nw ∧ ∀ p ∈ nw, p ∈ rest) → s₁.heap.get? D = none → Q (.ref D) { s₁ with heap := h', toks := tk }) :
    wpAny (model prog w) A (pyIter (.ref r)) (fun it s₂ => Over prog w A env scope cl x elt Q it s₂) E s₁ := by
  have hz : Builtin.Range.rangeSize 0 (n : Int) 1 = (n : Int) := by unfold Builtin.Range.rangeSize; simp; try omega
  refine wpAny_pyIter_range hr ?_ ?_
  · exact small_of n hn
  refine over_gen (n := n) (P := fun i v => ∃ t, v = .int i t) (St := fun i h => IsRangeIter h s₁.heap.objs.size (0 + (i : Nat) * 1) ((n : Int) - (i : Nat)) 1) (fp := [s₁.heap.objs.size]) ?_ ?_ ?_ ?_ (by rw [sizeLine_eq]; omega) G F N helt hq
  · have := Walks.range (prog := prog) (w := w) hh s₁.heap.objs.size 0 1 n
    simpa using this
  · intro i h st; exact ⟨_, st⟩
  · show Heap.get? _ _ = _
    rw [Heap.get?_push_size _ rfl, hz]; simp
  · intro b hb
    rw [List.mem_singleton.mp hb]; exact Nat.le_refl _
theorem overA_range {r : Addr} {t u v : Tok} {n : Nat} {y : Str} {Q : Flow → Shared → Prop} (hL : env.locals = L) (hh : A.handled = none) (hr : IsRange s₁.heap r 0 n 1 t u v) (hn : n < 64)
    (G : Nat → Value → List (Addr × Obj) → Prop) (F : Fr h₀ L s₁.heap m) (N : News h₀ L s₁.heap news)
    (helt : ∀ C i v s₃ m₃, i < n → (∃ t, v = .int i t) → Fr s₁.heap C s₃.heap m₃ → m₃ x = some v →
      wpAny (model prog w) A (eval elt (compEnvC scope cl C env)) (fun y s₄ => (∃ nw, G i y nw ∧ ∀ p ∈ nw, s₃.heap.get? p.1 = none ∧ s₄.heap.get? p.1 = some p.2) ∧ Keeps s₃ s₄) (fun _ _ => False) s₃)
    (hq : ∀ D c h' tk (ys : List Value) (rest : List (Addr × Obj)), (∀ b o, b ≠ L → s₁.heap.get? b = some o → h'.get? b = some o) → Fr h₀ L h' (fun z => if z = y then some (.ref D) else m z) → News h₀ L h' ((D, listOf ys.toArray c) :: news) → News h₀ L h' rest → ys.length = n → (∀ p ∈ rest, p.1 ≠ D ∧ s₁.heap.get? p.1 = none) →
      (∀ i y, ys[i]? = some y → ∃ nw, G i y nw ∧ ∀ p ∈ nw, p ∈ rest) → s₁.heap.get? D = none → Q .next { s₁ with heap := h', toks := tk }) :
    wpAny (model prog w) A (pyIter (.ref r)) (fun it s₂ => OverA prog w A env scope cl x elt y Q it s₂) E s₁ := by
  have hz : Builtin.Range.rangeSize 0 (n : Int) 1 = (n : Int) := by unfold Builtin.Range.rangeSize; simp; try omega
  refine wpAny_pyIter_range hr ?_ ?_
  · exact small_of n hn
  refine overA_gen (n := n) (P := fun i v => ∃ t, v = .int i t) (St := fun i h => IsRangeIter h s₁.heap.objs.size (0 + (i : Nat) * 1) ((n : Int) - (i : Nat)) 1) (fp := [s₁.heap.objs.size]) hL ?_ ?_ ?_ ?_ (by rw [sizeLine_eq]; omega) G F N helt hq
  · have := Walks.range (prog := prog) (w := w) hh s₁.heap.objs.size 0 1 n
    simpa using this
  · intro i h st; exact ⟨_, st⟩
  · show Heap.get? _ _ = _
    rw [Heap.get?_push_size _ rfl, hz]; simp
  · intro b hb
    rw [List.mem_singleton.mp hb]; exact Nat.le_refl _
end
end
end Mine
end
section
open PySem PySem.W PySem.Calls PyProof.Rows
namespace Mine
/-- the parts between signs c -/
noncomputable def splitOn (c : Nat) : List Nat → List (List Nat)
  | [] => [[]]
  | a :: l => if a = c then [] :: splitOn c l else match splitOn c l with | [] => [[a]] | p :: ps => (a :: p) :: ps
noncomputable def joinOn (c : Nat) : List (List Nat) → List Nat
  | [] => []
  | [p] => p
  | p :: q :: ps => p ++ c :: joinOn c (q :: ps)
theorem splitOn_ne (c : Nat) : ∀ l, splitOn c l ≠ []
  | [] => by simp [splitOn]
  | a :: l => by
    rw [splitOn]
    split
    · simp
    · split <;> simp
theorem splitOn_free {c : Nat} : ∀ {p : List Nat}, c ∉ p → splitOn c p = [p]
  | [], _ => rfl
  | a :: p, h => by
    have h1 : a ≠ c := fun q => h (q ▸ .head _)
    have h2 := splitOn_free (c := c) (p := p) fun q => h (.tail _ q)
    rw [splitOn, if_neg h1, h2]
theorem splitOn_cut {c : Nat} : ∀ (l r : List Nat), splitOn c (l ++ c :: r) = splitOn c l ++ splitOn c r
  | [], r => by
    show splitOn c (c :: r) = [[]] ++ splitOn c r
    simp [splitOn]
  | a :: l, r => by
    rw [List.cons_append, splitOn, splitOn_cut l r, splitOn]
    split
    · rfl
    · cases h : splitOn c l with
      | nil => exact absurd h (splitOn_ne c l)
      | cons p ps => rfl
theorem splitOn_join {c : Nat} : ∀ {ps : List (List Nat)}, ps ≠ [] → (∀ p ∈ ps, c ∉ p) → splitOn c (joinOn c ps) = ps
  | [], h, _ => absurd rfl h
  | [p], _, h => splitOn_free (h p (.head _))
  | p :: q :: ps, _, h => by
    rw [joinOn, splitOn_cut, splitOn_free (h p (.head _)), splitOn_join (ps := q :: ps) (by simp) fun x hx => h x (.tail _ hx)]
    rfl
theorem join_toList (c : Nat) : ∀ (ps : List Str), (Str.join ⟨#[c]⟩ ps).cps.toList = joinOn c (ps.map (·.cps.toList))
  | [] => rfl
  | [p] => rfl
  | p :: q :: ps => by
    show (p ++ ⟨#[c]⟩ ++ Str.join ⟨#[c]⟩ (q :: ps) : Str).cps.toList = _
    have e := join_toList c (q :: ps)
    show (p.cps ++ #[c] ++ (Str.join ⟨#[c]⟩ (q :: ps)).cps).toList = _
    rw [Array.toList_append, Array.toList_append, e]
    simp [joinOn]
theorem split_names (x : Str) (c : Nat) : (Txt.split x ⟨#[c]⟩).map (·.cps.toList) = splitOn c x.cps.toList := by
  have h1 := join_toList c (Txt.split x ⟨#[c]⟩)
  rw [StrLaws.join_split] at h1
  rw [h1, splitOn_join]
  · have := split_pos x ⟨#[c]⟩
    intro q
    have h2 := congrArg List.length q
    rw [List.length_map, List.length_nil] at h2
    omega
  · intro p hp
    obtain ⟨y, hy, rfl⟩ := List.mem_map.mp hp
    exact StrLaws.split_free x c y hy
theorem split_mk (l : List Nat) (c : Nat) : Txt.split (mk l) ⟨#[c]⟩ = (splitOn c l).map mk := by
  have h := split_names (mk l) c
  have h2 := congrArg (List.map mk) h
  rw [List.map_map] at h2
  rw [show (mk ∘ fun x : Str => x.cps.toList) = id from by funext x; cases x; simp [mk]] at h2
  simpa using h2
theorem splitOn_mem {c : Nat} : ∀ {l : List Nat} {p : List Nat}, p ∈ splitOn c l → p.length ≤ l.length ∧ ∀ a ∈ p, a ∈ l ∧ a ≠ c
  | [], p, h => by rw [splitOn, List.mem_singleton] at h; subst h; exact ⟨Nat.le_refl _, fun a ha => by cases ha⟩
  | a :: l, p, h => by
    rw [splitOn] at h
    split at h
    · rcases List.mem_cons.mp h with rfl | h
      · exact ⟨Nat.zero_le _, fun a ha => by cases ha⟩
      · obtain ⟨h1, h2⟩ := splitOn_mem h
        exact ⟨by rw [List.length_cons]; omega, fun b hb => ⟨.tail _ (h2 b hb).1, (h2 b hb).2⟩⟩
    · rename_i hac
      cases q : splitOn c l with
      | nil => exact absurd q (splitOn_ne c l)
      | cons p' ps =>
        rw [q] at h
        rcases List.mem_cons.mp h with rfl | h
        · obtain ⟨h1, h2⟩ := splitOn_mem (c := c) (l := l) (p := p') (by rw [q]; exact .head _)
          refine ⟨by rw [List.length_cons, List.length_cons]; omega, fun b hb => ?_⟩
          rcases List.mem_cons.mp hb with rfl | hb
          · exact ⟨.head _, hac⟩
          · exact ⟨.tail _ (h2 b hb).1, (h2 b hb).2⟩
        · obtain ⟨h1, h2⟩ := splitOn_mem (c := c) (l := l) (p := p) (by rw [q]; exact .tail _ h)
          exact ⟨by rw [List.length_cons]; omega, fun b hb => ⟨.tail _ (h2 b hb).1, (h2 b hb).2⟩⟩
theorem splitOn_len {c : Nat} : ∀ (l : List Nat), 1 ≤ (splitOn c l).length ∧ (splitOn c l).length ≤ l.length + 1
  | [] => by simp [splitOn]
  | a :: l => by
    obtain ⟨h1, h2⟩ := splitOn_len (c := c) l
    rw [splitOn]
    split
    · simp; omega
    · cases q : splitOn c l with
      | nil => exact absurd q (splitOn_ne c l)
      | cons p' ps => rw [q] at h1 h2; simp at h1 h2 ⊢; omega

/-- the menu's signs -/
noncomputable def menu : List Nat := [47, 48, 49, 50, 57, 95, 97, 98]
noncomputable def tailN : List Nat := [47, 97, 49, 48, 47, 97, 57, 47, 97, 49, 95, 48]
noncomputable def signOf (k : Int) : Nat := menu.getD (k % 8).toNat 0
noncomputable def headN (ns : List Int) : List Nat := (ns.take 10).map signOf
noncomputable def namesOf (ns : List Int) : List (List Nat) := splitOn 47 (headN ns ++ tailN)
theorem sign_menu (k : Int) : signOf k ∈ menu := by
  have h1 := Int.emod_nonneg k (show (8 : Int) ≠ 0 by decide)
  have h2 := Int.emod_lt_of_pos k (show (0 : Int) < 8 by decide)
  unfold signOf
  have : (k % 8).toNat < 8 := by omega
  generalize (k % 8).toNat = j at this
  rw [List.getD_eq_getElem?_getD, List.getElem?_eq_getElem (show j < menu.length from this)]
  exact List.getElem_mem _
structure NameG (p : List Nat) : Prop where
  len : p.length ≤ 10
  sign : ∀ c ∈ p, isFig c = true ∨ c = 95 ∨ c = 97 ∨ c = 98
theorem headN_len (ns : List Int) : (headN ns).length ≤ 10 := by unfold headN; rw [List.length_map, List.length_take]; omega
theorem names_eq (ns : List Int) : namesOf ns = splitOn 47 (headN ns) ++ [[97, 49, 48], [97, 57], [97, 49, 95, 48]] := by
  unfold namesOf
  rw [show tailN = 47 :: [97, 49, 48, 47, 97, 57, 47, 97, 49, 95, 48] from rfl, splitOn_cut]
  rfl
theorem names_len (ns : List Int) : 4 ≤ (namesOf ns).length ∧ (namesOf ns).length ≤ 14 := by
  rw [names_eq]
  have := splitOn_len (c := 47) (headN ns)
  have := headN_len ns
  simp
  omega
theorem names_good (ns : List Int) : ∀ p ∈ namesOf ns, NameG p := by
  intro p hp
  rw [names_eq] at hp
  rcases List.mem_append.mp hp with hp | hp
  · obtain ⟨h1, h2⟩ := splitOn_mem hp
    refine ⟨Nat.le_trans h1 (headN_len ns), fun c hc => ?_⟩
    obtain ⟨h3, h4⟩ := h2 c hc
    unfold headN at h3
    obtain ⟨k, _, rfl⟩ := List.mem_map.mp h3
    have := sign_menu k
    generalize signOf k = c at this h4
    simp only [menu, List.mem_cons, List.not_mem_nil, or_false] at this
    rcases this with rfl | rfl | rfl | rfl | rfl | rfl | rfl | rfl <;> first | exact absurd rfl h4 | decide
  · simp only [List.mem_cons, List.not_mem_nil, or_false] at hp
    rcases hp with rfl | rfl | rfl
    · exact ⟨by decide, by decide⟩
    · exact ⟨by decide, by decide⟩
    · exact ⟨by decide, by decide⟩

/-- a piece in the making -/
noncomputable def KindG (p : List Nat) : Prop := p ≠ [] ∧ ((isFig (p.headD 0) = true ∧ Figs p) ∨ (isFig (p.headD 0) = false ∧ p.length = 1))
theorem kind_one (c : Nat) : KindG [c] := by
  refine ⟨by simp, ?_⟩
  cases h : isFig c with
  | true => exact .inl ⟨h, fun d hd => by rw [List.mem_singleton.mp hd]; exact .inl h⟩
  | false => exact .inr ⟨h, rfl⟩
theorem pstep_kind {ps : List (List Nat)} {c : Nat} (h : ∀ p ∈ ps, KindG p) : ∀ p ∈ pstep ps c, KindG p := by
  unfold pstep
  intro p hp
  split at hp
  · rw [List.mem_singleton.mp hp]; exact kind_one c
  · rename_i q hq
    split at hp
    · rename_i hj
      rcases List.mem_append.mp hp with hp | hp
      · exact h p (List.dropLast_subset _ hp)
      · rw [List.mem_singleton.mp hp]
        have hk := h q (List.mem_of_getLast? hq)
        simp only [joins, Bool.and_eq_true, Bool.or_eq_true, beq_iff_eq] at hj
        have hF : Figs q := (hk.2.resolve_right fun x => by rw [x.1] at hj; cases hj.1).2
        obtain ⟨a, r, rfl⟩ := List.exists_cons_of_ne_nil hk.1
        refine ⟨by simp, .inl ⟨hj.1, fun d hd => ?_⟩⟩
        rcases List.mem_append.mp hd with hd | hd
        · exact hF d hd
        · rw [List.mem_singleton.mp hd]; exact hj.2
    · rcases List.mem_append.mp hp with hp | hp
      · exact h p hp
      · rw [List.mem_singleton.mp hp]; exact kind_one c
theorem foldl_kind : ∀ (l : List Nat) (ps : List (List Nat)), (∀ p ∈ ps, KindG p) → ∀ p ∈ l.foldl pstep ps, KindG p
  | [], _, h => h
  | _ :: l, _, h => foldl_kind l _ (pstep_kind h)
theorem pieces_good {l : List Nat} (h : NameG l) : ∀ p ∈ piecesOf l, PieceG p := by
  intro p hp
  have hk := foldl_kind l [] (fun _ h => by cases h) p hp
  have hl := Nat.le_trans ((pieces_len l).1 p hp) h.len
  have hm : ∀ c ∈ p, c ∈ l := fun c hc => by rw [← pieces_flatten l]; exact List.mem_flatten.mpr ⟨p, hp, hc⟩
  refine ⟨⟨hk.1, by omega, fun c hc => ?_, hk.2⟩, ?_, fun hf => ?_⟩
  · rcases h.sign c (hm c hc) with q | q | q | q
    · rcases isFig_cases q with q | q | q | q <;> omega
    all_goals omega
  · have := List.length_filter_le (· != 95) p
    unfold figsOf
    omega
  · obtain ⟨a, r, rfl⟩ := List.exists_cons_of_ne_nil hk.1
    rcases h.sign a (hm a (.head _)) with q | q | q | q
    · rw [show (a :: r).headD 0 = a from rfl, q] at hf; cases hf
    all_goals (show 58 ≤ a; omega)
theorem cut_good (ns : List Int) : ∀ ps ∈ (namesOf ns).map piecesOf, ∀ p ∈ ps, PieceG p := by
  intro ps hps
  obtain ⟨l, hl, rfl⟩ := List.mem_map.mp hps
  exact pieces_good (names_good ns l hl)
end Mine
end
section
open PySem PySem.W PySem.Calls PyProof.Rows PySem.Builtin.Str PySem.SeqAt
set_option maxRecDepth 100000
set_option maxHeartbeats 8000000
namespace Mine
variable {w : World} {A : Around} {E : Value → Shared → Prop} {s : Shared} {loose : List Str} {mean : ExcName → Option Value} {mg mb : Str → Option Value} {n : Nat}
theorem ints_get : ∀ {vs : List Value} {ns : List Int} {i : Nat} {x : Value}, IntsAre vs ns → vs[i]? = some x → ∃ k t, ns[i]? = some k ∧ x = .int k t
  | _, _, 0, _, .cons k t _, h => by cases h; exact ⟨k, t, rfl, rfl⟩
  | _, _, i + 1, _, .cons _ _ r, h => by
    obtain ⟨k, t, h1, h2⟩ := ints_get (i := i) r (by simpa using h)
    exact ⟨k, t, by simpa using h1, h2⟩
  | _, _, _, _, .nil, h => by simp at h
theorem nilN {h₀ h : Heap} {L : Addr} {m : Str → Option Value} (_ : Fr h₀ L h m) : News h₀ L h [] := News.nil
theorem item_text {prog : Program} {value slice : PySem.Expr} {x : Str} {t u : Tok} {k : Int} {Q : Value → Shared → Prop} (hr : fitsSsize k = true) (hin : (Txt.charAt x k).isSome = true) (h : Q (.str (Txt.item x k) s.toks) { s with toks := s.toks + 1 })
    (hs : subscripted slice false (.str x t) (.int k u) = operate [.str x t, .int k u] (getItem (.str x t) (.int k u)) := by with_unfolding_all rfl) :
    wpAny (model prog w) A (subscriptTail value slice (.str x t) (.int k u)) Q E s := tail_any (typeIs_str _ _ _) F.slot_str_getitem.lookup (SB.getItem hr hin h) hs
theorem menu_at : ∀ j : Nat, j < 8 → fitsSsize (j : Int) = true ∧ (Txt.charAt (Str.ofString "/0129_ab") (j : Int)).isSome = true ∧ Txt.item (Str.ofString "/0129_ab") (j : Int) = ch (menu.getD j 0) := by decide +kernel
theorem menu_of (k : Int) : fitsSsize (k.fmod 8) = true ∧ (Txt.charAt (Str.ofString "/0129_ab") (k.fmod 8)).isSome = true ∧ Txt.item (Str.ofString "/0129_ab") (k.fmod 8) = ch (signOf k) := by
  rw [Int.fmod_eq_emod_of_nonneg k (by decide)]
  have h1 := Int.emod_nonneg k (show (8 : Int) ≠ 0 by decide)
  have h2 := Int.emod_lt_of_pos k (show (0 : Int) < 8 by decide)
  have h3 := menu_at (k % 8).toNat (by omega)
  rw [Int.toNat_of_nonneg h1] at h3
  exact h3
theorem signs_are {rest : List (Addr × Obj)} {ws : List Value} {ks : List Int} (hI : IntsAre ws ks) : ∀ {ys : List Value}, ys.length = ws.length →
    (∀ (i : Nat) (y : Value), ys[i]? = some y → ∃ nw : List (Addr × Obj), (nw = [] ∧ ∃ t k, ks[i]? = some k ∧ y = Value.str (ch (signOf k)) t) ∧ ∀ p ∈ nw, p ∈ rest) → StrsAre ys ((ks.map signOf).map fun c => ch c) := by
  induction hI with
  | nil =>
    intro ys hl _
    obtain rfl := List.length_eq_zero_iff.mp hl
    exact .nil
  | cons k t r ih =>
    intro ys hl h
    cases ys with
    | nil => simp at hl
    | cons y ys =>
      obtain ⟨_, ⟨_, t', k', hk', rfl⟩, _⟩ := h 0 y rfl
      cases hk'
      exact .cons _ _ (ih (by simpa using hl) fun i y hy => by
        obtain ⟨nw, h1, h2⟩ := h (i + 1) y (by simpa using hy)
        exact ⟨nw, by simpa using h1, h2⟩)
theorem join_signs (l : List Nat) : Txt.join (Str.ofString "") (l.map fun c => ch c) = mk l := str_ext (by
  rw [join_cps, List.map_map]
  show (l.map fun c => [c]).flatten = l
  induction l with
  | nil => rfl
  | cons c l ih => simp only [List.map_cons, List.flatten_cons, ih]; rfl)
theorem tail_mk : Str.ofString "/a10/a9/a1_0" = mk tailN := by decide +kernel
theorem slash_mk : Str.ofString "/" = ⟨#[47]⟩ := by decide +kernel
theorem drop2 {h₀ h : Heap} {L : Addr} {a b c : Addr × Obj} {news : List (Addr × Obj)} (N : News h₀ L h (a :: b :: c :: news)) : News h₀ L h (a :: news) := fun p hp => N p (by
  rcases List.mem_cons.mp hp with rfl | hp
  · exact .head _
  · exact .tail _ (.tail _ (.tail _ hp)))
/-- the lists of pieces, as a comprehension has made them -/
noncomputable def CutAt (names : List (List Nat)) (os : List Addr) (rest : List (Addr × Obj)) : Prop :=
  os.length = names.length ∧ ∀ (i : Nat) p, names[i]? = some p → ∃ a vs k, os[i]? = some a ∧ (a, W.listOf vs.toArray k) ∈ rest ∧ StrsAre vs ((piecesOf p).map mk)
theorem cut_refs {names : List (List Nat)} {zs : List Value} {rest : List (Addr × Obj)} (hl : zs.length = names.length)
    (hG : ∀ (i : Nat) y, zs[i]? = some y → ∃ nw : List (Addr × Obj), (∃ a vs k p, names[i]? = some p ∧ y = Value.ref a ∧ nw = [(a, W.listOf vs.toArray k)] ∧ StrsAre vs ((piecesOf p).map mk)) ∧ ∀ q ∈ nw, q ∈ rest) :
    ∃ os : List Addr, zs = os.map Value.ref ∧ CutAt names os rest := by
  refine ⟨zs.map (fun v => match v with | .ref a => a | _ => 0), ?_, by rw [List.length_map, hl], fun i p hp => ?_⟩
  · rw [List.map_map]
    refine (List.map_id zs).symm.trans (List.map_congr_left fun y hy => ?_)
    obtain ⟨i, hi⟩ := List.getElem?_of_mem hy
    obtain ⟨_, ⟨a, vs, k, p, _, rfl, _⟩, _⟩ := hG i y hi
    rfl
  · have hi : i < zs.length := by rw [hl]; exact (List.getElem?_eq_some_iff.mp hp).1
    obtain ⟨nw, ⟨a, vs, k, p', hp', hy, rfl, hS⟩, hr⟩ := hG i zs[i] (List.getElem?_eq_getElem hi)
    rw [hp] at hp'; cases hp'
    refine ⟨a, vs, k, ?_, hr _ (.head _), hS⟩
    rw [List.getElem?_map, List.getElem?_eq_getElem hi, hy]
    rfl
theorem news_join {h₀ h : Heap} {L : Addr} {n1 n2 : List (Addr × Obj)} (N : News h₀ L h n1) (R : News h₀ L h n2) : News h₀ L h (n1 ++ n2) := fun p hp => (List.mem_append.mp hp).elim (N p) (R p)
theorem off_of {h : Heap} {rest : List (Addr × Obj)} {a : Addr} {o : Obj} (hr : ∀ p ∈ rest, h.get? p.1 = none) (e : h.get? a = some o) : ∀ p ∈ rest, p.1 ≠ a := fun p hp q => by
  have := hr p hp; rw [q, e] at this; cases this
noncomputable abbrev hid2 (h : Heap) : Heap := hideAll h [24, 38]
theorem hid2_get {h : Heap} {b : Addr} {o : Obj} (e : h.get? b = some o) (h1 : b ≠ 24) (h2 : b ≠ 38) : (hid2 h).get? b = some o := hideAll_get _ e (by simp [h1, h2])

noncomputable def defScope (nm : Str) : List Stmt → Scope
  | [] => default
  | .FunctionDef n _ _ _ _ _ sc _ _ _ :: r => if n = nm then sc else defScope nm r
  | _ :: r => defScope nm r
noncomputable def lawBody : List Stmt := defBody "law" PR.main.body
noncomputable def lawScope : Scope := defScope "law" PR.main.body
noncomputable abbrev lawEnv (L : Addr) : Env := envOfC (Str.ofString "law") lawScope L 83 (.ref 82)
end Mine
end
section
open PySem PySem.W PySem.Calls PyProof.Rows PySem.Builtin.Str PySem.SeqAt
set_option maxRecDepth 100000
set_option maxHeartbeats 8000000
namespace Mine
variable {w : World} {A : Around} {E : Value → Shared → Prop} {s : Shared} {loose : List Str} {mean : ExcName → Option Value} {mg mb : Str → Option Value} {n : Nat}
theorem loops_spec {b : Heap} {L D : Addr} {oc : Obj} {cD : Nat} {os : List Addr} {names : List (List Nat)} {rest : List (Addr × Obj)} {m : Str → Option Value} {Q : Flow → Shared → Prop}
    (G : Gd w loose mean mg mb b) (hA : Am A n) (hn : n < 320) (F : Fr b L s.heap m) (N : News b L s.heap ((L + 1, oc) :: (D, W.listOf (os.map Value.ref).toArray cD) :: (38, tabObj #[]) :: rest))
    (hcd : oc.data = .cell (some (.ref D))) (t24 : Tab24 s.heap) (hcut : CutAt names os rest) (hnames : ∀ p ∈ names, NameG p) (hlen : names.length ≤ 20) (r24 : ∀ p ∈ rest, p.1 ≠ 24) (D24 : D ≠ 24) (c24 : L + 1 ≠ 24) (L24 : L ≠ 24)
    (h : ∀ h' tk d m', Fr b L h' m' → (∀ z : Str, z ≠ "parts" → z ≠ "part" → m' z = m z) → Tab24 h' → News b L h' ((L + 1, oc) :: (D, W.listOf (os.map Value.ref).toArray cD) :: (38, tabObj #[]) :: rest) → Q .next {s with heap := h', toks := tk, drawn := d}) :
    wpAny (model PR w) (A.deeper (lawEnv L)) (exec (lawBody.getD 2 (.Pass default)) (lawEnv L)) Q (fun _ _ => False) s := by
  refine wpAny_For (target := .Name _ _) ?_
  have X1 := G.X
  have T1 := G.T
  (first | repeat' (first | ((fail_if_success (first | with_reducible show wpAny _ _ (binaryOp Operator.Add (Value.str _ _) _) _ _ _ | with_reducible show wpAny _ _ (call (Value.ref _) _) _ _ _ | with_reducible show wpAny _ _ (exec (Stmt.For _ _ _ _ _) _) _ _ _)); (first | (first | (with_reducible show wpAny _ _ _ _ _ _) | (with_reducible show (if _ then _ else _)) | (with_reducible show Frag.In _ _ ∧ _) | (with_reducible show KdsFill _ _ _ _ _ _ _ _)) | (dsimp only; (first | (with_reducible show wpAny _ _ _ _ _ _) | (with_reducible show (if _ then _ else _)) | (with_reducible show Frag.In _ _ ∧ _) | (with_reducible show KdsFill _ _ _ _ _ _ _ _)))); (first | walk1 | (dsimp only; walk1)))))
  have hlD : ∀ {h : Heap}, News b L h ((L + 1, oc) :: (D, W.listOf (os.map Value.ref).toArray cD) :: (38, tabObj #[]) :: rest) → h.IsList D (os.map Value.ref).toArray := fun N => ⟨_, (N _ (.tail _ (.head _))).1, rfl, _, rfl⟩
  refine wpAny_pyIter_list (hlD N) ?_
  have fI := fresh_of F (Nat.le_refl s.heap.objs.size)
  have nI : ∀ p ∈ ((L + 1, oc) :: (D, W.listOf (os.map Value.ref).toArray cD) :: (38, tabObj #[]) :: rest), p.1 ≠ s.heap.objs.size := fun p hp => Nat.ne_of_lt (Heap.lt_size (N p hp).1)
  have I24 : s.heap.objs.size ≠ 24 := by obtain ⟨o, e⟩ := t24.at; exact Nat.ne_of_gt (Heap.lt_size e)
  have F2 := F.push { cls := .type "list_iterator", data := .fields #[.ref D, .int 0 0] }
  have N2 : News b L (s.heap.push { cls := .type "list_iterator", data := .fields #[.ref D, .int 0 0] }) _ := news_kp N fun b o e => Heap.get?_push_of_some _ e
  have t2 := t24.kp (h' := s.heap.push { cls := .type "list_iterator", data := .fields #[.ref D, .int 0 0] }) fun b o e => Heap.get?_push_of_some _ e
  have hI0 : (s.heap.push { cls := .type "list_iterator", data := .fields #[.ref D, .int 0 0] }).get? s.heap.objs.size = some { cls := .type "list_iterator", data := .fields #[.ref D, .int 0 0] } := Heap.get?_push_size _ rfl
  generalize s.heap.push { cls := .type "list_iterator", data := .fields #[.ref D, .int 0 0] } = h₃ at F2 hI0 N2 t2 ⊢
  generalize s.heap.objs.size = I at fI F2 hI0 nI I24 ⊢
  clear F N
  have DI : D ≠ I := nI (D, _) (.tail _ (.head _))
  refine for_walks (Walks.list (hA.deeper _).handled I D DI (os.map Value.ref).toArray) (fun i s' => ∃ h tk d m', s' = { s with heap := h, toks := tk, drawn := d } ∧ Fr b L h m' ∧ (∀ z : Str, z ≠ "parts" → z ≠ "part" → m' z = m z) ∧ Tab24 h ∧
      News b L h ((L + 1, oc) :: (D, W.listOf (os.map Value.ref).toArray cD) :: (38, tabObj #[]) :: rest) ∧ h.IsListIter I D i) ?h0 ⟨⟨_, hI0, rfl, rfl⟩, hlD N2⟩ ?turn ?done
  case h0 => exact ⟨h₃, _, _, _, rfl, F2, fun _ _ _ => rfl, t2, N2, ⟨_, hI0, rfl, rfl⟩⟩
  case done =>
    rintro _ h' tk' ⟨h₉, tk, d, m', rfl, F, hm, t9, N, hIt⟩ hk
    obtain ⟨oI, hoI, _, hdI⟩ := hIt
    obtain ⟨o', c₂, o₂, g1, g2, g3, g4, g5⟩ := tab_led F.keep G.n24 t9 (zs := [I]) (by
      intro a ha
      obtain rfl := List.mem_singleton.mp ha
      exact ⟨_, hoI, fun vs t e => by rw [hdI] at e; cases e; simp⟩) (by simpa using I24.symm)
    have F' := fr_but F hk (by simpa using fI.1) (by simpa using fI.2.symm)
    exact h h' _ _ m' F' hm (g5 h' F'.keep (hk _ _ (by simpa using I24.symm) g1) (hk _ _ (by simpa using g4) g2)) (news_but N hk (by simpa using nI))
  case turn =>
    rintro i v _ h' tk' hi hP ⟨h₉, tk, d, m', rfl, F, hm, t9, N, hIt⟩ hst hk Q₁ hn₁ _
    obtain ⟨oI0, hoI0, _, hdI0⟩ := hIt
    obtain ⟨⟨oI, hoI, hoIc, hdI⟩, _⟩ := id hst
    have Ldat : ∃ o, h₉.get? L = some o ∧ ∀ vs t, o.data = .fields vs → vs[1]? ≠ some (.str QI t) := by
      obtain ⟨o3, es, ep, q6, q6', _⟩ := F.ns
      exact ⟨_, q6, fun vs t e => by rw [q6'] at e; cases e⟩
    obtain ⟨o', c₂, o₂, g1, g2, g3, g4, g5⟩ := tab_led F.keep G.n24 t9 (zs := [L, I]) (by
      intro a ha
      simp only [List.mem_cons, List.not_mem_nil, or_false] at ha
      rcases ha with rfl | rfl
      · exact Ldat
      · exact ⟨_, hoI0, fun vs t e => by rw [hdI0] at e; cases e; simp⟩) (by simp [L24.symm, I24.symm])
    simp only [List.mem_cons, List.not_mem_nil, or_false, not_or] at g4
    have F' := fr_but F hk (by simpa using fI.1) (by simpa using fI.2.symm)
    have N' := news_cons (hk _ _ (by simpa using I24.symm) g1) L24.symm G.n24 (news_cons (hk _ _ (by simpa using g4.2) g2) g4.1 g3 (news_cons hoI fI.2 fI.1 (news_but N hk (by simpa using nI))))
    have hio : i < os.length := by simpa using hi
    have hin : i < names.length := hcut.1 ▸ hio
    obtain ⟨a, vs, k, ha, har, hS⟩ := hcut.2 i names[i] (List.getElem?_eq_getElem hin)
    have hv : v = .ref a := by
      simp only [List.getElem?_toArray, List.getElem?_map, ha, Option.map_some, Option.some.injEq] at hP
      exact hP.symm
    subst hv
    have hng := hnames _ (List.getElem_mem hin)
    generalize names[i] = p at hS hng
    have em : m' = fun z : Str => if z = "parts" then m' "parts" else if z = "part" then m' "part" else m z := by
      funext z
      by_cases h1 : z = "parts"
      · subst h1; simp
      · by_cases h2 : z = "part"
        · subst h2; simp [h1]
        · simp [h1, h2, hm z h1 h2]
    rw [em] at F'
    generalize m' "parts" = v1, m' "part" = v2 at F'
    clear F hm N hk em g1 g2 t9 hst
    refine wpAny_assign_Name ?_
    (first | repeat' (first | ((fail_if_success (first | with_reducible show wpAny _ _ (binaryOp Operator.Add (Value.str _ _) _) _ _ _ | with_reducible show wpAny _ _ (call (Value.ref _) _) _ _ _ | with_reducible show wpAny _ _ (exec (Stmt.For _ _ _ _ _) _) _ _ _)); (first | (first | (with_reducible show wpAny _ _ _ _ _ _) | (with_reducible show (if _ then _ else _)) | (with_reducible show Frag.In _ _ ∧ _) | (with_reducible show KdsFill _ _ _ _ _ _ _ _)) | (dsimp only; (first | (with_reducible show wpAny _ _ _ _ _ _) | (with_reducible show (if _ then _ else _)) | (with_reducible show Frag.In _ _ ∧ _) | (with_reducible show KdsFill _ _ _ _ _ _ _ _)))); (first | walk1 | (dsimp only; walk1)))))
    refine wpAny_For (target := .Name _ _) ?_
    (first | repeat' (first | ((fail_if_success (first | with_reducible show wpAny _ _ (binaryOp Operator.Add (Value.str _ _) _) _ _ _ | with_reducible show wpAny _ _ (call (Value.ref _) _) _ _ _ | with_reducible show wpAny _ _ (exec (Stmt.For _ _ _ _ _) _) _ _ _)); (first | (first | (with_reducible show wpAny _ _ _ _ _ _) | (with_reducible show (if _ then _ else _)) | (with_reducible show Frag.In _ _ ∧ _) | (with_reducible show KdsFill _ _ _ _ _ _ _ _)) | (dsimp only; (first | (with_reducible show wpAny _ _ _ _ _ _) | (with_reducible show (if _ then _ else _)) | (with_reducible show Frag.In _ _ ∧ _) | (with_reducible show KdsFill _ _ _ _ _ _ _ _)))); (first | walk1 | (dsimp only; walk1)))))
    rename Fr _ _ _ _ => F₁; rename News _ _ _ _ => N₁
    rename_i h₁
    have har1 : h₁.get? a = some (W.listOf vs.toArray k) := (N₁ _ (.tail _ (.tail _ (.tail _ (.tail _ (.tail _ (.tail _ har))))))).1
    have hla : ∀ {h : Heap} {z₁ z₂ z₃ z₄ : Addr × Obj}, News b L h (z₁ :: z₂ :: z₃ :: z₄ :: rest) → h.IsList a vs.toArray := fun N => ⟨_, (N _ (.tail _ (.tail _ (.tail _ (.tail _ har))))).1, rfl, _, rfl⟩
    refine wpAny_pyIter_list (⟨_, har1, rfl, _, rfl⟩ : h₁.IsList a vs.toArray) ?_
    have fJ := fresh_of F₁ (Nat.le_refl h₁.objs.size)
    have nJ : ∀ p ∈ ((24, o') :: (c₂, o₂) :: (I, oI) :: (L + 1, oc) :: (D, W.listOf (os.map Value.ref).toArray cD) :: (38, tabObj #[]) :: rest), p.1 ≠ h₁.objs.size := fun p hp => Nat.ne_of_lt (Heap.lt_size (N₁ p hp).1)
    have aJ : a ≠ h₁.objs.size := Nat.ne_of_lt (Heap.lt_size har1)
    have F3 := F₁.push { cls := .type "list_iterator", data := .fields #[.ref a, .int 0 0] }
    have N3 : News b L (h₁.push { cls := .type "list_iterator", data := .fields #[.ref a, .int 0 0] }) _ := news_kp N₁ fun b o e => Heap.get?_push_of_some _ e
    have t3 := g5 (h₁.push { cls := .type "list_iterator", data := .fields #[.ref a, .int 0 0] }) F3.keep (N3 (24, o') (.head _)).1 (N3 (c₂, o₂) (.tail _ (.head _))).1
    have N3' := news_tail (news_tail N3)
    have hJ0 : (h₁.push { cls := .type "list_iterator", data := .fields #[.ref a, .int 0 0] }).get? h₁.objs.size = some { cls := .type "list_iterator", data := .fields #[.ref a, .int 0 0] } := Heap.get?_push_size _ rfl
    generalize h₁.push { cls := .type "list_iterator", data := .fields #[.ref a, .int 0 0] } = h₄ at F3 hJ0 N3' t3 ⊢
    generalize h₁.objs.size = J at fJ F3 hJ0 nJ aJ ⊢
    have J24 : J ≠ 24 := (nJ (24, o') (.head _)).symm
    replace nJ := fun p hp => nJ p (.tail _ (.tail _ hp))
    clear F₁ N₁ N3 g3 g5 g4 har1
    have l24 : ∀ p ∈ ((I, oI) :: (L + 1, oc) :: (D, W.listOf (os.map Value.ref).toArray cD) :: (38, tabObj #[]) :: rest), p.1 ≠ 24 := fun p hp => by
      simp only [List.mem_cons] at hp
      rcases hp with rfl | rfl | rfl | rfl | hp
      · exact I24
      · exact c24
      · exact D24
      · exact (by decide : ¬ (38 : Nat) = 24)
      · exact r24 p hp
    obtain ⟨led, hled⟩ : ∃ led, led = ((I, oI) :: (L + 1, oc) :: (D, W.listOf (os.map Value.ref).toArray cD) :: (38, tabObj #[]) :: rest) := ⟨_, rfl⟩
    have hold : ∀ {h : Heap}, News b L h led → News b L h ((I, oI) :: (L + 1, oc) :: (D, W.listOf (os.map Value.ref).toArray cD) :: (38, tabObj #[]) :: rest) := fun N => hled ▸ N
    rw [← hled] at N3' l24
    replace nJ : ∀ p ∈ led, p.1 ≠ J := fun p hp => nJ p (by rw [hled] at hp; exact hp)
    replace hla : ∀ {h : Heap}, News b L h led → h.IsList a vs.toArray := fun N => hla (hold N)
    clear hled
    refine for_walks (Walks.list (hA.deeper _).handled J a aJ vs.toArray) (fun j s' => ∃ h tk d m', s' = { s with heap := h, toks := tk, drawn := d } ∧ Fr b L h m' ∧ (∀ z : Str, z ≠ "parts" → z ≠ "part" → m' z = m z) ∧ Tab24 h ∧
      News b L h led ∧ h.IsListIter J a j) ?h0 ⟨⟨_, hJ0, rfl, rfl⟩, hla N3'⟩ ?turn ?done
    case h0 => exact ⟨h₄, _, _, _, rfl, F3, fun z h1 h2 => by simp [h1, h2], t3, N3', ⟨_, hJ0, rfl, rfl⟩⟩
    case done =>
      rintro _ h' tk' ⟨h₉, tk, d, m', rfl, F, hm, t9, N, hIt⟩ hk
      obtain ⟨oJ, hoJ, _, hdJ⟩ := hIt
      obtain ⟨o', c₂, o₂, g1, g2, g3, g4, g5⟩ := tab_led F.keep G.n24 t9 (zs := [J]) (by
        intro a ha
        obtain rfl := List.mem_singleton.mp ha
        exact ⟨_, hoJ, fun vs t e => by rw [hdJ] at e; cases e; simp⟩) (by simpa using J24.symm)
      have F' := fr_but F hk (by simpa using fJ.1) (by simpa using fJ.2.symm)
      have N' := hold (news_but N hk (fun p hp => by simp only [List.mem_singleton]; exact nJ p hp))
      refine wpAny_execs_nil ?_
      refine hn₁ _ ⟨h', _, _, m', rfl, F', hm, g5 h' F'.keep (hk _ _ (by simpa using J24.symm) g1) (hk _ _ (by simpa using g4) g2), news_tail N', ⟨oI, (N' (I, oI) (.head _)).1, hoIc, hdI⟩⟩ ⟨⟨oI, (N' (I, oI) (.head _)).1, hoIc, hdI⟩, hlD (news_tail N')⟩
    case turn =>
      rintro j v _ h' tk' hj hP ⟨h₉, tk, d, m', rfl, F, hm, t9, N, hIt⟩ hst hk Q₂ hn₂ _
      obtain ⟨oJ0, hoJ0, _, hdJ0⟩ := hIt
      obtain ⟨⟨oJ, hoJ, hoJc, hdJ⟩, _⟩ := id hst
      have Ldat : ∃ o, h₉.get? L = some o ∧ ∀ vs t, o.data = .fields vs → vs[1]? ≠ some (.str QI t) := by
        obtain ⟨o3, es, ep, q6, q6', _⟩ := F.ns
        exact ⟨_, q6, fun vs t e => by rw [q6'] at e; cases e⟩
      obtain ⟨o', c₂, o₂, g1, g2, g3, g4, g5⟩ := tab_led F.keep G.n24 t9 (zs := [L, J]) (by
        intro a ha
        simp only [List.mem_cons, List.not_mem_nil, or_false] at ha
        rcases ha with rfl | rfl
        · exact Ldat
        · exact ⟨_, hoJ0, fun vs t e => by rw [hdJ0] at e; cases e; simp⟩) (by simp [L24.symm, J24.symm])
      simp only [List.mem_cons, List.not_mem_nil, or_false, not_or] at g4
      have F' := fr_but F hk (by simpa using fJ.1) (by simpa using fJ.2.symm)
      have N' := news_cons (hk _ _ (by simpa using J24.symm) g1) L24.symm G.n24 (news_cons (hk _ _ (by simpa using g4.2) g2) g4.1 g3 (news_cons hoJ fJ.2 fJ.1 (news_but N hk (fun p hp => by simp only [List.mem_singleton]; exact nJ p hp))))
      obtain ⟨x, tx, hx1, rfl⟩ := strs_get hS (by simpa using hP)
      rw [List.getElem?_map] at hx1
      obtain ⟨q, hq, rfl⟩ := Option.map_eq_some_iff.mp hx1
      have kq := pieces_good hng q (List.mem_of_getElem? hq)
      have em : m' = fun z : Str => if z = "parts" then m' "parts" else if z = "part" then m' "part" else m z := by
        funext z
        by_cases h1 : z = "parts"
        · subst h1; simp
        · by_cases h2 : z = "part"
          · subst h2; simp [h1]
          · simp [h1, h2, hm z h1 h2]
      rw [em] at F'
      generalize m' "parts" = v1, m' "part" = v2 at F'
      clear F hm N hk em g1 g2 t9 hst
      obtain ⟨a0, pr, rfl⟩ := List.exists_cons_of_ne_nil kq.ne
      have hita : Txt.item (mk (a0 :: pr)) 0 = ch a0 := item_head a0 pr
      have ha1 : a0 < 128 := kq.asc a0 (by simp)
      refine wpAny_assign_Name ?_
      (first | repeat' (first | ((fail_if_success (first | with_reducible show wpAny _ _ (binaryOp Operator.Add (Value.str _ _) _) _ _ _ | with_reducible show wpAny _ _ (call (Value.ref _) _) _ _ _ | with_reducible show wpAny _ _ (exec (Stmt.For _ _ _ _ _) _) _ _ _)); (first | (first | (with_reducible show wpAny _ _ _ _ _ _) | (with_reducible show (if _ then _ else _)) | (with_reducible show Frag.In _ _ ∧ _) | (with_reducible show KdsFill _ _ _ _ _ _ _ _)) | (dsimp only; (first | (with_reducible show wpAny _ _ _ _ _ _) | (with_reducible show (if _ then _ else _)) | (with_reducible show Frag.In _ _ ∧ _) | (with_reducible show KdsFill _ _ _ _ _ _ _ _)))); (first | walk1 | (dsimp only; walk1)))))
      · rename Fr _ _ _ _ => F₅; rename News _ _ _ _ => N₅
        have N₆ := news_tail (news_tail (news_tail N₅))
        exact hn₂ _ ⟨_, _, _, _, rfl, F₅, fun z h1 h2 => by simp [h1, h2], g5 _ F₅.keep (N₅ _ (.head _)).1 (N₅ _ (.tail _ (.head _))).1, N₆, ⟨oJ, (N₅ (J, oJ) (.tail _ (.tail _ (.head _)))).1, hoJc, hdJ⟩⟩ ⟨⟨oJ, (N₅ (J, oJ) (.tail _ (.tail _ (.head _)))).1, hoJc, hdJ⟩, hla N₆⟩
      · rename_i qq
        rename Fr _ _ _ _ => F₅; rename News _ _ _ _ => N₅
        rw [hita, fig_in a0 ha1] at qq
        have fa : isFig a0 = true := by simpa using qq
        have figa : Figs (a0 :: pr) := (kq.kind.resolve_right (fun x => by have := x.1; simp [fa] at this)).2
        have hal := kq.len
        refine SB.add (fun t₆ k₆ => ?_) ?hz
        case hz =>
          show (a0 :: pr).length + 1 ≤ sizeLine
          rw [sizeLine_eq]; omega
        have eadd : (mk (a0 :: pr) ++ Str.ofString " " : Str) = mk (a0 :: pr ++ [32]) := by
          rw [show Str.ofString " " = mk [32] from by decide +kernel, mk_append]
        dsimp only
        rw [eadd]
        (first | repeat' (first | ((fail_if_success (first | with_reducible show wpAny _ _ (binaryOp Operator.Add (Value.str _ _) _) _ _ _ | with_reducible show wpAny _ _ (call (Value.ref _) _) _ _ _ | with_reducible show wpAny _ _ (exec (Stmt.For _ _ _ _ _) _) _ _ _)); (first | (first | (with_reducible show wpAny _ _ _ _ _ _) | (with_reducible show (if _ then _ else _)) | (with_reducible show Frag.In _ _ ∧ _) | (with_reducible show KdsFill _ _ _ _ _ _ _ _)) | (dsimp only; (first | (with_reducible show wpAny _ _ _ _ _ _) | (with_reducible show (if _ then _ else _)) | (with_reducible show Frag.In _ _ ∧ _) | (with_reducible show KdsFill _ _ _ _ _ _ _ _)))); (first | walk1 | (dsimp only; walk1)))))
        rename Fr _ _ _ _ => F₅; rename News _ _ _ _ => N₅
        refine intFrom_spec G F₅.keep (hA.deeper _) (by omega) (g5 _ F₅.keep (N₅ _ (.head _)).1 (N₅ _ (.tail _ (.head _))).1) figa ⟨a0, .head _, fa⟩ hal (.inr (by simp)) ?_
        intro h₇ tk₇ d₇ t₇ hx₇ T₇
        have F₇ := fr_but (wr := [24]) F₅ (fun b o hb e => hx₇ b o (by simpa using hb) e) (by simpa using G.n24) (by simpa using L24)
        have N₇ := news_but (wr := [24]) (news_tail (news_tail N₅)) (fun b o hb e => hx₇ b o (by simpa using hb) e) (fun p hp => by
          simp only [List.mem_singleton]
          simp only [List.mem_cons] at hp
          rcases hp with rfl | hp
          · exact J24
          · exact l24 p hp)
        obtain ⟨oL7, es7, ep7, eL7, eL7', _⟩ := F₇.ns
        obtain ⟨o₇, c₇, oc₇, r1, r2, r3, r4, r5⟩ := tab_led F₇.keep G.n24 T₇ (zs := [L, J]) (by
          intro a ha
          simp only [List.mem_cons, List.not_mem_nil, or_false] at ha
          rcases ha with rfl | rfl
          · exact ⟨_, eL7, fun vs t e => by rw [eL7'] at e; cases e⟩
          · exact ⟨_, (N₇ (_, oJ) (.head _)).1, fun vs t e => by rw [hdJ] at e; cases e; simp⟩) (by simp [L24.symm, J24.symm])
        simp only [List.mem_cons, List.not_mem_nil, or_false, not_or] at r4
        have N₇ := news_cons r1 L24.symm G.n24 (news_cons r2 r4.1 r3 N₇)
        clear F₅ N₅ g3 g4 g5 r1 r2 r3 r4 eL7
        (first | repeat' (first | ((fail_if_success (first | with_reducible show wpAny _ _ (binaryOp Operator.Add (Value.str _ _) _) _ _ _ | with_reducible show wpAny _ _ (call (Value.ref _) _) _ _ _ | with_reducible show wpAny _ _ (exec (Stmt.For _ _ _ _ _) _) _ _ _)); (first | (first | (with_reducible show wpAny _ _ _ _ _ _) | (with_reducible show (if _ then _ else _)) | (with_reducible show Frag.In _ _ ∧ _) | (with_reducible show KdsFill _ _ _ _ _ _ _ _)) | (dsimp only; (first | (with_reducible show wpAny _ _ _ _ _ _) | (with_reducible show (if _ then _ else _)) | (with_reducible show Frag.In _ _ ∧ _) | (with_reducible show KdsFill _ _ _ _ _ _ _ _)))); (first | walk1 | (dsimp only; walk1)))))
        rename Fr _ _ _ _ => F₈; rename News _ _ _ _ => N₈
        refine reduce_spec (X1.keeps F₈.keep) (T1.keeps F₈.keep) (hA.deeper _) (by omega) (fun c hc => figa c hc) (by rw [List.size_toArray]; exact hal) fun h₉ tk₉ t₉ hk₉ => ?_
        have F₉ := fr_kp F₈ hk₉
        have N₉ := news_kp N₈ hk₉
        clear F₈ N₈
        (first | repeat' (first | ((fail_if_success (first | with_reducible show wpAny _ _ (binaryOp Operator.Add (Value.str _ _) _) _ _ _ | with_reducible show wpAny _ _ (call (Value.ref _) _) _ _ _ | with_reducible show wpAny _ _ (exec (Stmt.For _ _ _ _ _) _) _ _ _)); (first | (first | (with_reducible show wpAny _ _ _ _ _ _) | (with_reducible show (if _ then _ else _)) | (with_reducible show Frag.In _ _ ∧ _) | (with_reducible show KdsFill _ _ _ _ _ _ _ _)) | (dsimp only; (first | (with_reducible show wpAny _ _ _ _ _ _) | (with_reducible show (if _ then _ else _)) | (with_reducible show Frag.In _ _ ∧ _) | (with_reducible show KdsFill _ _ _ _ _ _ _ _)))); (first | walk1 | (dsimp only; walk1)))))
        · rename_i hne
          exact absurd rfl hne
        · rename Fr _ _ _ _ => F₅; rename News _ _ _ _ => N₅
          have N₆ := news_tail (news_tail (news_tail N₅))
          exact hn₂ _ ⟨_, _, _, _, rfl, F₅, fun z h1 h2 => by simp [h1, h2], r5 _ F₅.keep (N₅ _ (.head _)).1 (N₅ _ (.tail _ (.head _))).1, N₆, ⟨oJ, (N₅ (J, oJ) (.tail _ (.tail _ (.head _)))).1, hoJc, hdJ⟩⟩ ⟨⟨oJ, (N₅ (J, oJ) (.tail _ (.tail _ (.head _)))).1, hoJc, hdJ⟩, hla N₆⟩
end Mine
end
section
open PySem PySem.W PySem.Calls PyProof.Rows PySem.Builtin.Str PySem.SeqAt
set_option maxRecDepth 100000
set_option maxHeartbeats 8000000
namespace Mine
variable {w : World} {A : Around} {E : Value → Shared → Prop} {s : Shared} {loose : List Str} {mean : ExcName → Option Value} {mg mb : Str → Option Value} {n : Nat}
theorem item_at {prog : Program} {value slice : PySem.Expr} {l : Addr} {vs : List Value} {k : Nat} {u : Tok} {v : Value} {Q : Value → Shared → Prop}
    (hl : s.heap.IsList l vs.toArray) (hhi : k < 1000) (hx : vs[k]? = some v) (h : Q v s)
    (hs : subscripted slice false (.ref l) (.int k u) = operate [.ref l, .int k u] (getItem (.ref l) (.int k u)) := by with_unfolding_all rfl) :
    wpAny (model prog w) A (subscriptTail value slice (.ref l) (.int k u)) Q E s :=
  tail_any hl.typeIs slot_list_getitem.lookup (wpAny_getItem_list hl (Int.natCast_nonneg k) (by omega) (by simpa using hx) h) hs
/-- an item that is one new object -/
noncomputable def One (O : Nat → Obj → Prop) (i : Nat) (y : Value) (nw : List (Addr × Obj)) : Prop := ∃ T o, O i o ∧ y = .ref T ∧ nw = [(T, o)]
theorem ones_refs {O : Nat → Obj → Prop} {ys : List Value} {rest : List (Addr × Obj)} (hG : ∀ (i : Nat) y, ys[i]? = some y → ∃ nw, One O i y nw ∧ ∀ p ∈ nw, p ∈ rest) :
    ∃ ts : List Addr, ys = ts.map Value.ref ∧ ∀ (i : Nat) T, ts[i]? = some T → ∃ o, O i o ∧ (T, o) ∈ rest := by
  refine ⟨ys.map (fun v => match v with | .ref a => a | _ => 0), ?_, fun i T hT => ?_⟩
  · rw [List.map_map]
    refine (List.map_id ys).symm.trans (List.map_congr_left fun y hy => ?_)
    obtain ⟨i, hi⟩ := List.getElem?_of_mem hy
    obtain ⟨_, ⟨a, o, _, rfl, _⟩, _⟩ := hG i y hi
    rfl
  · rw [List.getElem?_map] at hT
    obtain ⟨y, hy, hT⟩ := Option.map_eq_some_iff.mp hT
    obtain ⟨nw, ⟨a, o, hO, rfl, rfl⟩, hr⟩ := hG i y hy
    obtain rfl : a = T := hT
    exact ⟨o, hO, hr _ (.head _)⟩
theorem things_spec {b : Heap} {L D : Addr} {oc : Obj} {cD : Nat} {os : List Addr} {news : List (Addr × Obj)} {m : Str → Option Value} {Q : Flow → Shared → Prop}
    (X1 : (K0 w.params).In b) (T1 : Top topProg loose mean mg mb b) (hA : Am A n) (F : Fr b L s.heap m) (N : News b L s.heap ((L + 1, oc) :: (D, W.listOf (os.map Value.ref).toArray cD) :: news))
    (hcd : oc.data = .cell (some (.ref D))) (hlen : os.length < 64)
    (h : ∀ h' tk (ts : List Addr) D₂ c₂ rest₂, Fr b L h' (fun z => if z = "things" then some (.ref D₂) else m z) → News b L h' ((D₂, W.listOf (ts.map Value.ref).toArray c₂) :: (L + 1, oc) :: (D, W.listOf (os.map Value.ref).toArray cD) :: news) →
      News b L h' rest₂ → ts.length = os.length → (∀ p ∈ rest₂, p.1 ≠ D₂ ∧ s.heap.get? p.1 = none) → s.heap.get? D₂ = none → (∀ (i : Nat) T, ts[i]? = some T → ∃ a t, os[i]? = some a ∧ (T, tupQ (.ref a) (.int i t)) ∈ rest₂) → Q .next {s with heap := h', toks := tk}) :
    wpAny (model PR w) (A.deeper (lawEnv L)) (exec (lawBody.getD 3 (.Pass default)) (lawEnv L)) Q (fun _ _ => False) s := by
  refine assign_comp (x := "i") (y := "things") (cl := [("cut", L + 1)]) rfl rfl (by decide) rfl (by decide) rfl rfl rfl ?_
  (first | repeat' (first | ((fail_if_success (first | with_reducible show wpAny _ _ (subscriptTail _ _ (Value.ref _) _) _ _ _ | with_reducible show wpAny _ _ (call (Value.builtin "sorted") _ _) _ _ _ | with_reducible show wpAny _ _ (call (Value.builtin "len") _) _ _ _ | with_reducible show wpAny _ _ (call (Value.type "range") _) _ _ _ | with_reducible show wpAny _ _ (call (Value.ref _) _) _ _ _ | with_reducible show wpAny _ _ (exec (Stmt.Assign [Expr.Name (Str.ofString "things") _] (Expr.ListComp _ _ _ _) _) _) _ _ _ | with_reducible show wpAny _ _ (eval (Expr.ListComp _ _ _ _) _) _ _ _)); (first | (first | (with_reducible show wpAny _ _ _ _ _ _) | (with_reducible show (if _ then _ else _)) | (with_reducible show Frag.In _ _ ∧ _) | (with_reducible show KdsFill _ _ _ _ _ _ _ _)) | (dsimp only; (first | (with_reducible show wpAny _ _ _ _ _ _) | (with_reducible show (if _ then _ else _)) | (with_reducible show Frag.In _ _ ∧ _) | (with_reducible show KdsFill _ _ _ _ _ _ _ _)))); (first | walk1 | (dsimp only; walk1)))))
  have hld : ∀ {h : Heap}, News b L h ((L + 1, oc) :: (D, W.listOf (os.map Value.ref).toArray cD) :: news) → h.IsList D (os.map Value.ref).toArray := fun N => ⟨_, (N _ (.tail _ (.head _))).1, rfl, _, rfl⟩
  have hsz : (os.map Value.ref).toArray.size = os.length := by simp
  refine len_list (hld N) (by rw [hsz]; omega) ?_
  rw [hsz]
  (first | repeat' (first | ((fail_if_success (first | with_reducible show wpAny _ _ (subscriptTail _ _ (Value.ref _) _) _ _ _ | with_reducible show wpAny _ _ (call (Value.builtin "sorted") _ _) _ _ _ | with_reducible show wpAny _ _ (call (Value.builtin "len") _) _ _ _ | with_reducible show wpAny _ _ (call (Value.type "range") _) _ _ _ | with_reducible show wpAny _ _ (call (Value.ref _) _) _ _ _ | with_reducible show wpAny _ _ (exec (Stmt.Assign [Expr.Name (Str.ofString "things") _] (Expr.ListComp _ _ _ _) _) _) _ _ _ | with_reducible show wpAny _ _ (eval (Expr.ListComp _ _ _ _) _) _ _ _)); (first | (first | (with_reducible show wpAny _ _ _ _ _ _) | (with_reducible show (if _ then _ else _)) | (with_reducible show Frag.In _ _ ∧ _) | (with_reducible show KdsFill _ _ _ _ _ _ _ _)) | (dsimp only; (first | (with_reducible show wpAny _ _ _ _ _ _) | (with_reducible show (if _ then _ else _)) | (with_reducible show Frag.In _ _ ∧ _) | (with_reducible show KdsFill _ _ _ _ _ _ _ _)))); (first | walk1 | (dsimp only; walk1)))))
  refine range1_rows F N (fun h₁ tk₁ t₁ u₁ v₁ hr₁ F₁ N₁ k₁ => ?_)
  clear F N
  (first | repeat' (first | ((fail_if_success (first | with_reducible show wpAny _ _ (subscriptTail _ _ (Value.ref _) _) _ _ _ | with_reducible show wpAny _ _ (call (Value.builtin "sorted") _ _) _ _ _ | with_reducible show wpAny _ _ (call (Value.builtin "len") _) _ _ _ | with_reducible show wpAny _ _ (call (Value.type "range") _) _ _ _ | with_reducible show wpAny _ _ (call (Value.ref _) _) _ _ _ | with_reducible show wpAny _ _ (exec (Stmt.Assign [Expr.Name (Str.ofString "things") _] (Expr.ListComp _ _ _ _) _) _) _ _ _ | with_reducible show wpAny _ _ (eval (Expr.ListComp _ _ _ _) _) _ _ _)); (first | (first | (with_reducible show wpAny _ _ _ _ _ _) | (with_reducible show (if _ then _ else _)) | (with_reducible show Frag.In _ _ ∧ _) | (with_reducible show KdsFill _ _ _ _ _ _ _ _)) | (dsimp only; (first | (with_reducible show wpAny _ _ _ _ _ _) | (with_reducible show (if _ then _ else _)) | (with_reducible show Frag.In _ _ ∧ _) | (with_reducible show KdsFill _ _ _ _ _ _ _ _)))); (first | walk1 | (dsimp only; walk1)))))
  refine overA_range (L := L) rfl (hA.deeper _).handled hr₁ hlen (One fun i o => ∃ a t, os[i]? = some a ∧ o = tupQ (.ref a) (.int i t)) F₁ N₁ ?helt ?hq
  case helt =>
    rintro C i v s₃ m₃ hi ⟨t, rfl⟩ F₃ hm₃
    rw [canon1 hm₃ (fun _ _ => rfl)] at F₃
    dsimp only at F₃
    have N₃ := nilN F₃
    have X3 := X1.keeps F₁.keep
    have T3 := T1.keeps F₁.keep
    have hc₃ : s₃.heap.IsCell (L + 1) (some (.ref D)) := ⟨oc, F₃.keep _ _ (N₁ (_, oc) (.head _)).1, hcd⟩
    have hl₃ : s₃.heap.IsList D (os.map Value.ref).toArray := ⟨_, F₃.keep _ _ (N₁ (D, _) (.tail _ (.head _))).1, rfl, _, rfl⟩
    clear F₁ N₁ X1 T1
    walk1
    walk1
    walk1
    all_goals (try k_data)
    refine wpAny_Name (wpAny_loadName_cell rfl rfl rfl hc₃ ?_)
    refine wpAny_Name (wpAny_loadName_local rfl rfl F₃.ns (v := .int i t) (by simp) ?_)
    obtain ⟨a, ha⟩ : ∃ a, os[i]? = some a := ⟨_, List.getElem?_eq_getElem hi⟩
    refine item_at hl₃ (Nat.lt_trans hi (Nat.lt_trans hlen (by decide))) (v := .ref a) (by rw [List.getElem?_map, ha]; rfl) ?_
    walk1
    walk1
    all_goals (try k_data)
    walk1
    refine wpAny_newTuple ?_ (by show 2 ≤ sizeLine; rw [sizeLine_eq]; omega)
    refine ⟨⟨[(_, tupQ (.ref a) (.int i t))], ⟨_, _, ⟨a, t, ha, rfl⟩, rfl, rfl⟩, fun p hp => ?_⟩, _, _, rfl, fun b o e => Heap.get?_push_of_some _ e⟩
    obtain rfl := List.mem_singleton.mp hp
    exact ⟨Heap.get?_none_of_le (Nat.le_refl _), Heap.get?_push_size _ rfl⟩
  case hq =>
    intro D₂ c₂ h₂ tk₂ ys rest₂ k₂ F₂ N₂ R₂ hl₂ hr₂ hG₂ hD₂
    obtain ⟨ts, rfl, hts⟩ := ones_refs hG₂
    rw [List.length_map] at hl₂
    refine h h₂ tk₂ ts D₂ c₂ rest₂ F₂ N₂ R₂ hl₂ (fun p hp => ⟨(hr₂ p hp).1, none_back k₁ (hr₂ p hp).2⟩) (none_back k₁ hD₂) fun i T hT => ?_
    obtain ⟨o, ⟨a, t, ha, rfl⟩, ho⟩ := hts i T hT
    exact ⟨a, t, ha, ho⟩
end Mine
end
section
open PySem PySem.W PySem.Calls PyProof.Rows PySem.Builtin.Str PySem.SeqAt
set_option maxRecDepth 100000
set_option maxHeartbeats 8000000
namespace Mine
variable {w : World} {A : Around} {E : Value → Shared → Prop} {s : Shared} {loose : List Str} {mean : ExcName → Option Value} {mg mb : Str → Option Value} {n : Nat}
theorem Item.but38 {h h' : Heap} {o : Addr} {ps : List (List Nat)} (I : Item h o ps) (t : h.get? 38 = some (tabObj #[])) (e : Heap.ExtBut 38 h h') : Item h' o ps := by
  obtain ⟨⟨l, n, vs, k, h1, h2, h3⟩, h4, h5⟩ := I
  exact ⟨⟨l, n, vs, k, e _ _ (fun q => by rw [q, t] at h1; cases h1) h1, e _ _ (fun q => by rw [q, t] at h2; cases h2) h2, h3⟩, h4, h5⟩
theorem told_stmt {b : Heap} {L D : Addr} {cD : Nat} {ts : List Addr} {pss : List (List (List Nat))} {news : List (Addr × Obj)} {m : Str → Option Value} {Q : Flow → Shared → Prop}
    (S : Sys b) (G : Gd w loose mean mg mb b) (n38 : b.get? 38 = none) (hA : Am A n) (hn : n < 320) (F : Fr b L s.heap m) (hm : m "things" = some (.ref D)) (N : News b L s.heap ((38, tabObj #[]) :: (D, W.listOf (ts.map Value.ref).toArray cD) :: news))
    (t24 : Tab24 s.heap) (L24 : L ≠ 24) (L38 : L ≠ 38) (n24 : ∀ p ∈ (D, W.listOf (ts.map Value.ref).toArray cD) :: news, p.1 ≠ 24) (m38 : ∀ p ∈ (D, W.listOf (ts.map Value.ref).toArray cD) :: news, p.1 ≠ 38)
    (hlen : pss.length = ts.length) (h2 : 2 ≤ ts.length) (h64 : ts.length < 64) (hI : ∀ (i : Nat) o ps, ts[i]? = some o → pss[i]? = some ps → Item s.heap o ps) (O : Ord (ltP pss))
    (h : ∀ h' tk d D₃ c₃ c' (p : List Nat), Fr b L h' (fun z => if z = "told" then some (.ref D₃) else m z) → Tab24 h' → News b L h' ((D₃, W.listOf (p.map fun i => Value.ref (ts.getD i 0)).toArray c₃) :: (38, tabObj #[rawInt 59, rawInt 4, .ref c']) :: (D, W.listOf (ts.map Value.ref).toArray cD) :: news) →
      p.Perm (List.range ts.length) → p.Pairwise (R (ltP pss)) → D₃ ≠ 24 → Q .next {s with heap := h', toks := tk, drawn := d}) :
    wpAny (model PR w) (A.deeper (lawEnv L)) (exec (lawBody.getD 4 (.Pass default)) (lawEnv L)) Q (fun _ _ => False) s := by
  show wpAny _ _ (exec (Stmt.Assign [Expr.Name _ _] (Expr.Call _ _ _ _) _) _) _ _ _
  have X1 := G.X
  have T1 := G.T
  (first | repeat' (first | ((fail_if_success (first | with_reducible show wpAny _ _ (subscriptTail _ _ (Value.ref _) _) _ _ _ | with_reducible show wpAny _ _ (call (Value.builtin "sorted") _ _) _ _ _ | with_reducible show wpAny _ _ (call (Value.builtin "len") _) _ _ _ | with_reducible show wpAny _ _ (call (Value.type "range") _) _ _ _ | with_reducible show wpAny _ _ (call (Value.ref _) _) _ _ _ | with_reducible show wpAny _ _ (exec (Stmt.Assign [Expr.Name (Str.ofString "things") _] (Expr.ListComp _ _ _ _) _) _) _ _ _ | with_reducible show wpAny _ _ (eval (Expr.ListComp _ _ _ _) _) _ _ _)); (first | (first | (with_reducible show wpAny _ _ _ _ _ _) | (with_reducible show (if _ then _ else _)) | (with_reducible show Frag.In _ _ ∧ _) | (with_reducible show KdsFill _ _ _ _ _ _ _ _)) | (dsimp only; (first | (with_reducible show wpAny _ _ _ _ _ _) | (with_reducible show (if _ then _ else _)) | (with_reducible show Frag.In _ _ ∧ _) | (with_reducible show KdsFill _ _ _ _ _ _ _ _)))); (first | walk1 | (dsimp only; walk1)))))
  refine wpAny_Name (wpAny_loadName_local rfl rfl F.ns hm ?_)
  (first | repeat' (first | ((fail_if_success (first | with_reducible show wpAny _ _ (subscriptTail _ _ (Value.ref _) _) _ _ _ | with_reducible show wpAny _ _ (call (Value.builtin "sorted") _ _) _ _ _ | with_reducible show wpAny _ _ (call (Value.builtin "len") _) _ _ _ | with_reducible show wpAny _ _ (call (Value.type "range") _) _ _ _ | with_reducible show wpAny _ _ (call (Value.ref _) _) _ _ _ | with_reducible show wpAny _ _ (exec (Stmt.Assign [Expr.Name (Str.ofString "things") _] (Expr.ListComp _ _ _ _) _) _) _ _ _ | with_reducible show wpAny _ _ (eval (Expr.ListComp _ _ _ _) _) _ _ _)); (first | (first | (with_reducible show wpAny _ _ _ _ _ _) | (with_reducible show (if _ then _ else _)) | (with_reducible show Frag.In _ _ ∧ _) | (with_reducible show KdsFill _ _ _ _ _ _ _ _)) | (dsimp only; (first | (with_reducible show wpAny _ _ _ _ _ _) | (with_reducible show (if _ then _ else _)) | (with_reducible show Frag.In _ _ ∧ _) | (with_reducible show KdsFill _ _ _ _ _ _ _ _)))); (first | walk1 | (dsimp only; walk1)))))
  obtain ⟨hp, gs, dr, tk, osx⟩ := s
  dsimp only at F N t24 hI h ⊢
  have T24 := t24
  obtain ⟨oL, esL, epL, eL, eL', _⟩ := F.ns
  obtain ⟨o', c₂, o₂, g1, g2, g3, g4, g5⟩ := tab_led F.keep G.n24 t24 (zs := [L, 38]) (by
    intro a ha
    simp only [List.mem_cons, List.not_mem_nil, or_false] at ha
    rcases ha with rfl | rfl
    · exact ⟨_, eL, fun vs t e => by rw [eL'] at e; cases e⟩
    · exact ⟨_, (N (38, _) (.head _)).1, fun vs t e => by cases e; simp⟩) (by simp [L24.symm])
  simp only [List.mem_cons, List.not_mem_nil, or_false, not_or] at g4
  refine key_spec S X1 T1 n38 F.keep (hA.deeper _) (by omega) (N (38, _) (.head _)).1 fun h₁ K f1 f2 ds cl c' tk₁ x₁ e38 KA => ?_
  have k₁ : ∀ b o, b ∉ [38] → hp.get? b = some o → h₁.get? b = some o := fun b o hb e => x₁ b o (by simpa using hb) e
  have F₁ := fr_but (wr := [38]) F k₁ (by simpa using n38) (by simpa using L38)
  have N₁ := news_cons e38 L38.symm n38 (news_but (wr := [38]) (news_tail N) k₁ (fun p hp => by simp only [List.mem_singleton]; exact m38 p hp))
  have t₁ := g5 h₁ F₁.keep (k₁ _ _ (by simp) g1) (k₁ _ _ (by simpa using g4.2) g2)
  have I₁ : ∀ (i : Nat) o ps, ts[i]? = some o → pss[i]? = some ps → Item h₁ o ps := fun i o ps h1 h2 => (hI i o ps h1 h2).but38 (N (38, _) (.head _)).1 x₁
  clear F N t24 hI g1 g2 eL
  (first | repeat' (first | ((fail_if_success (first | with_reducible show wpAny _ _ (subscriptTail _ _ (Value.ref _) _) _ _ _ | with_reducible show wpAny _ _ (call (Value.builtin "sorted") _ _) _ _ _ | with_reducible show wpAny _ _ (call (Value.builtin "len") _) _ _ _ | with_reducible show wpAny _ _ (call (Value.type "range") _) _ _ _ | with_reducible show wpAny _ _ (call (Value.ref _) _) _ _ _ | with_reducible show wpAny _ _ (exec (Stmt.Assign [Expr.Name (Str.ofString "things") _] (Expr.ListComp _ _ _ _) _) _) _ _ _ | with_reducible show wpAny _ _ (eval (Expr.ListComp _ _ _ _) _) _ _ _)); (first | (first | (with_reducible show wpAny _ _ _ _ _ _) | (with_reducible show (if _ then _ else _)) | (with_reducible show Frag.In _ _ ∧ _) | (with_reducible show KdsFill _ _ _ _ _ _ _ _)) | (dsimp only; (first | (with_reducible show wpAny _ _ _ _ _ _) | (with_reducible show (if _ then _ else _)) | (with_reducible show Frag.In _ _ ∧ _) | (with_reducible show KdsFill _ _ _ _ _ _ _ _)))); (first | walk1 | (dsimp only; walk1)))))
  show wpAny _ _ (call (.builtin "sorted") [.ref D] [(Str.ofString "key", .ref K)]) _ _ _
  refine told_spec G F₁.keep (hA.deeper _) (by omega) t₁ KA (N₁ (D, _) (.tail _ (.head _))).1 hlen h2 h64 I₁ O fun h₃ tk₃ d₃ D₃ c₃ p x₃ t₃ n₃ e₃ hp₃ hr₃ => ?_
  have k₃ : ∀ b o, b ∉ [24] → h₁.get? b = some o → h₃.get? b = some o := fun b o hb e => x₃ b o (by simpa using hb) e
  have F₃ := fr_but (wr := [24]) F₁ k₃ (by simpa using G.n24) (by simpa using L24)
  have N₃ := news_but (wr := [24]) N₁ k₃ (fun p hp => by
    simp only [List.mem_singleton]
    rcases List.mem_cons.mp hp with rfl | hp
    · exact (by decide : ¬ (38 : Nat) = 24)
    · exact n24 p hp)
  have D3L : D₃ ≠ L := fun q => by obtain ⟨o, es, ep, e, _⟩ := F₁.ns; rw [q, e] at n₃; cases n₃
  have D3b : b.get? D₃ = none := none_back F₁.keep n₃
  obtain ⟨o24, e24⟩ := t₁.at
  have D324 : D₃ ≠ 24 := fun q => by rw [q, e24] at n₃; cases n₃
  have N₄ := news_cons e₃ D3L D3b N₃
  obtain ⟨oL3, esL3, epL3, eL3, eL3', _⟩ := F₃.ns
  obtain ⟨o₄, c₄, oc₄, r1, r2, r3, r4, r5⟩ := tab_led F₃.keep G.n24 t₃ (zs := [L]) (by
    intro a ha
    obtain rfl := List.mem_singleton.mp ha
    exact ⟨_, eL3, fun vs t e => by rw [eL3'] at e; cases e⟩) (by simpa using L24.symm)
  have N₅ := news_cons r1 L24.symm G.n24 (news_cons r2 (by simpa using r4) r3 N₄)
  clear F₁ N₁ N₃ N₄ I₁ eL3 r1 r2
  (first | repeat' (first | ((fail_if_success (first | with_reducible show wpAny _ _ (subscriptTail _ _ (Value.ref _) _) _ _ _ | with_reducible show wpAny _ _ (call (Value.builtin "sorted") _ _) _ _ _ | with_reducible show wpAny _ _ (call (Value.builtin "len") _) _ _ _ | with_reducible show wpAny _ _ (call (Value.type "range") _) _ _ _ | with_reducible show wpAny _ _ (call (Value.ref _) _) _ _ _ | with_reducible show wpAny _ _ (exec (Stmt.Assign [Expr.Name (Str.ofString "things") _] (Expr.ListComp _ _ _ _) _) _) _ _ _ | with_reducible show wpAny _ _ (eval (Expr.ListComp _ _ _ _) _) _ _ _)); (first | (first | (with_reducible show wpAny _ _ _ _ _ _) | (with_reducible show (if _ then _ else _)) | (with_reducible show Frag.In _ _ ∧ _) | (with_reducible show KdsFill _ _ _ _ _ _ _ _)) | (dsimp only; (first | (with_reducible show wpAny _ _ _ _ _ _) | (with_reducible show (if _ then _ else _)) | (with_reducible show Frag.In _ _ ∧ _) | (with_reducible show KdsFill _ _ _ _ _ _ _ _)))); (first | walk1 | (dsimp only; walk1)))))
  rename Fr _ _ _ _ => F₆; rename News _ _ _ _ => N₆
  exact h _ _ _ D₃ c₃ c' p F₆ (r5 _ F₆.keep (N₆ _ (.head _)).1 (N₆ _ (.tail _ (.head _))).1) (news_tail (news_tail N₆)) hp₃ hr₃ D324
end Mine
end
section
open PySem PySem.W PySem.Calls PyProof.Rows PySem.Builtin.Str PySem.SeqAt
set_option maxRecDepth 100000
set_option maxHeartbeats 8000000
namespace Mine
variable {w : World} {A : Around} {E : Value → Shared → Prop} {s : Shared} {loose : List Str} {mean : ExcName → Option Value} {mg mb : Str → Option Value} {n : Nat}
theorem due_stmt {b : Heap} {L D : Addr} {oc : Obj} {cD : Nat} {os : List Addr} {names : List (List Nat)} {news rest : List (Addr × Obj)} {m : Str → Option Value} {Q : Flow → Shared → Prop}
    (X1 : (K0 w.params).In b) (T1 : Top topProg loose mean mg mb b) (hA : Am A n) (hn : n < 320) (F : Fr b L s.heap m) (N : News b L s.heap ((L + 1, oc) :: (D, W.listOf (os.map Value.ref).toArray cD) :: news))
    (hcd : oc.data = .cell (some (.ref D))) (hcut : CutAt names os rest) (hrn : ∀ p ∈ rest, p ∈ news) (hnames : ∀ p ∈ names, NameG p) (h2 : 2 ≤ names.length) (hlen : names.length < 20) (O : Ord (ltT ((names.map piecesOf).map fillAll)))
    (h : ∀ h' tk (ts : List Addr) D₅ c₅ rest₅ (p : List Nat), Fr b L h' (fun z => if z = "due" then some (.ref D₅) else m z) → News b L h' ((D₅, W.listOf (p.map fun i => Value.ref (ts.getD i 0)).toArray c₅) :: (rest₅ ++ (L + 1, oc) :: (D, W.listOf (os.map Value.ref).toArray cD) :: news)) →
      ts.length = names.length → (∀ (i : Nat) T, ts[i]? = some T → ∃ x t u, (T, tupQ (.str x t) (.int i u)) ∈ rest₅) → p.Perm (List.range names.length) → p.Pairwise (R (ltT ((names.map piecesOf).map fillAll))) → Q .next {s with heap := h', toks := tk}) :
    wpAny (model PR w) (A.deeper (lawEnv L)) (exec (lawBody.getD 5 (.Pass default)) (lawEnv L)) Q (fun _ _ => False) s := by
  show wpAny _ _ (exec (Stmt.Assign [Expr.Name _ _] (Expr.Call _ _ _ _) _) _) _ _ _
  (first | repeat' (first | ((fail_if_success (first | with_reducible show wpAny _ _ (newTuple _) _ _ _ | with_reducible show wpAny _ _ (eval (Expr.Name (Str.ofString "cut") _) _) _ _ _ | with_reducible show wpAny _ _ (subscriptTail _ _ (Value.ref _) _) _ _ _ | with_reducible show wpAny _ _ (call (Value.builtin "sorted") _ _) _ _ _ | with_reducible show wpAny _ _ (call (Value.builtin "len") _) _ _ _ | with_reducible show wpAny _ _ (call (Value.type "range") _) _ _ _ | with_reducible show wpAny _ _ (call (Value.ref _) _) _ _ _ | with_reducible show wpAny _ _ (exec (Stmt.Assign [Expr.Name (Str.ofString "things") _] (Expr.ListComp _ _ _ _) _) _) _ _ _ | with_reducible show wpAny _ _ (eval (Expr.ListComp _ _ _ _) _) _ _ _)); (first | (first | (with_reducible show wpAny _ _ _ _ _ _) | (with_reducible show (if _ then _ else _)) | (with_reducible show Frag.In _ _ ∧ _) | (with_reducible show KdsFill _ _ _ _ _ _ _ _)) | (dsimp only; (first | (with_reducible show wpAny _ _ _ _ _ _) | (with_reducible show (if _ then _ else _)) | (with_reducible show Frag.In _ _ ∧ _) | (with_reducible show KdsFill _ _ _ _ _ _ _ _)))); (first | walk1 | (dsimp only; walk1)))))
  refine list_comp (x := "j") (cl := [("cut", L + 1)]) rfl (by decide) rfl (by decide) rfl ?_
  (first | repeat' (first | ((fail_if_success (first | with_reducible show wpAny _ _ (newTuple _) _ _ _ | with_reducible show wpAny _ _ (eval (Expr.Name (Str.ofString "cut") _) _) _ _ _ | with_reducible show wpAny _ _ (subscriptTail _ _ (Value.ref _) _) _ _ _ | with_reducible show wpAny _ _ (call (Value.builtin "sorted") _ _) _ _ _ | with_reducible show wpAny _ _ (call (Value.builtin "len") _) _ _ _ | with_reducible show wpAny _ _ (call (Value.type "range") _) _ _ _ | with_reducible show wpAny _ _ (call (Value.ref _) _) _ _ _ | with_reducible show wpAny _ _ (exec (Stmt.Assign [Expr.Name (Str.ofString "things") _] (Expr.ListComp _ _ _ _) _) _) _ _ _ | with_reducible show wpAny _ _ (eval (Expr.ListComp _ _ _ _) _) _ _ _)); (first | (first | (with_reducible show wpAny _ _ _ _ _ _) | (with_reducible show (if _ then _ else _)) | (with_reducible show Frag.In _ _ ∧ _) | (with_reducible show KdsFill _ _ _ _ _ _ _ _)) | (dsimp only; (first | (with_reducible show wpAny _ _ _ _ _ _) | (with_reducible show (if _ then _ else _)) | (with_reducible show Frag.In _ _ ∧ _) | (with_reducible show KdsFill _ _ _ _ _ _ _ _)))); (first | walk1 | (dsimp only; walk1)))))
  have hld : ∀ {h : Heap}, News b L h ((L + 1, oc) :: (D, W.listOf (os.map Value.ref).toArray cD) :: news) → h.IsList D (os.map Value.ref).toArray := fun N => ⟨_, (N _ (.tail _ (.head _))).1, rfl, _, rfl⟩
  have hos : os.length = names.length := hcut.1
  have hsz : (os.map Value.ref).toArray.size = os.length := by simp
  refine wpAny_Name (wpAny_loadName_cell rfl rfl rfl ⟨oc, (N (_, oc) (.head _)).1, hcd⟩ ?_)
  (first | repeat' (first | ((fail_if_success (first | with_reducible show wpAny _ _ (newTuple _) _ _ _ | with_reducible show wpAny _ _ (eval (Expr.Name (Str.ofString "cut") _) _) _ _ _ | with_reducible show wpAny _ _ (subscriptTail _ _ (Value.ref _) _) _ _ _ | with_reducible show wpAny _ _ (call (Value.builtin "sorted") _ _) _ _ _ | with_reducible show wpAny _ _ (call (Value.builtin "len") _) _ _ _ | with_reducible show wpAny _ _ (call (Value.type "range") _) _ _ _ | with_reducible show wpAny _ _ (call (Value.ref _) _) _ _ _ | with_reducible show wpAny _ _ (exec (Stmt.Assign [Expr.Name (Str.ofString "things") _] (Expr.ListComp _ _ _ _) _) _) _ _ _ | with_reducible show wpAny _ _ (eval (Expr.ListComp _ _ _ _) _) _ _ _)); (first | (first | (with_reducible show wpAny _ _ _ _ _ _) | (with_reducible show (if _ then _ else _)) | (with_reducible show Frag.In _ _ ∧ _) | (with_reducible show KdsFill _ _ _ _ _ _ _ _)) | (dsimp only; (first | (with_reducible show wpAny _ _ _ _ _ _) | (with_reducible show (if _ then _ else _)) | (with_reducible show Frag.In _ _ ∧ _) | (with_reducible show KdsFill _ _ _ _ _ _ _ _)))); (first | walk1 | (dsimp only; walk1)))))
  refine len_list (hld N) (by rw [hsz]; omega) ?_
  rw [hsz]
  (first | repeat' (first | ((fail_if_success (first | with_reducible show wpAny _ _ (newTuple _) _ _ _ | with_reducible show wpAny _ _ (eval (Expr.Name (Str.ofString "cut") _) _) _ _ _ | with_reducible show wpAny _ _ (subscriptTail _ _ (Value.ref _) _) _ _ _ | with_reducible show wpAny _ _ (call (Value.builtin "sorted") _ _) _ _ _ | with_reducible show wpAny _ _ (call (Value.builtin "len") _) _ _ _ | with_reducible show wpAny _ _ (call (Value.type "range") _) _ _ _ | with_reducible show wpAny _ _ (call (Value.ref _) _) _ _ _ | with_reducible show wpAny _ _ (exec (Stmt.Assign [Expr.Name (Str.ofString "things") _] (Expr.ListComp _ _ _ _) _) _) _ _ _ | with_reducible show wpAny _ _ (eval (Expr.ListComp _ _ _ _) _) _ _ _)); (first | (first | (with_reducible show wpAny _ _ _ _ _ _) | (with_reducible show (if _ then _ else _)) | (with_reducible show Frag.In _ _ ∧ _) | (with_reducible show KdsFill _ _ _ _ _ _ _ _)) | (dsimp only; (first | (with_reducible show wpAny _ _ _ _ _ _) | (with_reducible show (if _ then _ else _)) | (with_reducible show Frag.In _ _ ∧ _) | (with_reducible show KdsFill _ _ _ _ _ _ _ _)))); (first | walk1 | (dsimp only; walk1)))))
  refine range1_rows F N (fun h₁ tk₁ t₁ u₁ v₁ hr₁ F₁ N₁ k₁ => ?_)
  clear F N
  (first | repeat' (first | ((fail_if_success (first | with_reducible show wpAny _ _ (newTuple _) _ _ _ | with_reducible show wpAny _ _ (eval (Expr.Name (Str.ofString "cut") _) _) _ _ _ | with_reducible show wpAny _ _ (subscriptTail _ _ (Value.ref _) _) _ _ _ | with_reducible show wpAny _ _ (call (Value.builtin "sorted") _ _) _ _ _ | with_reducible show wpAny _ _ (call (Value.builtin "len") _) _ _ _ | with_reducible show wpAny _ _ (call (Value.type "range") _) _ _ _ | with_reducible show wpAny _ _ (call (Value.ref _) _) _ _ _ | with_reducible show wpAny _ _ (exec (Stmt.Assign [Expr.Name (Str.ofString "things") _] (Expr.ListComp _ _ _ _) _) _) _ _ _ | with_reducible show wpAny _ _ (eval (Expr.ListComp _ _ _ _) _) _ _ _)); (first | (first | (with_reducible show wpAny _ _ _ _ _ _) | (with_reducible show (if _ then _ else _)) | (with_reducible show Frag.In _ _ ∧ _) | (with_reducible show KdsFill _ _ _ _ _ _ _ _)) | (dsimp only; (first | (with_reducible show wpAny _ _ _ _ _ _) | (with_reducible show (if _ then _ else _)) | (with_reducible show Frag.In _ _ ∧ _) | (with_reducible show KdsFill _ _ _ _ _ _ _ _)))); (first | walk1 | (dsimp only; walk1)))))
  refine over_range (hA.deeper _).handled hr₁ (by omega) (One fun i o => ∃ p t u, names[i]? = some p ∧ o = tupQ (.str (mk (fillAll (piecesOf p))) t) (.int i u)) F₁ N₁ ?helt ?hq
  case helt =>
    rintro C i v s₃ m₃ hi ⟨t, rfl⟩ F₃ hm₃
    rw [canon1 hm₃ (fun _ _ => rfl)] at F₃
    dsimp only at F₃
    have N₃ := nilN F₃
    have X3 := X1.keeps F₁.keep
    have T3 := T1.keeps F₁.keep
    have hc₃ : s₃.heap.IsCell (L + 1) (some (.ref D)) := ⟨oc, F₃.keep _ _ (N₁ (_, oc) (.head _)).1, hcd⟩
    have hl₃ : s₃.heap.IsList D (os.map Value.ref).toArray := ⟨_, F₃.keep _ _ (N₁ (D, _) (.tail _ (.head _))).1, rfl, _, rfl⟩
    obtain ⟨a, vs, k, ha, har, hS⟩ := hcut.2 i names[i] (List.getElem?_eq_getElem (hos ▸ hi))
    have hvs := F₃.keep _ _ (N₁ _ (.tail _ (.tail _ (hrn _ har)))).1
    clear F₁ N₁ X1 T1
    (first | repeat' (first | ((fail_if_success (first | with_reducible show wpAny _ _ (newTuple _) _ _ _ | with_reducible show wpAny _ _ (eval (Expr.Name (Str.ofString "cut") _) _) _ _ _ | with_reducible show wpAny _ _ (subscriptTail _ _ (Value.ref _) _) _ _ _ | with_reducible show wpAny _ _ (call (Value.builtin "sorted") _ _) _ _ _ | with_reducible show wpAny _ _ (call (Value.builtin "len") _) _ _ _ | with_reducible show wpAny _ _ (call (Value.type "range") _) _ _ _ | with_reducible show wpAny _ _ (call (Value.ref _) _) _ _ _ | with_reducible show wpAny _ _ (exec (Stmt.Assign [Expr.Name (Str.ofString "things") _] (Expr.ListComp _ _ _ _) _) _) _ _ _ | with_reducible show wpAny _ _ (eval (Expr.ListComp _ _ _ _) _) _ _ _)); (first | (first | (with_reducible show wpAny _ _ _ _ _ _) | (with_reducible show (if _ then _ else _)) | (with_reducible show Frag.In _ _ ∧ _) | (with_reducible show KdsFill _ _ _ _ _ _ _ _)) | (dsimp only; (first | (with_reducible show wpAny _ _ _ _ _ _) | (with_reducible show (if _ then _ else _)) | (with_reducible show Frag.In _ _ ∧ _) | (with_reducible show KdsFill _ _ _ _ _ _ _ _)))); (first | walk1 | (dsimp only; walk1)))))
    all_goals (try k_data)
    refine wpAny_Name (wpAny_loadName_cell rfl rfl rfl hc₃ ?_)
    refine wpAny_Name (wpAny_loadName_local rfl rfl F₃.ns (v := .int i t) (by simp) ?_)
    refine item_at hl₃ (by omega) (v := .ref a) (by rw [List.getElem?_map, ha]; rfl) ?_
    (first | repeat' (first | ((fail_if_success (first | with_reducible show wpAny _ _ (newTuple _) _ _ _ | with_reducible show wpAny _ _ (eval (Expr.Name (Str.ofString "cut") _) _) _ _ _ | with_reducible show wpAny _ _ (subscriptTail _ _ (Value.ref _) _) _ _ _ | with_reducible show wpAny _ _ (call (Value.builtin "sorted") _ _) _ _ _ | with_reducible show wpAny _ _ (call (Value.builtin "len") _) _ _ _ | with_reducible show wpAny _ _ (call (Value.type "range") _) _ _ _ | with_reducible show wpAny _ _ (call (Value.ref _) _) _ _ _ | with_reducible show wpAny _ _ (exec (Stmt.Assign [Expr.Name (Str.ofString "things") _] (Expr.ListComp _ _ _ _) _) _) _ _ _ | with_reducible show wpAny _ _ (eval (Expr.ListComp _ _ _ _) _) _ _ _)); (first | (first | (with_reducible show wpAny _ _ _ _ _ _) | (with_reducible show (if _ then _ else _)) | (with_reducible show Frag.In _ _ ∧ _) | (with_reducible show KdsFill _ _ _ _ _ _ _ _)) | (dsimp only; (first | (with_reducible show wpAny _ _ _ _ _ _) | (with_reducible show (if _ then _ else _)) | (with_reducible show Frag.In _ _ ∧ _) | (with_reducible show KdsFill _ _ _ _ _ _ _ _)))); (first | walk1 | (dsimp only; walk1)))))
    all_goals (try k_data)
    have hin : i < names.length := hos ▸ hi
    have hng := hnames _ (List.getElem_mem hin)
    have hpl := pieces_len names[i]
    refine filled_spec (ps := piecesOf names[i]) (X3.keeps F₃.keep) (T3.keeps F₃.keep) (hA.deeper _) (by omega) hvs hS (fun p hp => (pieces_good hng p hp).toPieceOk) (by have := hng.len; omega) (fun h₄ tk₄ t₄ k₄ => ?_)
    have F₄ := fr_kp F₃ k₄
    have N₄ := nilN F₄
    (first | repeat' (first | ((fail_if_success (first | with_reducible show wpAny _ _ (newTuple _) _ _ _ | with_reducible show wpAny _ _ (eval (Expr.Name (Str.ofString "cut") _) _) _ _ _ | with_reducible show wpAny _ _ (subscriptTail _ _ (Value.ref _) _) _ _ _ | with_reducible show wpAny _ _ (call (Value.builtin "sorted") _ _) _ _ _ | with_reducible show wpAny _ _ (call (Value.builtin "len") _) _ _ _ | with_reducible show wpAny _ _ (call (Value.type "range") _) _ _ _ | with_reducible show wpAny _ _ (call (Value.ref _) _) _ _ _ | with_reducible show wpAny _ _ (exec (Stmt.Assign [Expr.Name (Str.ofString "things") _] (Expr.ListComp _ _ _ _) _) _) _ _ _ | with_reducible show wpAny _ _ (eval (Expr.ListComp _ _ _ _) _) _ _ _)); (first | (first | (with_reducible show wpAny _ _ _ _ _ _) | (with_reducible show (if _ then _ else _)) | (with_reducible show Frag.In _ _ ∧ _) | (with_reducible show KdsFill _ _ _ _ _ _ _ _)) | (dsimp only; (first | (with_reducible show wpAny _ _ _ _ _ _) | (with_reducible show (if _ then _ else _)) | (with_reducible show Frag.In _ _ ∧ _) | (with_reducible show KdsFill _ _ _ _ _ _ _ _)))); (first | walk1 | (dsimp only; walk1)))))
    all_goals (try k_data)
    refine wpAny_newTuple ?_ (by show 2 ≤ sizeLine; rw [sizeLine_eq]; omega)
    refine ⟨⟨[(_, tupQ (.str (mk (fillAll (piecesOf names[i]))) t₄) (.int i t))], ⟨_, _, ⟨_, t₄, t, List.getElem?_eq_getElem hin, rfl⟩, rfl, rfl⟩, fun p hp => ?_⟩, _, _, rfl, fun b o e => Heap.get?_push_of_some _ (k₄ _ _ e)⟩
    obtain rfl := List.mem_singleton.mp hp
    exact ⟨none_back k₄ (Heap.get?_none_of_le (Nat.le_refl _)), Heap.get?_push_size _ rfl⟩
  case hq =>
    intro D₂ c₂ h₂ tk₂ ys rest₂ k₂ F₂ N₂ R₂ hl₂ hr₂ hG₂ hD₂
    obtain ⟨ts, rfl, hts⟩ := ones_refs hG₂
    rw [List.length_map] at hl₂
    clear F₁ N₁
    have N₃ := news_join R₂ (news_tail N₂)
    have hl₃ : h₂.IsList D₂ (ts.map Value.ref).toArray := ⟨_, (N₂ _ (.head _)).1, rfl, _, rfl⟩
    clear N₂ R₂ hG₂
    (first | repeat' (first | ((fail_if_success (first | with_reducible show wpAny _ _ (newTuple _) _ _ _ | with_reducible show wpAny _ _ (eval (Expr.Name (Str.ofString "cut") _) _) _ _ _ | with_reducible show wpAny _ _ (subscriptTail _ _ (Value.ref _) _) _ _ _ | with_reducible show wpAny _ _ (call (Value.builtin "sorted") _ _) _ _ _ | with_reducible show wpAny _ _ (call (Value.builtin "len") _) _ _ _ | with_reducible show wpAny _ _ (call (Value.type "range") _) _ _ _ | with_reducible show wpAny _ _ (call (Value.ref _) _) _ _ _ | with_reducible show wpAny _ _ (exec (Stmt.Assign [Expr.Name (Str.ofString "things") _] (Expr.ListComp _ _ _ _) _) _) _ _ _ | with_reducible show wpAny _ _ (eval (Expr.ListComp _ _ _ _) _) _ _ _)); (first | (first | (with_reducible show wpAny _ _ _ _ _ _) | (with_reducible show (if _ then _ else _)) | (with_reducible show Frag.In _ _ ∧ _) | (with_reducible show KdsFill _ _ _ _ _ _ _ _)) | (dsimp only; (first | (with_reducible show wpAny _ _ _ _ _ _) | (with_reducible show (if _ then _ else _)) | (with_reducible show Frag.In _ _ ∧ _) | (with_reducible show KdsFill _ _ _ _ _ _ _ _)))); (first | walk1 | (dsimp only; walk1)))))
    have htl : ts.length = names.length := hl₂.trans hos
    refine due_spec (xs := (names.map piecesOf).map fillAll) F₂ N₃ hl₃ (by simp [htl]) (by omega) (by omega) (fun h' _ N' i a x ha hx => ?_) O fun h₆ tk₆ D₆ c₆ p F₆ N₆ _ hp₆ hr₆ => ?_
    · obtain ⟨o, ⟨p, t, u, hp, rfl⟩, ho⟩ := hts i a ha
      rw [List.getElem?_map, List.getElem?_map, hp] at hx
      cases hx
      exact ⟨t, u, (N' _ (List.mem_append_left _ ho)).1⟩
    · rw [htl] at hp₆
      clear F₂ N₃ hl₃
      (first | repeat' (first | ((fail_if_success (first | with_reducible show wpAny _ _ (newTuple _) _ _ _ | with_reducible show wpAny _ _ (eval (Expr.Name (Str.ofString "cut") _) _) _ _ _ | with_reducible show wpAny _ _ (subscriptTail _ _ (Value.ref _) _) _ _ _ | with_reducible show wpAny _ _ (call (Value.builtin "sorted") _ _) _ _ _ | with_reducible show wpAny _ _ (call (Value.builtin "len") _) _ _ _ | with_reducible show wpAny _ _ (call (Value.type "range") _) _ _ _ | with_reducible show wpAny _ _ (call (Value.ref _) _) _ _ _ | with_reducible show wpAny _ _ (exec (Stmt.Assign [Expr.Name (Str.ofString "things") _] (Expr.ListComp _ _ _ _) _) _) _ _ _ | with_reducible show wpAny _ _ (eval (Expr.ListComp _ _ _ _) _) _ _ _)); (first | (first | (with_reducible show wpAny _ _ _ _ _ _) | (with_reducible show (if _ then _ else _)) | (with_reducible show Frag.In _ _ ∧ _) | (with_reducible show KdsFill _ _ _ _ _ _ _ _)) | (dsimp only; (first | (with_reducible show wpAny _ _ _ _ _ _) | (with_reducible show (if _ then _ else _)) | (with_reducible show Frag.In _ _ ∧ _) | (with_reducible show KdsFill _ _ _ _ _ _ _ _)))); (first | walk1 | (dsimp only; walk1)))))
      rename Fr _ _ _ _ => F₇; rename News _ _ _ _ => N₇
      refine h _ _ ts D₆ c₆ rest₂ p F₇ N₇ htl (fun i T hT => ?_) hp₆ hr₆
      obtain ⟨o, ⟨p, t, u, hp, rfl⟩, ho⟩ := hts i T hT
      exact ⟨_, t, u, ho⟩
end Mine
end
section
open PySem PySem.W PySem.Calls PyProof.Rows PySem.Builtin.Str PySem.SeqAt
set_option maxRecDepth 100000
set_option maxHeartbeats 8000000
namespace Mine
variable {w : World} {A : Around} {E : Value → Shared → Prop} {s : Shared} {loose : List Str} {mean : ExcName → Option Value} {mg mb : Str → Option Value} {n : Nat}
/-- the second places of pairs -/
noncomputable def PairsAt (news : List (Addr × Obj)) (l : List (Addr × Nat)) : Prop := ∀ q ∈ l, ∃ v t, (q.1, tupQ v (.int q.2 t)) ∈ news
theorem seconds {ys : List Value} {l : List (Addr × Nat)} {rest : List (Addr × Obj)} (hl : ys.length = l.length)
    (hG : ∀ (i : Nat) y, ys[i]? = some y → ∃ nw : List (Addr × Obj), (nw = [] ∧ ∃ t q, l[i]? = some q ∧ y = Value.int (q.2 : Nat) t) ∧ ∀ p ∈ nw, p ∈ rest) : IntsAre ys (l.map fun q => ((q.2 : Nat) : Int)) := by
  induction l generalizing ys with
  | nil => obtain rfl := List.length_eq_zero_iff.mp hl; exact .nil
  | cons q l ih =>
    cases ys with
    | nil => simp at hl
    | cons y ys =>
      obtain ⟨_, ⟨_, t, q', hq, rfl⟩, _⟩ := hG 0 y rfl
      cases hq
      exact .cons _ _ (ih (by simpa using hl) fun i y hy => by
        obtain ⟨nw, h1, h2⟩ := hG (i + 1) y (by simpa using hy)
        exact ⟨nw, by simpa using h1, h2⟩)
theorem ret_stmt {b : Heap} {L D₁ D₂ : Addr} {c₁ c₂ : Nat} {l₁ l₂ : List (Addr × Nat)} {news : List (Addr × Obj)} {m : Str → Option Value} {Q : Flow → Shared → Prop}
    (hA : Am A n) (hn : n < 320) (F : Fr b L s.heap m) (N : News b L s.heap news) (hm₁ : m "told" = some (.ref D₁)) (hm₂ : m "due" = some (.ref D₂))
    (h₁ : (D₁, W.listOf (l₁.map fun q => Value.ref q.1).toArray c₁) ∈ news) (h₂ : (D₂, W.listOf (l₂.map fun q => Value.ref q.1).toArray c₂) ∈ news) (p₁ : PairsAt news l₁) (p₂ : PairsAt news l₂) (hlen₁ : l₁.length < 64) (hlen₂ : l₂.length < 64) (he : l₁.map (·.2) = l₂.map (·.2))
    (h : ∀ h' tk, Fr b L h' m → News b L h' news → Q (.ret (.bool true)) {s with heap := h', toks := tk}) :
    wpAny (model PR w) (A.deeper (lawEnv L)) (exec (lawBody.getD 6 (.Pass default)) (lawEnv L)) Q (fun _ _ => False) s := by
  show wpAny _ _ (exec (Stmt.Return _ _) _) _ _ _
  (first | repeat' (first | ((fail_if_success (first | with_reducible show wpAny _ _ (newTuple _) _ _ _ | with_reducible show wpAny _ _ (eval (Expr.Name (Str.ofString "cut") _) _) _ _ _ | with_reducible show wpAny _ _ (subscriptTail _ _ (Value.ref _) _) _ _ _ | with_reducible show wpAny _ _ (call (Value.builtin "sorted") _ _) _ _ _ | with_reducible show wpAny _ _ (call (Value.builtin "len") _) _ _ _ | with_reducible show wpAny _ _ (call (Value.type "range") _) _ _ _ | with_reducible show wpAny _ _ (call (Value.ref _) _) _ _ _ | with_reducible show wpAny _ _ (exec (Stmt.Assign [Expr.Name (Str.ofString "things") _] (Expr.ListComp _ _ _ _) _) _) _ _ _ | with_reducible show wpAny _ _ (eval (Expr.ListComp _ _ _ _) _) _ _ _)); (first | (first | (with_reducible show wpAny _ _ _ _ _ _) | (with_reducible show (if _ then _ else _)) | (with_reducible show Frag.In _ _ ∧ _) | (with_reducible show KdsFill _ _ _ _ _ _ _ _)) | (dsimp only; (first | (with_reducible show wpAny _ _ _ _ _ _) | (with_reducible show (if _ then _ else _)) | (with_reducible show Frag.In _ _ ∧ _) | (with_reducible show KdsFill _ _ _ _ _ _ _ _)))); (first | walk1 | (dsimp only; walk1)))))
  refine list_comp (x := "thing") (cl := []) rfl (by decide) rfl (by decide) rfl ?_
  refine wpAny_Name (wpAny_loadName_local rfl rfl F.ns hm₁ ?_)
  refine over_list (hA.deeper _).handled ⟨_, (N _ h₁).1, rfl, _, rfl⟩ (by rw [List.length_map, sizeLine_eq]; omega) (fun i y nw => nw = [] ∧ ∃ t q, l₁[i]? = some q ∧ y = Value.int (q.2 : Nat) t) F N ?helt ?hq
  case helt =>
    intro C i v s₃ m₃ hi hv F₃ hm₃
    rw [List.getElem?_map] at hv
    obtain ⟨q, hq, rfl⟩ := Option.map_eq_some_iff.mp hv
    obtain ⟨v, t, hp⟩ := p₁ q (List.mem_of_getElem? hq)
    have ht : IsTup s₃.heap q.1 #[v, .int q.2 t] := ⟨_, F₃.keep _ _ (N _ hp).1, rfl, _, rfl⟩
    rw [canon1 hm₃ (fun _ _ => rfl)] at F₃
    have N₃ := nilN F₃
    clear F N
    walk1
    all_goals (try k_data)
    refine wpAny_Name (wpAny_loadName_local rfl rfl F₃.ns (v := .ref q.1) (by simp) ?_)
    walk1
    refine item_tupleT (l := [v, .int q.2 t]) (j := 1) ht (by decide) (by decide) rfl rfl ?_
    exact ⟨⟨[], ⟨rfl, t, q, hq, rfl⟩, fun _ h => nomatch h⟩, _, _, rfl, fun _ _ e => e⟩
  case hq =>
    intro D₃ c₃ h₃ tk₃ ys rest₃ k₃ F₃ N₃ _ hl₃ _ hG₃ _
    rw [List.length_map] at hl₃
    have I₃ := seconds hl₃ hG₃
    clear F N hG₃
    (first | repeat' (first | ((fail_if_success (first | with_reducible show wpAny _ _ (newTuple _) _ _ _ | with_reducible show wpAny _ _ (eval (Expr.Name (Str.ofString "cut") _) _) _ _ _ | with_reducible show wpAny _ _ (subscriptTail _ _ (Value.ref _) _) _ _ _ | with_reducible show wpAny _ _ (call (Value.builtin "sorted") _ _) _ _ _ | with_reducible show wpAny _ _ (call (Value.builtin "len") _) _ _ _ | with_reducible show wpAny _ _ (call (Value.type "range") _) _ _ _ | with_reducible show wpAny _ _ (call (Value.ref _) _) _ _ _ | with_reducible show wpAny _ _ (exec (Stmt.Assign [Expr.Name (Str.ofString "things") _] (Expr.ListComp _ _ _ _) _) _) _ _ _ | with_reducible show wpAny _ _ (eval (Expr.ListComp _ _ _ _) _) _ _ _)); (first | (first | (with_reducible show wpAny _ _ _ _ _ _) | (with_reducible show (if _ then _ else _)) | (with_reducible show Frag.In _ _ ∧ _) | (with_reducible show KdsFill _ _ _ _ _ _ _ _)) | (dsimp only; (first | (with_reducible show wpAny _ _ _ _ _ _) | (with_reducible show (if _ then _ else _)) | (with_reducible show Frag.In _ _ ∧ _) | (with_reducible show KdsFill _ _ _ _ _ _ _ _)))); (first | walk1 | (dsimp only; walk1)))))
    refine list_comp (x := "pair") (cl := []) rfl (by decide) rfl (by decide) rfl ?_
    refine wpAny_Name (wpAny_loadName_local rfl rfl F₃.ns hm₂ ?_)
    refine over_list (hA.deeper _).handled ⟨_, (N₃ _ (.tail _ h₂)).1, rfl, _, rfl⟩ (by rw [List.length_map, sizeLine_eq]; omega) (fun i y nw => nw = [] ∧ ∃ t q, l₂[i]? = some q ∧ y = Value.int (q.2 : Nat) t) F₃ N₃ ?helt2 ?hq2
    case helt2 =>
      intro C i v s₃ m₃ hi hv F₄ hm₃
      rw [List.getElem?_map] at hv
      obtain ⟨q, hq, rfl⟩ := Option.map_eq_some_iff.mp hv
      obtain ⟨v, t, hp⟩ := p₂ q (List.mem_of_getElem? hq)
      have ht : IsTup s₃.heap q.1 #[v, .int q.2 t] := ⟨_, F₄.keep _ _ (N₃ _ (.tail _ hp)).1, rfl, _, rfl⟩
      rw [canon1 hm₃ (fun _ _ => rfl)] at F₄
      have N₄ := nilN F₄
      clear F₃ N₃
      walk1
      all_goals (try k_data)
      refine wpAny_Name (wpAny_loadName_local rfl rfl F₄.ns (v := .ref q.1) (by simp) ?_)
      walk1
      refine item_tupleT (l := [v, .int q.2 t]) (j := 1) ht (by decide) (by decide) rfl rfl ?_
      exact ⟨⟨[], ⟨rfl, t, q, hq, rfl⟩, fun _ h => nomatch h⟩, _, _, rfl, fun _ _ e => e⟩
    case hq2 =>
      intro D₅ c₅ h₅ tk₅ zs rest₅ k₅ F₅ N₅ _ hl₅ _ hG₅ _
      rw [List.length_map] at hl₅
      have I₅ := seconds hl₅ hG₅
      clear F₃ N₃ hG₅
      refine eq_intsK (ns := l₁.map fun q => ((q.2 : Nat) : Int)) (ms := l₂.map fun q => ((q.2 : Nat) : Int)) ⟨_, (N₅ _ (.tail _ (.head _))).1, rfl, _, rfl⟩ I₃ ⟨_, (N₅ _ (.head _)).1, rfl, _, rfl⟩ I₅ ((hA.deeper _).far (by omega)) ?_
      have e : (l₁.map fun q => ((q.2 : Nat) : Int)) = (l₂.map fun q => ((q.2 : Nat) : Int)) := by
        have := congrArg (List.map fun k : Nat => (k : Int)) he
        rw [List.map_map, List.map_map] at this
        exact this
      rw [decide_eq_true e]
      (first | repeat' (first | ((fail_if_success (first | with_reducible show wpAny _ _ (newTuple _) _ _ _ | with_reducible show wpAny _ _ (eval (Expr.Name (Str.ofString "cut") _) _) _ _ _ | with_reducible show wpAny _ _ (subscriptTail _ _ (Value.ref _) _) _ _ _ | with_reducible show wpAny _ _ (call (Value.builtin "sorted") _ _) _ _ _ | with_reducible show wpAny _ _ (call (Value.builtin "len") _) _ _ _ | with_reducible show wpAny _ _ (call (Value.type "range") _) _ _ _ | with_reducible show wpAny _ _ (call (Value.ref _) _) _ _ _ | with_reducible show wpAny _ _ (exec (Stmt.Assign [Expr.Name (Str.ofString "things") _] (Expr.ListComp _ _ _ _) _) _) _ _ _ | with_reducible show wpAny _ _ (eval (Expr.ListComp _ _ _ _) _) _ _ _)); (first | (first | (with_reducible show wpAny _ _ _ _ _ _) | (with_reducible show (if _ then _ else _)) | (with_reducible show Frag.In _ _ ∧ _) | (with_reducible show KdsFill _ _ _ _ _ _ _ _)) | (dsimp only; (first | (with_reducible show wpAny _ _ _ _ _ _) | (with_reducible show (if _ then _ else _)) | (with_reducible show Frag.In _ _ ∧ _) | (with_reducible show KdsFill _ _ _ _ _ _ _ _)))); (first | walk1 | (dsimp only; walk1)))))
      exact h _ _ F₅ (news_tail (news_tail N₅))
end Mine
end
section
open PySem PySem.W PySem.Calls PyProof.Rows PySem.Builtin.Str PySem.SeqAt
set_option maxRecDepth 100000
set_option maxHeartbeats 8000000
namespace Mine
variable {w : World} {A : Around} {E : Value → Shared → Prop} {s : Shared} {loose : List Str} {mean : ExcName → Option Value} {mg mb : Str → Option Value} {n : Nat}
theorem tab_more {b h : Heap} {L : Addr} {m : Str → Option Value} (F : Fr b L h m) (b24 : b.get? 24 = none) (L24 : L ≠ 24) (t : Tab24 h) :
    ∃ o c₂ o₂, News b L h [(24, o), (c₂, o₂)] ∧ ∀ h', Kp b h' → h'.get? 24 = some o → h'.get? c₂ = some o₂ → Tab24 h' := by
  obtain ⟨oL, es, ep, eL, eL', _⟩ := F.ns
  obtain ⟨o, c, oc, r1, r2, r3, r4, r5⟩ := tab_led F.keep b24 t (zs := [L]) (by
    intro a ha
    obtain rfl := List.mem_singleton.mp ha
    exact ⟨_, eL, fun vs t e => by rw [eL'] at e; cases e⟩) (by simpa using L24.symm)
  exact ⟨o, c, oc, news_cons r1 L24.symm b24 (news_cons r2 (by simpa using r4) r3 News.nil), r5⟩
theorem news_sub {b h : Heap} {L : Addr} {l l' : List (Addr × Obj)} (N : News b L h l) (hs : ∀ p ∈ l', p ∈ l) : News b L h l' := fun p hp => N p (hs p hp)
theorem rest_spec {b : Heap} {L D : Addr} {oc : Obj} {cD : Nat} {os : List Addr} {names : List (List Nat)} {rest : List (Addr × Obj)} {m : Str → Option Value} {Q : Flow → Shared → Prop}
    (S : Sys b) (G : Gd w loose mean mg mb b) (n38 : b.get? 38 = none) (hA : Am A n) (hn : n < 320) (F : Fr b L s.heap m) (N : News b L s.heap ((L + 1, oc) :: (D, W.listOf (os.map Value.ref).toArray cD) :: (38, tabObj #[]) :: rest))
    (hcd : oc.data = .cell (some (.ref D))) (t24 : Tab24 s.heap) (hcut : CutAt names os rest) (hnames : ∀ p ∈ names, NameG p) (hcg : ∀ ps ∈ names.map piecesOf, ∀ p ∈ ps, PieceG p) (hlen : 4 ≤ names.length ∧ names.length ≤ 14)
    (r24 : ∀ p ∈ rest, p.1 ≠ 24) (D24 : D ≠ 24) (c24 : L + 1 ≠ 24) (L24 : L ≠ 24) (r38 : ∀ p ∈ rest, p.1 ≠ 38) (D38 : D ≠ 38) (c38 : L + 1 ≠ 38) (L38 : L ≠ 38)
    (h : ∀ h' tk d, Kp b h' → Tab24 h' → (∃ c', h'.get? 38 = some (tabObj #[rawInt 59, rawInt 4, .ref c'])) → Q (.ret (.bool true)) {s with heap := h', toks := tk, drawn := d}) :
    wpAny (model PR w) (A.deeper (lawEnv L)) (execs [lawBody.getD 3 (.Pass default), lawBody.getD 4 (.Pass default), lawBody.getD 5 (.Pass default), lawBody.getD 6 (.Pass default)] (lawEnv L)) Q (fun _ _ => False) s := by
  have hos := hcut.1
  obtain ⟨o₁, c₁, oc₁, M₁, back₁⟩ := tab_more F G.n24 L24 t24
  have e38 := (N (38, _) (.tail _ (.tail _ (.head _)))).1
  have e24 := (M₁ (24, _) (.head _)).1
  have N₁ : News b L s.heap ((L + 1, oc) :: (D, W.listOf (os.map Value.ref).toArray cD) :: (24, o₁) :: (c₁, oc₁) :: (38, tabObj #[]) :: rest) := news_sub (news_join M₁ N) (by
    intro p hp
    simp only [List.mem_cons, List.mem_append, List.not_mem_nil, or_false] at hp ⊢
    rcases hp with h | h | h | h | h | h <;> simp [h])
  refine wpAny_execs_cons (things_spec G.X G.T hA F N₁ hcd (by omega) fun h₂ tk₂ ts D₂ k₂ rest₂ F₂ N₂ R₂ hl₂ hr₂ hD₂ hts => ?_)
  dsimp only
  have D224 : D₂ ≠ 24 := fun q => by rw [q, e24] at hD₂; cases hD₂
  have D238 : D₂ ≠ 38 := fun q => by rw [q, e38] at hD₂; cases hD₂
  have s24 := off_of (fun p hp => (hr₂ p hp).2) e24
  have s38 := off_of (fun p hp => (hr₂ p hp).2) e38
  have t₂ := back₁ h₂ F₂.keep (N₂ (24, _) (.tail _ (.tail _ (.tail _ (.head _))))).1 (N₂ (c₁, _) (.tail _ (.tail _ (.tail _ (.tail _ (.head _)))))).1
  have N₃ : News b L h₂ ((38, tabObj #[]) :: (D₂, W.listOf (ts.map Value.ref).toArray k₂) :: (L + 1, oc) :: (D, W.listOf (os.map Value.ref).toArray cD) :: (rest₂ ++ rest)) := news_sub (news_join N₂ R₂) (by
    intro p hp
    simp only [List.mem_cons, List.mem_append] at hp ⊢
    rcases hp with h | h | h | h | h | h <;> simp [h])
  clear F N M₁ N₁ back₁ N₂ R₂ hD₂ e38 e24 t24
  have off : ∀ {a : Addr}, D₂ ≠ a → L + 1 ≠ a → D ≠ a → (∀ p ∈ rest₂, p.1 ≠ a) → (∀ p ∈ rest, p.1 ≠ a) → ∀ p ∈ (D₂, W.listOf (ts.map Value.ref).toArray k₂) :: (L + 1, oc) :: (D, W.listOf (os.map Value.ref).toArray cD) :: (rest₂ ++ rest), p.1 ≠ a := by
    intro a h1 h2 h3 h4 h5 p hp
    simp only [List.mem_cons, List.mem_append] at hp
    rcases hp with rfl | rfl | rfl | hp | hp
    · exact h1
    · exact h2
    · exact h3
    · exact h4 p hp
    · exact h5 p hp
  refine wpAny_execs_cons (told_stmt (pss := names.map piecesOf) S G n38 hA hn F₂ (by simp) N₃ t₂ L24 L38 (off D224 c24 D24 s24 r24) (off D238 c38 D38 s38 r38) (by simp [hl₂, hos]) (by omega) (by omega) (fun i o ps ho hps => ?_) (ord_ltP hcg) fun h₄ tk₄ d₄ D₄ k₄ c' p F₄ t₄ N₄ hp₄ hr₄ _ => ?_)
  · obtain ⟨a, t, ha, hT⟩ := hts i o ho
    rw [List.getElem?_map] at hps
    obtain ⟨p, hp, rfl⟩ := Option.map_eq_some_iff.mp hps
    obtain ⟨a', vs, k, ha', hr, hS⟩ := hcut.2 i p hp
    rw [ha] at ha'; cases ha'
    have hg := hcg _ (List.mem_map.mpr ⟨p, List.mem_of_getElem? hp, rfl⟩)
    have hpl := (pieces_len p).2
    have := (hnames p (List.mem_of_getElem? hp)).len
    exact ⟨⟨a, .int i t, vs, k, (N₃ _ (.tail _ (.tail _ (.tail _ (.tail _ (List.mem_append_left _ hT)))))).1, (N₃ _ (.tail _ (.tail _ (.tail _ (.tail _ (List.mem_append_right _ hr)))))).1, hS⟩, fun q hq => (hg q hq).toPieceOk, by omega⟩
  dsimp only
  clear F₂ N₃ t₂ off
  obtain ⟨o₅, c₅, oc₅, M₅, back₅⟩ := tab_more F₄ G.n24 L24 t₄
  have N₅ : News b L h₄ ((L + 1, oc) :: (D, W.listOf (os.map Value.ref).toArray cD) :: ((24, o₅) :: (c₅, oc₅) :: (D₄, W.listOf (p.map fun i => Value.ref (ts.getD i 0)).toArray k₄) :: (38, tabObj #[rawInt 59, rawInt 4, .ref c']) :: (rest₂ ++ rest))) := news_sub (news_join M₅ N₄) (by
    intro p hp
    simp only [List.mem_cons, List.mem_append, List.not_mem_nil, or_false] at hp ⊢
    rcases hp with h | h | h | h | h | h | h | h <;> simp [h])
  clear N₄ M₅
  refine wpAny_execs_cons (due_stmt (names := names) (rest := rest) G.X G.T hA hn F₄ N₅ hcd hcut (fun p hp => by simp [hp]) hnames (by omega) (by omega) (ord_ltT _) fun h₆ tk₆ us D₆ k₆ rest₆ q F₆ N₆ hl₆ hus hq₆ hr₆ => ?_)
  dsimp only
  clear F₄ N₅
  have htl : ts.length = names.length := hl₂.trans hos
  rw [htl] at hp₄
  have hpq : p = q := orders_same hcg hp₄ hq₆ hr₄ hr₆
  have hpl : p.length = names.length := by simpa using hp₄.length_eq
  have hql : q.length = names.length := by simpa using hq₆.length_eq
  have hm₄ : (D₄, W.listOf (p.map fun i => Value.ref (ts.getD i 0)).toArray k₄) ∈ ((D₆, W.listOf (q.map fun i => Value.ref (us.getD i 0)).toArray k₆) :: (rest₆ ++ (L + 1, oc) :: (D, W.listOf (os.map Value.ref).toArray cD) :: (24, o₅) :: (c₅, oc₅) :: (D₄, W.listOf (p.map fun i => Value.ref (ts.getD i 0)).toArray k₄) :: (38, tabObj #[rawInt 59, rawInt 4, .ref c']) :: (rest₂ ++ rest))) :=
    .tail _ (List.mem_append_right _ (.tail _ (.tail _ (.tail _ (.tail _ (.head _))))))
  refine wpAny_execs_cons (ret_stmt (D₁ := D₄) (D₂ := D₆) (l₁ := p.map fun i => (ts.getD i 0, i)) (l₂ := q.map fun i => (us.getD i 0, i)) hA hn F₆ N₆ (by simp only [show (("told" : Str) = "due") = False from by decide +kernel, if_false]; simp) (by simp) (by rw [List.map_map]; exact hm₄) (by rw [List.map_map]; exact .head _) ?_ ?_ (by rw [List.length_map]; omega) (by rw [List.length_map]; omega) (by rw [hpq]; simp) fun h₇ tk₇ F₇ N₇ => ?_)
  · intro z hz
    obtain ⟨i, hi, rfl⟩ := List.mem_map.mp hz
    have hil : i < ts.length := by have := List.mem_range.mp (hp₄.subset hi); omega
    obtain ⟨a, t, _, hT⟩ := hts i ts[i] (List.getElem?_eq_getElem hil)
    refine ⟨.ref a, t, .tail _ (List.mem_append_right _ (.tail _ (.tail _ (.tail _ (.tail _ (.tail _ (.tail _ (List.mem_append_left _ ?_))))))))⟩
    simpa [hil] using hT
  · intro z hz
    obtain ⟨i, hi, rfl⟩ := List.mem_map.mp hz
    have hil : i < us.length := by have := List.mem_range.mp (hq₆.subset hi); omega
    obtain ⟨x, t, u, hT⟩ := hus i us[i] (List.getElem?_eq_getElem hil)
    refine ⟨.str x t, u, .tail _ (List.mem_append_left _ ?_)⟩
    simpa [hil] using hT
  · exact h h₇ _ _ F₇.keep (back₅ h₇ F₇.keep (N₇ (24, _) (.tail _ (List.mem_append_right _ (.tail _ (.tail _ (.head _)))))).1 (N₇ (c₅, _) (.tail _ (List.mem_append_right _ (.tail _ (.tail _ (.tail _ (.head _))))))).1)
      ⟨c', (N₇ (38, _) (.tail _ (List.mem_append_right _ (.tail _ (.tail _ (.tail _ (.tail _ (.tail _ (.head _))))))))).1⟩
end Mine
end
section
open PySem PySem.W PySem.Calls PyProof.Rows PySem.Builtin.Str PySem.SeqAt
set_option maxRecDepth 100000
set_option maxHeartbeats 8000000
namespace Mine
variable {w : World} {A : Around} {E : Value → Shared → Prop} {s : Shared} {loose : List Str} {mean : ExcName → Option Value} {mg mb : Str → Option Value} {n : Nat}
theorem law_spec {sc : Addr} {vs : List Value} {ns : List Int} {g₀ : Heap} {Q : Value → Shared → Prop} (S : Sys g₀) (G : Gd w loose mean mg mb g₀) (hk : Kp g₀ s.heap) (n38 : g₀.get? 38 = none) (hA : Am A n) (hn : n < 310) (h24 : s.heap.get? 24 = some (tabObj #[])) (h38 : s.heap.get? 38 = some (tabObj #[]))
    (hs : s.heap.IsList sc vs.toArray) (hv : IntsAre vs ns) (hl : ns.length ≤ 63)
    (h : ∀ h' tk d, (∀ b o, b ≠ 24 → b ≠ 38 → s.heap.get? b = some o → h'.get? b = some o) → Tab24 h' → (∃ c', h'.get? 38 = some (tabObj #[rawInt 59, rawInt 4, .ref c'])) → Q (.bool true) {s with heap := h', toks := tk, drawn := d}) :
    wpAny (model PR w) A (call (.ref 83) [.ref sc]) Q E s := by
  obtain ⟨X, T, C24⟩ := G.keeps hk
  have kb : Kp g₀ (hid2 s.heap) := fun b o e => hid2_get (hk b o e) (fun q => by rw [q, G.n24] at e; cases e) (fun q => by rw [q, n38] at e; cases e)
  obtain ⟨X1, T1, C1⟩ := G.keeps kb
  have sc24 : sc ≠ 24 := fun q => by obtain ⟨o, ho, _, _, hd⟩ := hs; rw [q, h24] at ho; cases ho; cases hd
  have sc38 : sc ≠ 38 := fun q => by obtain ⟨o, ho, _, _, hd⟩ := hs; rw [q, h38] at ho; cases ho; cases hd
  have hs1 : (hid2 s.heap).IsList sc vs.toArray := by obtain ⟨o, ho, r⟩ := hs; exact ⟨o, hid2_get ho sc24 sc38, r⟩
  refine wpAny_call (enter_cells (g := hid2 s.heap) (binds := [("script", .ref sc)]) (hA.room (by omega)) (X 83 _ rfl) rfl T.nolimit (codeRec_of X rfl) (BindsTo.of_eq rfl) rfl (by decide +kernel) (fun b o e => of_hideAll _ e) (Nat.le_of_eq (hideAll_size _ _)) fun h₁ tk cells F N0 Y hk₁ => ?_)
  k_cells Y
  rename_i oc0 hoc0
  have n24 : (24 : Nat) < s.heap.objs.size := Heap.lt_size h24
  have n38' : (38 : Nat) < s.heap.objs.size := Heap.lt_size h38
  have N1 := news_cons (news := _) (hk₁ 24 _ h24) (Nat.ne_of_lt n24) (hideAll_none _ (by simp)) (news_cons (news := _) (hk₁ 38 _ h38) (Nat.ne_of_lt n38') (hideAll_none _ (by simp)) N0)
  clear N0 X T C24
  (first | repeat' (first | ((fail_if_success (first | with_reducible show wpAny _ _ (exec (Stmt.Assign [Expr.Name (Str.ofString "things") _] (Expr.ListComp _ _ _ _) _) _) _ _ _ | with_reducible show wpAny _ _ (binaryOp Operator.Add (Value.str _ _) _) _ _ _ | with_reducible show wpAny _ _ (call (Value.builtin "str.split") _) _ _ _ | with_reducible show wpAny _ _ (subscriptTail _ _ (Value.str _ _) _) _ _ _ | with_reducible show wpAny _ _ (call (Value.builtin "str.join") _) _ _ _ | with_reducible show wpAny _ _ (call (Value.ref _) _) _ _ _ | with_reducible show wpAny _ _ (eval (Expr.ListComp _ _ _ _) _) _ _ _ | with_reducible show wpAny _ _ (exec (Stmt.For _ _ _ _ _) _) _ _ _)); (first | (first | (with_reducible show wpAny _ _ _ _ _ _) | (with_reducible show (if _ then _ else _)) | (with_reducible show Frag.In _ _ ∧ _) | (with_reducible show KdsFill _ _ _ _ _ _ _ _)) | (dsimp only; (first | (with_reducible show wpAny _ _ _ _ _ _) | (with_reducible show (if _ then _ else _)) | (with_reducible show Frag.In _ _ ∧ _) | (with_reducible show KdsFill _ _ _ _ _ _ _ _)))); (first | walk1 | (dsimp only; walk1)))))
  refine list_comp (cl := []) rfl (by decide) rfl (by decide) rfl ?_
  (first | repeat' (first | ((fail_if_success (first | with_reducible show wpAny _ _ (exec (Stmt.Assign [Expr.Name (Str.ofString "things") _] (Expr.ListComp _ _ _ _) _) _) _ _ _ | with_reducible show wpAny _ _ (binaryOp Operator.Add (Value.str _ _) _) _ _ _ | with_reducible show wpAny _ _ (call (Value.builtin "str.split") _) _ _ _ | with_reducible show wpAny _ _ (subscriptTail _ _ (Value.str _ _) _) _ _ _ | with_reducible show wpAny _ _ (call (Value.builtin "str.join") _) _ _ _ | with_reducible show wpAny _ _ (call (Value.ref _) _) _ _ _ | with_reducible show wpAny _ _ (eval (Expr.ListComp _ _ _ _) _) _ _ _ | with_reducible show wpAny _ _ (exec (Stmt.For _ _ _ _ _) _) _ _ _)); (first | (first | (with_reducible show wpAny _ _ _ _ _ _) | (with_reducible show (if _ then _ else _)) | (with_reducible show Frag.In _ _ ∧ _) | (with_reducible show KdsFill _ _ _ _ _ _ _ _)) | (dsimp only; (first | (with_reducible show wpAny _ _ _ _ _ _) | (with_reducible show (if _ then _ else _)) | (with_reducible show Frag.In _ _ ∧ _) | (with_reducible show KdsFill _ _ _ _ _ _ _ _)))); (first | walk1 | (dsimp only; walk1)))))
  rename Fr _ _ _ _ => F₂; rename News _ _ _ _ => N₂; rename IntsAre _ (List.take 10 ns) => hI₂
  clear N1 hk₁
  have hw10 : (List.take 10 ns).length ≤ 10 := by rw [List.length_take]; omega
  refine over_list (hA.deeper _).handled ⟨_, (N₂ _ (.head _)).1, rfl, _, rfl⟩ ?hsz (fun i y nw => nw = [] ∧ ∃ t k, (ns.take 10)[i]? = some k ∧ y = .str (ch (signOf k)) t) F₂ N₂ ?helt ?hq
  case hsz =>
    have := hI₂.length
    rw [sizeLine_eq]; omega
  case helt =>
    intro C i v s₃ m₃ hi hv3 F₃ hm₃
    obtain ⟨k, t, hk3, rfl⟩ := ints_get hI₂ hv3
    rw [canon1 hm₃ (fun _ _ => rfl)] at F₃
    dsimp only at F₃
    have N₃ := nilN F₃
    clear F₂ N₂
    (first | repeat' (first | ((fail_if_success (first | with_reducible show wpAny _ _ (exec (Stmt.Assign [Expr.Name (Str.ofString "things") _] (Expr.ListComp _ _ _ _) _) _) _ _ _ | with_reducible show wpAny _ _ (binaryOp Operator.Add (Value.str _ _) _) _ _ _ | with_reducible show wpAny _ _ (call (Value.builtin "str.split") _) _ _ _ | with_reducible show wpAny _ _ (subscriptTail _ _ (Value.str _ _) _) _ _ _ | with_reducible show wpAny _ _ (call (Value.builtin "str.join") _) _ _ _ | with_reducible show wpAny _ _ (call (Value.ref _) _) _ _ _ | with_reducible show wpAny _ _ (eval (Expr.ListComp _ _ _ _) _) _ _ _ | with_reducible show wpAny _ _ (exec (Stmt.For _ _ _ _ _) _) _ _ _)); (first | (first | (with_reducible show wpAny _ _ _ _ _ _) | (with_reducible show (if _ then _ else _)) | (with_reducible show Frag.In _ _ ∧ _) | (with_reducible show KdsFill _ _ _ _ _ _ _ _)) | (dsimp only; (first | (with_reducible show wpAny _ _ _ _ _ _) | (with_reducible show (if _ then _ else _)) | (with_reducible show Frag.In _ _ ∧ _) | (with_reducible show KdsFill _ _ _ _ _ _ _ _)))); (first | walk1 | (dsimp only; walk1)))))
    all_goals (try k_data)
    refine item_text (menu_of k).1 (menu_of k).2.1 ?_
    rw [(menu_of k).2.2]
    exact ⟨⟨[], ⟨rfl, _, k, hk3, rfl⟩, fun _ h => nomatch h⟩, _, _, rfl, fun _ _ e => e⟩
  case hq =>
    intro D c h₃ tk₃ ys rest hk₃ F₃ N₃ R₃ hlen₃ _ hG₃ _
    have hS : StrsAre ys ((headN ns).map fun c => ch c) := signs_are hI₂ hlen₃ hG₃
    clear F₂ N₂ R₃
    (first | repeat' (first | ((fail_if_success (first | with_reducible show wpAny _ _ (exec (Stmt.Assign [Expr.Name (Str.ofString "things") _] (Expr.ListComp _ _ _ _) _) _) _ _ _ | with_reducible show wpAny _ _ (binaryOp Operator.Add (Value.str _ _) _) _ _ _ | with_reducible show wpAny _ _ (call (Value.builtin "str.split") _) _ _ _ | with_reducible show wpAny _ _ (subscriptTail _ _ (Value.str _ _) _) _ _ _ | with_reducible show wpAny _ _ (call (Value.builtin "str.join") _) _ _ _ | with_reducible show wpAny _ _ (call (Value.ref _) _) _ _ _ | with_reducible show wpAny _ _ (eval (Expr.ListComp _ _ _ _) _) _ _ _ | with_reducible show wpAny _ _ (exec (Stmt.For _ _ _ _ _) _) _ _ _)); (first | (first | (with_reducible show wpAny _ _ _ _ _ _) | (with_reducible show (if _ then _ else _)) | (with_reducible show Frag.In _ _ ∧ _) | (with_reducible show KdsFill _ _ _ _ _ _ _ _)) | (dsimp only; (first | (with_reducible show wpAny _ _ _ _ _ _) | (with_reducible show (if _ then _ else _)) | (with_reducible show Frag.In _ _ ∧ _) | (with_reducible show KdsFill _ _ _ _ _ _ _ _)))); (first | walk1 | (dsimp only; walk1)))))
    refine join_list ⟨_, (N₃ _ (.head _)).1, rfl, _, rfl⟩ (ys := (headN ns).map fun c => ch c) (by simpa using hS) ?hj (fun t₄ k₄ => ?_)
    case hj =>
      have e0 : (Str.ofString "").length = 0 := by decide +kernel
      rw [e0, Nat.mul_zero, Nat.add_zero]
      have h1 : ∀ l : List Nat, ((l.map fun c => ch c).map (·.length)).sum = l.length := by
        intro l
        induction l with
        | nil => rfl
        | cons x l ih => simp only [List.map_cons, List.sum_cons, List.length_cons, ih]; show 1 + _ = _; omega
      rw [h1]
      have := headN_len ns
      omega
    rw [join_signs]
    (first | repeat' (first | ((fail_if_success (first | with_reducible show wpAny _ _ (exec (Stmt.Assign [Expr.Name (Str.ofString "things") _] (Expr.ListComp _ _ _ _) _) _) _ _ _ | with_reducible show wpAny _ _ (binaryOp Operator.Add (Value.str _ _) _) _ _ _ | with_reducible show wpAny _ _ (call (Value.builtin "str.split") _) _ _ _ | with_reducible show wpAny _ _ (subscriptTail _ _ (Value.str _ _) _) _ _ _ | with_reducible show wpAny _ _ (call (Value.builtin "str.join") _) _ _ _ | with_reducible show wpAny _ _ (call (Value.ref _) _) _ _ _ | with_reducible show wpAny _ _ (eval (Expr.ListComp _ _ _ _) _) _ _ _ | with_reducible show wpAny _ _ (exec (Stmt.For _ _ _ _ _) _) _ _ _)); (first | (first | (with_reducible show wpAny _ _ _ _ _ _) | (with_reducible show (if _ then _ else _)) | (with_reducible show Frag.In _ _ ∧ _) | (with_reducible show KdsFill _ _ _ _ _ _ _ _)) | (dsimp only; (first | (with_reducible show wpAny _ _ _ _ _ _) | (with_reducible show (if _ then _ else _)) | (with_reducible show Frag.In _ _ ∧ _) | (with_reducible show KdsFill _ _ _ _ _ _ _ _)))); (first | walk1 | (dsimp only; walk1)))))
    refine SB.add (fun t₅ k₅ => ?_) ?hz
    case hz =>
      have := headN_len ns
      show (headN ns).length + 12 ≤ sizeLine
      rw [sizeLine_eq]; omega
    dsimp only
    rw [tail_mk]
    erw [mk_append]
    (first | repeat' (first | ((fail_if_success (first | with_reducible show wpAny _ _ (exec (Stmt.Assign [Expr.Name (Str.ofString "things") _] (Expr.ListComp _ _ _ _) _) _) _ _ _ | with_reducible show wpAny _ _ (binaryOp Operator.Add (Value.str _ _) _) _ _ _ | with_reducible show wpAny _ _ (call (Value.builtin "str.split") _) _ _ _ | with_reducible show wpAny _ _ (subscriptTail _ _ (Value.str _ _) _) _ _ _ | with_reducible show wpAny _ _ (call (Value.builtin "str.join") _) _ _ _ | with_reducible show wpAny _ _ (call (Value.ref _) _) _ _ _ | with_reducible show wpAny _ _ (eval (Expr.ListComp _ _ _ _) _) _ _ _ | with_reducible show wpAny _ _ (exec (Stmt.For _ _ _ _ _) _) _ _ _)); (first | (first | (with_reducible show wpAny _ _ _ _ _ _) | (with_reducible show (if _ then _ else _)) | (with_reducible show Frag.In _ _ ∧ _) | (with_reducible show KdsFill _ _ _ _ _ _ _ _)) | (dsimp only; (first | (with_reducible show wpAny _ _ _ _ _ _) | (with_reducible show (if _ then _ else _)) | (with_reducible show Frag.In _ _ ∧ _) | (with_reducible show KdsFill _ _ _ _ _ _ _ _)))); (first | walk1 | (dsimp only; walk1)))))
    rename Fr _ _ _ _ => F₄; rename News _ _ _ _ => N₄
    refine KSpl.split1 F₄ N₄ (by decide) (fun D₅ l₅ h₅ tk₅ e₅ hS₅ F₅ N₅ _ => ?_) ?hz2
    case hz2 =>
      have := headN_len ns
      show (headN ns ++ tailN).length + 2 ≤ sizeLine
      rw [List.length_append, sizeLine_eq]
      have : tailN.length = 12 := rfl
      omega
    rw [e₅, slash_mk, split_mk] at hS₅
    change StrsAre _ ((namesOf ns).map mk) at hS₅
    generalize strValues l₅ = ws at hS₅ N₅
    have N₅' := drop2 N₅
    clear F₄ N₄ N₅ e₅ hI₂
    (first | repeat' (first | ((fail_if_success (first | with_reducible show wpAny _ _ (exec (Stmt.Assign [Expr.Name (Str.ofString "things") _] (Expr.ListComp _ _ _ _) _) _) _ _ _ | with_reducible show wpAny _ _ (binaryOp Operator.Add (Value.str _ _) _) _ _ _ | with_reducible show wpAny _ _ (call (Value.builtin "str.split") _) _ _ _ | with_reducible show wpAny _ _ (subscriptTail _ _ (Value.str _ _) _) _ _ _ | with_reducible show wpAny _ _ (call (Value.builtin "str.join") _) _ _ _ | with_reducible show wpAny _ _ (call (Value.ref _) _) _ _ _ | with_reducible show wpAny _ _ (eval (Expr.ListComp _ _ _ _) _) _ _ _ | with_reducible show wpAny _ _ (exec (Stmt.For _ _ _ _ _) _) _ _ _)); (first | (first | (with_reducible show wpAny _ _ _ _ _ _) | (with_reducible show (if _ then _ else _)) | (with_reducible show Frag.In _ _ ∧ _) | (with_reducible show KdsFill _ _ _ _ _ _ _ _)) | (dsimp only; (first | (with_reducible show wpAny _ _ _ _ _ _) | (with_reducible show (if _ then _ else _)) | (with_reducible show Frag.In _ _ ∧ _) | (with_reducible show KdsFill _ _ _ _ _ _ _ _)))); (first | walk1 | (dsimp only; walk1)))))
    rename Fr _ _ _ _ => F₆; rename News _ _ _ _ => N₆
    refine list_comp (cl := []) rfl (by decide) rfl (by decide) rfl ?_
    (first | repeat' (first | ((fail_if_success (first | with_reducible show wpAny _ _ (exec (Stmt.Assign [Expr.Name (Str.ofString "things") _] (Expr.ListComp _ _ _ _) _) _) _ _ _ | with_reducible show wpAny _ _ (binaryOp Operator.Add (Value.str _ _) _) _ _ _ | with_reducible show wpAny _ _ (call (Value.builtin "str.split") _) _ _ _ | with_reducible show wpAny _ _ (subscriptTail _ _ (Value.str _ _) _) _ _ _ | with_reducible show wpAny _ _ (call (Value.builtin "str.join") _) _ _ _ | with_reducible show wpAny _ _ (call (Value.ref _) _) _ _ _ | with_reducible show wpAny _ _ (eval (Expr.ListComp _ _ _ _) _) _ _ _ | with_reducible show wpAny _ _ (exec (Stmt.For _ _ _ _ _) _) _ _ _)); (first | (first | (with_reducible show wpAny _ _ _ _ _ _) | (with_reducible show (if _ then _ else _)) | (with_reducible show Frag.In _ _ ∧ _) | (with_reducible show KdsFill _ _ _ _ _ _ _ _)) | (dsimp only; (first | (with_reducible show wpAny _ _ _ _ _ _) | (with_reducible show (if _ then _ else _)) | (with_reducible show Frag.In _ _ ∧ _) | (with_reducible show KdsFill _ _ _ _ _ _ _ _)))); (first | walk1 | (dsimp only; walk1)))))
    have hnl := names_len ns
    have hwl : ws.length = (namesOf ns).length := by have := StrsAre.length hS₅; rw [List.length_map] at this; exact this
    refine over_list (hA.deeper _).handled ⟨_, (N₆ _ (.head _)).1, rfl, _, rfl⟩ ?hsz6 (fun i y nw => ∃ a vs k p, (namesOf ns)[i]? = some p ∧ y = .ref a ∧ nw = [(a, W.listOf vs.toArray k)] ∧ StrsAre vs ((piecesOf p).map mk)) F₆ N₆ ?helt6 ?hq6
    case hsz6 => rw [sizeLine_eq]; omega
    case helt6 =>
      intro C i v s₇ m₇ hi hv7 F₇ hm₇
      obtain ⟨x, t₇, hx7, rfl⟩ := strs_get hS₅ hv7
      rw [List.getElem?_map] at hx7
      obtain ⟨p, hp, rfl⟩ := Option.map_eq_some_iff.mp hx7
      have g7 := names_good ns p (List.mem_of_getElem? hp)
      rw [canon1 hm₇ (fun _ _ => rfl)] at F₇
      dsimp only at F₇
      have N₇ := nilN F₇
      have X7 := X1.keeps F₆.keep
      have T7 := T1.keeps F₆.keep
      clear F₆ N₆ X1 T1 kb
      (first | repeat' (first | ((fail_if_success (first | with_reducible show wpAny _ _ (exec (Stmt.Assign [Expr.Name (Str.ofString "things") _] (Expr.ListComp _ _ _ _) _) _) _ _ _ | with_reducible show wpAny _ _ (binaryOp Operator.Add (Value.str _ _) _) _ _ _ | with_reducible show wpAny _ _ (call (Value.builtin "str.split") _) _ _ _ | with_reducible show wpAny _ _ (subscriptTail _ _ (Value.str _ _) _) _ _ _ | with_reducible show wpAny _ _ (call (Value.builtin "str.join") _) _ _ _ | with_reducible show wpAny _ _ (call (Value.ref _) _) _ _ _ | with_reducible show wpAny _ _ (eval (Expr.ListComp _ _ _ _) _) _ _ _ | with_reducible show wpAny _ _ (exec (Stmt.For _ _ _ _ _) _) _ _ _)); (first | (first | (with_reducible show wpAny _ _ _ _ _ _) | (with_reducible show (if _ then _ else _)) | (with_reducible show Frag.In _ _ ∧ _) | (with_reducible show KdsFill _ _ _ _ _ _ _ _)) | (dsimp only; (first | (with_reducible show wpAny _ _ _ _ _ _) | (with_reducible show (if _ then _ else _)) | (with_reducible show Frag.In _ _ ∧ _) | (with_reducible show KdsFill _ _ _ _ _ _ _ _)))); (first | walk1 | (dsimp only; walk1)))))
      all_goals (try k_data)
      refine pieces_spec (X7.keeps F₇.keep) (T7.keeps F₇.keep) (hA.deeper _) (by omega) ?_ ?_ ?_
      · intro c hc
        rcases g7.sign c (by simpa using hc) with q | q | q | q
        · rcases isFig_cases q with q | q | q | q <;> omega
        all_goals omega
      · show p.toArray.size ≤ 20
        have := g7.len
        rw [List.size_toArray]; omega
      · intro h₈ tk₈ a₈ vs₈ k₈ hk₈ e₈ n₈ S₈
        exact ⟨⟨[(a₈, _)], ⟨a₈, vs₈, k₈, p, hp, rfl, rfl, S₈⟩, fun q hq => by obtain rfl := List.mem_singleton.mp hq; exact ⟨n₈, e₈⟩⟩, _, _, rfl, hk₈⟩
    case hq6 =>
      intro D₉ c₉ h₉ tk₉ zs rest h₉k F₉ N₉ R₉ hl₉ hr₉ hG₉ hD₉
      dsimp only at hr₉ hD₉
      obtain ⟨os, rfl, hcut⟩ := cut_refs (hl₉.trans hwl) hG₉
      have e24 := (N₆ (24, _) (.tail _ (.head _))).1
      have e38 := (N₆ (38, _) (.tail _ (.tail _ (.head _)))).1
      have ec := N₆ (_, oc0) (.tail _ (.tail _ (.tail _ (.head _))))
      have r24 := off_of (fun p hp => (hr₉ p hp).2) e24
      have r38 := off_of (fun p hp => (hr₉ p hp).2) e38
      have rc := off_of (fun p hp => (hr₉ p hp).2) ec.1
      have rD := fun p hp => (hr₉ p hp).1
      have D24 : D₉ ≠ 24 := fun q => by rw [q, e24] at hD₉; cases hD₉
      have D38 : D₉ ≠ 38 := fun q => by rw [q, e38] at hD₉; cases hD₉
      have Dc : D₉ ≠ s.heap.objs.size + 1 := fun q => by rw [q, ec.1] at hD₉; cases hD₉
      have ecc := ec.2
      have c24 : s.heap.objs.size + 1 ≠ 24 := by omega
      have c38 : s.heap.objs.size + 1 ≠ 38 := by omega
      clear F₆ N₆ ec e24 e38
      refine wpAny_storeName_cell rfl rfl rfl ⟨oc0, (N₉ (_, oc0) (.tail _ (.tail _ (.tail _ (.tail _ (.head _)))))).1, hoc0⟩ (fun h₁₀ hv₁₀ hs₁₀ => ?_)
      obtain ⟨oc, hoc, hcd⟩ := hv₁₀
      have F := F₉.change hs₁₀ ecc.1 ecc.2
      have N := news_cons hoc ecc.1 ecc.2 (news_cons ((hs₁₀.2 _ Dc).trans (N₉ (D₉, _) (.head _)).1) (N₉ (D₉, _) (.head _)).2.1 (N₉ (D₉, _) (.head _)).2.2
        (news_cons ((hs₁₀.2 _ c38.symm).trans (N₉ (38, _) (.tail _ (.tail _ (.tail _ (.head _))))).1) (N₉ (38, _) (.tail _ (.tail _ (.tail _ (.head _))))).2.1 (N₉ (38, _) (.tail _ (.tail _ (.tail _ (.head _))))).2.2
          (news_but (wr := [s.heap.objs.size + 1]) R₉ (fun b o hb e => (hs₁₀.2 b (by simpa using hb)).trans e) (by simpa using rc))))
      have t24 : Tab24 h₁₀ := .inl ((hs₁₀.2 _ c24.symm).trans (N₉ (24, _) (.tail _ (.tail _ (.head _)))).1)
      clear F₉ N₉ R₉ hs₁₀ hr₉ hD₉ hG₉
      dsimp only
      have G1 : Gd w loose mean mg mb (hid2 s.heap) := ⟨X1, T1, C1, hideAll_none _ (by simp)⟩
      have S1 := S.keeps kb
      have b38 : (hid2 s.heap).get? 38 = none := hideAll_none _ (by simp)
      have L24 : s.heap.objs.size ≠ 24 := Nat.ne_of_gt n24
      have L38 : s.heap.objs.size ≠ 38 := Nat.ne_of_gt n38'
      have hng := names_good ns
      have hcg := cut_good ns
      generalize namesOf ns = names at hcut hnl hng hcg
      generalize s.heap.objs.size = L at *
      have hid : ∀ (b : Addr) (o : Obj), s.heap.get? b = some o → b ≠ 24 → b ≠ 38 → (hid2 s.heap).get? b = some o := fun b o e h1 h2 => hid2_get e h1 h2
      generalize hid2 s.heap = bs at *
      clear X1 T1 C1 hs hv hk n24 n38' hs1 h24 h38 hw10
      refine wpAny_execs_cons ?_
      refine loops_spec G1 (hA.up (Nat.le_refl n)) (by omega) F N hcd t24 hcut hng (by omega) r24 D24 c24 L24 fun h₁ tk₁ d₁ m₁ F₁ hm₁ t₁ N₁ => ?_
      show wpAny _ _ (execs [lawBody.getD 3 (.Pass default), lawBody.getD 4 (.Pass default), lawBody.getD 5 (.Pass default), lawBody.getD 6 (.Pass default)] (lawEnv L)) _ _ _
      refine rest_spec S1 G1 b38 hA (by omega) F₁ N₁ hcd t₁ hcut hng hcg hnl r24 D24 c24 L24 r38 D38 c38 L38 fun h₂ tk₂ d₂ k₂ t₂ e₂ => ?_
      exact h h₂ _ _ (fun b o h1 h2 e => k₂ _ _ (hid b o e h1 h2)) t₂ e₂
end Mine
end
section
open PySem PySem.W PySem.Calls PyProof.Rows PySem.W.X
set_option maxRecDepth 100000
set_option maxHeartbeats 0
namespace Mine
theorem tabs_ok {P : Params} {h : Heap} (X : (KF P).In h) (t8 : ∀ P ∈ [38, 24], h.get? P = some (tabObj #[])) : TabsAt [(28, 24), (42, 38)] h := by
  intro q hq
  simp only [List.mem_cons, List.not_mem_nil, or_false] at hq
  rcases hq with rfl | rfl
  · exact ⟨codeHd_of_K X (by kernel_rfl), t8 24 (by simp)⟩
  · exact ⟨codeHd_of_K X (by kernel_rfl), t8 38 (by simp)⟩
theorem sys_ok {P : Params} {h : Heap} {loose : List Str} {mean : ExcName → Option Value} {mg mb : Str → Option Value} (X : (KF P).In h) (T : Top hd.view_39 loose mean mg mb h) : Sys h := by
  refine ⟨?_, ?_⟩
  · obtain ⟨bm, ⟨c, d, dt, sl⟩, e1, _, e2, e3, e4, e5⟩ := T.bmain
    have e := mg_of (v := .ref 4) X T.g (show nsIn (KF P) mainGlobals "__builtins__" = some (some (.ref 4)) by kernel_rfl)
    rw [e] at e1
    cases e1
    dsimp only at e3 e4 e5
    subst e3 e4 e5
    exact ⟨sl, e2⟩
  · obtain ⟨mm, ⟨o, es, ep, e, _⟩, _⟩ := (T.seer (by decide +kernel)).mods
    exact ⟨o, e⟩
theorem old_of {h h' : Heap} (T : TabsAt [(28, 24), (42, 38)] h) (k : ∀ (b : Addr) (o : Obj), b ≠ 24 → b ≠ 38 → h.get? b = some o → h'.get? b = some o) (t : Tab24 h') (e : ∃ c', h'.get? 38 = some (tabObj #[rawInt 59, rawInt 4, Value.ref c'])) : OldK h h' := by
  have a24 := T (28, 24) (by simp)
  have a38 := T (42, 38) (by simp)
  have t24 : ∃ ps, h'.get? 24 = some (tabObj ps) := by
    rcases t with t | ⟨_, _, _, _, _, _, _, t⟩
    · exact ⟨_, t⟩
    · exact ⟨_, t⟩
  obtain ⟨ps, h24⟩ := t24
  obtain ⟨c', h38⟩ := e
  refine ⟨fun b o eb => ?_, fun b o eb => ?_⟩
  · by_cases b1 : b = 24
    · subst b1
      rw [a24.2] at eb; cases eb
      exact .inr (.inl ⟨(a24.1.tab a24.2).isCodeTable, rfl, #[], ps, rfl, by rw [Array.empty_append]; exact h24⟩)
    · by_cases b2 : b = 38
      · subst b2
        rw [a38.2] at eb; cases eb
        exact .inr (.inl ⟨(a38.1.tab a38.2).isCodeTable, rfl, #[], _, rfl, by rw [Array.empty_append]; exact h38⟩)
      · exact .inl (k b o b1 b2 eb)
  · by_cases b1 : b = 24
    · exact ⟨_, b1 ▸ h24⟩
    · by_cases b2 : b = 38
      · exact ⟨_, b2 ▸ h38⟩
      · exact ⟨o, k b o b1 b2 eb⟩
theorem law_end {w : World} {s₁ : Shared} {loose : List Str} {mean mean' : ExcName → Option Value} {mg mb : Str → Option Value} {sc : Addr} {vs : List Value} {ns : List Int} {c : ClaimW} {cl : Str → Option Addr} {args : List WData} {E : Value → Shared → Prop}
    (X : (KF w.params).In s₁.heap) (t8 : ∀ P ∈ [38, 24], s₁.heap.get? P = some (tabObj #[])) (T : Top hd.view_39 loose mean mg mb s₁.heap) (hg : s₁.gens = #[]) (hs : s₁.heap.IsList sc vs.toArray) (hv : IntsAre vs ns) (hl : ns.length ≤ 63) (hr : ∀ cls, c.raises args cls = false) (hp : c.post args (.bool true) args = true) :
    wpAny (model PR w) callerA (call (.ref 83) [.ref sc]) (fun v s' => GoodWG c cl mean' args s₁ (.ok (.ret v)) s') E s₁ := by
  have hT := tabs_ok X t8
  have S := (sys_ok X T)
  have S' : Sys (ghostOf s₁.heap [(28, 24), (42, 38)]) := ⟨let ⟨sl, e⟩ := S.1; ⟨sl, ghost_ne e (by simp)⟩, let ⟨o, e⟩ := S.2; ⟨o, ghost_ne e (by decide)⟩⟩
  have g24 : (ghostOf s₁.heap [(28, 24), (42, 38)]).get? 24 = none := hideAll_none _ (by simp)
  have g38 : (ghostOf s₁.heap [(28, 24), (42, 38)]).get? 38 = none := hideAll_none _ (by simp)
  have G : Gd w _ mean mg mb (ghostOf s₁.heap [(28, 24), (42, 38)]) :=
    ⟨fun a o e => ghost_ne (X a o (k0_look e).1) (by have := k0_look e; simp [this.2.1, this.2.2]), ghost_top hT T, (ghost_code hT).1, g24⟩
  have hA : Am callerA 301 := ⟨rfl, by decide +kernel, by decide +kernel⟩
  refine law_spec S' G (fun b o e => of_hideAll _ e) g38 hA (by decide) (hT (28, 24) (by simp)).2 (hT (42, 38) (by simp)).2 hs hv hl fun h' tk d k t e => ?_
  exact ⟨.inl ⟨_, _, [], rfl, hr, ReadsW.bool true, hp, fun _ => ⟨List.nodup_nil, fun _ hm => (nomatch hm)⟩⟩, old_of hT k t e, rfl, .of_eq hg⟩
end Mine
theorem PySem.Challenge.cw_mr0186_01_holds : PySem.Challenge.rw_mr0186_01.Holds := by
  refine Mine.hd ?_
  k_fill
  intro w s₀ s₁ mg mb G Y fa o pm cd doc dV kV ho hd hcd hD hmg hg args vals as hpre hlay hrd hwl hlo
  have KX := km_in_of Y
  have t8 := km_tabs_of Y
  refine Ground.open G ?_
  intro T B D TE TW
  wrow_args hpre hlay hrd hwl hlo
  x_fa T KX hmg
  rename Heap.IsList _ _ _ => hL
  rename IntsAre _ _ => hI
  refine Mine.law_end KX t8 T hg hL hI (by omega) (fun _ => rfl) ?_
  first | rfl | wrow_post
end
