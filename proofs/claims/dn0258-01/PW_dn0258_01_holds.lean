import PyProof.Rows.All
import Wide.All
import OpenK.AllK
import Wide.FinOn
import PySem.Challenge.RW_dn0258_01
set_option Elab.async false
section
open PySem PySem.W PyProof.Rows
set_option Elab.async false
set_option maxRecDepth 100000
set_option maxHeartbeats 8000000
namespace Mine
open_top hd for PySem.Challenge.rw_dn0258_01
end Mine
end

section
theorem Mine.freshLoops : True := by w_top off; trivial
open PySem PySem.W PyProof.Rows PySem.Calls PyProof.V PySem.Spec
set_option Elab.async false
set_option maxRecDepth 100000
namespace Mine
section
variable {prog : Program} {w : World} {A : Around} {E : Value → Shared → Prop} {s : Shared} {env : Env} {h₀ : Heap} {x : Str} {body : List Stmt} {Q : Flow → Shared → Prop}
theorem range_loop {r : Addr} {a₀ b₀ c : Int} {t₀ u₀ v₀ : Tok} {n : Nat} {m₀ : Str → Option Value} {news : List (Addr × Obj)} (J : Nat → (Str → Option Value) → List (Addr × Obj) → Prop)
    (hh : A.handled = none) (hr : IsRange s.heap r a₀ b₀ c t₀ u₀ v₀) (hsmall : Builtin.Range.small a₀ b₀ c = true) (hsz : Builtin.Range.rangeSize a₀ b₀ c = (n : Int))
    (F : Fr h₀ env.locals s.heap m₀) (N : News h₀ env.locals s.heap news) (hj : J 0 m₀ news)
    (turn : ∀ i t m₁ nx h tk own, i < n → OwnOff own (nx.map (·.1)) → J i m₁ nx → Fr h₀ env.locals h (fun y => if y = x then some (.int (a₀ + (i : Int) * c) t) else m₁ y) → News h₀ env.locals h (nx ++ own) →
      wpAny (model prog w) A (execs body env) (InvPostG h₀ env.locals (J (i + 1)) own { s with heap := h, toks := tk } Q) E { s with heap := h, toks := tk })
    (done : ∀ m₁ nx h tk, J n m₁ nx → Fr h₀ env.locals h m₁ → News h₀ env.locals h nx → Q .next { s with heap := h, toks := tk }) :
    wpAny (model prog w) A (pyIter (.ref r)) (fun it s₂ => LoopAtV prog w A h₀ env x body Q E it s₂) E s := by
  refine wpAny_pyIter_range hr hsmall ?_
  have W : Walks prog w A s.heap.objs.size [s.heap.objs.size] [s.heap.objs.size] n (fun i v => i < n ∧ ∃ t, v = .int (a₀ + i * c) t)
      (fun i h => IsRangeIter h s.heap.objs.size (a₀ + (i : Nat) * c) ((n : Int) - (i : Nat)) c) := (Walks.range hh _ a₀ c n).bound
  refine kdr_loop J W (fun _ h => h) (fun _ h => h) ?_ ?_ ?_ ?_ (by show IsRangeIter _ _ _ _ _; rw [hsz]; simpa using Heap.get?_push_size _ rfl) (F.push _) (fun p hp => ⟨Heap.get?_push_of_some _ (N p hp).1, (N p hp).2⟩) hj ?_ done
  · intro i h hi b hb
    rw [List.mem_singleton.mp hb]
    exact ⟨_, hi⟩
  · intro hm
    exact absurd F.ns.lt ((List.mem_singleton.mp hm) ▸ Nat.lt_irrefl _)
  · intro b hb
    rw [List.mem_singleton.mp hb]
    exact next_is_new F
  · intro p hp hI
    exact absurd (Heap.lt_size (N p hp).1) ((List.mem_singleton.mp hI) ▸ Nat.lt_irrefl _)
  · rintro i v m₁ nx h tk own hi ⟨_, t, rfl⟩ hoff hJ F₁ N₁
    exact turn i t m₁ nx h tk own hi hoff hJ F₁ N₁
end
end Mine
end

section
theorem Mine.freshDefs : True := by w_top off; trivial
open PySem PySem.W PyProof.Rows PySem.Calls PyProof.V PySem.Spec
set_option Elab.async false
set_option maxRecDepth 100000
namespace Mine
def lawParts : List Stmt × Scope := match PySem.Challenge.pw_dn0258_01.main.body with
  | [_, _, _, _, _, .FunctionDef _ _ b _ _ _ sc _ _ _] => (b, sc)
  | _ => ([], default)
def lawScope : Scope := lawParts.2
def outerBody : List Stmt := match lawParts.1 with
  | [_, .For _ _ b _ _, _] => b
  | _ => []
def buildBody : List Stmt := match outerBody with
  | [_, _, _, .For _ _ b _ _, _, _] => b
  | _ => []
def whileBody : List Stmt := match outerBody with
  | [_, _, _, _, _, .While _ b _ _] => b
  | _ => []
def nameBody : List Stmt := match whileBody with
  | [_, _, _, _, _, .For _ _ b _ _, _, _, _] => b
  | _ => []
abbrev P : Program := PySem.Challenge.rw_dn0258_01.row.prog
noncomputable abbrev looseL : List Str := looseW hd.view_39 [] ++ List.map (fun x => x.name) (recsOf hd.view_39) ++ List.map (fun x => x.fst) (litsOf hd.view_39) ++ List.map (fun x => x.name) (clssOf hd.view_39 (looseW hd.view_39 []))
noncomputable abbrev KK (w : World) : Frag := hd.heap_39 w.params
abbrev envL (sc : Scope) (L fa : Addr) (cd : Value) : Env := envOfC (Str.ofString "law") sc L fa cd
abbrev A1 (sc : Scope) (L fa : Addr) (cd : Value) : Around := callerA.deeper (envL sc L fa cd)
example : whileBody.length = 9 := rfl
example : nameBody.length = 5 := rfl
example : buildBody.length = 3 := rfl

end Mine
end

section
theorem Mine.freshComp : True := by w_top off; trivial
open PySem PySem.W PyProof.Rows PySem.Calls PyProof.V PySem.Spec
set_option Elab.async false
set_option maxRecDepth 100000
namespace Mine
/-- what a turn of a comprehension is to show -/
structure CompTurn (prog : Program) (w : World) (A : Around) (env : Env) (scope : Scope) (cl : List (Str × Addr)) (target c elt : Expr) (I : Addr) (wr : List Addr) (n : Nat) (P : Nat → Value → Prop) (St : Nat → Heap → Prop)
    (J : Nat → List Value → List (Addr × Obj) → Prop) (s₂ : Shared) : Prop where
  go : ∀ i v (s : Shared) (Q : Unit → Shared → Prop) E', St (i + 1) s.heap → P i v → Q () s → wpAny (model prog w) A (letOwnedTupleGo target (.ref I) v) Q E' s
  turn : ∀ C i v ys nws (s : Shared) m E', s₂.heap.objs.size ≤ C → i < n → P i v → J i ys nws → s.heap.Ns C m → (∀ b o, b ∉ wr → s₂.heap.get? b = some o → s.heap.get? b = some o) →
    wpAny (model prog w) A (assign target (compEnvC scope cl C env) v) (fun _ s' => ∃ h' tk m', s' = { s with heap := h', toks := tk } ∧ h'.Ns C m' ∧ (∀ b o, b ≠ C → s.heap.get? b = some o → h'.get? b = some o) ∧
      wpAny (model prog w) A (isTrue c (compEnvC scope cl C env) (eval c (compEnvC scope cl C env))) (fun ok s₃ => Keeps s' s₃ ∧
        if ok = true then wpAny (model prog w) A (eval elt (compEnvC scope cl C env)) (fun y s₄ => ∃ h₄ tk₄ nw, s₄ = { s₃ with heap := h₄, toks := tk₄ } ∧ (∀ b o, s₃.heap.get? b = some o → h₄.get? b = some o) ∧
          (∀ q ∈ nw, h₄.get? q.1 = some q.2 ∧ s₃.heap.get? q.1 = none) ∧ J (i + 1) (ys ++ [y]) (nws ++ nw)) E' s₃
        else J (i + 1) ys nws) E' s') E' s

section
variable {prog : Program} {w : World} {A : Around} {E : Value → Shared → Prop} {env : Env}
theorem comp_loop {elt target iter c : Expr} {scope : Scope} {cl : List (Str × Addr)} {pos : Pos} {s s₂ : Shared} {I D C : Addr} {fp wr : List Addr} {n : Nat} {P : Nat → Value → Prop} {St : Nat → Heap → Prop} {m : Str → Option Value}
    {J : Nat → List Value → List (Addr × Obj) → Prop} {R : Result → Shared → Prop}
    (W : Walks prog w A I fp wr n P St) (hsz : n ≤ sizeLine) (hJl : ∀ i ys nws, J i ys nws → ys.length ≤ i) (T : CompTurn prog w A env scope cl target c elt I wr n P St J s₂) (hC : s₂.heap.objs.size ≤ C)
    (hDC : D ≠ C) (hDf : D ∉ fp) (hCf : C ∉ fp) (hst : St 0 s.heap) (hacc : s.heap.PlainList D #[]) (hn : s.heap.Ns C m) (hup : ∀ b o, b ∉ wr → s₂.heap.get? b = some o → s.heap.get? b = some o) (hlow : ∀ b o, s₂.heap.get? b = some o → b ≠ C ∧ b ≠ D)
    (hlive : ∀ i h, St i h → ∀ b ∈ wr, ∃ o, h.get? b = some o) (h0 : J 0 [] [])
    (hR : ∀ h' tk m' ys nws, h'.Ns C m' → h'.PlainList D ys.toArray → J n ys nws → (∀ b o, b ≠ C → b ∉ wr → b ≠ D → s.heap.get? b = some o → h'.get? b = some o) →
      (∀ q ∈ nws, h'.get? q.1 = some q.2 ∧ s.heap.get? q.1 = none ∧ q.1 ≠ C ∧ q.1 ≠ D ∧ q.1 ∉ wr) → R (.ok .next) { s with heap := h', toks := tk }) :
    codeAny (model prog w) A (.compLoop (.ListComp elt [⟨target, iter, [c], 0⟩] scope pos) 0 (.ref I) (.ref D) (compEnvC scope cl C env)) R s := by
  have hCw : C ∉ wr := fun h => hCf (W.sub _ h)
  have hDw : D ∉ wr := fun h => hDf (W.sub _ h)
  refine kct_loop
    (fun k s' => ∃ h' tk m' ys nws i, s' = { s with heap := h', toks := tk } ∧ St i h' ∧ h'.PlainList D ys.toArray ∧ h'.Ns C m' ∧ J i ys nws ∧ i ≤ n ∧ k = n + 1 - i ∧
      (∀ b o, b ≠ C → b ∉ wr → b ≠ D → s.heap.get? b = some o → h'.get? b = some o) ∧ (∀ q ∈ nws, h'.get? q.1 = some q.2 ∧ s.heap.get? q.1 = none ∧ q.1 ≠ C ∧ q.1 ≠ D ∧ q.1 ∉ wr)) ?_ (n + 1)
    ⟨s.heap, s.toks, m, [], [], 0, rfl, hst, hacc, hn, h0, Nat.zero_le _, rfl, fun _ _ _ _ _ e => e, fun _ hq => (nomatch hq)⟩
  rintro k s' ⟨H, tk, m', ys, nws, i, rfl, hst', hacc', hn', hJ, hi, rfl, hk, hnw⟩
  by_cases hlt : i < n
  · refine W.item i _ _ _ hlt hst' fun v h₁ tk₁ hPv hst₁ hk₁ => ?_
    refine T.go i v _ _ _ hst₁ hPv ?_
    have hn₁ : h₁.Ns C m' := hn'.at' fun o e => hk₁ _ o hCw e
    have hup₁ : ∀ b o, b ∉ wr → s₂.heap.get? b = some o → h₁.get? b = some o := fun b o hb e => hk₁ b o hb (hk b o (hlow b o e).1 hb (hlow b o e).2 (hup b o hb e))
    refine wpAny_mono (T.turn C i v ys nws _ m' _ hC hlt hPv hJ hn₁ hup₁) (fun _ s₄ h₄ => ?_) fun _ _ e => e
    obtain ⟨h₂, tk₂, m₂, rfl, hn₂, hk₂, h₄⟩ := h₄
    refine wpAny_mono h₄ (fun ok s₅ h₅ => ?_) fun _ _ e => e
    obtain ⟨⟨h₃, tk₃, rfl, hk₃⟩, h₅⟩ := h₅
    have up₃ : ∀ b o, b ≠ C → b ∉ wr → H.get? b = some o → h₃.get? b = some o := fun b o hbC hbw e => hk₃ b o (hk₂ b o hbC (hk₁ b o hbw e))
    have hst₃ : St (i + 1) h₃ := W.frame _ _ _ hst₁ fun b hb o e => hk₃ b o (hk₂ b o (fun q => hCf (q ▸ hb)) e)
    have hacc₃ : h₃.PlainList D ys.toArray := hacc'.at fun o e => up₃ D o hDC hDw e
    have hn₃ : h₃.Ns C m₂ := hn₂.keeps hk₃
    have kk₃ : ∀ b o, b ≠ C → b ∉ wr → b ≠ D → s.heap.get? b = some o → h₃.get? b = some o := fun b o hbC hbw hbD e => up₃ b o hbC hbw (hk b o hbC hbw hbD e)
    have hnw₃ : ∀ q ∈ nws, h₃.get? q.1 = some q.2 ∧ s.heap.get? q.1 = none ∧ q.1 ≠ C ∧ q.1 ≠ D ∧ q.1 ∉ wr := fun q hq =>
      ⟨up₃ _ _ (hnw q hq).2.2.1 (hnw q hq).2.2.2.2 (hnw q hq).1, (hnw q hq).2⟩
    cases ok with
    | false =>
      simp only [Bool.false_eq_true, if_false] at h₅ ⊢
      exact ⟨n + 1 - (i + 1), by omega, h₃, tk₃, m₂, ys, nws, i + 1, rfl, hst₃, hacc₃, hn₃, h₅, hlt, rfl, kk₃, hnw₃⟩
    | true =>
      simp only [if_true] at h₅ ⊢
      refine wpAny_mono h₅ (fun y s₆ h₆ => ?_) fun _ _ e => e
      obtain ⟨h₄', tk₄', nw, rfl, hk₄, hnew, hJ'⟩ := h₆
      have hys : ys.toArray.size ≤ sizeLine := by
        have := hJl i ys nws hJ
        rw [List.size_toArray]; omega
      refine wpAny_list_append_plain (hsz := hys) (hacc₃.at fun o e => hk₄ _ o e) fun h₅' hl₅ hs₅ => ?_
      have ofn : ∀ q ∈ nw, q.1 ≠ C ∧ q.1 ≠ D ∧ q.1 ∉ wr := fun q hq => by
        have hnone := (hnew q hq).2
        refine ⟨fun e => ?_, fun e => ?_, fun hw => ?_⟩
        · obtain ⟨oC, _, _, hoC, _⟩ := hn₃
          rw [e] at hnone
          exact absurd (hnone.symm.trans hoC) (by simp)
        · obtain ⟨nD, hoD⟩ := hacc₃
          rw [e] at hnone
          exact absurd (hnone.symm.trans hoD) (by simp)
        · obtain ⟨o, ho⟩ := hlive _ _ hst₃ _ hw
          exact absurd (hnone.symm.trans ho) (by simp)
      have fresh : ∀ q ∈ nw, s.heap.get? q.1 = none := fun q hq => by
        cases e : s.heap.get? q.1 with
        | none => rfl
        | some o =>
          have := kk₃ q.1 o (ofn q hq).1 (ofn q hq).2.2 (ofn q hq).2.1 e
          exact absurd ((hnew q hq).2.symm.trans this) (by simp)
      refine ⟨n + 1 - (i + 1), by omega, h₅', tk₄', m₂, ys ++ [y], nws ++ nw, i + 1, rfl, ?_, by simpa using hl₅, (hn₃.keeps hk₄).sameBut hs₅ (Ne.symm hDC), hJ', hlt, rfl, fun b o hbC hbw hbD e => hs₅.extBut b o hbD (hk₄ b o (kk₃ b o hbC hbw hbD e)), fun q hq => ?_⟩
      · exact W.frame _ _ h₅' hst₃ fun b hb o e => hs₅.extBut b o (fun h => hDf (h ▸ hb)) (hk₄ b o e)
      · rcases List.mem_append.mp hq with hq | hq
        · exact ⟨hs₅.extBut _ _ (hnw₃ q hq).2.2.2.1 (hk₄ _ _ (hnw₃ q hq).1), (hnw₃ q hq).2⟩
        · exact ⟨hs₅.extBut _ _ (ofn q hq).2.1 (hnew q hq).1, fresh q hq, ofn q hq⟩
  · have hin : i = n := by omega
    subst hin
    refine W.done _ _ _ hst' fun h₁ tk₁ hk₁ => ?_
    exact hR h₁ tk₁ m' ys nws (hn'.at' fun o e => hk₁ _ o hCw e) (hacc'.at fun o e => hk₁ _ o hDw e) hJ (fun b o hbC hbw hbD e => hk₁ b o hbw (hk b o hbC hbw hbD e))
      fun q hq => ⟨hk₁ _ _ (hnw q hq).2.2.2.2 (hnw q hq).1, (hnw q hq).2⟩

theorem comp_block {elt target iter c : Expr} {scope : Scope} {cl : List (Str × Addr)} {pos : Pos} {s₂ : Shared} {I : Addr} {fp wr : List Addr} {n : Nat} {P : Nat → Value → Prop} {St : Nat → Heap → Prop}
    {J : Nat → List Value → List (Addr × Obj) → Prop} {RR : Value → Addr → Result → Shared → Prop}
    (W : Walks prog w A I fp wr n P St) (hsz : n ≤ sizeLine) (hJl : ∀ i ys nws, J i ys nws → ys.length ≤ i) (T : CompTurn prog w A env scope cl target c elt I wr n P St J s₂)
    (hcell : ∀ y ∈ scope.names, y.2 ≠ .cell) (hkind : scope.kind = .function) (hst : St 0 s₂.heap) (hfp : ∀ b ∈ fp, b < s₂.heap.objs.size) (hlive : ∀ i h, St i h → ∀ b ∈ wr, ∃ o, h.get? b = some o) (h0 : J 0 [] [])
    (hRR : ∀ D C h' tk m' ys nws, s₂.heap.objs.size ≤ D → s₂.heap.get? C = none → D ≠ C → h'.Ns C m' → h'.PlainList D ys.toArray → J n ys nws → (∀ b o, b ∉ wr → s₂.heap.get? b = some o → h'.get? b = some o) →
      (∀ q ∈ nws, h'.get? q.1 = some q.2 ∧ s₂.heap.get? q.1 = none ∧ q.1 ≠ C ∧ q.1 ≠ D ∧ q.1 ∉ wr) → RR (.ref D) C (.ok .next) { s₂ with heap := h', toks := tk }) :
    wpAny (model prog w) A (newList []) (fun acc s₃ => wpAny (model prog w) A (newFunctionEnv scope env.globals cl [] env.qual none .none (some env)) (fun cenv s₄ =>
      codeAny (model prog w) A (.compStart (.ListComp elt [⟨target, iter, [c], 0⟩] scope pos) 0 (.ref I) acc { cenv with scope := relabel scope env }) (RR acc cenv.locals) s₄) E s₃) E s₂ := by
  refine wpAny_newObj_type (wpAny_newFunctionEnv hcell (by intro y hy; simp at hy) (fun h₁ hns₁ hsb₁ => ?_) hkind)
  dsimp only at hns₁ hsb₁ ⊢
  generalize hH2 : s₂.heap.push { cls := .type "list", dict := none, data := .seq ([] : List Value).toArray } = H2 at hns₁ hsb₁ ⊢
  have hC : H2.objs.size = s₂.heap.objs.size + 1 := by rw [← hH2, Heap.size_push]
  have hDC : s₂.heap.objs.size ≠ H2.objs.size := by rw [hC]; exact Nat.ne_of_lt (Nat.lt_succ_self _)
  have hCle : s₂.heap.objs.size ≤ H2.objs.size := by rw [hC]; exact Nat.le_succ _
  have below : ∀ b, b < s₂.heap.objs.size → b ≠ H2.objs.size ∧ b ≠ s₂.heap.objs.size := fun b hb => ⟨by rw [hC]; exact Nat.ne_of_lt (Nat.lt_succ_of_lt hb), Nat.ne_of_lt hb⟩
  have hDf : s₂.heap.objs.size ∉ fp := fun hm => Nat.lt_irrefl _ (hfp _ hm)
  have hCf : H2.objs.size ∉ fp := fun hm => by have := hfp _ hm; rw [hC] at this; exact Nat.lt_irrefl _ (Nat.lt_of_succ_lt this)
  have old : ∀ b o, s₂.heap.get? b = some o → h₁.get? b = some o := fun b o e => hsb₁.extBut b o (below b (Heap.lt_size e)).1 (Heap.get?_push_of_some _ (hH2 ▸ Heap.get?_push_of_some _ e))
  have hacc : h₁.PlainList s₂.heap.objs.size #[] := ⟨_, hsb₁.extBut _ _ hDC (Heap.get?_push_of_some _ (hH2 ▸ Heap.get?_push_size _ rfl))⟩
  have hst₁ : St 0 h₁ := W.frame _ _ _ hst fun b _ o e => old b o e
  have fresh : ∀ a, s₂.heap.objs.size ≤ a → s₂.heap.get? a = none := fun a ha => by
    cases e : s₂.heap.get? a with
    | none => rfl
    | some o' => exact absurd (Heap.lt_size e) (Nat.not_lt.mpr ha)
  have loop : ∀ s₃ : Shared, s₃ = { s₂ with heap := h₁, toks := s₂.toks + ([] : List (Str × Value)).length } →
      codeAny (model prog w) A (.compLoop (.ListComp elt [⟨target, iter, [c], 0⟩] scope pos) 0 (.ref I) (.ref s₂.heap.objs.size) (compEnvC scope cl H2.objs.size env))
        (RR (.ref s₂.heap.objs.size) H2.objs.size) s₃ := by
    rintro s₃ rfl
    refine comp_loop W hsz hJl T hCle hDC hDf hCf hst₁ hacc hns₁ (fun b o _ e => old b o e) (fun b o e => below b (Heap.lt_size e)) hlive h0 fun h' tk m' ys nws hn hl hJ hk hnw => ?_
    refine hRR _ _ h' tk m' ys nws (Nat.le_refl _) (fresh _ (by rw [hC]; exact Nat.le_succ _)) hDC hn hl hJ (fun b o hbw e => hk b o (below b (Heap.lt_size e)).1 hbw (below b (Heap.lt_size e)).2 (old b o e)) fun q hq => ⟨(hnw q hq).1, ?_, (hnw q hq).2.2⟩
    cases e : s₂.heap.get? q.1 with
    | none => rfl
    | some o => exact absurd ((hnw q hq).2.1.symm.trans (old _ _ e)) (by simp)
  exact codeAny_compStart_list (loop _ rfl) (W.self 0 _ _ _ hst₁ (loop _ rfl))

/-- a comprehension at its iterator, in a frame with a ledger -/
def CompAt (prog : Program) (w : World) (A : Around) (h₀ : Heap) (L : Addr) (env : Env) (scope : Scope) (cl : List (Str × Addr)) (target c elt : Expr) (m : Str → Option Value) (news : List (Addr × Obj))
    (Q : Addr → Nat → List Value → List (Addr × Obj) → Heap → Shared → Prop) (it : Value) (s₂ : Shared) : Prop :=
  ∃ (I : Addr) (fp wr : List Addr) (n : Nat) (P : Nat → Value → Prop) (St : Nat → Heap → Prop) (J : Nat → List Value → List (Addr × Obj) → Prop), it = .ref I ∧ Walks prog w A I fp wr n P St ∧ n ≤ sizeLine ∧ (∀ i ys nws, J i ys nws → ys.length ≤ i) ∧
    CompTurn prog w A env scope cl target c elt I wr n P St J s₂ ∧ St 0 s₂.heap ∧ (∀ b ∈ fp, b < s₂.heap.objs.size) ∧ (∀ i h, St i h → ∀ b ∈ wr, ∃ o, h.get? b = some o) ∧ J 0 [] [] ∧ L ∉ wr ∧ (∀ b ∈ wr, h₀.get? b = none) ∧ (∀ p ∈ news, p.1 ∉ wr) ∧
    Fr h₀ L s₂.heap m ∧ News h₀ L s₂.heap news ∧
    ∀ D k h' tk ys nws, J n ys nws → (∀ p ∈ news, p.1 < D) → h'.get? D = some (listOf ys.toArray k) → (∀ q ∈ nws, h'.get? q.1 = some q.2 ∧ s₂.heap.get? q.1 = none ∧ q.1 ≠ D) → Fr h₀ L h' m → News h₀ L h' ((D, listOf ys.toArray k) :: (nws ++ news)) →
      Q D k ys nws h' { s₂ with heap := h', toks := tk }

theorem comp_after {h₀ : Heap} {L D C : Addr} {m : Str → Option Value} {news nws : List (Addr × Obj)} {s₂ : Shared} {wr : List Addr} {h' : Heap} {ys : List Value} (hLw : L ∉ wr) (hwr : ∀ b ∈ wr, h₀.get? b = none) (hnw : ∀ p ∈ news, p.1 ∉ wr)
    (F : Fr h₀ L s₂.heap m) (N : News h₀ L s₂.heap news) (hD : s₂.heap.objs.size ≤ D) (hk : ∀ b o, b ∉ wr → s₂.heap.get? b = some o → h'.get? b = some o) (hl : h'.PlainList D ys.toArray)
    (hq : ∀ q ∈ nws, h'.get? q.1 = some q.2 ∧ s₂.heap.get? q.1 = none ∧ q.1 ≠ C ∧ q.1 ≠ D ∧ q.1 ∉ wr) :
    (∀ p ∈ news, p.1 < D) ∧ Fr h₀ L h' m ∧ ∃ k, h'.get? D = some (listOf ys.toArray k) ∧ News h₀ L h' ((D, listOf ys.toArray k) :: (nws ++ news)) := by
  have old : ∀ b o, h₀.get? b = some o → b ∉ wr := fun b o e hb => by rw [hwr b hb] at e; cases e
  have none_of : ∀ b, s₂.heap.get? b = none → h₀.get? b = none := fun b e => by
    cases q : h₀.get? b with
    | none => rfl
    | some o => exact absurd (e.symm.trans (F.keep b o q)) (by simp)
  have fresh : s₂.heap.get? D = none := by
    cases e : s₂.heap.get? D with
    | none => rfl
    | some o' => exact absurd (Heap.lt_size e) (Nat.not_lt.mpr hD)
  obtain ⟨k, hl⟩ := hl
  obtain ⟨oL, esL, epL, hoL, rL⟩ := F.ns
  refine ⟨fun p hp => Nat.lt_of_lt_of_le (Heap.lt_size (N p hp).1) hD, ⟨⟨oL, esL, epL, hk _ _ hLw hoL, rL⟩, fun b o e => hk b o (old b o e) (F.keep b o e), F.above⟩, k, hl, fun p hp => ?_⟩
  rcases List.mem_cons.mp hp with rfl | hp
  · exact ⟨hl, fun e => absurd (fresh.symm.trans (e ▸ hoL)) (by simp), none_of _ fresh⟩
  · rcases List.mem_append.mp hp with hp | hp
    · exact ⟨(hq p hp).1, fun e => absurd ((hq p hp).2.1.symm.trans (e ▸ hoL)) (by simp), none_of _ (hq p hp).2.1⟩
    · exact ⟨hk _ _ (hnw p hp) (N p hp).1, (N p hp).2⟩

theorem eval_comp {h₀ : Heap} {L : Addr} {s : Shared} {elt target iter c : Expr} {scope : Scope} {cl : List (Str × Addr)} {pos : Pos} {Q : Value → Shared → Prop}
    (hclos : closureFor scope env = pure cl) (hcell : ∀ y ∈ scope.names, y.2 ≠ .cell) (hkind : scope.kind = .function) (hnames : ∀ y ∈ scope.names, y.2 = .local → scope.names.lookup y.1 = some .local)
    (h : wpAny (model prog w) A (eval iter env) (fun xv s₁ => wpAny (model prog w) A (pyIter xv) (fun it s₂ => ∃ m news, CompAt prog w A h₀ L env scope cl target c elt m news (fun D _ _ _ _ s' => Q (.ref D) s') it s₂) E s₁) E s)
    (hs : ∀ x, foldedSetIterable iter env x = pure x := by intro _; rfl) :
    wpAny (model prog w) A (eval (.ListComp elt [⟨target, iter, [c], 0⟩] scope pos) env) Q E s := by
  rw [eval_ListComp]
  refine wpAny_comprehension_free (use := none) rfl hs hclos hkind hnames (wpAny_mono h (fun xv s₁ h₁ => wpAny_mono h₁ (fun it s₂ h₂ => ?_) fun _ _ e => e) fun _ _ e => e)
  obtain ⟨m, news, I, fp, wr, n, P, St, J, rfl, W, hsz, hJl, T, hst, hfp, hlive, h0, hLw, hwr, hnw, F, N, hQ⟩ := h₂
  refine comp_block (RR := fun acc C => compPost (model prog w) A E none Q acc C) W hsz hJl T hcell hkind hst hfp hlive h0 ?_
  intro D C h' tk m' ys nws hD hC hDC hn hl hJ hk hq
  refine ⟨m', hn, fun h'' hs'' => ?_⟩
  have hk'' : ∀ b o, b ∉ wr → s₂.heap.get? b = some o → h''.get? b = some o := fun b o hbf e => hs''.extBut b o (by rintro rfl; rw [hC] at e; cases e) (hk b o hbf e)
  have hq'' : ∀ q ∈ nws, h''.get? q.1 = some q.2 ∧ s₂.heap.get? q.1 = none ∧ q.1 ≠ C ∧ q.1 ≠ D ∧ q.1 ∉ wr := fun q hm => ⟨hs''.extBut _ _ (hq q hm).2.2.1 (hq q hm).1, (hq q hm).2⟩
  obtain ⟨a1, a2, k, a3, a4⟩ := comp_after hLw hwr hnw F N hD hk'' (hl.extBut hs''.extBut hDC) hq''
  exact hQ D k h'' tk ys nws hJ a1 a3 (fun q hm => ⟨(hq'' q hm).1, (hq'' q hm).2.1, (hq'' q hm).2.2.2.1⟩) a2 a4

theorem assign_comp {h₀ : Heap} {s : Shared} {elt target iter c : Expr} {y : Str} {py : Pos} {scope : Scope} {cl : List (Str × Addr)} {pos spos : Pos} {Q : Flow → Shared → Prop}
    (hsw : swapsWith (.ListComp elt [⟨target, iter, [c], 0⟩] scope pos) (some (.Name y py)) spos.line env = pure true)
    (hclos : closureFor scope env = pure cl) (hcell : ∀ y ∈ scope.names, y.2 ≠ .cell) (hkind : scope.kind = .function) (hnames : ∀ y ∈ scope.names, y.2 = .local → scope.names.lookup y.1 = some .local)
    (hy : env.kindOf y = some .local) (hp : (env.scope.kind == .class || (env.scope.kind == .module && env.locals != env.globals)) = false)
    (h : wpAny (model prog w) A (eval iter env) (fun xv s₁ => wpAny (model prog w) A (pyIter xv) (fun it s₂ => ∃ m news, CompAt prog w A h₀ env.locals env scope cl target c elt m news (fun D k ys nws _ s' =>
      ∀ h'' tk, Fr h₀ env.locals h'' (fun z => if z = y then some (.ref D) else m z) → News h₀ env.locals h'' ((D, listOf ys.toArray k) :: (nws ++ news)) → Q .next { s' with heap := h'', toks := tk }) it s₂) E s₁) E s)
    (hs : ∀ x, foldedSetIterable iter env x = pure x := by intro _; rfl) :
    wpAny (model prog w) A (exec (.Assign [.Name y py] (.ListComp elt [⟨target, iter, [c], 0⟩] scope pos) spos) env) Q E s := by
  rw [exec_Assign_Name_used _ _ _ _ hsw]
  refine wpAny_bind (wpAny_standAt (wpAny_bind ?_))
  show wpAny _ A (do let _ ← comprehension (.ListComp elt [⟨target, iter, [c], 0⟩] scope pos) scope env _ (newList []) false (eval iter env) (some (assign (.Name y py) env))) _ _ s
  refine wpAny_bind (wpAny_mono (wpAny_comprehension_free (use := some (assign (.Name y py) env)) (Q := fun _ s' => Q .next s') rfl hs hclos hkind hnames
    (wpAny_mono h (fun xv s₁ h₁ => wpAny_mono h₁ (fun it s₂ h₂ => ?_) fun _ _ e => e) fun _ _ e => e)) (fun _ s' hq => wpAny_pure (wpAny_pure hq)) fun _ _ e => e)
  obtain ⟨m, news, I, fp, wr, n, P, St, J, rfl, W, hsz, hJl, T, hst, hfp, hlive, h0, hLw, hwr, hnw, F, N, hQ⟩ := h₂
  refine comp_block (RR := fun acc C => compPost (model prog w) A E (some (assign (.Name y py) env)) (fun _ s' => Q .next s') acc C) W hsz hJl T hcell hkind hst hfp hlive h0 ?_
  intro D C h' tk m' ys nws hD hC hDC hnC hl hJ hk hq
  obtain ⟨oL, esL, epL, hoL, rL⟩ := id F.ns
  have hLC : env.locals ≠ C := by rintro rfl; rw [hC] at hoL; cases hoL
  obtain ⟨a1, a2, k, a3, a4⟩ := comp_after hLw hwr hnw F N hD hk hl hq
  show wpAny _ A (assign (.Name y py) env (.ref D)) _ _ _
  refine wpAny_assign_Name (wpAny_storeName_local hy a2.ns (fun h₂ hn₂ hs₂ => ?_) hp)
  have F₂ := a2.set hn₂ hs₂
  have N₂ := a4.set hs₂
  refine ⟨m', hnC.sameBut hs₂ (Ne.symm hLC), fun h₃ hs₃ => ?_⟩
  have h0C : h₀.get? C = none := by
    cases q : h₀.get? C with
    | none => rfl
    | some o => exact absurd (hC.symm.trans (F.keep C o q)) (by simp)
  have F₃ : Fr h₀ env.locals h₃ (fun z => if z = y then some (.ref D) else m z) := ⟨F₂.ns.sameBut hs₃ hLC, fun b o e => hs₃.extBut b o (by rintro rfl; rw [h0C] at e; cases e) (F₂.keep b o e), F₂.above⟩
  have hneC : ∀ p ∈ (D, listOf ys.toArray k) :: (nws ++ news), p.1 ≠ C := fun p hp => by
    rcases List.mem_cons.mp hp with rfl | hp
    · exact hDC
    · rcases List.mem_append.mp hp with hp | hp
      · exact (hq p hp).2.2.1
      · intro e; have := (N p hp).1; rw [e, hC] at this; cases this
  have N₃ : News h₀ env.locals h₃ ((D, listOf ys.toArray k) :: (nws ++ news)) := fun p hp => ⟨hs₃.extBut _ _ (hneC p hp) (N₂ p hp).1, (N₂ p hp).2⟩
  exact hQ D k h' tk ys nws hJ a1 a3 (fun q hm => ⟨(hq q hm).1, (hq q hm).2.1, (hq q hm).2.2.2.1⟩) a2 a4 h₃ _ F₃ N₃
end
end Mine
end

section
theorem Mine.freshDel : True := by w_top off; trivial
open PySem PySem.W PyProof.Rows PySem.Calls PyProof.V PySem.Spec
set_option Elab.async false
set_option maxRecDepth 100000
namespace Mine
theorem all_gone (sel : Nat → Bool) (xs : Array Value) (h : ∀ k, k < xs.size → sel k = true) :
    (xs.toList.zipIdx.filterMap fun (x : Value × Nat) => match x with | (x, k) => if sel k = true then none else some x) = [] := by
  rw [List.filterMap_eq_nil_iff]
  rintro ⟨x, k⟩ hx
  have h1 := List.mem_zipIdx hx
  have h2 : k < xs.size := by
    have := h1.2.1
    simpa using this
  simp [h k h2]
section
variable {prog : Program} {w : World} {A : Around} {E : Value → Shared → Prop} {s : Shared}
theorem upd_nil {M : Model} {l : Addr} {items : Array Value} {n : Nat} {f : Array Value → Array Value} {Q : Unit → Shared → Prop} (ho : s.heap.get? l = some (listOf items n)) (hsz : items.size ≤ sizeLine) (hf : f items = #[])
    (h : ∀ h' k, h'.get? l = some (listOf #[] k) → Heap.SameBut l s.heap h' → Q () { s with heap := h' }) : wpAny M A (updateSeq l f) Q E s := by
  refine wpAny_updateSeq ho rfl ?_ hsz (by rw [hf]; exact Nat.zero_le _)
  have e : ∃ k, Obj.mapSeq f (listOf items n) = listOf #[] k := by
    refine ⟨if (f items).size == items.size then n else n + 1, ?_⟩
    show Obj.mk _ _ (Data.seq (f items) _) _ = _
    rw [hf]
  obtain ⟨k, hk⟩ := e
  exact h _ k ((Heap.get?_update_self (Obj.mapSeq f) ho (by rw [hk]; rfl)).trans (by rw [hk])) (Heap.SameBut.update ..)
theorem delItem_all {l sl : Addr} {items : Array Value} {n : Nat} {Q : Unit → Shared → Prop} (ho : s.heap.get? l = some (listOf items n)) (hs : s.heap.IsSliceOf sl .none .none .none)
    (h : ∀ h' k, h'.get? l = some (listOf #[] k) → Heap.SameBut l s.heap h' → Q () { s with heap := h' }) (hsz : items.size ≤ sizeLine) : wpAny (model prog w) A (delItem (.ref l) (.ref sl)) Q E s := by
  have hl : s.heap.IsList l items := ⟨_, ho, rfl, n, rfl⟩
  obtain ⟨os, hos, hcs, hds⟩ := id hs
  have hTs : s.TypeIs (.ref sl) "slice" := ⟨os, hos, hcs⟩
  refine wpAny_delItem_slot hl.typeIs (by decide) F.slot_list_delitem (wpAny_call_entry F.slot_list_delitem hl.typeIs F.entry_list_delitem ?_ (F.args_list_delitem_2 _ _))
  show wpAny _ _ (Builtin.List.listSubscript? (.ref sl) >>= _) _ _ s
  refine wpAny_bind ?_
  unfold Builtin.List.listSubscript?
  refine wpAny_bind (wpAny_specialOf hTs slice_no_index ?_)
  simp only [Option.isNone_none, if_true]
  refine wpAny_pure ?_
  show wpAny _ _ (typeOf (.ref sl) >>= _) _ _ s
  refine wpAny_bind (wpAny_typeOf hTs ?_)
  rw [if_neg (by decide)]
  rw [listSliceParts_eq]
  refine wpAny_bind (wpAny_bind (wpAny_field hos hds (x := .none) rfl (wpAny_bind (wpAny_listPart .none ?_))))
  rw [if_neg (show ¬ ((rawPart none == rawInt 0) = true) from Bool.false_ne_true)]
  refine wpAny_bind (wpAny_field hos hds (x := .none) rfl (wpAny_bind (wpAny_listPart .none ?_)))
  refine wpAny_bind (wpAny_field hos hds (x := .none) rfl (wpAny_bind (wpAny_listPart .none (wpAny_pure ?_))))
  refine wpAny_bind (m := Builtin.List.listItems (.ref l)) ?_
  unfold Builtin.List.listItems
  refine wpAny_bind (wpAny_seqItems ho rfl (wpAny_pure ?_))
  refine wpAny_bind (wpAny_of_eq (sliceIndices_raw none none none items.size (by simp)) ?_)
  refine wpAny_bind (wpAny_rule ?_)
  refine wpAny_bind ?_
  show wpAny _ _ (updateSeq l _) _ _ s
  have hf : ∀ (sel : Nat → Bool), (∀ k : Nat, sel k = (if (1 : Int) > 0 then (decide ((0 : Int) ≤ (k : Int)) && decide ((k : Int) < (items.size : Int)) && ((k : Int) - 0) % 1 == 0) else (decide ((items.size : Int) < (k : Int)) && decide ((k : Int) ≤ 0) && ((0 : Int) - k) % (-1) == 0))) →
      (items.toList.zipIdx.filterMap fun (x : Value × Nat) => match x with | (x, k) => if sel k = true then none else some x) = [] := fun sel hsel => all_gone sel items fun k hk => by
    rw [hsel k]; simp; omega
  refine upd_nil ho hsz ?_ fun h' k hk hs' => ?_
  · exact congrArg List.toArray (hf _ fun _ => rfl)
  · exact wpAny_bind (wpAny_letGo (wpAny_pure ⟨_, rfl, h h' k hk hs'⟩))
end
end Mine
end

section
theorem Mine.freshNe : True := by w_top off; trivial
open PySem PySem.W PyProof.Rows PySem.Calls PyProof.V PySem.Spec
set_option Elab.async false
set_option maxRecDepth 100000
namespace Mine
open PySem.AutoSeq1 (wpAny_loadPart')
open PySem.MeetsSeq PySem.MeetsSeq3
theorem eq_self (v : Value) : EqGives v v true := fun prog w A E s Q h => by
  unfold eqBool
  refine wpAny_holding ?_
  rw [if_pos (by simp)]
  exact wpAny_bind (wpAny_rule (wpAny_pure h))

theorem ne_loop (l b : Addr) (items : Array Value) (n n2 : Nat) (k : Nat) :
    ∀ i : Nat, items.size - i = k → Meets (Builtin.«list.__eq__.loop» ⟨[.ref l, .ref b, rawInt i, rawInt 3], []⟩)
      (fun _ R s => s.heap.get? l = some { cls := .type "list", dict := none, data := .seq items n, slots := #[] } ∧ s.heap.get? b = some { cls := .type "list", dict := none, data := .seq items n2, slots := #[] } ∧
        R (.ok (.ret (.bool false))) s) := by
  induction k with
  | zero =>
    intro i hk prog w A R s h
    obtain ⟨hp, g, d, tk, os⟩ := s; obtain ⟨hl, hb, h⟩ := h
    wp_walk using wpAny_loadPart' hl, wpAny_loadPart' hb
    have hi1 : items[((i : Nat) : Int).toNat]? = none := by simp; omega
    rw [hi1]
    wp_walk using wpAny_loadPart' hl, wpAny_loadPart' hb
    show R (.ok (.ret (.bool (items.size != items.size)))) _
    simpa using h
  | succ k ih =>
    intro i hk prog w A R s h
    obtain ⟨hp, g, d, tk, os⟩ := s; obtain ⟨hl, hb, h⟩ := h
    wp_walk using wpAny_loadPart' hl, wpAny_loadPart' hb
    have hlt : i < items.size := by omega
    have hi1 : items[((i : Nat) : Int).toNat]? = some items[i] := by simp [hlt]
    have hc : ((i : Int) + 1) = ((i + 1 : Nat) : Int) := by push_cast; rfl
    rw [hi1]
    refine wpAny_bind (eq_self items[i] prog w _ _ _ _ ?_)
    wp_walk
    rw [hc]
    exact ⟨plainId_quiet plain_eq_loop _, codeAny_builtin entry_eq_loop (by
      rw [Around.under_plainId plain_eq_loop _]
      exact ih (i + 1) (by omega) prog w A R _ ⟨hl, hb, h⟩)⟩

theorem list_ne_same (l b : Addr) (items : Array Value) (n n2 : Nat) :
    Meets (Builtin.«list.__ne__» ⟨[.ref l, .ref b], []⟩)
      (fun _ R s => s.heap.get? l = some { cls := .type "list", dict := none, data := .seq items n, slots := #[] } ∧ s.heap.get? b = some { cls := .type "list", dict := none, data := .seq items n2, slots := #[] } ∧
        R (.ok (.ret (.bool false))) s) := by
  intro prog w A R s h
  obtain ⟨hp, g, d, tk, os⟩ := s; obtain ⟨hl, hb, h⟩ := h
  have f3 := AutoSeq1.sub_list_list
  have hne : ¬ (items.size != items.size) = true := by simp
  wp_walk using wpAny_loadPart' hl, wpAny_loadPart' hb
  exact ⟨plainId_quiet plain_eq_loop _, codeAny_builtin entry_eq_loop (by
    rw [Around.under_plainId plain_eq_loop _]
    exact ne_loop l b items n n2 _ 0 rfl prog w A R _ ⟨hl, hb, h⟩)⟩
section
variable {prog : Program} {w : World} {A : Around} {E : Value → Shared → Prop} {s : Shared}
theorem ne_same {l b : Addr} {items : Array Value} {n n2 : Nat} {Q : Value → Shared → Prop} (hl : s.heap.get? l = some (listOf items n)) (hb : s.heap.get? b = some (listOf items n2)) (hu : A.units < cLine) (h : Q (.bool false) s) :
    wpAny (model prog w) A (compareOp .NotEq (.ref l) (.ref b)) Q E s :=
  richCompare_meets_room (op := .NotEq) ⟨_, hl, rfl⟩ ⟨_, hb, rfl⟩ F.slot_list_ne F.entry_list_ne (F.args_list_ne_2 _ _) (list_ne_same l b items n n2)
    ⟨hl, hb, show Value.bool false ≠ Value.notImplemented ∧ Q (.bool false) s from ⟨(fun x => nomatch x), h⟩⟩ hu
end
end Mine
end

section
theorem Mine.freshInv : True := by w_top off; trivial
open PySem PySem.W PyProof.Rows PySem.Calls PyProof.V PySem.Spec
set_option Elab.async false
set_option maxRecDepth 100000
namespace Mine
structure Row where
  place : Int
  kind : Int
  reach : Int
abbrev rowOf (p x : Int) : Row := ⟨p, x.fmod 6, (x.fdiv 6).fmod 3 + 1⟩
def ruleParts : List Stmt × Scope := match PySem.Challenge.pw_dn0258_01.main.body with
  | [_, _, _, .FunctionDef _ _ b _ _ _ sc _ _ _, _, _] => (b, sc)
  | _ => ([], default)
def ruleScope : Scope := ruleParts.2
def reachParts : Arguments × List Stmt × Scope := match ruleParts.1 with
  | [_, _, _, .FunctionDef _ a b _ _ _ sc _ _ _, _, _] => (a, b, sc)
  | _ => (default, [], default)
def reachParams : Arguments := reachParts.1
def reachBody : List Stmt := reachParts.2.1
def reachScope : Scope := reachParts.2.2
abbrev reachQual (rs : Scope) : Str := qualnameIn (envOfC (Str.ofString "_law_rule") rs 0 63 (.ref 62)) (Str.ofString "_law_reach") (Str.ofString "_law_reach")
abbrev ent (w : World) (n : String) (t : Tok) (v : Value) : DictEntry := ⟨PyData.keyHash w.params (Str.ofString n), .str (Str.ofString n) t, v⟩
abbrev oneEs (w : World) (t1 t2 t3 t4 : Tok) (ua rl : Addr) : List DictEntry := [ent w "useragents" t1 (.ref ua), ent w "rulelines" t2 (.ref rl), ent w "delay" t3 .none, ent w "req_rate" t4 .none]
abbrev ruleEs (w : World) (t1 t2 t3 t4 t5 t6 : Tok) (l1 l2 f : Addr) (av : Value) : List DictEntry :=
  [ent w "useragents" t1 (.ref l1), ent w "rulelines" t2 (.ref l2), ent w "delay" t3 .none, ent w "req_rate" t4 .none, ent w "allowance" t5 av, ent w "applies_to" t6 (.ref f)]
abbrev reachFn (mg : Str → Option Value) (pa : Arguments) (bo : List Stmt) (so rs : Scope) (Lr cA : Addr) (dc ct : Value) : Obj :=
  fnMade (Str.ofString "_law_reach") (reachQual rs) pa bo so [(Str.ofString "reach", Lr + 1 + 1 + 1), (Str.ofString "place", Lr + 1), (Str.ofString "log", Lr + 1 + 1 + 1 + 1), (Str.ofString "kind", Lr + 1 + 1)] dc ((mg (Str.ofString "__name__")).getD .none) cA ct
/-- a rule's value, as the ledger bears it -/
inductive RuleAt (w : World) (mg : Str → Option Value) (pa : Arguments) (bo : List Stmt) (so rs : Scope) (nx : List (Addr × Obj)) (lg : Addr) : Value → Row → Prop
  | text {r : Row} {t : Tok} : r.kind = 4 → RuleAt w mg pa bo so rs nx lg (.str (Str.ofString "Disallow: /") t) r
  | made {r : Row} {x dx f Lr l1 l2 cA : Addr} {t1 t2 t3 t4 t5 t6 tP tK tR tq : Tok} {dc ct av : Value} {oG oR oK oP oc : Obj} {vc : Array Value} : r.kind ≠ 4 → (@LT.lt Nat _ lg x ∧ @LT.lt Nat _ lg dx ∧ @LT.lt Nat _ lg f ∧ @LT.lt Nat _ lg Lr) →
    (x, instObj 52 dx) ∈ nx → (dx, dictOf (ruleEs w t1 t2 t3 t4 t5 t6 l1 l2 f av) 6) ∈ nx → (f, reachFn mg pa bo so rs Lr cA dc ct) ∈ nx →
    (Lr + 1 + 1 + 1 + 1, oG) ∈ nx → oG.data = .cell (some (.ref lg)) → (Lr + 1 + 1 + 1, oR) ∈ nx → oR.data = .cell (some (.int r.reach tR)) →
    (Lr + 1 + 1, oK) ∈ nx → oK.data = .cell (some (.int r.kind tK)) → (Lr + 1, oP) ∈ nx → oP.data = .cell (some (.int r.place tP)) →
    (cA, oc) ∈ nx → oc.data = .fields vc → vc[1]? = some (.str (reachQual rs) tq) →
    (r.kind < 2 → av = .bool (r.kind == 0)) → (2 ≤ r.kind → ∃ t, av = .str (Str.ofString "aside") t) → RuleAt w mg pa bo so rs nx lg (.ref x) r
theorem RuleAt.mono {w : World} {mg : Str → Option Value} {pa : Arguments} {bo : List Stmt} {so rs : Scope} {nx nx' : List (Addr × Obj)} {lg : Addr} {v : Value} {r : Row} (hs : ∀ p ∈ nx, p ∈ nx') (h : RuleAt w mg pa bo so rs nx lg v r) : RuleAt w mg pa bo so rs nx' lg v r := by
  cases h with
  | text hk => exact .text hk
  | made hk a0 a1 a2 a3 a4 a5 a6 a7 a8 a9 a10 a11 a12 a13 a14 a15 a16 => exact .made hk a0 (hs _ a1) (hs _ a2) (hs _ a3) (hs _ a4) a5 (hs _ a6) a7 (hs _ a8) a9 (hs _ a10) a11 (hs _ a12) a13 a14 a15 a16
def TupAt (nx : List (Addr × Obj)) (v : Value) (r : Row) : Prop :=
  ∃ (a : Addr) (t1 t2 t3 : Tok) (n : Nat), v = .ref a ∧ (a, ({ cls := .type "tuple", data := .seq #[.int r.place t1, .int r.kind t2, .int r.reach t3] n } : Obj)) ∈ nx
theorem TupAt.of {nx : List (Addr × Obj)} {r : Row} {a : Addr} {t1 t2 t3 : Tok} {n : Nat} (h : (a, ({ cls := .type "tuple", data := .seq #[.int r.place t1, .int r.kind t2, .int r.reach t3] n } : Obj)) ∈ nx) : TupAt nx (.ref a) r := ⟨a, t1, t2, t3, n, rfl, h⟩
theorem TupAt.mono {nx nx' : List (Addr × Obj)} {v : Value} {r : Row} (hs : ∀ p ∈ nx, p ∈ nx') (h : TupAt nx v r) : TupAt nx' v r :=
  let ⟨a, t1, t2, t3, n, e, hm⟩ := h; ⟨a, t1, t2, t3, n, e, hs _ hm⟩
abbrev tabHit (c : Addr) : Array Value := #[rawInt ((57 : Nat) : Int), rawInt ((4 : Nat) : Int), .ref c]
def TabSt (rs : Scope) (tab : Array Value) (nx : List (Addr × Obj)) : Prop :=
  tab = #[] ∨ ∃ (c : Addr) (oc : Obj) (vc : Array Value) (tq : Tok), tab = tabHit c ∧ (c, oc) ∈ nx ∧ oc.data = .fields vc ∧ vc[1]? = some (.str (reachQual rs) tq)
theorem TabSt.mono {rs : Scope} {tab : Array Value} {nx nx' : List (Addr × Obj)} (hs : ∀ p ∈ nx, p ∈ nx') (h : TabSt rs tab nx) : TabSt rs tab nx' := by
  rcases h with h | ⟨c, oc, vc, tq, h1, h2, h3⟩
  · exact .inl h
  · exact .inr ⟨c, oc, vc, tq, h1, hs _ h2, h3⟩
theorem allLt_ne {d : Addr} {l : List (Addr × Obj)} (h : AllLt d l) : ∀ p ∈ l, p.1 ≠ d := fun p hp => Nat.ne_of_lt (kst_ltOf h p hp)
section
variable {g h : Heap} {L : Addr} {a1 a2 a3 a4 a5 a6 a7 a8 a9 a10 a11 e1 e2 e3 e4 e5 e6 e7 e8 e9 : Addr × Obj} {own : List (Addr × Obj)}
theorem news_swap (A E : List (Addr × Obj)) (N : News g L h (A ++ (E ++ own))) : News g L h (E ++ (A ++ own)) := fun p hp => N p (by
  rcases List.mem_append.mp hp with hp | hp
  · exact List.mem_append.mpr (.inr (List.mem_append.mpr (.inl hp)))
  · rcases List.mem_append.mp hp with hp | hp
    · exact List.mem_append.mpr (.inl hp)
    · exact List.mem_append.mpr (.inr (List.mem_append.mpr (.inr hp))))
theorem perm5 (N : News g L h (a1 :: a2 :: a3 :: a4 :: a5 :: e1 :: e2 :: e3 :: e4 :: e5 :: e6 :: e7 :: e8 :: e9 :: own)) : News g L h (e1 :: e2 :: e3 :: e4 :: e5 :: e6 :: e7 :: e8 :: e9 :: ([a1, a2, a3, a4, a5] ++ own)) := news_swap [a1, a2, a3, a4, a5] [e1, e2, e3, e4, e5, e6, e7, e8, e9] N
theorem perm10 (N : News g L h (a1 :: a2 :: a3 :: a4 :: a5 :: a6 :: a7 :: a8 :: a9 :: a10 :: e1 :: e2 :: e3 :: e4 :: e5 :: e6 :: e7 :: e8 :: e9 :: own)) : News g L h (e1 :: e2 :: e3 :: e4 :: e5 :: e6 :: e7 :: e8 :: e9 :: ([a1, a2, a3, a4, a5, a6, a7, a8, a9, a10] ++ own)) := news_swap [a1, a2, a3, a4, a5, a6, a7, a8, a9, a10] [e1, e2, e3, e4, e5, e6, e7, e8, e9] N
theorem perm11 (N : News g L h (a1 :: a2 :: a3 :: a4 :: a5 :: a6 :: a7 :: a8 :: a9 :: a10 :: a11 :: e1 :: e2 :: e3 :: e4 :: e5 :: e6 :: e7 :: e8 :: e9 :: own)) : News g L h (e1 :: e2 :: e3 :: e4 :: e5 :: e6 :: e7 :: e8 :: e9 :: ([a1, a2, a3, a4, a5, a6, a7, a8, a9, a10, a11] ++ own)) := news_swap [a1, a2, a3, a4, a5, a6, a7, a8, a9, a10, a11] [e1, e2, e3, e4, e5, e6, e7, e8, e9] N
end
example : reachBody.length = 4 := rfl
end Mine
end

section
theorem Mine.freshBuild : True := by w_top off; trivial
open PySem PySem.W PyProof.Rows PySem.Calls PyProof.V PySem.Spec
set_option Elab.async false
set_option maxRecDepth 100000
set_option maxHeartbeats 8000000
namespace Mine
theorem new_ok {rl : Nat} {d a : Nat} {own : List (Addr × Obj)} (hA : AllLt d own) (h : rl < a ∧ d ≤ a) : rl < a ∧ ∀ p ∈ own, p.1 < a := ⟨h.1, fun p hp => Nat.lt_of_lt_of_le (kst_ltOf hA p hp) h.2⟩
theorem news_in {g h : Heap} {L : Addr} {p : Addr × Obj} {own : List (Addr × Obj)} (E : List (Addr × Obj)) (hp : p ∈ own) (N : News g L h (E ++ own)) : News g L h (E ++ p :: own) := fun q hq => N q (by
  rcases List.mem_append.mp hq with hq | hq
  · exact List.mem_append_left _ hq
  · rcases List.mem_cons.mp hq with rfl | hq
    · exact List.mem_append_right _ hp
    · exact List.mem_append_right _ hq)
theorem news_out {g h : Heap} {L : Addr} {p e1 e2 e3 e4 e5 e6 e7 e8 e9 : Addr × Obj} {own : List (Addr × Obj)} (A : List (Addr × Obj)) (N : News g L h (e1 :: e2 :: e3 :: e4 :: e5 :: e6 :: e7 :: e8 :: e9 :: (A ++ p :: own))) : News g L h (e1 :: e2 :: e3 :: e4 :: e5 :: e6 :: e7 :: e8 :: e9 :: (A ++ own)) := fun q hq => N q (by
  have hq' : q ∈ [e1, e2, e3, e4, e5, e6, e7, e8, e9] ++ (A ++ own) := hq
  show q ∈ [e1, e2, e3, e4, e5, e6, e7, e8, e9] ++ (A ++ p :: own)
  rcases List.mem_append.mp hq' with h | h
  · exact List.mem_append_left _ h
  · refine List.mem_append_right _ ?_
    rcases List.mem_append.mp h with h | h
    · exact List.mem_append_left _ h
    · exact List.mem_append_right _ (.tail _ h))
theorem build_miss {w : World} {g : Heap} {mean : ExcName → Option Value} {mg mb : Str → Option Value} {sc : Scope} {L fa : Addr} {cd : Value} {b : List Stmt} {s : Shared}
   {lg lf rl e1 d1 D ua : Addr} {fv rv ws : List Value} {ns : List Int} {fn rn t1 t2 t3 t4 : Nat} {oN oL : Obj} {vN : Option Value} {own ownC : List (Addr × Obj)} {u : Str → Option Value} {t tp : Tok} {st pl : Int} {Q : Flow → Shared → Prop}
   (hsc : lawScope = sc) (hb : buildBody = b) (C : CodeHd g 62 58) (X : (KK w).In g) (T : Top topProg looseL mean mg mb g) (B : Below callerA g [] g)
   (F : Fr g L s.heap (fun y => if y = Str.ofString "place" then some (.int pl tp) else if y = Str.ofString "one" then some (.ref e1) else if y = Str.ofString "log" then some (.ref lg) else if y = Str.ofString "start" then some (.int st t) else if y = Str.ofString "script" then some (.ref D) else u y))
   (N : News g L s.heap ((lg, listOf #[] 0) :: (rl, listOf rv.toArray rn) :: (lf, listOf fv.toArray fn) :: (L + 1 + 1, oN) :: (L + 1, oL) :: (e1, instObj 52 d1) :: (d1, dictOf (oneEs w t1 t2 t3 t4 ua rl) 4) :: (D, listOf ws.toArray 0) :: (58, tabObj #[]) :: own))
   (dN : oN.data = .cell vN) (dL : oL.data = .cell (some (.ref lf))) (hO : OwnOff own [lg, rl, lf, L + 1 + 1, L + 1, e1, d1, D, 58])
   (hd1 : @LT.lt Nat _ (58) (L) ∧ @LT.lt Nat _ (L + 1 + 1) (D) ∧ @LT.lt Nat _ (D) (lg) ∧ @LT.lt Nat _ (lg) (lf) ∧ @LT.lt Nat _ (lf) (d1) ∧ @LT.lt Nat _ (d1) (e1) ∧ @LT.lt Nat _ (e1) (ua) ∧ @LT.lt Nat _ (ua) (rl))
   (hz1 : fv.toArray.size ≤ sizeLine) (hz2 : rv.toArray.size ≤ sizeLine) (hI : IntsAre ws ns) (hp0 : 0 ≤ pl) (hp1 : pl < (ns.length : Int)) (hns : (ns.length : Int) ≤ 63)
   (hQ : ∀ h' tk tx v tA new tab', Fr g L h' (fun y => if y = Str.ofString "x" then some (.int (ns.getD pl.toNat 0) tx) else if y = Str.ofString "place" then some (.int pl tp) else if y = Str.ofString "one" then some (.ref e1) else if y = Str.ofString "log" then some (.ref lg) else if y = Str.ofString "start" then some (.int st t) else if y = Str.ofString "script" then some (.ref D) else u y) →
      News g L h' ((lg, listOf #[] 0) :: (rl, listOf (rv.toArray.push v) (rn + 1)) :: (lf, listOf (fv.toArray.push (.ref tA)) (fn + 1)) :: (L + 1 + 1, oN) :: (L + 1, oL) :: (e1, instObj 52 d1) :: (d1, dictOf (oneEs w t1 t2 t3 t4 ua rl) 4) :: (D, listOf ws.toArray 0) :: (58, tabObj tab') :: (new ++ own)) →
      RuleAt w mg reachParams reachBody reachScope ruleScope (new ++ ownC) lg v (rowOf pl (ns.getD pl.toNat 0)) → TupAt (new ++ ownC) (.ref tA) (rowOf pl (ns.getD pl.toNat 0)) → TabSt ruleScope tab' (new ++ ownC) →
      (∀ q ∈ new, @LT.lt Nat _ rl q.1 ∧ ∀ p ∈ own, p.1 < q.1) → Q .next { s with heap := h', toks := tk }) :
   wpAny (model P w) (A1 sc L fa cd) (execs b (envL sc L fa cd)) Q (fun _ _ => False) s := by
  dsimp only [KK, A1, envL, P] at X ⊢
  revert X
  k_fill
  intro X
  conv at hsc => lhs; whnf
  conv at hb => lhs; whnf
  subst hsc
  subst hb
  k_steps
  · rename News _ _ _ _ => NN
    rename Fr _ _ _ _ => FF
    repeat (rename _ ∧ _ => hcj; obtain ⟨_, _⟩ := hcj)
    rename AllLt _ _ => hA
    refine hQ _ _ _ _ _ _ _ FF (perm5 NN) (.text (by assumption)) (TupAt.of (by k_mem)) (.inl rfl) ?_
    repeat' (first | exact List.forall_mem_nil _ | (refine List.forall_mem_cons.mpr ⟨new_ok hA (by dsimp only; omega), ?_⟩))
  · rename News _ _ _ _ => NN
    rename Fr _ _ _ _ => FF
    repeat (rename _ ∧ _ => hcj; obtain ⟨_, _⟩ := hcj)
    rename AllLt _ _ => hA
    refine hQ _ _ _ _ _ _ _ FF (perm11 NN) (.made (by assumption) ?_ (by k_mem) (by k_mem) (by k_mem) (by k_mem) (by assumption) (by k_mem) (by assumption) (by k_mem) (by assumption) (by k_mem) (by assumption) (by k_mem) (by assumption) (by assumption) (fun _ => rfl) (fun h => ?_)) (TupAt.of (by k_mem)) (.inr ⟨_, _, _, _, rfl, by k_mem, by assumption, by assumption⟩) ?_
    · (refine ⟨?_, ?_, ?_, ?_⟩ <;> omega)
    · exfalso; dsimp only at h; omega
    repeat' (first | exact List.forall_mem_nil _ | (refine List.forall_mem_cons.mpr ⟨new_ok hA (by dsimp only; omega), ?_⟩))
  · rename News _ _ _ _ => NN
    rename Fr _ _ _ _ => FF
    repeat (rename _ ∧ _ => hcj; obtain ⟨_, _⟩ := hcj)
    rename AllLt _ _ => hA
    refine hQ _ _ _ _ _ _ _ FF (perm11 NN) (.made (by assumption) ?_ (by k_mem) (by k_mem) (by k_mem) (by k_mem) (by assumption) (by k_mem) (by assumption) (by k_mem) (by assumption) (by k_mem) (by assumption) (by k_mem) (by assumption) (by assumption) (fun h => ?_) (fun _ => ⟨_, rfl⟩)) (TupAt.of (by k_mem)) (.inr ⟨_, _, _, _, rfl, by k_mem, by assumption, by assumption⟩) ?_
    · (refine ⟨?_, ?_, ?_, ?_⟩ <;> omega)
    · exfalso; dsimp only at h; omega
    repeat' (first | exact List.forall_mem_nil _ | (refine List.forall_mem_cons.mpr ⟨new_ok hA (by dsimp only; omega), ?_⟩))
theorem build_hit {w : World} {g : Heap} {mean : ExcName → Option Value} {mg mb : Str → Option Value} {sc : Scope} {L fa : Addr} {cd : Value} {b : List Stmt} {s : Shared}
   {lg lf rl e1 d1 D ua cA : Addr} {oc : Obj} {vc : Array Value} {tq : Tok} {fv rv ws : List Value} {ns : List Int} {fn rn t1 t2 t3 t4 : Nat} {oN oL : Obj} {vN : Option Value} {own ownC : List (Addr × Obj)} {u : Str → Option Value} {t tp : Tok} {st pl : Int} {Q : Flow → Shared → Prop}
   (hsc : lawScope = sc) (hb : buildBody = b) (C : CodeHd g 62 58) (X : (KK w).In g) (T : Top topProg looseL mean mg mb g) (B : Below callerA g [] g)
   (F : Fr g L s.heap (fun y => if y = Str.ofString "place" then some (.int pl tp) else if y = Str.ofString "one" then some (.ref e1) else if y = Str.ofString "log" then some (.ref lg) else if y = Str.ofString "start" then some (.int st t) else if y = Str.ofString "script" then some (.ref D) else u y))
   (N : News g L s.heap ((lg, listOf #[] 0) :: (rl, listOf rv.toArray rn) :: (lf, listOf fv.toArray fn) :: (L + 1 + 1, oN) :: (L + 1, oL) :: (e1, instObj 52 d1) :: (d1, dictOf (oneEs w t1 t2 t3 t4 ua rl) 4) :: (D, listOf ws.toArray 0) :: (58, tabObj (tabHit cA)) :: own))
   (dN : oN.data = .cell vN) (dL : oL.data = .cell (some (.ref lf))) (hO : OwnOff own [lg, rl, lf, L + 1 + 1, L + 1, e1, d1, D, 58])
   (hd1 : @LT.lt Nat _ (58) (L) ∧ @LT.lt Nat _ (L + 1 + 1) (D) ∧ @LT.lt Nat _ (D) (lg) ∧ @LT.lt Nat _ (lg) (lf) ∧ @LT.lt Nat _ (lf) (d1) ∧ @LT.lt Nat _ (d1) (e1) ∧ @LT.lt Nat _ (e1) (ua) ∧ @LT.lt Nat _ (ua) (rl))
   (hc : (cA, oc) ∈ own) (hcC : (cA, oc) ∈ ownC) (hoc : oc.data = .fields vc) (hvc : vc[1]? = some (.str (reachQual ruleScope) tq))
   (hz1 : fv.toArray.size ≤ sizeLine) (hz2 : rv.toArray.size ≤ sizeLine) (hI : IntsAre ws ns) (hp0 : 0 ≤ pl) (hp1 : pl < (ns.length : Int)) (hns : (ns.length : Int) ≤ 63)
   (hQ : ∀ h' tk tx v tA new tab', Fr g L h' (fun y => if y = Str.ofString "x" then some (.int (ns.getD pl.toNat 0) tx) else if y = Str.ofString "place" then some (.int pl tp) else if y = Str.ofString "one" then some (.ref e1) else if y = Str.ofString "log" then some (.ref lg) else if y = Str.ofString "start" then some (.int st t) else if y = Str.ofString "script" then some (.ref D) else u y) →
      News g L h' ((lg, listOf #[] 0) :: (rl, listOf (rv.toArray.push v) (rn + 1)) :: (lf, listOf (fv.toArray.push (.ref tA)) (fn + 1)) :: (L + 1 + 1, oN) :: (L + 1, oL) :: (e1, instObj 52 d1) :: (d1, dictOf (oneEs w t1 t2 t3 t4 ua rl) 4) :: (D, listOf ws.toArray 0) :: (58, tabObj tab') :: (new ++ own)) →
      RuleAt w mg reachParams reachBody reachScope ruleScope (new ++ ownC) lg v (rowOf pl (ns.getD pl.toNat 0)) → TupAt (new ++ ownC) (.ref tA) (rowOf pl (ns.getD pl.toNat 0)) → TabSt ruleScope tab' (new ++ ownC) →
      (∀ q ∈ new, @LT.lt Nat _ rl q.1 ∧ ∀ p ∈ own, p.1 < q.1) → Q .next { s with heap := h', toks := tk }) :
   wpAny (model P w) (A1 sc L fa cd) (execs b (envL sc L fa cd)) Q (fun _ _ => False) s := by
  have N : News g L s.heap ((lg, listOf #[] 0) :: (rl, listOf rv.toArray rn) :: (lf, listOf fv.toArray fn) :: (L + 1 + 1, oN) :: (L + 1, oL) :: (e1, instObj 52 d1) :: (d1, dictOf (oneEs w t1 t2 t3 t4 ua rl) 4) :: (D, listOf ws.toArray 0) :: (58, tabObj (tabHit cA)) :: (cA, oc) :: own) :=
    news_in [_, _, _, _, _, _, _, _, _] hc N
  have hcn : @Ne Nat cA rl ∧ @Ne Nat cA lf := ⟨hO _ hc _ (.tail _ (.head _)), hO _ hc _ (.tail _ (.tail _ (.head _)))⟩
  dsimp only [KK, A1, envL, P] at X ⊢
  revert X
  k_fill
  intro X
  conv at hsc => lhs; whnf
  conv at hb => lhs; whnf
  subst hsc
  subst hb
  k_steps
  · rename News _ _ _ _ => NN
    rename Fr _ _ _ _ => FF
    repeat (rename _ ∧ _ => hcj; obtain ⟨_, _⟩ := hcj)
    rename AllLt _ _ => hA
    refine hQ _ _ _ _ _ _ _ FF (news_out _ (perm5 NN)) (.text (by assumption)) (TupAt.of (by k_mem)) (.inr ⟨_, _, _, _, rfl, List.mem_append_right _ hcC, hoc, hvc⟩) ?_
    repeat' (first | exact List.forall_mem_nil _ | (refine List.forall_mem_cons.mpr ⟨new_ok hA (by dsimp only; omega), ?_⟩))
  · rename News _ _ _ _ => NN
    rename Fr _ _ _ _ => FF
    repeat (rename _ ∧ _ => hcj; obtain ⟨_, _⟩ := hcj)
    rename AllLt _ _ => hA
    refine hQ _ _ _ _ _ _ _ FF (news_out _ (perm10 NN)) (.made (by assumption) ?_ (by k_mem) (by k_mem) (by k_mem) (by k_mem) (by assumption) (by k_mem) (by assumption) (by k_mem) (by assumption) (by k_mem) (by assumption) (List.mem_append_right _ hcC) hoc hvc (fun _ => rfl) (fun h => ?_)) (TupAt.of (by k_mem)) (.inr ⟨_, _, _, _, rfl, List.mem_append_right _ hcC, hoc, hvc⟩) ?_
    · (refine ⟨?_, ?_, ?_, ?_⟩ <;> omega)
    · exfalso; dsimp only at h; omega
    repeat' (first | exact List.forall_mem_nil _ | (refine List.forall_mem_cons.mpr ⟨new_ok hA (by dsimp only; omega), ?_⟩))
  · rename News _ _ _ _ => NN
    rename Fr _ _ _ _ => FF
    repeat (rename _ ∧ _ => hcj; obtain ⟨_, _⟩ := hcj)
    rename AllLt _ _ => hA
    refine hQ _ _ _ _ _ _ _ FF (news_out _ (perm10 NN)) (.made (by assumption) ?_ (by k_mem) (by k_mem) (by k_mem) (by k_mem) (by assumption) (by k_mem) (by assumption) (by k_mem) (by assumption) (by k_mem) (by assumption) (List.mem_append_right _ hcC) hoc hvc (fun h => ?_) (fun _ => ⟨_, rfl⟩)) (TupAt.of (by k_mem)) (.inr ⟨_, _, _, _, rfl, List.mem_append_right _ hcC, hoc, hvc⟩) ?_
    · (refine ⟨?_, ?_, ?_, ?_⟩ <;> omega)
    · exfalso; dsimp only at h; omega
    repeat' (first | exact List.forall_mem_nil _ | (refine List.forall_mem_cons.mpr ⟨new_ok hA (by dsimp only; omega), ?_⟩))
end Mine
end

section
theorem Mine.freshTold0 : True := by w_top off; trivial
open PySem PySem.W PyProof.Rows PySem.Calls PyProof.V PySem.Spec
set_option Elab.async false
set_option maxRecDepth 100000
namespace Mine
/-- what allowance makes of the rules so far -/
def bestStep (b : Int × Bool) (r : Row) : Int × Bool :=
  if r.kind < 2 then (if r.reach > b.1 then (r.reach, r.kind == 0) else if r.reach = b.1 ∧ b.2 = false then (b.1, r.kind == 0) else b) else b
def best (rows : List Row) : Int × Bool := rows.foldl bestStep (-1, true)
/-- what the rules write down -/
def logDats (rows : List Row) (nm : Str) : List Dat := (rows.filter fun r => decide (r.kind ≠ 4)).map fun r => Dat.tuple [Dat.int r.place, Dat.str nm]
/-- what is told: the first fault, or the verdict -/
inductive ToldV : List Row → Value → List Row → Prop
  | fault {pre post : List Row} {r : Row} {t : Tok} : (∀ q ∈ pre, q.kind ≤ 2) → 2 < r.kind → ToldV (pre ++ r :: post) (.int r.kind t) (pre ++ [r])
  | good {rows : List Row} : (∀ q ∈ rows, q.kind ≤ 2) → ToldV rows (.bool (best rows).2) rows
/-- the state between two rules -/
def AJ (lg rl : Addr) (rv : List Value) (rn : Nat) (nm : Str) (nt : Tok) (rows : List Row) (own : List (Addr × Obj)) (i : Nat) (m : Str → Option Value) (nx : List (Addr × Obj)) : Prop :=
  ∃ (lv : List Value) (nws : List (Addr × Obj)) (k : Nat) (bt : Tok), m (Str.ofString "allowance") = some (.bool (best (rows.take i)).2) ∧ m (Str.ofString "best_match") = some (.int (best (rows.take i)).1 bt) ∧ m (Str.ofString "filename") = some (.str nm nt) ∧
    nx = (lg, listOf lv.toArray k) :: (rl, listOf rv.toArray rn) :: (nws ++ own) ∧ DatAll nws lv (logDats (rows.take i) nm) ∧ (∀ q ∈ rows.take i, q.kind ≤ 2) ∧ (∀ q ∈ nws, @LT.lt Nat _ lg q.1) ∧ lv.length ≤ i
end Mine
namespace Mine
theorem paired_get {α β : Type} {F : α → β → Prop} : ∀ {l₁ : List α} {l₂ : List β} {i : Nat} {a : α}, Paired F l₁ l₂ → l₁[i]? = some a → ∃ b, l₂[i]? = some b ∧ F a b
  | _, _, i, a, .nil, h => by simp at h
  | _, _, 0, a, .cons (b := b) h _, e => by
    have e' := Option.some.inj e
    exact ⟨b, rfl, e' ▸ h⟩
  | _, _, i + 1, a, .cons _ t, e => by
    obtain ⟨b, h1, h2⟩ := paired_get (i := i) t (by rw [List.getElem?_cons_succ] at e; exact e)
    exact ⟨b, by rw [List.getElem?_cons_succ]; exact h1, h2⟩
theorem frame3 {m : Str → Option Value} {a b c : Str} {x y z : Value} (h1 : m a = some x) (h2 : m b = some y) (h3 : m c = some z) : m = fun q => if q = a then some x else if q = b then some y else if q = c then some z else m q := by
  funext q
  by_cases e1 : q = a
  · simp [e1, h1]
  · by_cases e2 : q = b
    · simp [e1, e2, h2]; subst e2; simp [e1]
    · by_cases e3 : q = c
      · subst e3; simp [e1, e2, h3]
      · simp [e1, e2, e3]
end Mine
namespace Mine
section
variable {bm re pl kd : Int} {al : Bool}
theorem bs1 (hk : kd < 2) (h : bm < re) : bestStep (bm, al) ⟨pl, kd, re⟩ = (re, kd == 0) := by simp [bestStep, hk, h]
theorem bs2 (hk : kd < 2) (h : ¬ bm < re) (e : re = bm) (ha : al = true) : bestStep (bm, al) ⟨pl, kd, re⟩ = (bm, al) := by simp [bestStep, hk, e, ha]
theorem bs3 (hk : kd < 2) (h : ¬ bm < re) (e : re = bm) (ha : al = false) : bestStep (bm, al) ⟨pl, kd, re⟩ = (bm, kd == 0) := by simp [bestStep, hk, e, ha]
theorem bs4 (hk : kd < 2) (h : ¬ bm < re) (e : re ≠ bm) : bestStep (bm, al) ⟨pl, kd, re⟩ = (bm, al) := by simp [bestStep, hk, h, e]
theorem bs5 (hk : ¬ kd < 2) : bestStep (bm, al) ⟨pl, kd, re⟩ = (bm, al) := by simp [bestStep, hk]
end
end Mine
end

section
theorem Mine.freshAllowDefs : True := by w_top off; trivial
open PySem PySem.W PyProof.Rows PySem.Calls PyProof.V PySem.Spec
set_option Elab.async false
set_option maxRecDepth 100000
namespace Mine
def entryBody : List Stmt := match PySem.Challenge.pw_dn0258_01.main.body with
  | [_, .ClassDef _ _ _ b _ _ _ _ _ _ _, _, _, _, _] => b
  | _ => []
def allowParts : List Stmt × Scope := match entryBody with
  | [_, _, _, .FunctionDef _ _ b _ _ _ sc _ _ _] => (b, sc)
  | _ => ([], default)
def allowScope : Scope := allowParts.2
def allowLoop : List Stmt := match allowParts.1 with
  | [_, _, .For _ _ b _ _, _] => b
  | _ => []
def toldScope : Scope := match PySem.Challenge.pw_dn0258_01.main.body with
  | [_, _, _, _, .FunctionDef _ _ _ _ _ _ sc _ _ _, _] => sc
  | _ => default
example : allowLoop.length = 2 := rfl
example : toldScope.names.length = 5 := rfl
abbrev env2 (st : Scope) (L2 : Addr) : Env := envOf (Str.ofString "_law_told") st L2 70 (.ref 69)
abbrev env3 (sa : Scope) (L3 : Addr) : Env := envOf (Str.ofString "Entry.allowance") sa L3 49 (.ref 48)
abbrev A2 (sc st : Scope) (L fa L2 : Addr) (cd : Value) : Around := (A1 sc L fa cd).deeper (env2 st L2)
abbrev A3 (sc st sa : Scope) (L fa L2 L3 : Addr) (cd : Value) : Around := (A2 sc st L fa L2 cd).deeper (env3 sa L3)
end Mine
end

section
theorem Mine.freshExc : True := by w_top off; trivial
open PySem PySem.W PyProof.Rows PySem.Calls PyProof.V PySem.Spec
set_option Elab.async false
set_option maxRecDepth 100000
namespace Mine
section
variable {M : Model} {A : Around} {E : Value → Shared → Prop} {s' : Shared} {base g g₂ h : Heap} {outer : List Env} {L e : Addr} {m : Str → Option Value} {env : Env} {Q : Unit → Shared → Prop} {news : List (Addr × Obj)}
/-- an exception made in this frame leaves it -/
theorem leave_first {cls : String} (K : Below A base outer g) (hx : Heap.NewExcOf h s'.heap e cls) (F : Fr g L h m) (N : News g L h news) (hf : env.frame = some L) (hke : env.scope.kind = .function)
    (hQ : ∀ h', RaisedN base outer e (.type cls) news h' → g.UpToSlots h' → Q () { s' with heap := h' }) :
    wpAny M (A.deeper env) (leaving env (.ref e)) Q E s' := by
  have K' := pushX K F hf hke
  have hin : ∀ ev ∈ (env :: outer), ∀ b, ev.frame = some b → b ∈ (env :: outer).filterMap (·.frame) := fun ev he b hb => List.mem_filterMap.mpr ⟨ev, he, hb⟩
  have st : base.StaysIn (hideAll h ((env :: outer).filterMap (·.frame))) := fun b o q => hideAll_get _ (K'.stays b o q) fun hm => by
    rw [(K'.frames.mem hm).1] at q; cases q
  have hl : ∀ q ∈ news, (hideAll h ((env :: outer).filterMap (·.frame))).get? q.1 = some q.2 ∧ base.get? q.1 = none := fun q hq => by
    refine ⟨hideAll_get _ (N q hq).1 fun hm => ?_, fresh_of_stays K.stays (N q hq).2.2⟩
    obtain ⟨ev, he, hfe⟩ := List.mem_filterMap.mp hm
    rcases List.mem_cons.mp he with rfl | he
    · exact (N q hq).2.1 (Option.some.inj (hf.symm.trans hfe)).symm
    · obtain ⟨o, ho, _⟩ := (K.frames.mem (List.mem_filterMap.mpr ⟨ev, he, hfe⟩)).2
      rw [(N q hq).2.2] at ho; cases ho
  obtain ⟨ob, vs, he, hcls, hd, h1⟩ := hx.there
  have hsz : 1 < vs.size := (Array.getElem?_eq_some_iff.mp h1).1
  have h0 : vs[0]? = some vs[0] := by simp
  have hen : (hideAll h ((env :: outer).filterMap (·.frame))).get? e = none := by
    cases q : (hideAll h ((env :: outer).filterMap (·.frame))).get? e with
    | none => rfl
    | some o => have := of_hideAll _ q; rw [hx.new] at this; cases this
  refine wpAny_leaving_firstW (a0 := vs[0]) K'.stack ((funFrames_hide K'.frames hin).of_keeps fun b o hb _ => ⟨o, hx.keeps b o hb, rfl⟩) hf he (fun b o hb => hx.keeps b o (of_hideAll _ hb)) hen hd h1 h0 fun h' hL => ?_
  obtain ⟨k1, ⟨_, _, k2⟩, k3, k4⟩ := hL
  exact hQ h' ⟨_, vs[0], st, hl, k1, hen, k2, by rw [← hcls]; exact k3⟩ (((Heap.UpToSlots.of_keeps F.keep).trans (Heap.UpToSlots.of_keeps hx.keeps)).trans k4)
/-- an exception that flies leaves the next frame -/
theorem leave_next {cls : Value} (K : Below A base outer g) (F : Fr g L g₂ m) (R : RaisedN base (env :: outer) e cls news s'.heap) (hsm : g₂.UpToSlots s'.heap) (hf : env.frame = some L)
    (hQ : ∀ h', RaisedN base outer e cls news h' → g.UpToSlots h' → Q () { s' with heap := h' }) :
    wpAny M (A.deeper env) (leaving env (.ref e)) Q E s' := by
  obtain ⟨B, a0, hB, hl, hfl⟩ := R
  exact wpAny_leaves_onW (Around.frames_deeper K.stack) hf hfl fun h' x1 x2 => hQ h' ⟨B, a0, hB, hl, x1⟩ ((Heap.UpToSlots.of_keeps F.keep).trans (hsm.trans x2))
end
theorem newExcOf_made {h h' : Heap} {e : Addr} {cls : String} {vs : List Value} (x : Heap.MadeExc h h' e cls vs) : Heap.NewExcOf h h' e cls := x.newExc.of
/-- what a frame does with an exception that leaves it -/
def LeavesN (M : Model) (A : Around) (base : Heap) (outer : List Env) (g : Heap) (env : Env) (e : Addr) (cls : String) (news : List (Addr × Obj)) (s' : Shared) : Prop :=
  ∀ (Q : Unit → Shared → Prop) (E : Value → Shared → Prop), (∀ h', RaisedN base outer e (.type cls) news h' → g.UpToSlots h' → Q () { s' with heap := h' }) → wpAny M (A.deeper env) (leaving env (.ref e)) Q E s'
theorem raisedN_mono {base h : Heap} {l : List Env} {e : Addr} {cls : Value} {news news' : List (Addr × Obj)} (hs : ∀ p ∈ news', p ∈ news) (R : RaisedN base l e cls news h) : RaisedN base l e cls news' h :=
  let ⟨B, a0, h1, h2, h3⟩ := R; ⟨B, a0, h1, fun q hq => h2 q (hs q hq), h3⟩
theorem LeavesN.mono {M : Model} {A : Around} {base g : Heap} {outer : List Env} {env : Env} {e : Addr} {cls : String} {news news' : List (Addr × Obj)} {s' : Shared} (hs : ∀ p ∈ news', p ∈ news) (R : LeavesN M A base outer g env e cls news s') : LeavesN M A base outer g env e cls news' s' :=
  fun Q E h => R Q E fun h' r u => h h' (raisedN_mono hs r) u
end Mine
end

section
theorem Mine.freshShadow : True := by w_top off; trivial
open PySem PySem.W PyProof.Rows PySem.Calls PyProof.V PySem.Spec
set_option Elab.async false
set_option maxRecDepth 100000
namespace Mine
section
variable {prog : Program} {w : World} {A : Around} {E : Value → Shared → Prop} {s : Shared} {K : Frag} {x C f L : Addr} {ox od : Obj} {name : Str} {h₀ : Heap} {m : Str → Option Value} {es : List DictEntry} {n : Nat} {v gV : Value}
theorem findObj_shadow (hh : hasDictIn K C = true) (ha : findIn K (.ref C) name = some (some (.ref f))) (hg : specialIn K (.ref f) "__get__" = some (some gV)) (ht : takesIn K (.ref f) = some false) (hl : lookIn name od = some (some v)) :
    findObj K C (some od) name = some (.value v) := by
  obtain ⟨cd, hc', hd⟩ := any_some hh
  unfold findObj
  have ho : ownOf cd (some od) name = some (some v) := by unfold W.ownOf; rw [if_pos hd]; exact hl
  rw [hc', Option.bind_some, ha, Option.bind_some]
  simp only [hg, ht, Option.bind_some, ho]
/-- the object's own attribute before its class's function -/
theorem get_shadow {expr : Bool} {Q : Value → Shared → Prop} (F : Fr h₀ L s.heap m) (X₀ : K.In h₀) (I : InstAt s.heap x ox C (some (dictOf es n))) (hp : plainGet K C name = true) (hh : hasDictIn K C = true)
    (ha : findIn K (.ref C) name = some (some (.ref f))) (hg : specialIn K (.ref f) "__get__" = some (some gV)) (ht : takesIn K (.ref f) = some false) (hl : getL name es = some (some v)) (hv : handedIn v = true) (h : Q v { s with toks := s.toks + 1 }) :
    wpAny (model prog w) A (getAttr (.ref x) name expr) Q E s :=
  get_value (X₀.keeps F.keep) I (plainGet_of hp).1 (findObj_shadow hh ha hg ht (by show lookIn name (dictOf es n) = _; rw [lookIn_dict, hl])) hv h
theorem method_shadow {pl : Sem Bool} {Q : Value × List Value → Shared → Prop} (F : Fr h₀ L s.heap m) (X₀ : K.In h₀) (I : InstAt s.heap x ox C (some (dictOf es n))) (hp : plainGet K C name = true) (hh : hasDictIn K C = true)
    (ha : findIn K (.ref C) name = some (some (.ref f))) (hfn : isFn K (.ref f) = true) (hg : specialIn K (.ref f) "__get__" = some (some gV)) (ht : takesIn K (.ref f) = some false) (hl : getL name es = some (some v)) (hv : handedIn v = true)
    (h : Q (v, []) { s with toks := s.toks + 1 }) : wpAny (model prog w) A (getMethod (.ref x) name pl) Q E s := by
  have X := X₀.keeps F.keep
  have hcan := PySem.F.canon_object_ga
  have u : wpAny (model prog w) A (do return (← getAttr (.ref x) name, ([] : List Value))) Q E s := wpAny_bind (wpAny_mono (get_shadow (Q := fun v => Q (v, [])) F X₀ I hp hh ha hg ht hl hv h) (fun _ _ z => wpAny_pure z) fun _ _ z => z)
  unfold getMethod specialOf
  refine wpAny_bind (wpAny_bind (I.type.here ((looks_findIn X (plainGet_of hp).1).here ?_)))
  dsimp only
  rw [hcan, if_neg (by decide)]
  refine wpAny_bind (wpAny_bind (I.type.here ((looks_findIn X (plainGet_of hp).2).here ?_)))
  refine wpAny_bind (wpAny_bind (I.type.here ((looks_findIn X ha).here (wpAny_bind ((looks_typeIn X (beq_iff_eq.mp hfn)).here ?_)))))
  rw [if_neg (by decide +kernel)]
  refine wpAny_bind (wpAny_loadPart I.at_ ?_)
  have hd := I.dict
  cases e : ox.dict with
  | none => rw [e] at hd; cases hd
  | some dx =>
    rw [e] at hd
    have a : lookIn name (dictOf es n) = some (some v) := by rw [lookIn_dict, hl]
    refine wpAny_bind (wpAny_bind (wpAny_loadPart hd ?_))
    rw [nsLook_of a]
    refine wpAny_pure ?_
    exact u
end
end Mine
end

section
theorem Mine.freshGt : True := by w_top off; trivial
open PySem PySem.W PyProof.Rows PySem.Calls PyProof.V PySem.Spec
set_option Elab.async false
set_option maxRecDepth 100000
namespace Mine
theorem str_gt_int (a : Str) (t : Tok) (b : Int) (u : Tok) : Gives (Builtin.«str.__gt__» ⟨[.str a t, .int b u], []⟩) (.val (Value.notImplemented)) :=
  .of_wp fun M A E s Q h => by obtain ⟨hp, g, d, tk, os⟩ := s; wp_walk; exact ⟨_, rfl, h⟩
theorem int_lt_str (a : Int) (t : Tok) (b : Str) (u : Tok) : Gives (Builtin.«int.__lt__» ⟨[.int a t, .str b u], []⟩) (.val (Value.notImplemented)) :=
  .of_wp fun M A E s Q h => by obtain ⟨hp, g, d, tk, os⟩ := s; wp_walk; exact ⟨_, rfl, h⟩
section
variable {prog : Program} {w : World} {A : Around} {E : Value → Shared → Prop} {s : Shared}
theorem gt_str_int_raises {x : Str} {t : Tok} {i : Int} {u : Tok} {Q : Value → Shared → Prop} (hh : A.handled = none)
    (h : ∀ h' tk e, Heap.NewExc s.heap h' e "TypeError" → E (.ref e) { s with heap := h', toks := tk }) :
    wpAny (model prog w) A (compareOp .Gt (.str x t) (.int i u)) Q E s := by
  show wpAny _ _ (richCompare .Gt (.str x t) (.int i u)) Q E s
  have h1 := F.slot_str_gt
  have h2 : Slot "int" (cmpInfo .Gt).2.2 "int.__lt__" := F.slot_int_lt_refl
  have ha : ∀ s' : Shared, s'.TypeIs (.str x t) "str" := fun s' => typeIs_str s' x t
  have hb : ∀ s' : Shared, s'.TypeIs (.int i u) "int" := fun s' => typeIs_int s' i u
  have e1 := F.entry_str_gt
  have e2 := F.entry_int_lt
  simp only [richCompare, cmpInfo, (ha s).oneThing_none] at h1 h2 ⊢
  refine wpAny_holding ?_
  refine wpAny_bind (wpAny_cRoomFor_or (.inl rfl) ?_)
  refine wpAny_bind (wpAny_typeOf (ha s) (wpAny_bind (wpAny_typeOf (hb s) ?_)))
  rw [if_pos (by decide)]
  refine wpAny_bind (wpAny_of_eq F.sub_int_str ?_)
  simp only [Bool.false_eq_true, if_false, Bool.not_false, if_true]
  refine wpAny_bind (m := tryCompare (.str x t) _ (.int i u)) (wpAny_tryCompare_declines (ha s) h1 ?_)
  refine call_gives h1 (ha s) e1 (F.args_str_gt_2 _ _) (str_gt_int x t i u) ⟨rfl, ?_⟩
  refine wpAny_bind (m := tryCompare (.int i u) _ (.str x t)) (wpAny_tryCompare_declines (hb s) h2 ?_)
  refine call_gives h2 (hb s) e2 (F.args_int_lt_2 _ _) (int_lt_str i u x t) ⟨rfl, ?_⟩
  refine wpAny_bind (wpAny_rule (wpAny_bind (wpAny_typeNameOf' (ha s) (by decide) (wpAny_bind (wpAny_typeNameOf' (hb s) (by decide) (wpAny_raiseTypeError hh h ?_))))))
  show (Str.ofString _).length ≤ sizeLine
  rw [PySem.ofString_length, sizeLine_eq]
  decide +kernel
end
end Mine
end

section
theorem Mine.freshMiss : True := by w_top off; trivial
open PySem PySem.W PyProof.Rows PySem.Calls PyProof.V PySem.Spec
set_option Elab.async false
set_option maxRecDepth 100000
namespace Mine
section
variable {prog : Program} {w : World} {A : Around} {E : Value → Shared → Prop} {s : Shared} {x : Str} {t : Tok} {name : Str}
theorem getAttr_str_none {Q : Value → Shared → Prop} (hmiss : typeLookup (.type "str") name = pure none) (hA : A.handled = none)
    (h : ∀ h' tk e, Heap.NewExcOf s.heap h' e "AttributeError" → E (.ref e) { s with heap := h', toks := tk }) (hsz : name.length + 100 ≤ sizeLine) :
    wpAny (model prog w) A (getAttr (.str x t) name false) Q E s := by
  obtain ⟨hp, g, d, tk, os⟩ := s
  have hT : ∀ s' : Shared, s'.TypeIs (.str x t) "str" := fun _ => rfl
  have f1 := sub_AttributeError
  have f3 := F.slot_str_getattribute.lookup
  have f4 := F.slot_str_getattribute.bind (.str x t)
  have f5 := am_str_getattr_none
  unfold getAttr getAttrBy
  repeat (any_goals (first | assumption | ((with_reducible show wpAny _ _ (call (Value.builtin "object.__getattribute__") _ _) _ _ _); refine call_meets F.slot_str_getattribute (hT _) F.entry_object_getattribute (F.args_object_getattribute_2 _ _) (meets_getattribute_miss_str x t name _ hmiss hsz) ⟨hA, fun h' tk' e hx => ?_⟩) | wp_step))
  obtain ⟨t', u', he⟩ := hx.there
  show wpAny _ _ (getattributeRaised _ _ _ _ _ _ _) _ _ _
  unfold getattributeRaised
  repeat (any_goals (first | assumption | wp_step))
  exact h _ _ _ hx.of
theorem method_str_none {pl : Sem Bool} {Q : Value × List Value → Shared → Prop} (hmiss : typeLookup (.type "str") name = pure none) (hA : A.handled = none)
    (h : ∀ h' tk e, Heap.NewExcOf s.heap h' e "AttributeError" → E (.ref e) { s with heap := h', toks := tk }) (hsz : name.length + 100 ≤ sizeLine) :
    wpAny (model prog w) A (getMethod (.str x t) name pl) Q E s := by
  have hT : s.TypeIs (.str x t) "str" := rfl
  have hcan := PySem.F.canon_object_ga
  unfold getMethod
  refine wpAny_bind (wpAny_specialOf hT F.slot_str_getattribute.lookup ?_)
  dsimp only
  rw [hcan, if_neg (by decide)]
  refine wpAny_bind (wpAny_specialOf hT am_str_getattr_none ?_)
  refine wpAny_bind (wpAny_specialOf hT hmiss ?_)
  exact wpAny_bind (getAttr_str_none hmiss hA h hsz)
end
theorem miss_applies_to : typeLookup (.type "str") (Str.ofString "applies_to") = pure none := am_miss_of_fast (by kernel_rfl)
end Mine
end

section
theorem Mine.freshTurn : True := by w_top off; trivial
open PySem PySem.W PyProof.Rows PySem.Calls PyProof.V PySem.Spec
set_option Elab.async false
set_option maxRecDepth 100000
set_option maxHeartbeats 8000000
namespace Mine
local macro_rules | `(tactic| walk_at "getAttr ref") => `(tactic| (k_here; k_dflt (refine' get_shadow ?k1 ?k2 ?k3 ?k4 ?k5 ?k6 ?k7 ?k8 ?k9 ?k10 ?_; (case k1 => k_asm); (case k2 => k_asm); (case k3 => k_inst); (case k4 => k_is); (case k5 => k_is); (case k6 => k_is); (case k7 => k_is); (case k8 => k_is); (case k9 => k_get); (case k10 => exact rfl); k_whole)))
local macro_rules | `(tactic| walk_at "getMethod ref") => `(tactic| (k_here; k_dflt (refine' method_shadow ?k1 ?k2 ?k3 ?k4 ?k5 ?k6 ?k7 ?k8 ?k9 ?k10 ?k11 ?_; (case k1 => k_asm); (case k2 => k_asm); (case k3 => k_inst); (case k4 => k_is); (case k5 => k_is); (case k6 => k_is); (case k7 => k_is); (case k8 => k_is); (case k9 => k_is); (case k10 => k_get); (case k11 => exact rfl); k_whole)))
local macro_rules | `(tactic| walk_at "exec Raise some none") => `(tactic| (k_here; (with_reducible show wpAny _ _ (exec (Stmt.Raise (some (Expr.Call (Expr.Name ("ValueError" : Str) _) (_ :: _) [] _)) none _) _) _ _ _); k_dflt (refine Raise_madeB PySem.F.excCall_ValueError PySem.F.excRaise_ValueError rfl ?_; refine' nameX_B ?F ?X ?T ?e ?v ?n ⟨rfl, ?_⟩ ?a ?b; (case F => k_asm); (case X => k_asm); (case T => k_asm); (case a => rfl); (case b => rfl); (case e => k_is); (case v => boot_fast); (case n => decide); k_whole)))
local macro_rules | `(tactic| walk_at "leaving ref") => `(tactic| (k_here; k_dflt (refine' leave_first ?k1 (newExcOf_made (by assumption)) ?k2 ?k3 ?k4 ?k5 ?_; (case k1 => assumption); (case k2 => assumption); (case k3 => assumption); (case k4 => exact rfl); (case k5 => exact rfl); k_whole; intro h' R' U'; (try dsimp only at R' U' ⊢))))
local macro_rules | `(tactic| walk_at "compareOp Gt str int") => `(tactic| (refine gt_str_int_raises rfl ?_; intro h' tk' e' hx'))
local macro_rules | `(tactic| walk_at "getMethod str") => `(tactic| ((with_reducible show wpAny _ _ (getMethod (Value.str _ _) (PySem.Str.ofString "applies_to") _) _ _ _); refine method_str_none miss_applies_to rfl ?_ (by decide +kernel); intro h' tk' e' hx'))
abbrev logTup (place : Int) (tP : Tok) (nm : Str) (nt : Tok) : Obj := { cls := .type "tuple", data := .seq #[.int place tP, .str nm nt] }
theorem sub8 {a b c1 c2 c3 c4 c5 c6 c7 c8 : Addr × Obj} {tl : List (Addr × Obj)} : ∀ p ∈ a :: b :: tl, p ∈ a :: b :: c1 :: c2 :: c3 :: c4 :: c5 :: c6 :: c7 :: c8 :: tl := fun p hp => by
  rcases List.mem_cons.mp hp with rfl | hp
  · exact .head _
  · rcases List.mem_cons.mp hp with rfl | hp
    · exact .tail _ (.head _)
    · exact .tail _ (.tail _ (.tail _ (.tail _ (.tail _ (.tail _ (.tail _ (.tail _ (.tail _ (.tail _ hp)))))))))
theorem turn3 {w : World} {g g3 : Heap} {mean : ExcName → Option Value} {mg mb : Str → Option Value} {sc st sa so rs : Scope} {L fa L2 L3 : Addr} {cd : Value} {s : Shared} {lb bo : List Stmt} {pa : Arguments}
   {nm : Str} {nt bt : Tok} {al : Bool} {bm : Int} {u : Str → Option Value} {tl : List (Addr × Obj)} {Q : Flow → Shared → Prop} {E : Value → Shared → Prop}
   {pl re : Int} {x dx f Lr l1 l2 cA lg : Addr} {t1 t2 t3 t4 t5 t6 tP tK tR tq : Tok} {dc ct av : Value} {oG oR oK oP oc : Obj} {vc : Array Value} {lv : List Value} {k : Nat} 
   (hsc : lawScope = sc) (hst : toldScope = st) (hsa : allowScope = sa) (hlb : allowLoop = lb) (hpa : reachParams = pa) (hbo : reachBody = bo) (hso : reachScope = so) (hrs : ruleScope = rs)
   (C : CodeHd g3 62 58) (X : (KK w).In g3) (T : Top topProg looseL mean mg mb g3) (B : Below (A2 sc st L fa L2 cd) g [env2 st L2, envL sc L fa cd] g3)
   (F : Fr g3 L3 s.heap (fun y => if y = Str.ofString "line" then some (.ref x) else if y = Str.ofString "allowance" then some (.bool al) else if y = Str.ofString "best_match" then some (.int bm bt) else if y = Str.ofString "filename" then some (.str nm nt) else u y))
   (N : News g3 L3 s.heap ((lg, listOf lv.toArray k) :: (x, instObj 52 dx) :: (dx, dictOf (ruleEs w t1 t2 t3 t4 t5 t6 l1 l2 f av) 6) :: (f, reachFn mg pa bo so rs Lr cA dc ct) :: (Lr + 1 + 1 + 1 + 1, oG) :: (Lr + 1 + 1 + 1, oR) :: (Lr + 1 + 1, oK) :: (Lr + 1, oP) :: (cA, oc) :: tl))
   (hoG : oG.data = .cell (some (.ref lg))) (hoR : oR.data = .cell (some (.int re tR))) (hoK : oK.data = .cell (some (.int 3 tK))) (hoP : oP.data = .cell (some (.int pl tP)))
   (hoc : oc.data = .fields vc) (hvc : vc[1]? = some (.str (reachQual rs) tq)) (hO : OwnOff tl [lg]) (hz : lv.toArray.size ≤ sizeLine)
   (hne : @LT.lt Nat _ lg x ∧ @LT.lt Nat _ lg dx ∧ @LT.lt Nat _ lg f ∧ @LT.lt Nat _ lg Lr) (hcA : @Ne Nat cA lg)
   (hE : ∀ e h' tk tA, @LT.lt Nat _ lg tA → LeavesN (model P w) (A2 sc st L fa L2 cd) g [env2 st L2, envL sc L fa cd] g3 (env3 sa L3) e "ValueError" ((tA, logTup pl tP nm nt) :: (lg, listOf (lv.toArray.push (.ref tA)) (k + 1)) :: tl) { s with heap := h', toks := tk } → E (.ref e) { s with heap := h', toks := tk }) :
   wpAny (model P w) (A3 sc st sa L fa L2 L3 cd) (execs lb (env3 sa L3)) Q E s := by
  dsimp only [KK, A1, A2, A3, envL, env2, env3, P] at X B ⊢
  revert X
  k_fill
  intro X
  conv at hsc => lhs; whnf
  conv at hst => lhs; whnf
  conv at hsa => lhs; whnf
  conv at hlb => lhs; whnf
  conv at hpa => lhs; whnf
  conv at hbo => lhs; whnf
  conv at hso => lhs; whnf
  conv at hrs => lhs; whnf
  subst hsc hst hsa hlb hpa hbo hso hrs
  k_steps
  rename RaisedN _ _ _ _ _ _ => R'
  rename Heap.UpToSlots _ _ => U'
  repeat (rename _ ∧ _ => hcj; obtain ⟨_, _⟩ := hcj)
  exact hE _ _ _ _ (by omega) (LeavesN.mono sub8 fun Q9 E9 h9 => leave_next B (by assumption) R' U' rfl h9)
theorem turn5 {w : World} {g g3 : Heap} {mean : ExcName → Option Value} {mg mb : Str → Option Value} {sc st sa so rs : Scope} {L fa L2 L3 : Addr} {cd : Value} {s : Shared} {lb bo : List Stmt} {pa : Arguments}
   {nm : Str} {nt bt : Tok} {al : Bool} {bm : Int} {u : Str → Option Value} {tl : List (Addr × Obj)} {Q : Flow → Shared → Prop} {E : Value → Shared → Prop}
   {pl re : Int} {x dx f Lr l1 l2 cA lg : Addr} {t1 t2 t3 t4 t5 t6 tP tK tR tq : Tok} {dc ct av : Value} {oG oR oK oP oc : Obj} {vc : Array Value} {lv : List Value} {k : Nat} 
   (hsc : lawScope = sc) (hst : toldScope = st) (hsa : allowScope = sa) (hlb : allowLoop = lb) (hpa : reachParams = pa) (hbo : reachBody = bo) (hso : reachScope = so) (hrs : ruleScope = rs)
   (C : CodeHd g3 62 58) (X : (KK w).In g3) (T : Top topProg looseL mean mg mb g3) (B : Below (A2 sc st L fa L2 cd) g [env2 st L2, envL sc L fa cd] g3)
   (F : Fr g3 L3 s.heap (fun y => if y = Str.ofString "line" then some (.ref x) else if y = Str.ofString "allowance" then some (.bool al) else if y = Str.ofString "best_match" then some (.int bm bt) else if y = Str.ofString "filename" then some (.str nm nt) else u y))
   (N : News g3 L3 s.heap ((lg, listOf lv.toArray k) :: (x, instObj 52 dx) :: (dx, dictOf (ruleEs w t1 t2 t3 t4 t5 t6 l1 l2 f av) 6) :: (f, reachFn mg pa bo so rs Lr cA dc ct) :: (Lr + 1 + 1 + 1 + 1, oG) :: (Lr + 1 + 1 + 1, oR) :: (Lr + 1 + 1, oK) :: (Lr + 1, oP) :: (cA, oc) :: tl))
   (hoG : oG.data = .cell (some (.ref lg))) (hoR : oR.data = .cell (some (.int re tR))) (hoK : oK.data = .cell (some (.int 5 tK))) (hoP : oP.data = .cell (some (.int pl tP)))
   (hoc : oc.data = .fields vc) (hvc : vc[1]? = some (.str (reachQual rs) tq)) (hO : OwnOff tl [lg]) (hz : lv.toArray.size ≤ sizeLine)
   (hne : @LT.lt Nat _ lg x ∧ @LT.lt Nat _ lg dx ∧ @LT.lt Nat _ lg f ∧ @LT.lt Nat _ lg Lr) (hcA : @Ne Nat cA lg)
   (hE : ∀ e h' tk tA, @LT.lt Nat _ lg tA → LeavesN (model P w) (A2 sc st L fa L2 cd) g [env2 st L2, envL sc L fa cd] g3 (env3 sa L3) e "TypeError" ((tA, logTup pl tP nm nt) :: (lg, listOf (lv.toArray.push (.ref tA)) (k + 1)) :: tl) { s with heap := h', toks := tk } → E (.ref e) { s with heap := h', toks := tk }) :
   wpAny (model P w) (A3 sc st sa L fa L2 L3 cd) (execs lb (env3 sa L3)) Q E s := by
  dsimp only [KK, A1, A2, A3, envL, env2, env3, P] at X B ⊢
  revert X
  k_fill
  intro X
  conv at hsc => lhs; whnf
  conv at hst => lhs; whnf
  conv at hsa => lhs; whnf
  conv at hlb => lhs; whnf
  conv at hpa => lhs; whnf
  conv at hbo => lhs; whnf
  conv at hso => lhs; whnf
  conv at hrs => lhs; whnf
  subst hsc hst hsa hlb hpa hbo hso hrs
  k_steps
  rename Heap.NewExc _ _ _ _ => hx'
  rename News _ _ _ _ => NN
  rename Fr _ _ _ _ => FF
  repeat (rename _ ∧ _ => hcj; obtain ⟨_, _⟩ := hcj)
  exact hE _ _ _ _ (by omega) (LeavesN.mono sub8 fun Q9 E9 h9 => leave_first B hx'.of FF NN rfl rfl h9)
theorem turn2 {w : World} {g g3 : Heap} {mean : ExcName → Option Value} {mg mb : Str → Option Value} {sc st sa so rs : Scope} {L fa L2 L3 : Addr} {cd : Value} {s : Shared} {lb bo : List Stmt} {pa : Arguments}
   {nm : Str} {nt bt : Tok} {al : Bool} {bm : Int} {u : Str → Option Value} {tl : List (Addr × Obj)} {Q : Flow → Shared → Prop} {E : Value → Shared → Prop}
   {pl re : Int} {x dx f Lr l1 l2 cA lg : Addr} {t1 t2 t3 t4 t5 t6 tP tK tR tq : Tok} {dc ct av : Value} {oG oR oK oP oc : Obj} {vc : Array Value} {lv : List Value} {k : Nat} 
   (hsc : lawScope = sc) (hst : toldScope = st) (hsa : allowScope = sa) (hlb : allowLoop = lb) (hpa : reachParams = pa) (hbo : reachBody = bo) (hso : reachScope = so) (hrs : ruleScope = rs)
   (C : CodeHd g3 62 58) (X : (KK w).In g3) (T : Top topProg looseL mean mg mb g3) (B : Below (A2 sc st L fa L2 cd) g [env2 st L2, envL sc L fa cd] g3)
   (F : Fr g3 L3 s.heap (fun y => if y = Str.ofString "line" then some (.ref x) else if y = Str.ofString "allowance" then some (.bool al) else if y = Str.ofString "best_match" then some (.int bm bt) else if y = Str.ofString "filename" then some (.str nm nt) else u y))
   (N : News g3 L3 s.heap ((lg, listOf lv.toArray k) :: (x, instObj 52 dx) :: (dx, dictOf (ruleEs w t1 t2 t3 t4 t5 t6 l1 l2 f av) 6) :: (f, reachFn mg pa bo so rs Lr cA dc ct) :: (Lr + 1 + 1 + 1 + 1, oG) :: (Lr + 1 + 1 + 1, oR) :: (Lr + 1 + 1, oK) :: (Lr + 1, oP) :: (cA, oc) :: tl))
   (hoG : oG.data = .cell (some (.ref lg))) (hoR : oR.data = .cell (some (.int re tR))) (hoK : oK.data = .cell (some (.int 2 tK))) (hoP : oP.data = .cell (some (.int pl tP)))
   (hoc : oc.data = .fields vc) (hvc : vc[1]? = some (.str (reachQual rs) tq)) (hO : OwnOff tl [lg]) (hz : lv.toArray.size ≤ sizeLine)
   (hne : @LT.lt Nat _ lg x ∧ @LT.lt Nat _ lg dx ∧ @LT.lt Nat _ lg f ∧ @LT.lt Nat _ lg Lr) (hcA : @Ne Nat cA lg)
   (hQ : ∀ h' tk m' tA bt', Fr g3 L3 h' m' → m' (Str.ofString "allowance") = some (.bool (bestStep (bm, al) ⟨pl, 2, re⟩).2) → m' (Str.ofString "best_match") = some (.int (bestStep (bm, al) ⟨pl, 2, re⟩).1 bt') → m' (Str.ofString "filename") = some (.str nm nt) →
      News g3 L3 h' ((tA, logTup pl tP nm nt) :: (lg, listOf (lv.toArray.push (.ref tA)) (k + 1)) :: tl) → @LT.lt Nat _ lg tA → (∀ p ∈ tl, p.1 < tA) → Q .next { s with heap := h', toks := tk }) :
   wpAny (model P w) (A3 sc st sa L fa L2 L3 cd) (execs lb (env3 sa L3)) Q E s := by
  dsimp only [KK, A1, A2, A3, envL, env2, env3, P] at X B ⊢
  revert X
  k_fill
  intro X
  conv at hsc => lhs; whnf
  conv at hst => lhs; whnf
  conv at hsa => lhs; whnf
  conv at hlb => lhs; whnf
  conv at hpa => lhs; whnf
  conv at hbo => lhs; whnf
  conv at hso => lhs; whnf
  conv at hrs => lhs; whnf
  subst hsc hst hsa hlb hpa hbo hso hrs
  k_steps
  rename News _ _ _ _ => NN
  rename Fr _ _ _ _ => FF
  repeat (rename _ ∧ _ => hcj; obtain ⟨_, _⟩ := hcj)
  exact hQ _ _ _ _ _ FF rfl rfl rfl (fun p hp => NN p (sub8 p hp)) (by omega) (kst_ltOf (by assumption))
theorem turn01 {w : World} {g g3 : Heap} {mean : ExcName → Option Value} {mg mb : Str → Option Value} {sc st sa so rs : Scope} {L fa L2 L3 : Addr} {cd : Value} {s : Shared} {lb bo : List Stmt} {pa : Arguments}
   {nm : Str} {nt bt : Tok} {al : Bool} {bm : Int} {u : Str → Option Value} {tl : List (Addr × Obj)} {Q : Flow → Shared → Prop} {E : Value → Shared → Prop}
   {pl re : Int} {x dx f Lr l1 l2 cA lg : Addr} {t1 t2 t3 t4 t5 t6 tP tK tR tq : Tok} {dc ct : Value} {kd : Int} {oG oR oK oP oc : Obj} {vc : Array Value} {lv : List Value} {k : Nat} 
   (hsc : lawScope = sc) (hst : toldScope = st) (hsa : allowScope = sa) (hlb : allowLoop = lb) (hpa : reachParams = pa) (hbo : reachBody = bo) (hso : reachScope = so) (hrs : ruleScope = rs)
   (C : CodeHd g3 62 58) (X : (KK w).In g3) (T : Top topProg looseL mean mg mb g3) (B : Below (A2 sc st L fa L2 cd) g [env2 st L2, envL sc L fa cd] g3)
   (F : Fr g3 L3 s.heap (fun y => if y = Str.ofString "line" then some (.ref x) else if y = Str.ofString "allowance" then some (.bool al) else if y = Str.ofString "best_match" then some (.int bm bt) else if y = Str.ofString "filename" then some (.str nm nt) else u y))
   (N : News g3 L3 s.heap ((lg, listOf lv.toArray k) :: (x, instObj 52 dx) :: (dx, dictOf (ruleEs w t1 t2 t3 t4 t5 t6 l1 l2 f (.bool (kd == 0))) 6) :: (f, reachFn mg pa bo so rs Lr cA dc ct) :: (Lr + 1 + 1 + 1 + 1, oG) :: (Lr + 1 + 1 + 1, oR) :: (Lr + 1 + 1, oK) :: (Lr + 1, oP) :: (cA, oc) :: tl))
   (hoG : oG.data = .cell (some (.ref lg))) (hoR : oR.data = .cell (some (.int re tR))) (hoK : oK.data = .cell (some (.int kd tK))) (hoP : oP.data = .cell (some (.int pl tP)))
   (hoc : oc.data = .fields vc) (hvc : vc[1]? = some (.str (reachQual rs) tq)) (hO : OwnOff tl [lg]) (hz : lv.toArray.size ≤ sizeLine)
   (hne : @LT.lt Nat _ lg x ∧ @LT.lt Nat _ lg dx ∧ @LT.lt Nat _ lg f ∧ @LT.lt Nat _ lg Lr) (hcA : @Ne Nat cA lg)
   (hk2 : kd < 2) (hk0 : 0 ≤ kd) (hr1 : 1 ≤ re)
   (hQ : ∀ h' tk m' tA bt', Fr g3 L3 h' m' → m' (Str.ofString "allowance") = some (.bool (bestStep (bm, al) ⟨pl, kd, re⟩).2) → m' (Str.ofString "best_match") = some (.int (bestStep (bm, al) ⟨pl, kd, re⟩).1 bt') → m' (Str.ofString "filename") = some (.str nm nt) →
      News g3 L3 h' ((tA, logTup pl tP nm nt) :: (lg, listOf (lv.toArray.push (.ref tA)) (k + 1)) :: tl) → @LT.lt Nat _ lg tA → (∀ p ∈ tl, p.1 < tA) → Q .next { s with heap := h', toks := tk }) :
   wpAny (model P w) (A3 sc st sa L fa L2 L3 cd) (execs lb (env3 sa L3)) Q E s := by
  dsimp only [KK, A1, A2, A3, envL, env2, env3, P] at X B ⊢
  revert X
  k_fill
  intro X
  conv at hsc => lhs; whnf
  conv at hst => lhs; whnf
  conv at hsa => lhs; whnf
  conv at hlb => lhs; whnf
  conv at hpa => lhs; whnf
  conv at hbo => lhs; whnf
  conv at hso => lhs; whnf
  conv at hrs => lhs; whnf
  subst hsc hst hsa hlb hpa hbo hso hrs
  k_steps
  all_goals (try (exfalso; omega))
  all_goals (rename News _ _ _ _ => NN; rename Fr _ _ _ _ => FF)
  all_goals (repeat (rename _ ∧ _ => hcj; obtain ⟨_, _⟩ := hcj))
  · exact hQ _ _ _ _ _ FF (by rw [bs1 hk2 (by assumption)]; rfl) (by rw [bs1 hk2 (by assumption)]; rfl) rfl (fun p hp => NN p (sub8 p hp)) (by omega) (kst_ltOf (by assumption))
  · exact hQ _ _ _ _ _ FF (by rw [bs2 hk2 (by assumption) (by assumption) (by assumption)]; rfl) (by rw [bs2 hk2 (by assumption) (by assumption) (by assumption)]; rfl) rfl (fun p hp => NN p (sub8 p hp)) (by omega) (kst_ltOf (by assumption))
  · exact hQ _ _ _ _ _ FF (by rw [bs3 hk2 (by assumption) (by assumption) (by assumption)]; rfl) (by rw [bs3 hk2 (by assumption) (by assumption) (by assumption)]; rfl) rfl (fun p hp => NN p (sub8 p hp)) (by omega) (kst_ltOf (by assumption))
  · exact hQ _ _ _ _ _ FF (by rw [bs4 hk2 (by assumption) (by assumption)]; rfl) (by rw [bs4 hk2 (by assumption) (by assumption)]; rfl) rfl (fun p hp => NN p (sub8 p hp)) (by omega) (kst_ltOf (by assumption))
theorem turn4 {w : World} {g g3 : Heap} {mean : ExcName → Option Value} {mg mb : Str → Option Value} {sc st sa : Scope} {L fa L2 L3 : Addr} {cd : Value} {s : Shared} {lb : List Stmt}
   {nm : Str} {nt t bt : Tok} {al : Bool} {bm : Int} {u : Str → Option Value} {tl : List (Addr × Obj)} {Q : Flow → Shared → Prop} {E : Value → Shared → Prop}
   (hsc : lawScope = sc) (hst : toldScope = st) (hsa : allowScope = sa) (hlb : allowLoop = lb) (X : (KK w).In g3) (T : Top topProg looseL mean mg mb g3) (B : Below (A2 sc st L fa L2 cd) g [env2 st L2, envL sc L fa cd] g3)
   (F : Fr g3 L3 s.heap (fun y => if y = Str.ofString "line" then some (.str (Str.ofString "Disallow: /") t) else if y = Str.ofString "allowance" then some (.bool al) else if y = Str.ofString "best_match" then some (.int bm bt) else if y = Str.ofString "filename" then some (.str nm nt) else u y))
   (N : News g3 L3 s.heap tl)
   (hE : ∀ e h' tk, LeavesN (model P w) (A2 sc st L fa L2 cd) g [env2 st L2, envL sc L fa cd] g3 (env3 sa L3) e "AttributeError" tl { s with heap := h', toks := tk } → E (.ref e) { s with heap := h', toks := tk }) :
   wpAny (model P w) (A3 sc st sa L fa L2 L3 cd) (execs lb (env3 sa L3)) Q E s := by
  dsimp only [KK, A1, A2, A3, envL, env2, env3, P] at X B ⊢
  revert X
  k_fill
  intro X
  conv at hsc => lhs; whnf
  conv at hst => lhs; whnf
  conv at hsa => lhs; whnf
  conv at hlb => lhs; whnf
  subst hsc hst hsa hlb
  k_steps
  rename Heap.NewExcOf _ _ _ _ => hx'
  exact hE _ _ _ (fun Q9 E9 h9 => leave_first B hx' F N rfl rfl h9)
end Mine
end

section
theorem Mine.freshAllow : True := by w_top off; trivial
open PySem PySem.W PyProof.Rows PySem.Calls PyProof.V PySem.Spec
set_option Elab.async false
set_option maxRecDepth 100000
set_option maxHeartbeats 8000000
namespace Mine
inductive ExcOf : Int → String → Prop
  | value : ExcOf 3 "ValueError"
  | attr : ExcOf 4 "AttributeError"
  | type : ExcOf 5 "TypeError"
theorem news_front {g h : Heap} {L : Addr} {a : Addr × Obj} {tl : List (Addr × Obj)} (A : List (Addr × Obj)) (hA : ∀ p ∈ A, p ∈ tl) (N : News g L h (a :: tl)) : News g L h (a :: (A ++ tl)) := fun p hp => by
  rcases List.mem_cons.mp hp with rfl | hp
  · exact N _ (.head _)
  · rcases List.mem_append.mp hp with hp | hp
    · exact N _ (.tail _ (hA p hp))
    · exact N _ (.tail _ hp)
theorem take_snoc {rows : List Row} {i : Nat} {r : Row} (h : rows[i]? = some r) : rows.take (i + 1) = rows.take i ++ [r] := by
  rw [List.take_add_one, h]; rfl
theorem best_snoc {rows : List Row} {i : Nat} {r : Row} (h : rows[i]? = some r) : best (rows.take (i + 1)) = bestStep (best (rows.take i)) r := by
  rw [take_snoc h]; simp [best]
theorem split_at {rows : List Row} {i : Nat} {r : Row} (h : rows[i]? = some r) : rows = rows.take i ++ r :: rows.drop (i + 1) := by
  obtain ⟨hlt, e⟩ := List.getElem?_eq_some_iff.mp h
  rw [← e]
  simp
theorem logDats_yes {rows : List Row} {nm : Str} {r : Row} (h : r.kind ≠ 4) : logDats (rows ++ [r]) nm = logDats rows nm ++ [Dat.tuple [Dat.int r.place, Dat.str nm]] := by
  simp [logDats, h]
theorem logDats_no {rows : List Row} {nm : Str} {r : Row} (h : r.kind = 4) : logDats (rows ++ [r]) nm = logDats rows nm := by
  simp [logDats, h]
theorem dat_snoc {nws : List (Addr × Obj)} {lv : List Value} {ds : List Dat} {tA : Addr} {pl : Int} {tP nt : Tok} {nm : Str} (h : DatAll nws lv ds) : DatAll ((tA, logTup pl tP nm nt) :: nws) (lv ++ [.ref tA]) (ds ++ [Dat.tuple [Dat.int pl, Dat.str nm]]) :=
  (h.mono fun _ hp => .tail _ hp).append (.one (.tuple (vs := [.int pl tP, .str nm nt]) (.head _) (.cons (.int _ _) (.cons (.str _ _) .nil))))
theorem allow_turn {w : World} {g g3 : Heap} {mean : ExcName → Option Value} {mg mb : Str → Option Value} {sc st sa : Scope} {L fa L2 L3 : Addr} {cd : Value} {s : Shared} {lb : List Stmt}
   {nm : Str} {nt bt : Tok} {u : Str → Option Value} {tl own : List (Addr × Obj)} {Q : Flow → Shared → Prop} {E : Value → Shared → Prop} {lg : Addr} {rows : List Row} {i : Nat} {r : Row} {v : Value} {lv : List Value} {k : Nat}
   (hsc : lawScope = sc) (hst : toldScope = st) (hsa : allowScope = sa) (hlb : allowLoop = lb)
   (C : CodeHd g3 62 58) (X : (KK w).In g3) (T : Top topProg looseL mean mg mb g3) (B : Below (A2 sc st L fa L2 cd) g [env2 st L2, envL sc L fa cd] g3)
   (hr : rows[i]? = some r) (hA : RuleAt w mg reachParams reachBody reachScope ruleScope own lg v r) (hk0 : 0 ≤ r.kind) (hk5 : r.kind ≤ 5) (hr1 : 1 ≤ r.reach)
   (F : Fr g3 L3 s.heap (fun y => if y = Str.ofString "line" then some v else if y = Str.ofString "allowance" then some (.bool (best (rows.take i)).2) else if y = Str.ofString "best_match" then some (.int (best (rows.take i)).1 bt) else if y = Str.ofString "filename" then some (.str nm nt) else u y))
   (N : News g3 L3 s.heap ((lg, listOf lv.toArray k) :: tl)) (hown : ∀ p ∈ own, p ∈ tl) (hO : OwnOff tl [lg]) (hz : lv.toArray.size ≤ sizeLine)
   (hQ : ∀ h' tk m' tA bt' tP, r.kind ≤ 2 → Fr g3 L3 h' m' → m' (Str.ofString "allowance") = some (.bool (best (rows.take (i + 1))).2) → m' (Str.ofString "best_match") = some (.int (best (rows.take (i + 1))).1 bt') → m' (Str.ofString "filename") = some (.str nm nt) →
      News g3 L3 h' ((tA, logTup r.place tP nm nt) :: (lg, listOf (lv.toArray.push (.ref tA)) (k + 1)) :: tl) → @LT.lt Nat _ lg tA → (∀ p ∈ tl, p.1 < tA) → Q .next { s with heap := h', toks := tk })
   (hE : ∀ e cls h' tk new lv' k', ExcOf r.kind cls → ((r.kind ≠ 4 ∧ ∃ tA tP, new = [(tA, logTup r.place tP nm nt)] ∧ lv' = lv ++ [.ref tA]) ∨ (r.kind = 4 ∧ new = [] ∧ lv' = lv)) →
      LeavesN (model P w) (A2 sc st L fa L2 cd) g [env2 st L2, envL sc L fa cd] g3 (env3 sa L3) e cls (new ++ (lg, listOf lv'.toArray k') :: tl) { s with heap := h', toks := tk } → E (.ref e) { s with heap := h', toks := tk }) :
   wpAny (model P w) (A3 sc st sa L fa L2 L3 cd) (execs lb (env3 sa L3)) Q E s := by
  have hb := best_snoc hr
  cases hA with
  | text hk =>
    exact turn4 hsc hst hsa hlb X T B F N fun e h' tk hL => hE e "AttributeError" h' tk [] lv k (by rw [hk]; exact .attr) (.inr ⟨hk, rfl, rfl⟩) hL
  | @made _ x dx f Lr l1 l2 cA t1 t2 t3 t4 t5 t6 tP tK tR tq dc ct av oG oR oK oP oc vc hk a0 a1 a2 a3 a4 a5 a6 a7 a8 a9 a10 a11 a12 a13 a14 a15 a16 =>
    have hcA : @Ne Nat cA lg := hO _ (hown _ a12) _ (.head _)
    have N' := news_front [(x, instObj 52 dx), (dx, dictOf (ruleEs w t1 t2 t3 t4 t5 t6 l1 l2 f av) 6), (f, reachFn mg reachParams reachBody reachScope ruleScope Lr cA dc ct), (Lr + 1 + 1 + 1 + 1, oG), (Lr + 1 + 1 + 1, oR), (Lr + 1 + 1, oK), (Lr + 1, oP), (cA, oc)]
      (by
        refine List.forall_mem_cons.mpr ⟨hown _ a1, List.forall_mem_cons.mpr ⟨hown _ a2, List.forall_mem_cons.mpr ⟨hown _ a3, List.forall_mem_cons.mpr ⟨hown _ a4, List.forall_mem_cons.mpr ⟨hown _ a6, List.forall_mem_cons.mpr ⟨hown _ a8, List.forall_mem_cons.mpr ⟨hown _ a10, List.forall_mem_cons.mpr ⟨hown _ a12, List.forall_mem_nil _⟩⟩⟩⟩⟩⟩⟩⟩) N
    have push : ∀ tA : Addr, (lv ++ [Value.ref tA]).toArray = lv.toArray.push (.ref tA) := fun tA => by simp
    rcases (by omega : r.kind < 2 ∨ r.kind = 2 ∨ r.kind = 3 ∨ r.kind = 5) with h | h | h | h
    · have hav := a15 h
      subst hav
      refine turn01 hsc hst hsa hlb rfl rfl rfl rfl C X T B F N' a5 a7 a9 a11 a13 a14 hO hz a0 hcA h hk0 hr1 fun h' tk m' tA bt' F' e1 e2 e3 N9 l1 l2 => hQ h' tk m' tA bt' tP (by omega) F' ?_ ?_ e3 N9 l1 l2
      · rw [hb]; exact e1
      · rw [hb]; exact e2
    · refine turn2 hsc hst hsa hlb rfl rfl rfl rfl C X T B F N' a5 a7 (h ▸ a9) a11 a13 a14 hO hz a0 hcA fun h' tk m' tA bt' F' e1 e2 e3 N9 l1 l2 => hQ h' tk m' tA bt' tP (by omega) F' ?_ ?_ e3 N9 l1 l2
      · rw [hb]; have : r = ⟨r.place, 2, r.reach⟩ := by rw [← h]
        rw [this]; exact e1
      · rw [hb]; have : r = ⟨r.place, 2, r.reach⟩ := by rw [← h]
        rw [this]; exact e2
    · refine turn3 hsc hst hsa hlb rfl rfl rfl rfl C X T B F N' a5 a7 (h ▸ a9) a11 a13 a14 hO hz a0 hcA fun e h' tk tA _ hL => hE e "ValueError" h' tk [(tA, logTup r.place tP nm nt)] (lv ++ [.ref tA]) (k + 1) (by rw [h]; exact .value) (.inl ⟨hk, tA, tP, rfl, rfl⟩) ?_
      rw [push]; exact hL
    · refine turn5 hsc hst hsa hlb rfl rfl rfl rfl C X T B F N' a5 a7 (h ▸ a9) a11 a13 a14 hO hz a0 hcA fun e h' tk tA _ hL => hE e "TypeError" h' tk [(tA, logTup r.place tP nm nt)] (lv ++ [.ref tA]) (k + 1) (by rw [h]; exact .type) (.inl ⟨hk, tA, tP, rfl, rfl⟩) ?_
      rw [push]; exact hL
theorem allow_call {w : World} {g g2 : Heap} {mean : ExcName → Option Value} {mg mb : Str → Option Value} {sc st : Scope} {L fa L2 : Addr} {cd : Value} {s : Shared} {m2 : Str → Option Value}
   {lg rl e1 d1 ua : Addr} {rv : List Value} {rows : List Row} {ln rn t1 t2 t3 t4 : Nat} {nm : Str} {nt : Tok} {own : List (Addr × Obj)} {Q : Value → Shared → Prop} {E : Value → Shared → Prop}
   (hsc : lawScope = sc) (hst : toldScope = st) (C : CodeHd g2 62 58) (X : (KK w).In g2) (T : Top topProg looseL mean mg mb g2) (B : Below (A1 sc L fa cd) g [envL sc L fa cd] g2)
   (F : Fr g2 L2 s.heap m2)
   (N : News g2 L2 s.heap ((lg, listOf #[] ln) :: (rl, listOf rv.toArray rn) :: (e1, instObj 52 d1) :: (d1, dictOf (oneEs w t1 t2 t3 t4 ua rl) 4) :: own))
   (hO : OwnOff own [lg]) (hd1 : @LT.lt Nat _ (lg) (d1) ∧ @LT.lt Nat _ (d1) (e1) ∧ @LT.lt Nat _ (e1) (rl))
   (hR : Paired (RuleAt w mg reachParams reachBody reachScope ruleScope own lg) rv rows) (hrow : ∀ r ∈ rows, 0 ≤ r.kind ∧ r.kind ≤ 5 ∧ 1 ≤ r.reach ∧ r.reach ≤ 3) (hlen : (rv.length : Int) ≤ 63)
   (hQ : ∀ h' tk k lv nws, (∀ q ∈ rows, q.kind ≤ 2) → DatAll nws lv (logDats rows nm) → Fr g2 L2 h' m2 → News g2 L2 h' ((lg, listOf lv.toArray k) :: (rl, listOf rv.toArray rn) :: (nws ++ ((e1, instObj 52 d1) :: (d1, dictOf (oneEs w t1 t2 t3 t4 ua rl) 4) :: own))) → Q (.bool (best rows).2) { s with heap := h', toks := tk })
   (hE : ∀ e cls h' tk k lv nws pre r post g3, rows = pre ++ r :: post → (∀ q ∈ pre, q.kind ≤ 2) → ExcOf r.kind cls → DatAll nws lv (logDats (pre ++ [r]) nm) → Fr g2 L2 g3 m2 → g3.UpToSlots h' →
      RaisedN g [env2 st L2, envL sc L fa cd] e (.type cls) ((lg, listOf lv.toArray k) :: (rl, listOf rv.toArray rn) :: (nws ++ ((e1, instObj 52 d1) :: (d1, dictOf (oneEs w t1 t2 t3 t4 ua rl) 4) :: own))) h' → E (.ref e) { s with heap := h', toks := tk }) :
   wpAny (model P w) (A2 sc st L fa L2 cd) (call (.ref 49) [.ref e1, .str nm nt]) Q E s := by
  dsimp only [KK, A1, A2, envL, env2, P] at X B ⊢
  revert X
  k_fill
  intro X
  conv at hsc => lhs; whnf
  conv at hst => lhs; whnf
  have hsc' : lawScope = _ := hsc
  have hst' : toldScope = _ := hst
  subst hsc hst
  k_steps
  rename News _ _ _ _ => NN
  rename Fr _ _ _ _ => FF
  rename Below _ _ _ _ => B'
  rename Frag.In _ _ => X'
  rename Top _ _ _ _ _ _ => T'
  have FG := (by assumption : Fr g2 L2 _ m2)
  obtain ⟨ownE, hownE⟩ : ∃ ownE, ownE = (e1, instObj 52 d1) :: (d1, dictOf (oneEs w t1 t2 t3 t4 ua rl) 4) :: own := ⟨_, rfl⟩
  rw [← hownE] at NN
  have hsub : ∀ p ∈ own, p ∈ ownE := fun p hp => by rw [hownE]; exact .tail _ (.tail _ hp)
  have hOE : OwnOff ownE [lg] := by
    rw [hownE]
    intro p hp b hb
    rw [List.mem_singleton.mp hb]
    rcases List.mem_cons.mp hp with rfl | hp
    · exact Nat.ne_of_gt (Nat.lt_trans hd1.1 hd1.2.1)
    · rcases List.mem_cons.mp hp with rfl | hp
      · exact Nat.ne_of_gt hd1.1
      · exact hO p hp lg (.head _)
  rw [← hownE] at hQ hE
  have hrl : rl ≠ lg := Nat.ne_of_gt (Nat.lt_trans hd1.1 (Nat.lt_trans hd1.2.1 hd1.2.2))
  refine kdl_iter (news := (lg, listOf #[] ln) :: (rl, listOf rv.toArray rn) :: ([] ++ ownE)) (AJ lg rl rv rn nm nt rows ownE) (by rfl) (.tail _ (.head _)) (by exact FF) (by exact NN) ⟨[], [], ln, _, rfl, rfl, rfl, rfl, .nil, by simp, by simp, Nat.le_refl _⟩ ?_ ?_
  · rintro i v m₁ news₁ h tk own₁ hv hoff hl₁ ⟨lv, nws, k, bt, hm1, hm2, hm3, rfl, hdat, hpre, hnws, hlv⟩ F₁ N₁
    clear FF NN
    obtain ⟨r, hr, hA⟩ := paired_get hR hv
    have hrm : r ∈ rows := List.mem_of_getElem? hr
    obtain ⟨hk0, hk5, hr1, hr3⟩ := hrow r hrm
    have hi : i < rv.length := (List.getElem?_eq_some_iff.mp hv).1
    rw [frame3 hm1 hm2 hm3] at F₁
    refine allow_turn (own := own) (tl := (rl, listOf rv.toArray rn) :: ((nws ++ ownE) ++ own₁)) hsc' hst' rfl rfl (C.keeps FG.keep) X' T' B' hr hA hk0 hk5 hr1 (by exact F₁) (by exact N₁) ?_ ?_ ?_ ?_ ?_
    · exact fun p hp => .tail _ (List.mem_append_left _ (List.mem_append_right _ (hsub p hp)))
    · intro p hp b hb
      rw [List.mem_singleton.mp hb]
      rcases List.mem_cons.mp hp with rfl | hp
      · exact hrl
      · rcases List.mem_append.mp hp with hp | hp
        · rcases List.mem_append.mp hp with hp | hp
          · exact Nat.ne_of_gt (hnws p hp)
          · exact hOE p hp lg (.head _)
        · exact hoff p hp lg (.head _)
    · rw [List.size_toArray, sizeLine_eq]; omega
    · intro h' tk' m' tA bt' tP hk2 F' e1' e2' e3' N' l1 l2
      have push : (lv ++ [Value.ref tA]).toArray = lv.toArray.push (.ref tA) := by simp
      refine InvEndG.intro (nx := (lg, listOf (lv ++ [Value.ref tA]).toArray (k + 1)) :: (rl, listOf rv.toArray rn) :: (((tA, logTup r.place tP nm nt) :: nws) ++ ownE)) (by exact F') (by exact N') ⟨.tail _ (.head _), lv ++ [.ref tA], (tA, logTup r.place tP nm nt) :: nws, k + 1, bt', e1', e2', e3', rfl, ?_, ?_, ?_, ?_⟩ ?_ ?_ ?_
      · rw [take_snoc hr, logDats_yes (by omega)]
        exact dat_snoc hdat
      · rw [take_snoc hr]
        intro q hq
        rcases List.mem_append.mp hq with hq | hq
        · exact hpre q hq
        · rw [List.mem_singleton.mp hq]; exact hk2
      · exact List.forall_mem_cons.mpr ⟨l1, hnws⟩
      · simp only [List.length_append, List.length_cons, List.length_nil]; omega
      · intro p hp b hb
        have hp' : p ∈ (rl, listOf rv.toArray rn) :: ((nws ++ ownE) ++ own₁) := .tail _ (List.mem_append_right _ hp)
        obtain ⟨q, hq, rfl⟩ := List.mem_map.mp hb
        rcases List.mem_cons.mp hq with rfl | hq
        · exact hoff p hp _ (.head _)
        · rcases List.mem_cons.mp hq with rfl | hq
          · exact hoff p hp _ (.tail _ (.head _))
          · rcases List.mem_cons.mp hq with rfl | hq
            · exact Nat.ne_of_lt (l2 p hp')
            · exact hoff p hp _ (.tail _ (.tail _ (List.mem_map_of_mem hq)))
      · intro q hq
        rcases List.mem_cons.mp hq with rfl | hq
        · rw [push]; exact .tail _ (.head _)
        · rcases List.mem_cons.mp hq with rfl | hq
          · exact .tail _ (.tail _ (.head _))
          · rcases List.mem_cons.mp hq with rfl | hq
            · exact .head _
            · exact .tail _ (.tail _ (.tail _ (List.mem_append_left _ hq)))
      · exact fun p hp => .tail _ (.tail _ (.tail _ (List.mem_append_right _ hp)))
    · intro e cls h' tk' new lv' k' hx hnew hL
      refine hL _ _ fun h'' R U => ?_
      have hs := split_at hr
      rcases hnew with ⟨hk, tA, tP, rfl, hlv'⟩ | ⟨hk, rfl, hlv'⟩
      · subst hlv'
        refine hE e cls h'' tk' k' (lv ++ [.ref tA]) ((tA, logTup r.place tP nm nt) :: nws) (rows.take i) r (rows.drop (i + 1)) _ hs hpre hx ?_ FG U (raisedN_mono ?_ R)
        · rw [logDats_yes hk]; exact dat_snoc hdat
        · intro q hq
          rcases List.mem_cons.mp hq with rfl | hq
          · exact .tail _ (.head _)
          · rcases List.mem_cons.mp hq with rfl | hq
            · exact .tail _ (.tail _ (.head _))
            · rcases List.mem_cons.mp hq with rfl | hq
              · exact .head _
              · exact .tail _ (.tail _ (.tail _ (List.mem_append_left _ hq)))
      · rw [hlv'] at R
        refine hE e cls h'' tk' k' lv nws (rows.take i) r (rows.drop (i + 1)) _ hs hpre hx ?_ FG U (raisedN_mono ?_ R)
        · rw [logDats_no hk]; exact hdat
        · intro q hq
          rcases List.mem_cons.mp hq with rfl | hq
          · exact .head _
          · rcases List.mem_cons.mp hq with rfl | hq
            · exact .tail _ (.head _)
            · exact .tail _ (.tail _ (List.mem_append_left _ hq))
  · rintro m₁ news₁ h tk ⟨lv, nws, k, bt, hm1, hm2, hm3, rfl, hdat, hpre, hnws, hlv⟩ F₁ N₁
    clear FF NN
    rw [frame3 hm1 hm2 hm3] at F₁
    have hl := Paired.length hR
    rw [hl, List.take_length] at hdat hpre F₁
    k_steps
    rename News _ _ _ _ => NN
    rename Fr _ _ _ _ => FF
    exact hQ _ _ _ _ _ hpre hdat FF NN
end Mine
end

section
theorem Mine.freshCaught : True := by w_top off; trivial
open PySem PySem.W PyProof.Rows PySem.Calls PyProof.V PySem.Spec
set_option Elab.async false
set_option maxRecDepth 100000
set_option maxHeartbeats 4000000
namespace Mine
section
variable {prog : Program} {w : World} {A A₀ : Around} {s : Shared} {K : Frag} {L : Addr} {h₀ base : Heap} {m mg mb : Str → Option Value} {news : List (Addr × Obj)} {p : Program} {loose : List Str} {mean : ExcName → Option Value}
/-- a call of a def: its result told directly, or through LeaveK -/
theorem code_defR {env : Env} {outer : List Env} {R : Result → Shared → Prop} {name qual : Str} {params : Arguments} {body : List Stmt} {scope : Scope} {dV kV doc pm cdv ct oc : Value} {an od : Option Addr} {osl : Array (Option Value)} {f : Addr} {args : Args} {binds : List (Str × Value)}
    (B : Below A₀ base outer h₀) (F : Fr h₀ L s.heap m) (X₀ : K.In h₀) (N : News h₀ L s.heap news) (T : Top p loose mean mg mb h₀) (hA : A.frames = some (env :: outer)) (hf : env.frame = some L) (hke : env.scope.kind = .function)
    (ho : K.lookup f = some ⟨oc, od, .func (fnOf name qual params body scope dV kV doc pm an cdv ct), osl⟩) (hcd : codeIn K cdv qual = true) (hroom : A.depth < recursionLimit)
    (hbind : BindsTo s (fnOf name qual params body scope dV kV doc pm an cdv ct) args binds) (hloc : ∀ y ∈ binds, scope.names.lookup y.1 = some .local)
    (h : ∀ g L' h₁, Fr h₀ L g m → Fr g L' h₁ (fun y => binds.reverse.lookup y) → News g L' h₁ news → Below A base (env :: outer) g → K.In g → Top p loose mean mg mb g → h₀.objs.size ≤ L' → (∀ v s', LeaveK h₀ L m g R v s' → R (.ok (.ret v)) s') →
      wpAny (model prog w) (A.deeper (envOf qual scope L' f cdv)) (execs body (envOf qual scope L' f cdv))
        (fun fl s' => R (.ok (.ret (match fl with | .ret v => v | _ => .none))) s')
        (fun e s' => wpAny (model prog w) (A.deeper (envOf qual scope L' f cdv)) (leaving (envOf qual scope L' f cdv) e) (fun _ s'' => R (.error e) s'') (fun e' s'' => R (.error e') s'') s')
        { s with heap := h₁, toks := s.toks + binds.length })
    (hco : scope.isCoroutine = false) (hgen : scope.isGenerator = false) (hk : scope.kind = .function)
    (hcell : ∀ x ∈ scope.names, x.2 ≠ .cell) : codeAny (model prog w) A (.call (.ref f) args) R s := by
  obtain ⟨FG, BG, st, lv⟩ := groundX (R := R) B F N hA hf hke
  refine codeAny_call_def (fd := fnOf name qual params body scope dV kV doc pm an cdv ct) (body := body) (binds := binds) hroom ((X₀.keeps F.keep) _ _ ho) rfl (T.nolimit.keeps F.keep) (codeRec_of (X₀.keeps F.keep) hcd) rfl hbind hcell hloc (fun h₁ hns hk₁ => ?_) hco hgen hk
  exact h _ s.heap.objs.size h₁ FG ⟨hns, fun b o e => hk₁ b o (of_hideAll _ e), Nat.le_of_eq (hideAll_size _ _)⟩
    (fun p hp => ⟨hk₁ _ _ (N p hp).1, Nat.ne_of_lt (Heap.lt_size (N p hp).1), hideAll_none _ (List.mem_map_of_mem hp)⟩) BG (X₀.keeps st) (T.keeps st) (Nat.le_of_lt (Nat.lt_of_le_of_lt F.above F.ns.lt)) lv
end
section
variable {prog : Program} {w : World} {A : Around} {E : Value → Shared → Prop} {s : Shared} {K : Frag} {L a : Addr} {h₀ B : Heap} {m mg mb : Str → Option Value} {p : Program} {loose : List Str} {cn : Str} {cs : Scope} {ccd : Value} {l : List Env} {e : Addr} {X T' : String} {a0 : Value}
  {x : Str} {np pos : Pos} {b₀ : Stmt} {suite : List Stmt} {rest : List ExceptHandler} {Q : Flow → Shared → Prop}
/-- a clause that takes the exception -/
theorem clause_hit (hfl : Heap.FlyingW B l e (.type X) a0 s.heap) (F : Fr h₀ L s.heap m) (XK : K.In h₀) (T : TopRead p loose mg mb h₀) (hn : nsIn K mainGlobals x = some none) (hv : bootBuiltins x = some (.type T')) (hnn : x ≠ "__name__")
    (hexc : isSubtype (.type T') (.type "BaseException") = pure true) (hnt : isSubtype (.type ((Manifest.find? T').elim "type" fun y => y.metatype)) (.type "tuple") = pure false) (hsub : isSubtype (.type X) (.type T') = pure true)
    (k : ∀ h', Heap.FlyingW B l e (.type X) a0 h' → s.heap.UpToSlots h' → wpAny (model prog w) (A.mark (some (.ref e))) (execs (b₀ :: suite) (envOf cn cs L a ccd)) Q (fun _ _ => False) { s with heap := h' })
    (hk : cs.kind = .function) (hx : (envOf cn cs L a ccd).kindOf x = some .globalImplicit) (hd : (x == ("__debug__" : Str)) = false) :
    wpAny (model prog w) A (handleBy (.ref e) (envOf cn cs L a ccd) (.ExceptHandler (some (.Name x np)) none (b₀ :: suite) pos :: rest)) Q E s := by
  obtain ⟨ob, hob, hobc⟩ := hfl.there
  refine wpAny_handleBy_builtin (X := X) (T := T') (b := true) hexc hnt hsub (name_B F XK T hn hv hnn ⟨rfl, ⟨ob, hob, hobc⟩, ?_⟩ hk hx hd)
  refine lands_againW hfl fun h₆ hfl₆ hsm₆ => ?_
  exact wpAny_noRaise (k h₆ hfl₆ hsm₆)
/-- a clause that does not -/
theorem clause_miss (hfl : Heap.FlyingW B l e (.type X) a0 s.heap) (F : Fr h₀ L s.heap m) (XK : K.In h₀) (T : TopRead p loose mg mb h₀) (hn : nsIn K mainGlobals x = some none) (hv : bootBuiltins x = some (.type T')) (hnn : x ≠ "__name__")
    (hexc : isSubtype (.type T') (.type "BaseException") = pure true) (hnt : isSubtype (.type ((Manifest.find? T').elim "type" fun y => y.metatype)) (.type "tuple") = pure false) (hsub : isSubtype (.type X) (.type T') = pure false)
    (k : wpAny (model prog w) A (handleBy (.ref e) (envOf cn cs L a ccd) rest) Q E s)
    (hk : cs.kind = .function) (hx : (envOf cn cs L a ccd).kindOf x = some .globalImplicit) (hd : (x == ("__debug__" : Str)) = false) :
    wpAny (model prog w) A (handleBy (.ref e) (envOf cn cs L a ccd) (.ExceptHandler (some (.Name x np)) none (b₀ :: suite) pos :: rest)) Q E s := by
  obtain ⟨ob, hob, hobc⟩ := hfl.there
  exact wpAny_handleBy_builtin (X := X) (T := T') (b := false) hexc hnt hsub (name_B F XK T hn hv hnn ⟨rfl, ⟨ob, hob, hobc⟩, k⟩ hk hx hd)
end
theorem isExc_Attr : isSubtype (.type "AttributeError") (.type "BaseException") = pure true := by rw [isSubtype_type]; kernel_rfl
theorem notTuple_Attr : isSubtype (.type ((Manifest.find? "AttributeError").elim "type" fun x => x.metatype)) (.type "tuple") = pure false := by
  have e : ((Manifest.find? "AttributeError").elim "type" fun x => x.metatype) = "type" := by kernel_rfl
  rw [e, isSubtype_type]; kernel_rfl
theorem sub_AV : isSubtype (.type "AttributeError") (.type "ValueError") = pure false := by rw [isSubtype_type]; kernel_rfl
theorem sub_TV : isSubtype (.type "TypeError") (.type "ValueError") = pure false := by rw [isSubtype_type]; kernel_rfl
theorem sub_TA : isSubtype (.type "TypeError") (.type "AttributeError") = pure false := by rw [isSubtype_type]; kernel_rfl
theorem sub_VV : isSubtype (.type "ValueError") (.type "ValueError") = pure true := by rw [isSubtype_type]; kernel_rfl
theorem sub_AA : isSubtype (.type "AttributeError") (.type "AttributeError") = pure true := by rw [isSubtype_type]; kernel_rfl
theorem sub_TT : isSubtype (.type "TypeError") (.type "TypeError") = pure true := by rw [isSubtype_type]; kernel_rfl
end Mine
end

section
theorem Mine.freshTold : True := by w_top off; trivial
open PySem PySem.W PyProof.Rows PySem.Calls PyProof.V PySem.Spec
set_option Elab.async false
set_option maxRecDepth 100000
set_option maxHeartbeats 8000000
namespace Mine
def Stop (P : Prop) : Prop := P
theorem stop {P : Prop} (h : Stop P) : P := h
local macro_rules | `(tactic| walk_at "call ref") => `(tactic| ((with_reducible show wpAny _ _ (call (Value.ref 49) _) _ _ _); refine stop ?_))
theorem told_call {w : World} {g : Heap} {mean : ExcName → Option Value} {mg mb : Str → Option Value} {sc : Scope} {L fa : Addr} {cd : Value} {s : Shared} {m : Str → Option Value}
   {lg rl e1 d1 ua : Addr} {rv : List Value} {rows : List Row} {ln rn t1 t2 t3 t4 : Nat} {nm : Str} {nt : Tok} {own : List (Addr × Obj)} {Q : Value → Shared → Prop}
   (hsc : lawScope = sc) (C : CodeHd g 62 58) (X : (KK w).In g) (T : Top topProg looseL mean mg mb g) (B : Below callerA g [] g)
   (F : Fr g L s.heap m)
   (N : News g L s.heap ((lg, listOf #[] ln) :: (rl, listOf rv.toArray rn) :: (e1, instObj 52 d1) :: (d1, dictOf (oneEs w t1 t2 t3 t4 ua rl) 4) :: own))
   (hO : OwnOff own [lg]) (hd1 : @LT.lt Nat _ (lg) (d1) ∧ @LT.lt Nat _ (d1) (e1) ∧ @LT.lt Nat _ (e1) (rl))
   (hR : Paired (RuleAt w mg reachParams reachBody reachScope ruleScope own lg) rv rows) (hrow : ∀ r ∈ rows, 0 ≤ r.kind ∧ r.kind ≤ 5 ∧ 1 ≤ r.reach ∧ r.reach ≤ 3) (hlen : (rv.length : Int) ≤ 63)
   (hQ : ∀ h' tk v k lv nws seen, ToldV rows v seen → DatAll nws lv (logDats seen nm) → Fr g L h' m → News g L h' ((lg, listOf lv.toArray k) :: (rl, listOf rv.toArray rn) :: (nws ++ ((e1, instObj 52 d1) :: (d1, dictOf (oneEs w t1 t2 t3 t4 ua rl) 4) :: own))) → Q v { s with heap := h', toks := tk }) :
   wpAny (model P w) (A1 sc L fa cd) (call (.ref 70) [.ref e1, .str nm nt]) Q (fun _ _ => False) s := by
  dsimp only [KK, A1, envL, P] at X ⊢
  revert X
  k_fill
  intro X
  have hsc0 := hsc
  conv at hsc => lhs; whnf
  subst hsc
  refine wpAny_call ?_
  k_dflt (refine' code_defR ?k1 ?k2 ?k3 ?k4 ?k5 ?kA ?kF ?kK ?k6 ?k7 ?k8 ?k9 ?kB ?_ ?c2 ?c3 ?c4 ?c5; (case kA => exact rfl); (case kF => exact rfl); (case kK => exact rfl); (case k1 => k_asm); (case k2 => k_asm); (case k3 => k_asm); (case k4 => k_asm); (case k5 => k_asm); (case k6 => k_is); (case k7 => k_is); (case k8 => k_room); (case k9 => exact BindsTo.of_eq rfl); (case c5 => decide); (case kB => exact locs rfl); (case c2 => exact rfl); (case c3 => exact rfl); (case c4 => exact rfl))
  intro g2 L2 h₁ FG F2 N2 B2 X2 T2 hL2 lv
  dsimp only
  k_steps
  refine (show wpAny _ _ _ _ _ _ from ?_)
  refine allow_call (cd := cd) hsc0 (st := _) rfl (C.keeps FG.keep) X2 T2 B2 (by exact F2) (by exact N2) hO hd1 hR hrow hlen ?_ ?_
  · intro h' tk' k lv' nws hall hdat F' N'
    exact lv _ _ ⟨L2, _, _, F', N', fun Fr' N'' => hQ h' tk' _ k lv' nws rows (.good hall) hdat Fr' N''⟩
  · intro e cls h' tk' k lv' nws pre r post g3 hrows hpre hx hdat F3 U R
    obtain ⟨Bh, a0, hB, hl, hfl⟩ := R
    have hNs2 := U.ns F3.ns
    have hNsL : h'.Ns L m := U.ns (FG.ns.keeps F3.keep)
    refine wpAny_looks_onW rfl rfl hfl fun h₄ hheld₄ sm₄ => ?_
    refine wpAny_landsW hheld₄ fun h₅ hfl₅ sm₅ => ?_
    have F5 : Fr g L2 h₅ _ := ⟨(sm₄.trans sm₅).ns hNs2, fun b o q => hfl₅.1 b o (hB b o q), hL2⟩
    have hBL : Bh.get? L = none := by
      obtain ⟨_, _, _, ⟨L', _, hf, hn', _⟩, _⟩ := hfl.2.2.1
      obtain rfl : L = L' := Option.some.inj hf
      exact hn'
    have fin : ∀ h₆, Heap.FlyingW Bh [env2 toldScope L2, envL lawScope L fa cd] e (.type cls) a0 h₆ → h₅.UpToSlots h₆ → ∀ tk9 v, ToldV rows v (pre ++ [r]) → Q v { s with heap := h₆, toks := tk9 } := by
      intro h₆ f6 u6 tk9 v hv
      refine hQ h₆ tk9 v k lv' nws (pre ++ [r]) hv hdat ⟨((sm₄.trans sm₅).trans u6).ns hNsL, fun b o q => f6.1 b o (hB b o q), F.above⟩ fun q hq => ⟨f6.1 _ _ (hl q hq).1, fun z => ?_, (hl q hq).2⟩
      have := (hl q hq).1
      rw [z, hBL] at this; cases this
    have told : ∀ t, ToldV rows (.int r.kind t) (pre ++ [r]) := fun t => by
      rw [hrows]
      refine .fault hpre ?_
      generalize r.kind = kk at hx
      cases hx <;> decide
    generalize hkk : r.kind = kk at hx
    rw [hkk] at told
    cases hx with
    | value =>
      refine clause_hit hfl₅ F5 X (topRead_of T) (by k_is) PyProof.Rows.Boot.«ValueError» (by decide) PySem.F.isExc_ValueError PySem.F.notTuple_ValueError sub_VV (fun h₆ f6 u6 => ?_) rfl rfl (by decide)
      k_steps
      exact fin h₆ f6 u6 _ _ (told _)
    | attr =>
      refine clause_miss hfl₅ F5 X (topRead_of T) (by k_is) PyProof.Rows.Boot.«ValueError» (by decide) PySem.F.isExc_ValueError PySem.F.notTuple_ValueError sub_AV ?_ rfl rfl (by decide)
      refine clause_hit hfl₅ F5 X (topRead_of T) (by k_is) PyProof.Rows.Boot.«AttributeError» (by decide) isExc_Attr notTuple_Attr sub_AA (fun h₆ f6 u6 => ?_) rfl rfl (by decide)
      k_steps
      exact fin h₆ f6 u6 _ _ (told _)
    | type =>
      refine clause_miss hfl₅ F5 X (topRead_of T) (by k_is) PyProof.Rows.Boot.«ValueError» (by decide) PySem.F.isExc_ValueError PySem.F.notTuple_ValueError sub_TV ?_ rfl rfl (by decide)
      refine clause_miss hfl₅ F5 X (topRead_of T) (by k_is) PyProof.Rows.Boot.«AttributeError» (by decide) isExc_Attr notTuple_Attr sub_TA ?_ rfl rfl (by decide)
      refine clause_hit hfl₅ F5 X (topRead_of T) (by k_is) PyProof.Rows.Boot.«TypeError» (by decide) PySem.F.isExc_TypeError PySem.F.notTuple_TypeError sub_TT (fun h₆ f6 u6 => ?_) rfl rfl (by decide)
      k_steps
      exact fin h₆ f6 u6 _ _ (told _)
end Mine
end

section
theorem Mine.freshCompL : True := by w_top off; trivial
open PySem PySem.W PyProof.Rows PySem.Calls PyProof.V PySem.Spec
set_option Elab.async false
set_option maxRecDepth 100000
set_option maxHeartbeats 8000000
namespace Mine
/-- the comprehension's frame, seen from the law's -/
theorem comp_view {h₀ h : Heap} {L C : Addr} {m m₂ : Str → Option Value} {news : List (Addr × Obj)} {wr : List Addr} {s₂ : Shared} (hLw : L ∉ wr) (hwr : ∀ b ∈ wr, h₀.get? b = none) (hnw : ∀ p ∈ news, p.1 ∉ wr)
    (F : Fr h₀ L s₂.heap m) (N : News h₀ L s₂.heap news) (hC : s₂.heap.objs.size ≤ C) (hn : h.Ns C m₂) (hk : ∀ b o, b ∉ wr → s₂.heap.get? b = some o → h.get? b = some o) :
    ∃ oC, LCg.NsObj oC m₂ ∧ Fr h₀ L h m ∧ News h₀ L h ((C, oC) :: news) ∧ (∀ p ∈ news, p.1 < C) ∧ L ≠ C := by
  obtain ⟨oC, hoC, hN⟩ := LCg.ns_obj hn
  have old : ∀ b o, h₀.get? b = some o → b ∉ wr := fun b o e hb => by rw [hwr b hb] at e; cases e
  have fresh : s₂.heap.get? C = none := by
    cases e : s₂.heap.get? C with
    | none => rfl
    | some o' => exact absurd (Heap.lt_size e) (Nat.not_lt.mpr hC)
  have h0C : h₀.get? C = none := by
    cases q : h₀.get? C with
    | none => rfl
    | some o => exact absurd (fresh.symm.trans (F.keep C o q)) (by simp)
  obtain ⟨oL, esL, epL, hoL, rL⟩ := F.ns
  have hLC : L ≠ C := fun e => absurd (fresh.symm.trans (e ▸ hoL)) (by simp)
  refine ⟨oC, hN, ⟨⟨oL, esL, epL, hk _ _ hLw hoL, rL⟩, fun b o e => hk b o (old b o e) (F.keep b o e), F.above⟩, fun p hp => ?_, fun p hp => Nat.lt_of_lt_of_le (Heap.lt_size (N p hp).1) hC, hLC⟩
  rcases List.mem_cons.mp hp with rfl | hp
  · exact ⟨hoC, fun e => hLC e.symm, h0C⟩
  · exact ⟨hk _ _ (hnw p hp) (N p hp).1, (N p hp).2⟩
theorem fr_keeps {h₀ h h' : Heap} {L : Addr} {m : Str → Option Value} (F : Fr h₀ L h m) (hk : ∀ b o, h.get? b = some o → h'.get? b = some o) : Fr h₀ L h' m := ⟨F.ns.keeps hk, fun b o e => hk b o (F.keep b o e), F.above⟩
theorem news_keeps {h₀ h h' : Heap} {L : Addr} {news : List (Addr × Obj)} (N : News h₀ L h news) (hk : ∀ b o, h.get? b = some o → h'.get? b = some o) : News h₀ L h' news := fun p hp => ⟨hk _ _ (N p hp).1, (N p hp).2⟩
theorem over {m m' : Str → Option Value} {a : Str} {v : Value} (h : m a = some v) (e : m' = m) : (fun z => if z = a then some v else m' z) = m := by
  funext z
  by_cases q : z = a
  · rw [if_pos q, q, h]
  · rw [if_neg q, e]
theorem fr_eq {h₀ h : Heap} {L : Addr} {m m' : Str → Option Value} (e : m' = m) (F : Fr h₀ L h m) : Fr h₀ L h m' := e ▸ F
/-- a goal the walker leaves alone -/
def Halt (p : Prop) : Prop := p
theorem halt {p : Prop} (h : Halt p) : p := h
section
variable {prog : Program} {w : World} {A : Around} {E : Value → Shared → Prop} {env : Env}
theorem comp_range {h₀ : Heap} {L r : Addr} {n : Nat} {t₀ u₀ v₀ : Tok} {s : Shared} {m : Str → Option Value} {news : List (Addr × Obj)} {scope : Scope} {cl : List (Str × Addr)} {x : Str} {px : Pos} {c elt : Expr} {Q : (Str → Option Value) → List (Addr × Obj) → Addr → Nat → List Value → List (Addr × Obj) → Heap → Shared → Prop}
    (J : Nat → List Value → List (Addr × Obj) → Prop) (hh : A.handled = none) (hr : IsRange s.heap r 0 (n : Int) 1 t₀ u₀ v₀) (hn : (n : Int) ≤ 63) (hx : scope.names.lookup x = some .local) (hkind : scope.kind = .function)
    (hJl : ∀ i ys nws, J i ys nws → ys.length ≤ i) (h0 : J 0 [] []) (F : Fr h₀ L s.heap m) (N : News h₀ L s.heap news)
    (turn : ∀ (sx : Shared) C oC m₂ i t ys nws E', i < n → J i ys nws → LCg.NsObj oC m₂ → m₂ x = some (.int (i : Int) t) → Fr h₀ L sx.heap m → News h₀ L sx.heap ((C, oC) :: news) → (∀ p ∈ news, p.1 < C) → L ≠ C →
      wpAny (model prog w) A (isTrue c (compEnvC scope cl C env) (eval c (compEnvC scope cl C env))) (fun ok s₃ => Keeps sx s₃ ∧
        if ok = true then wpAny (model prog w) A (eval elt (compEnvC scope cl C env)) (fun y s₄ => ∃ h₄ tk₄ nw, s₄ = { s₃ with heap := h₄, toks := tk₄ } ∧ (∀ b o, s₃.heap.get? b = some o → h₄.get? b = some o) ∧
          (∀ q ∈ nw, h₄.get? q.1 = some q.2 ∧ s₃.heap.get? q.1 = none) ∧ J (i + 1) (ys ++ [y]) (nws ++ nw)) E' s₃
        else J (i + 1) ys nws) E' sx)
    (hQ : ∀ D k h' tk ys nws, J n ys nws → (∀ p ∈ news, p.1 < D) → Fr h₀ L h' m → News h₀ L h' ((D, listOf ys.toArray k) :: (nws ++ news)) → Q m news D k ys nws h' { s with heap := h', toks := tk }) :
    wpAny (model prog w) A (pyIter (.ref r)) (fun it s₂ => ∃ m news, CompAt prog w A h₀ L env scope cl (.Name x px) c elt m news (Q m news) it s₂) E s := by
  have hsz : Builtin.Range.rangeSize 0 (n : Int) 1 = ((n : Nat) : Int) := by
    unfold Builtin.Range.rangeSize
    by_cases h : n = 0
    · subst h; simp
    · have : (0 : Int) < (n : Int) := by omega
      simp
      omega
  refine wpAny_pyIter_range hr (by unfold Builtin.Range.small; rw [hsz]; simp [Builtin.Range.rangeFitsLong]; omega) ?_
  have hIg : ∀ p ∈ news, p.1 ≠ s.heap.objs.size := fun p hp => Nat.ne_of_lt (Heap.lt_size (N p hp).1)
  have hI0 : h₀.get? s.heap.objs.size = none := by
    cases q : h₀.get? s.heap.objs.size with
    | none => rfl
    | some o => exact absurd (Heap.lt_size (F.keep _ o q)) (Nat.lt_irrefl _)
  have hLI : L ≠ s.heap.objs.size := Nat.ne_of_lt F.ns.lt
  have F2 := F.push ({ cls := .type "range_iterator", data := .fields #[rawInt 0, rawInt (Builtin.Range.rangeSize 0 (n : Int) 1), rawInt 1] } : Obj)
  have N2 : News h₀ L (s.heap.push ({ cls := .type "range_iterator", data := .fields #[rawInt 0, rawInt (Builtin.Range.rangeSize 0 (n : Int) 1), rawInt 1] } : Obj)) news := fun p hp => ⟨Heap.get?_push_of_some _ (N p hp).1, (N p hp).2⟩
  refine ⟨m, news, _, _, _, n, _, _, J, rfl, (Walks.range hh s.heap.objs.size 0 1 n).bound, ?_, hJl, ⟨?_, ?_⟩, ?_, ?_, ?_, h0, ?_, ?_, ?_, F2, N2, ?_⟩
  · unfold sizeLine; omega
  · intro i v sx Q' E' _ hP hQ'
    exact wpAny_pure hQ'
  · intro C i v ys nws sx m₂ E' hC hi hP hJ hns hk
    obtain ⟨_, t, rfl⟩ := hP
    have hsz2 : s.heap.objs.size < C := by
      have := hC
      rw [show ({ s with heap := s.heap.push { cls := .type "range_iterator", data := .fields #[rawInt 0, rawInt (Builtin.Range.rangeSize 0 (n : Int) 1), rawInt 1] } } : Shared).heap.objs.size = s.heap.objs.size + 1 from Heap.size_push _ _] at this
      exact this
    refine wpAny_assign_Name (wpAny_storeName_local (lookup_relabel_local hx) hns (fun h₂ hn₂ hs₂ => ?_) (by simp [compEnvC, relabel, hkind]))
    refine ⟨h₂, sx.toks + 1, _, rfl, hn₂, fun b o hb e => hs₂.extBut b o hb e, ?_⟩
    have old : ∀ b o, s.heap.get? b = some o → h₂.get? b = some o := fun b o e => hs₂.extBut b o (Nat.ne_of_lt (Nat.lt_trans (Heap.lt_size e) hsz2)) (hk b o (fun hm => Nat.ne_of_lt (Heap.lt_size e) (List.mem_singleton.mp hm)) (Heap.get?_push_of_some _ e))
    obtain ⟨oC, v1, v2, v3, v4, v5⟩ := comp_view (wr := []) (s₂ := s) (C := C) (fun h => nomatch h) (fun _ h => nomatch h) (fun _ _ h => nomatch h) F N (Nat.le_of_lt hsz2) hn₂ (fun b o _ e => old b o e)
    exact turn { sx with heap := h₂, toks := sx.toks + 1 } C oC _ i t ys nws E' hi hJ v1 (by simp) v2 v3 v4 v5
  · show IsRangeIter _ _ _ _ _
    rw [hsz]
    simpa using Heap.get?_push_size _ rfl
  · intro b hb
    rw [List.mem_singleton.mp hb]
    exact Nat.lt_of_lt_of_eq (Nat.lt_succ_self _) (Heap.size_push _ _).symm
  · intro i h hi b hb
    rw [List.mem_singleton.mp hb]
    exact ⟨_, hi⟩
  · intro hm; exact hLI (List.mem_singleton.mp hm)
  · intro b hb; rw [List.mem_singleton.mp hb]; exact hI0
  · intro p hp hm; exact hIg p hp (List.mem_singleton.mp hm)
  · intro D k h' tk ys nws hJ hD _ _ hF hN
    exact hQ D k h' tk ys nws hJ hD hF hN

theorem assign3 {env : Env} {s : Shared} {a b c : Str} {pa pb pc tp : Pos} {kk : Nat} {T : Addr} {x y z : Value} {m : Str → Option Value} {Q : Unit → Shared → Prop} (hh : A.handled = none) (ht : s.heap.IsTuple T #[x, y, z])
    (ha : env.kindOf a = some .local) (hb : env.kindOf b = some .local) (hc : env.kindOf c = some .local) (hp : (env.scope.kind == .class || (env.scope.kind == .module && env.locals != env.globals)) = false) (hn : s.heap.Ns env.locals m)
    (h : ∀ (h' : Heap) (tk : Nat), h'.Ns env.locals (fun q => if q = c then some z else if q = b then some y else if q = a then some x else m q) → (∀ c o, c ≠ env.locals → s.heap.get? c = some o → h'.get? c = some o) → Q () { s with heap := h', toks := tk }) :
    wpAny (model prog w) A (assign (.Tuple [.Name a pa, .Name b pb, .Name c pc] kk tp) env (.ref T)) Q E s := by
  refine wpAny_assign_Tuple hh ht rfl rfl fun h₁ he₁ => ?_
  have hL : env.locals ≠ s.heap.objs.size := Nat.ne_of_lt hn.lt
  have hn₁ : h₁.Ns env.locals m := hn.at' fun o e => he₁ _ o hL e
  have up₁ : ∀ c o, s.heap.get? c = some o → h₁.get? c = some o := fun c o e => he₁ c o (Nat.ne_of_lt (Heap.lt_size e)) e
  show wpAny _ _ (assignInOrder [assign (.Name a pa) env, assign (.Name b pb) env, assign (.Name c pc) env] [x, y, z]) _ _ _
  refine assignInOrder_cons ?_
  refine wpAny_assign_Name (wpAny_storeName_local ha hn₁ (fun h₂ hn₂ hs₂ => ?_) hp)
  refine assignInOrder_cons ?_
  refine wpAny_assign_Name (wpAny_storeName_local hb hn₂ (fun h₃ hn₃ hs₃ => ?_) hp)
  refine assignInOrder_cons ?_
  refine wpAny_assign_Name (wpAny_storeName_local hc hn₃ (fun h₄ hn₄ hs₄ => ?_) hp)
  refine assignInOrder_nil ?_
  exact h h₄ _ hn₄ fun c o hc e => hs₄.extBut c o hc (hs₃.extBut c o hc (hs₂.extBut c o hc (up₁ c o e)))

theorem comp_list3 {h₀ : Heap} {L l : Addr} {vs : List Value} {kl : Nat} {rows : List Row} {s : Shared} {m : Str → Option Value} {news : List (Addr × Obj)} {scope : Scope} {cl : List (Str × Addr)} {a b c : Str} {pa pb pc tp : Pos} {kk : Nat} {cnd elt : Expr} {Q : (Str → Option Value) → List (Addr × Obj) → Addr → Nat → List Value → List (Addr × Obj) → Heap → Shared → Prop}
    (J : Nat → List Value → List (Addr × Obj) → Prop) (hh : A.handled = none) (hl : (l, listOf vs.toArray kl) ∈ news) (hlen : (vs.length : Int) ≤ 63) (hP : Paired (TupAt news) vs rows)
    (ha : scope.names.lookup a = some .local) (hb : scope.names.lookup b = some .local) (hc : scope.names.lookup c = some .local) (hkind : scope.kind = .function) (hd : a ≠ b ∧ a ≠ c ∧ b ≠ c)
    (hJl : ∀ i ys nws, J i ys nws → ys.length ≤ i) (h0 : J 0 [] []) (F : Fr h₀ L s.heap m) (N : News h₀ L s.heap news)
    (turn : ∀ (sx : Shared) C oC m₂ i r t1 t2 t3 ys nws E', rows[i]? = some r → J i ys nws → LCg.NsObj oC m₂ → m₂ a = some (.int r.place t1) → m₂ b = some (.int r.kind t2) → m₂ c = some (.int r.reach t3) → Fr h₀ L sx.heap m → News h₀ L sx.heap ((C, oC) :: news) → (∀ p ∈ news, p.1 < C) → L ≠ C →
      wpAny (model prog w) A (isTrue cnd (compEnvC scope cl C env) (eval cnd (compEnvC scope cl C env))) (fun ok s₃ => Keeps sx s₃ ∧
        if ok = true then wpAny (model prog w) A (eval elt (compEnvC scope cl C env)) (fun y s₄ => ∃ h₄ tk₄ nw, s₄ = { s₃ with heap := h₄, toks := tk₄ } ∧ (∀ b o, s₃.heap.get? b = some o → h₄.get? b = some o) ∧
          (∀ q ∈ nw, h₄.get? q.1 = some q.2 ∧ s₃.heap.get? q.1 = none) ∧ J (i + 1) (ys ++ [y]) (nws ++ nw)) E' s₃
        else J (i + 1) ys nws) E' sx)
    (hQ : ∀ D k h' tk ys nws, J rows.length ys nws → (∀ p ∈ news, p.1 < D) → Fr h₀ L h' m → News h₀ L h' ((D, listOf ys.toArray k) :: (nws ++ news)) → Q m news D k ys nws h' { s with heap := h', toks := tk }) :
    wpAny (model prog w) A (pyIter (.ref l)) (fun it s₂ => ∃ m news, CompAt prog w A h₀ L env scope cl (.Tuple [.Name a pa, .Name b pb, .Name c pc] kk tp) cnd elt m news (Q m news) it s₂) E s := by
  have hL : s.heap.IsList l vs.toArray := ⟨_, (N _ hl).1, rfl, kl, rfl⟩
  refine wpAny_pyIter_list hL ?_
  have hIg : ∀ p ∈ news, p.1 ≠ s.heap.objs.size := fun p hp => Nat.ne_of_lt (Heap.lt_size (N p hp).1)
  have hI0 : h₀.get? s.heap.objs.size = none := by
    cases q : h₀.get? s.heap.objs.size with
    | none => rfl
    | some o => exact absurd (Heap.lt_size (F.keep _ o q)) (Nat.lt_irrefl _)
  have hLI : L ≠ s.heap.objs.size := Nat.ne_of_lt F.ns.lt
  have hlI : l ≠ s.heap.objs.size := hIg _ hl
  have F2 := F.push ({ cls := .type "list_iterator", data := .fields #[.ref l, .int 0 0] } : Obj)
  have N2 : News h₀ L (s.heap.push ({ cls := .type "list_iterator", data := .fields #[.ref l, .int 0 0] } : Obj)) news := fun p hp => ⟨Heap.get?_push_of_some _ (N p hp).1, (N p hp).2⟩
  have hsz1 : (s.heap.push ({ cls := .type "list_iterator", data := .fields #[.ref l, .int 0 0] } : Obj)).objs.size = s.heap.objs.size + 1 := Heap.size_push _ _
  have hlr : rows.length = vs.toArray.size := by rw [List.size_toArray]; exact (Paired.length hP).symm
  rw [hlr] at hQ
  refine ⟨m, news, _, _, _, vs.toArray.size, _, _, J, rfl, Walks.list hh s.heap.objs.size l hlI vs.toArray, ?_, hJl, ⟨?_, ?_⟩, ?_, ?_, ?_, h0, ?_, ?_, ?_, F2, N2, ?_⟩
  · rw [List.size_toArray]; unfold sizeLine; omega
  · intro i v sx Q' E' hst hPv hQ'
    obtain ⟨r, _, T, t1, t2, t3, kt, rfl, _⟩ := paired_get hP (by simpa using hPv)
    exact wpAny_letOwnedTupleGo_listiter hst.1 hQ'
  · intro C i v ys nws sx m₂ E' hC hi hPv hJ hns hk
    obtain ⟨r, hri, T, t1, t2, t3, kt, rfl, hTm⟩ := paired_get hP (by simpa using hPv)
    have hsz2 : s.heap.objs.size < C := by
      have hC' : (s.heap.push ({ cls := .type "list_iterator", data := .fields #[.ref l, .int 0 0] } : Obj)).objs.size ≤ C := hC
      rw [hsz1] at hC'
      exact hC'
    have upx : ∀ b o, s.heap.get? b = some o → sx.heap.get? b = some o := fun b o e => hk b o (fun hm => Nat.ne_of_lt (Heap.lt_size e) (List.mem_singleton.mp hm)) (Heap.get?_push_of_some _ e)
    have hT : sx.heap.IsTuple T #[.int r.place t1, .int r.kind t2, .int r.reach t3] := ⟨_, upx _ _ (N _ hTm).1, rfl, kt, rfl⟩
    refine assign3 hh hT (lookup_relabel_local ha) (lookup_relabel_local hb) (lookup_relabel_local hc) (by simp [compEnvC, relabel, hkind]) hns fun h₂ tk₂ hn₂ hs₂ => ?_
    refine ⟨h₂, tk₂, _, rfl, hn₂, fun b o hb e => hs₂ b o hb e, ?_⟩
    have old : ∀ b o, s.heap.get? b = some o → h₂.get? b = some o := fun b o e => hs₂ b o (Nat.ne_of_lt (Nat.lt_trans (Heap.lt_size e) hsz2)) (upx b o e)
    obtain ⟨oC, v1, v2, v3, v4, v5⟩ := comp_view (wr := []) (s₂ := s) (C := C) (fun h => nomatch h) (fun _ h => nomatch h) (fun _ _ h => nomatch h) F N (Nat.le_of_lt hsz2) hn₂ (fun b o _ e => old b o e)
    exact turn { sx with heap := h₂, toks := tk₂ } C oC _ i r t1 t2 t3 ys nws E' hri hJ v1 (by simp [hd.1, hd.2.1]) (by simp [hd.2.2]) (by simp) v2 v3 v4 v5
  · exact ⟨⟨_, Heap.get?_push_size _ rfl, rfl, rfl⟩, hL.at fun o e => Heap.get?_push_of_some _ e⟩
  · intro b hb
    rw [List.mem_cons, List.mem_singleton] at hb
    rw [hsz1]
    rcases hb with rfl | rfl
    · exact Nat.lt_succ_self _
    · exact Nat.lt_succ_of_lt (Heap.lt_size (N _ hl).1)
  · intro i h hi b hb
    rw [List.mem_singleton.mp hb]
    obtain ⟨o, ho, _⟩ := hi.1
    exact ⟨o, ho⟩
  · intro hm; exact hLI (List.mem_singleton.mp hm)
  · intro b hb; rw [List.mem_singleton.mp hb]; exact hI0
  · intro p hp hm; exact hIg p hp (List.mem_singleton.mp hm)
  · intro D k h' tk ys nws hJ hD _ _ hF hN
    exact hQ D k h' tk ys nws hJ hD hF hN
theorem my_item {h₀ : Heap} {L l : Addr} {s : Shared} {news : List (Addr × Obj)} {vs : List Value} {k : Int} {j n : Nat} {t : Tok} {x : Value} {value slice : Expr} {Q : Value → Shared → Prop} (N : News h₀ L s.heap news) (hm : (l, listOf vs.toArray n) ∈ news)
    (hk : k = (j : Int)) (hx : vs[j]? = some x) (hj : (j : Int) < 100) (hs : subscripted slice false (.ref l) (.int k t) = operate [.ref l, .int k t] (getItem (.ref l) (.int k t))) (h : Q x s) : wpAny (model prog w) A (subscriptTail value slice (.ref l) (.int k t)) Q E s := by
  have hl : s.heap.IsList l vs.toArray := ⟨_, (N _ hm).1, rfl, n, rfl⟩
  subst hk
  exact tail_any hl.typeIs slot_list_getitem.lookup (wpAny_getItem_list hl (by omega) (by have : (2:Int)^63 = 9223372036854775808 := rfl; omega) (by simpa using hx) h) hs
theorem my_tup {T : Addr} {s : Shared} {x y z : Value} {n : Nat} {t : Tok} {value slice : Expr} {Q : Value → Shared → Prop} (ho : s.heap.get? T = some ({ cls := .type "tuple", data := .seq #[x, y, z] n } : Obj))
    (hs : subscripted slice false (.ref T) (.int 1 t) = operate [.ref T, .int 1 t] (getItem (.ref T) (.int 1 t))) (h : Q y s) : wpAny (model prog w) A (subscriptTail value slice (.ref T) (.int 1 t)) Q E s := by
  have ht : s.heap.IsTuple T #[x, y, z] := ⟨_, ho, rfl, n, rfl⟩
  exact tail_any ht.typeIs slot_tuple_getitem.lookup (getItem_tuple ht (by omega) (by have : (2:Int)^63 = 9223372036854775808 := rfl; omega) (seqIndex_of (by omega) (by simp)) (x := y) (by simp) h) hs
end
end Mine
end

section
theorem Mine.freshComps : True := by w_top off; trivial
open PySem PySem.W PyProof.Rows PySem.Calls PyProof.V PySem.Spec
set_option Elab.async false
set_option maxRecDepth 100000
set_option maxHeartbeats 8000000
namespace Mine
def whileStmt (n : Nat) : Stmt := (whileBody[n]?).getD (.Pass default)
def isFault (rows : List Row) (k : Nat) : Bool := match rows[k]? with | some r => decide (2 < r.kind) | none => false
def faultsTo (rows : List Row) (i : Nat) : List Int := ((List.range i).filter (isFault rows)).map Int.ofNat
theorem faultsTo_len (rows : List Row) (i : Nat) : (faultsTo rows i).length ≤ i := by
  unfold faultsTo
  rw [List.length_map]
  exact Nat.le_trans (List.length_filter_le _ _) (Nat.le_of_eq List.length_range)
theorem faultsTo_succ (rows : List Row) (i : Nat) : faultsTo rows (i + 1) = if isFault rows i then faultsTo rows i ++ [(i : Int)] else faultsTo rows i := by
  unfold faultsTo
  rw [List.range_succ, List.filter_append, List.map_append]
  by_cases h : isFault rows i <;> simp [h]
theorem faults_stmt {w : World} {g : Heap} {mean : ExcName → Option Value} {mg mb : Str → Option Value} {sc : Scope} {L fa : Addr} {cd : Value} {s : Shared} {m : Str → Option Value} {stm : Stmt}
   {lf : Addr} {fv : List Value} {rows : List Row} {fn : Nat} {oL : Obj} {own : List (Addr × Obj)} {Q : Flow → Shared → Prop}
   (hsc : lawScope = sc) (hstm : whileStmt 1 = stm) (X : (KK w).In g) (T : Top topProg looseL mean mg mb g) (B : Below callerA g [] g)
   (F : Fr g L s.heap m) (N : News g L s.heap ((lf, listOf fv.toArray fn) :: (L + 1, oL) :: own)) (dL : oL.data = .cell (some (.ref lf))) (hlen : (fv.length : Int) ≤ 63) (hT : Paired (TupAt own) fv rows)
   (hQ : ∀ h' tk fl k ys, IntsAre ys (faultsTo rows fv.length) → Fr g L h' (fun z => if z = Str.ofString "faults" then some (.ref fl) else m z) → News g L h' ((fl, listOf ys.toArray k) :: (lf, listOf fv.toArray fn) :: (L + 1, oL) :: own) → (∀ p ∈ (lf, listOf fv.toArray fn) :: (L + 1, oL) :: own, p.1 < fl) → Q .next { s with heap := h', toks := tk }) :
   wpAny (model P w) (A1 sc L fa cd) (exec stm (envL sc L fa cd)) Q (fun _ _ => False) s := by
  dsimp only [KK, A1, envL, P] at X ⊢
  revert X
  k_fill
  intro X
  conv at hsc => lhs; whnf
  conv at hstm => lhs; whnf
  subst hsc hstm
  refine assign_comp (h₀ := g) (by rfl) (by with_unfolding_all rfl) (by decide) (by rfl) (by decide) (by rfl) (by rfl) ?_
  k_steps
  refine' kst_len ?k1 ?k2 rfl ?k4 ?_
  case k1 => exact N
  case k2 => exact List.mem_cons_self
  case k4 => have : (2:Int)^63 = 9223372036854775808 := rfl
             omega
  k_steps
  rename IsRange _ _ _ _ _ _ _ _ => hr
  rename Fr _ _ _ _ => F1
  rename News _ _ _ _ => N1
  refine' comp_range (n := fv.length) (fun i ys nws => nws = [] ∧ IntsAre ys (faultsTo rows i)) ?z1 ?z8 hlen ?z2 ?z3 ?z4 ?z7 ?z9 ?z10 ?z5 ?z6
  case z7 => exact ⟨rfl, .nil⟩
  case z8 => exact hr
  case z9 => exact F1
  case z10 => exact N1
  case z1 => rfl
  case z2 => decide
  case z3 => rfl
  case z4 => exact fun i ys nws h => by have := faultsTo_len rows i; rw [h.2.length]; exact this
  · clear hQ hr F1 N1
    intro sx C oC m₂ i t ys nws E' hi hJ hO hx F N hC hLC
    obtain ⟨v, hv⟩ : ∃ v, fv[i]? = some v := ⟨_, List.getElem?_eq_getElem hi⟩
    obtain ⟨r, hri, a, t1, t2, t3, kt, rfl, hTm⟩ := paired_get hT hv
    have hf : isFault rows i = decide (2 < r.kind) := by unfold isFault; rw [hri]
    have hJ' := faultsTo_succ rows i
    rw [hf] at hJ'
    refine wpAny_mono (Q := fun ok s₃ => Halt (ok = decide (2 < r.kind) ∧ Keeps sx s₃)) ?_ ?_ (fun _ _ e => e)
    · clear hJ'
      k_steps
      refine' my_item ?y1 ?y2 rfl hv ?y3 ?y4 ?y5
      case y1 => exact N
      case y2 => exact List.mem_cons_of_mem _ List.mem_cons_self
      case y3 => omega
      case y4 => with_unfolding_all rfl
      have hTm2 := N _ (List.mem_cons_of_mem _ (List.mem_cons_of_mem _ (List.mem_cons_of_mem _ hTm)))
      k_steps
      refine' my_tup hTm2.1 ?x4 ?x5
      case x4 => with_unfolding_all rfl
      k_steps
      exact ⟨rfl, _, _, rfl, fun _ _ e => e⟩
    · rintro ok s₃ ⟨rfl, hk3⟩
      refine ⟨hk3, ?_⟩
      split
      · next hgt =>
        obtain ⟨h3, tk3, rfl, hk3⟩ := hk3
        refine wpAny_mono (Q := fun y s₄ => Halt (∃ t, y = .int (i : Int) t ∧ s₄ = { sx with heap := h3, toks := tk3 })) ?_ ?_ (fun _ _ e => e)
        · have F := fr_keeps F hk3
          have N := news_keeps N hk3
          clear hJ'
          k_steps
          exact ⟨_, rfl, rfl⟩
        · rintro y s₄ ⟨t', rfl, rfl⟩
          refine ⟨h3, tk3, [], rfl, fun _ _ e => e, fun _ hq => (nomatch hq), by rw [hJ.1, List.nil_append], ?_⟩
          rw [hJ', if_pos hgt]
          exact IntsAre.append hJ.2 (.cons _ _ .nil)
      · next hgt =>
        refine ⟨hJ.1, ?_⟩
        rw [hJ', if_neg hgt]
        exact hJ.2
  · intro D k h' tk ys nws hJ hD hF hN h'' tk' hF' hN'
    obtain ⟨rfl, hI⟩ := hJ
    exact hQ h'' tk' D k ys hI hF' hN' hD
end Mine
end

section
theorem Mine.freshScores : True := by w_top off; trivial
open PySem PySem.W PyProof.Rows PySem.Calls PyProof.V PySem.Spec
set_option Elab.async false
set_option maxRecDepth 100000
set_option maxHeartbeats 8000000
namespace Mine
def scoreOf (r : Row) : Int := 2 * r.reach + 1 - r.kind
def scoresTo (rows : List Row) (i : Nat) : List Int := ((rows.take i).filter fun r => decide (r.kind < 2)).map scoreOf
theorem scoresTo_len (rows : List Row) (i : Nat) : (scoresTo rows i).length ≤ i := by
  unfold scoresTo
  rw [List.length_map]
  exact Nat.le_trans (List.length_filter_le _ _) (List.length_take_le _ _)
theorem take_snoc2 {α : Type} {l : List α} {i : Nat} {r : α} (h : l[i]? = some r) : l.take (i + 1) = l.take i ++ [r] := by
  rw [List.take_add_one, h]; rfl
theorem scoresTo_succ {rows : List Row} {i : Nat} {r : Row} (h : rows[i]? = some r) : scoresTo rows (i + 1) = if decide (r.kind < 2) = true then scoresTo rows i ++ [2 * r.reach + 1 - r.kind] else scoresTo rows i := by
  unfold scoresTo
  rw [take_snoc2 h, List.filter_append, List.map_append]
  by_cases h : r.kind < 2 <;> simp [h, scoreOf]
theorem scores_stmt {w : World} {g : Heap} {mean : ExcName → Option Value} {mg mb : Str → Option Value} {sc : Scope} {L fa : Addr} {cd : Value} {s : Shared} {m : Str → Option Value} {stm : Stmt}
   {lf : Addr} {fv : List Value} {rows : List Row} {fn : Nat} {oL : Obj} {own : List (Addr × Obj)} {Q : Flow → Shared → Prop}
   (hsc : lawScope = sc) (hstm : whileStmt 3 = stm) (X : (KK w).In g) (T : Top topProg looseL mean mg mb g) (B : Below callerA g [] g)
   (F : Fr g L s.heap m) (N : News g L s.heap ((lf, listOf fv.toArray fn) :: (L + 1, oL) :: own)) (dL : oL.data = .cell (some (.ref lf))) (hlen : (fv.length : Int) ≤ 63) (hT : Paired (TupAt own) fv rows)
   (hQ : ∀ h' tk fl k ys, IntsAre ys (scoresTo rows rows.length) → Fr g L h' (fun z => if z = Str.ofString "scores" then some (.ref fl) else m z) → News g L h' ((fl, listOf ys.toArray k) :: (lf, listOf fv.toArray fn) :: (L + 1, oL) :: own) → (∀ p ∈ (lf, listOf fv.toArray fn) :: (L + 1, oL) :: own, p.1 < fl) → Q .next { s with heap := h', toks := tk }) :
   wpAny (model P w) (A1 sc L fa cd) (exec stm (envL sc L fa cd)) Q (fun _ _ => False) s := by
  dsimp only [KK, A1, envL, P] at X ⊢
  revert X
  k_fill
  intro X
  conv at hsc => lhs; whnf
  conv at hstm => lhs; whnf
  subst hsc hstm
  have hT' : Paired (TupAt ((lf, listOf fv.toArray fn) :: (L + 1, oL) :: own)) fv rows := Paired.mono (fun a b h => TupAt.mono (fun p hp => List.mem_cons_of_mem _ (List.mem_cons_of_mem _ hp)) h) hT
  refine assign_comp (h₀ := g) (by rfl) (by with_unfolding_all rfl) (by decide) (by rfl) (by decide) (by rfl) (by rfl) ?_
  k_steps
  refine' comp_list3 (rows := rows) (fun i ys nws => nws = [] ∧ IntsAre ys (scoresTo rows i)) ?z1 ?z8 hlen hT' ?z2 ?z3 ?z11 ?z12 ?z13 ?z4 ?z7 ?z9 ?z10 ?z5 ?z6
  case z7 => exact ⟨rfl, .nil⟩
  case z8 => exact List.mem_cons_self
  case z9 => exact F
  case z10 => exact N
  case z1 => rfl
  case z2 => decide
  case z3 => decide
  case z11 => decide
  case z12 => rfl
  case z13 => decide
  case z4 => exact fun i ys nws h => by have := scoresTo_len rows i; rw [h.2.length]; exact this
  · clear hQ F N
    intro sx C oC m₂ i r t1 t2 t3 ys nws E' hri hJ hO hxa hxb hxc F N hC hLC
    have hJ' := scoresTo_succ hri
    refine wpAny_mono (Q := fun ok s₃ => Halt (ok = decide (r.kind < 2) ∧ Keeps sx s₃)) ?_ ?_ (fun _ _ e => e)
    · clear hJ' hT'
      k_steps
      exact ⟨rfl, _, _, rfl, fun _ _ e => e⟩
    · rintro ok s₃ ⟨rfl, hk3⟩
      refine ⟨hk3, ?_⟩
      split
      · next hgt =>
        obtain ⟨h3, tk3, rfl, hk3⟩ := hk3
        refine wpAny_mono (Q := fun y s₄ => Halt (∃ t tk', y = .int (2 * r.reach + 1 - r.kind) t ∧ s₄ = { sx with heap := h3, toks := tk' })) ?_ ?_ (fun _ _ e => e)
        · have F := fr_keeps F hk3
          have N := news_keeps N hk3
          clear hJ' hT'
          k_steps
          exact ⟨_, _, rfl, rfl⟩
        · rintro y s₄ ⟨t', tk', rfl, rfl⟩
          refine ⟨h3, tk', [], rfl, fun _ _ e => e, fun _ hq => (nomatch hq), by rw [hJ.1, List.nil_append], ?_⟩
          rw [hJ', if_pos hgt]
          exact IntsAre.append hJ.2 (.cons _ _ .nil)
      · next hgt =>
        refine ⟨hJ.1, ?_⟩
        rw [hJ', if_neg hgt]
        exact hJ.2
  · intro D k h' tk ys nws hJ hD hF hN h'' tk' hF' hN'
    obtain ⟨rfl, hI⟩ := hJ
    exact hQ h'' tk' D k ys hI hF' hN' hD
end Mine
end

section
theorem Mine.freshLogIf : True := by w_top off; trivial
open PySem PySem.W PyProof.Rows PySem.Calls PyProof.V PySem.Spec
set_option Elab.async false
set_option maxRecDepth 100000
set_option maxHeartbeats 8000000
namespace Mine
def nameStmt (n : Nat) : Stmt := (nameBody[n]?).getD (.Pass default)
theorem paired_take {α β : Type} {F : α → β → Prop} : ∀ {l₁ : List α} {l₂ : List β}, Paired F l₁ l₂ → ∀ n, Paired F (l₁.take n) (l₂.take n)
  | _, _, _, 0 => .nil
  | _, _, .nil, _ + 1 => .nil
  | _, _, .cons h t, n + 1 => .cons h (paired_take t n)
theorem logDats_yes2 {rows : List Row} {nm : Str} {r : Row} (h : r.kind ≠ 4) : logDats (rows ++ [r]) nm = logDats rows nm ++ [Dat.tuple [Dat.int r.place, Dat.str nm]] := by
  unfold logDats
  rw [List.filter_append, List.map_append]
  simp [h]
theorem logDats_no2 {rows : List Row} {nm : Str} {r : Row} (h : ¬ r.kind ≠ 4) : logDats (rows ++ [r]) nm = logDats rows nm := by
  unfold logDats
  rw [List.filter_append, List.map_append]
  simp [h]
local macro_rules | `(tactic| walk_at "no such step 0") => `(tactic| skip)
local macro_rules | `(tactic| walk_at "eval ListComp") => `(tactic| ((with_reducible show wpAny _ _ (eval (Expr.ListComp _ _ _ _) _) _ _ _); refine halt ?_))
theorem log_if {w : World} {g : Heap} {mean : ExcName → Option Value} {mg mb : Str → Option Value} {sc : Scope} {L fa : Addr} {cd : Value} {s : Shared} {m : Str → Option Value} {stm : Stmt}
   {lg lf : Addr} {lv fv : List Value} {rows seen : List Row} {ln fn : Nat} {oL oN : Obj} {nm : Str} {nt : Tok} {own : List (Addr × Obj)} {Q : Flow → Shared → Prop}
   {en : Nat} {te : Tok}
   (hsc : lawScope = sc) (hstm : nameStmt 2 = stm) (X : (KK w).In g) (T : Top topProg looseL mean mg mb g) (B : Below callerA g [] g)
   (hlog : m (Str.ofString "log") = some (.ref lg)) (hend : m (Str.ofString "end") = some (.int (en : Int) te))
   (F : Fr g L s.heap m) (N : News g L s.heap ((lg, listOf lv.toArray ln) :: (L + 1 + 1, oN) :: (lf, listOf fv.toArray fn) :: (L + 1, oL) :: own))
   (dN : oN.data = .cell (some (.str nm nt))) (dL : oL.data = .cell (some (.ref lf))) (hlen : (fv.length : Int) ≤ 63) (hT : Paired (TupAt own) fv rows)
   (hD : DatAll own lv (logDats seen nm)) (hseen : seen = rows.take en) (hen : en ≤ fv.length) (hnm : PyData.strOk nm = true)
   (hQ : ∀ h' tk, Fr g L h' m → News g L h' ((lg, listOf lv.toArray ln) :: (L + 1 + 1, oN) :: (lf, listOf fv.toArray fn) :: (L + 1, oL) :: own) → Q .next { s with heap := h', toks := tk }) :
   wpAny (model P w) (A1 sc L fa cd) (exec stm (envL sc L fa cd)) Q (fun _ _ => False) s := by
  dsimp only [KK, A1, envL, P] at X ⊢
  revert X
  k_fill
  intro X
  conv at hsc => lhs; whnf
  conv at hstm => lhs; whnf
  subst hsc hstm
  have em := over hlog (over hend rfl)
  have F := fr_eq em F
  k_steps
  refine (show wpAny _ _ _ _ _ _ from ?_)
  refine eval_comp (h₀ := g) (L := L) (by with_unfolding_all rfl) (by decide) (by rfl) (by decide) ?_
  k_steps
  rename Fr _ _ _ _ => F1
  rename News _ _ _ _ => N1
  have hP : Paired (TupAt own) (fv.take en) (rows.take en) := paired_take hT en
  rw [slicePick_upto fv.toArray en (by simpa using hen)] at N1
  change News g L _ ((s.heap.objs.size + 1, listOf (fv.take en).toArray 0) :: _) at N1
  subst hseen
  refine' comp_list3 (rows := rows.take en) (fun i ys nws => DatAll nws ys (logDats ((rows.take en).take i) nm) ∧ ys.length ≤ i) ?z1 ?z8 ?zl ?zP ?z2 ?z3 ?z11 ?z12 ?z13 ?z4 ?z7 ?z9 ?z10 ?z5 ?z6
  case z10 => exact N1
  case z9 => exact F1
  case z7 => exact ⟨.nil, Nat.le_refl _⟩
  case z8 => exact List.mem_cons_self
  case zl => exact (by have : (fv.take en).length ≤ fv.length := List.length_take_le' _ _
                       omega)
  case zP => exact Paired.mono (fun a b h => TupAt.mono (fun p hp => List.mem_cons_of_mem _ (List.mem_cons_of_mem _ (List.mem_cons_of_mem _ (List.mem_cons_of_mem _ (List.mem_cons_of_mem _ hp))))) h) hP
  case z1 => rfl
  case z2 => decide
  case z3 => decide
  case z11 => decide
  case z12 => rfl
  case z13 => decide
  case z4 => exact fun i ys nws h => h.2
  · clear hQ F N F1 N1 hD em
    intro sx C oC m₂ i r t1 t2 t3 ys nws E' hri hJ hO hxa hxb hxc F N hC hLC
    have hJ' := take_snoc2 hri
    refine wpAny_mono (Q := fun ok s₃ => Halt (ok = decide (r.kind ≠ 4) ∧ Keeps sx s₃)) ?_ ?_ (fun _ _ e => e)
    · clear hJ' hT
      k_steps
      exact ⟨by by_cases h : r.kind = 4 <;> simp [h], _, _, rfl, fun _ _ e => e⟩
    · rintro ok s₃ ⟨rfl, hk3⟩
      refine ⟨hk3, ?_⟩
      split
      · next hgt =>
        obtain ⟨h3, tk3, rfl, hk3⟩ := hk3
        refine wpAny_mono (Q := fun y s₄ => Halt (∃ t t' tk', y = .ref h3.objs.size ∧ s₄ = { sx with heap := h3.push { cls := .type "tuple", data := .seq #[.int r.place t, .str nm t'] }, toks := tk' })) ?_ ?_ (fun _ _ e => e)
        · have F := fr_keeps F hk3
          have N := news_keeps N hk3
          clear hJ' hT
          refine wpAny_Tuple ?_
          refine wpAny_mono (Q := fun vs s₄ => Halt (∃ t t' tk', vs = [.int r.place t, .str nm t'] ∧ s₄ = { sx with heap := h3, toks := tk' })) ?_ ?_ (fun _ _ e => e)
          · k_steps
            exact ⟨_, _, _, rfl, rfl⟩
          · rintro vs s₄ ⟨t, t', tk', rfl, rfl⟩
            exact ⟨by unfold sizeLine; simp, _, _, _, rfl, rfl⟩
        · rintro y s₄ ⟨t, t', tk', rfl, rfl⟩
          have hne : r.kind ≠ 4 := of_decide_eq_true hgt
          refine ⟨_, tk', [(h3.objs.size, { cls := .type "tuple", data := .seq #[.int r.place t, .str nm t'] })], rfl, fun _ _ e => Heap.get?_push_of_some _ e, fun q hq => ?_, ?_, ?_⟩
          · rw [List.mem_singleton.mp hq]
            refine ⟨Heap.get?_push_size _ rfl, ?_⟩
            cases e : h3.get? h3.objs.size with
            | none => rfl
            | some o => exact absurd (Heap.lt_size e) (Nat.lt_irrefl _)
          · rw [hJ', logDats_yes2 hne]
            refine (hJ.1.mono fun _ hp => List.mem_append_left _ hp).append (.one (.tuple (vs := [.int r.place t, .str nm t']) (n := 0) (List.mem_append_right _ (.head _)) (.cons (.int _ _) (.cons (.str _ _) .nil))))
          · rw [List.length_append]
            exact Nat.succ_le_succ hJ.2
      · next hgt =>
        have hne : ¬ r.kind ≠ 4 := fun h => hgt (decide_eq_true h)
        refine ⟨?_, Nat.le_succ_of_le hJ.2⟩
        rw [hJ', logDats_no2 hne]
        exact hJ.1
  · intro D k h' tk ys nws hJ hD2 hF hN
    dsimp only
    rw [List.take_length] at hJ
    k_steps
    have hok : ∀ (rs : List Row), ∀ d ∈ logDats rs nm, kqdOk 8 d = true := fun rs d hd => by
      unfold logDats at hd
      obtain ⟨r, _, rfl⟩ := List.mem_map.mp hd
      simp [kqdOk, hnm]
    refine' kqd_ne (h₀ := g) (L := L) (oa := listOf lv.toArray ln) (ob := listOf ys.toArray k) (n₁ := own) (n₂ := nws) ?q1 ?q2 rfl rfl hD ?q3 ?q4 rfl rfl hJ.1 ?q5 (hok _) (hok _) ?q6 ?q7
    case q1 => exact hN
    case q2 => exact (List.mem_cons_of_mem _ (List.mem_append_right _ (List.mem_cons_of_mem _ List.mem_cons_self)))
    case q3 => exact (fun p hp => List.mem_cons_of_mem _ (List.mem_append_right _ (List.mem_cons_of_mem _ (List.mem_cons_of_mem _ (List.mem_cons_of_mem _ (List.mem_cons_of_mem _ (List.mem_cons_of_mem _ hp)))))))
    case q4 => exact List.mem_cons_self
    case q5 => exact (fun p hp => List.mem_cons_of_mem _ (List.mem_append_left _ hp))
    case q6 => exact (by decide : (7 + 64 : Nat) < cLine)
    case q7 =>
      have F2 := hF
      have N2 : News g L _ ((lg, listOf lv.toArray ln) :: (L + 1 + 1, oN) :: (lf, listOf fv.toArray fn) :: (L + 1, oL) :: own) := fun p hp => hN p (List.mem_cons_of_mem _ (List.mem_append_right _ (List.mem_cons_of_mem _ hp)))
      clear hok F N F1 N1 hF hN
      simp only [eq_self, decide_true, Bool.not_true]
      k_steps
      exact hQ _ _ (fr_eq em.symm F2) N2
end Mine
end

section
theorem Mine.freshRulesIf : True := by w_top off; trivial
open PySem PySem.W PyProof.Rows PySem.Calls PyProof.V PySem.Spec
set_option Elab.async false
set_option maxRecDepth 100000
set_option maxHeartbeats 400000
namespace Mine
local macro_rules | `(tactic| walk_at "no such step 0") => `(tactic| skip)
local macro_rules | `(tactic| walk_at "no such step 1") => `(tactic| skip)
local macro_rules | `(tactic| walk_at "compareOp NotEq ref ref") => `(tactic| ((with_reducible show wpAny _ _ (compareOp CmpOp.NotEq _ _) _ _ _); refine halt ?_))
theorem rules_if {w : World} {g : Heap} {mean : ExcName → Option Value} {mg mb : Str → Option Value} {sc : Scope} {L fa : Addr} {cd : Value} {s : Shared} {m : Str → Option Value} {stm : Stmt}
   {rl e1 d1 cp ua : Addr} {rv : List Value} {rn cn t1 t2 t3 t4 : Nat} {own : List (Addr × Obj)} {Q : Flow → Shared → Prop}
   (hsc : lawScope = sc) (hstm : nameStmt 3 = stm) (X : (KK w).In g) (T : Top topProg looseL mean mg mb g) (B : Below callerA g [] g)
   (hone : m (Str.ofString "one") = some (.ref e1)) (hrules : m (Str.ofString "rules") = some (.ref rl)) (hcopy : m (Str.ofString "copy") = some (.ref cp))
   (F : Fr g L s.heap m) (N : News g L s.heap ((rl, listOf rv.toArray rn) :: (cp, listOf rv.toArray cn) :: (e1, instObj 52 d1) :: (d1, dictOf (oneEs w t1 t2 t3 t4 ua rl) 4) :: own))
   (hQ : ∀ tk, Q .next { s with toks := tk }) :
   wpAny (model P w) (A1 sc L fa cd) (exec stm (envL sc L fa cd)) Q (fun _ _ => False) s := by
  dsimp only [KK, A1, envL, P] at X ⊢
  revert X
  k_fill
  intro X
  conv at hsc => lhs; whnf
  conv at hstm => lhs; whnf
  subst hsc hstm
  have em := over hone (over hrules (over hcopy rfl))
  have F := fr_eq em F
  k_steps
  refine (show wpAny _ _ _ _ _ _ from ?_)
  refine ne_same (N _ List.mem_cons_self).1 (N _ (List.mem_cons_of_mem _ List.mem_cons_self)).1 (by exact (by decide : (7 : Nat) < cLine)) ?_
  k_steps
  exact hQ _
end Mine
end

section
theorem Mine.freshDueIf : True := by w_top off; trivial
open PySem PySem.W PyProof.Rows PySem.Calls PyProof.V PySem.Spec
set_option Elab.async false
set_option maxRecDepth 100000
set_option maxHeartbeats 400000
namespace Mine
inductive SameV : Value → Value → Prop
  | int {i : Int} {t u : Tok} : SameV (.int i t) (.int i u)
  | bool {b : Bool} : SameV (.bool b) (.bool b)
theorem due_if {w : World} {g : Heap} {mean : ExcName → Option Value} {mg mb : Str → Option Value} {sc : Scope} {L fa : Addr} {cd : Value} {s : Shared} {m : Str → Option Value} {stm : Stmt}
   {tv dv : Value} {own : List (Addr × Obj)} {Q : Flow → Shared → Prop}
   (hsc : lawScope = sc) (hstm : nameStmt 4 = stm) (X : (KK w).In g) (T : Top topProg looseL mean mg mb g) (B : Below callerA g [] g)
   (htold : m (Str.ofString "told") = some tv) (hdue : m (Str.ofString "due") = some dv) (hs : SameV tv dv)
   (F : Fr g L s.heap m) (N : News g L s.heap own)
   (hQ : ∀ tk, Q .next { s with toks := tk }) :
   wpAny (model P w) (A1 sc L fa cd) (exec stm (envL sc L fa cd)) Q (fun _ _ => False) s := by
  dsimp only [KK, A1, envL, P] at X ⊢
  revert X
  k_fill
  intro X
  conv at hsc => lhs; whnf
  conv at hstm => lhs; whnf
  subst hsc hstm
  have em := over htold (over hdue rfl)
  have F := fr_eq em F
  cases hs
  · k_steps
    all_goals first | exact hQ s.toks | (rename_i hz; exact absurd hz (by simp))
  · k_steps
    all_goals first | exact hQ s.toks | (rename_i hz; exact absurd hz (by simp))
end Mine
end

section
theorem Mine.freshNameB : True := by w_top off; trivial
open PySem PySem.W PyProof.Rows PySem.Calls PyProof.V PySem.Spec
set_option Elab.async false
set_option maxRecDepth 100000
set_option maxHeartbeats 8000000
namespace Mine
theorem fr_but {h₀ h h' : Heap} {L a : Addr} {m : Str → Option Value} (F : Fr h₀ L h m) (hs : Heap.SameBut a h h') (hL : a ≠ L) (h0 : h₀.get? a = none) : Fr h₀ L h' m :=
  ⟨F.ns.sameBut hs (Ne.symm hL), fun b o e => hs.extBut b o (by rintro rfl; rw [h0] at e; cases e) (F.keep b o e), F.above⟩
theorem news_but {h₀ h h' : Heap} {L a : Addr} {o o' : Obj} {rest : List (Addr × Obj)} (N : News h₀ L h ((a, o) :: rest)) (hs : Heap.SameBut a h h') (hr : ∀ p ∈ rest, p.1 ≠ a) (e : h'.get? a = some o') : News h₀ L h' ((a, o') :: rest) := fun p hp => by
  rcases List.mem_cons.mp hp with rfl | hp
  · exact ⟨e, (N _ List.mem_cons_self).2⟩
  · exact ⟨hs.extBut _ _ (hr p hp) (N p (List.mem_cons_of_mem _ hp)).1, (N p (List.mem_cons_of_mem _ hp)).2⟩
theorem toTold {g h : Heap} {L : Addr} {a b c d e f i j : Addr × Obj} {own : List (Addr × Obj)} (N : News g L h (a :: b :: c :: d :: e :: f :: i :: j :: own)) : News g L h (a :: e :: i :: j :: (b :: c :: d :: f :: own)) := fun p hp => N p (by
  simp only [List.mem_cons] at hp ⊢
  rcases hp with h | h | h | h | h | h | h | h | h <;> simp only [h, true_or, or_true])
theorem ofTold {g h : Heap} {L : Addr} {a b c d e f i j : Addr × Obj} {nws own : List (Addr × Obj)} (N : News g L h (a :: e :: (nws ++ (i :: j :: (b :: c :: d :: f :: own))))) : News g L h (a :: b :: c :: d :: e :: f :: i :: j :: (nws ++ own)) := fun p hp => N p (by
  simp only [List.mem_cons, List.mem_append] at hp ⊢
  rcases hp with h | h | h | h | h | h | h | h | h | h <;> simp only [h, true_or, or_true])
theorem below {m : Str → Option Value} {a b : Str} {v u : Value} (h : a ≠ b) (e : m a = some v) : (fun z => if z = b then some u else m z) a = some v := by
  show (if a = b then some u else m a) = some v
  rw [if_neg h, e]
theorem toRules {g h : Heap} {L : Addr} {a b c d e f i j : Addr × Obj} {own : List (Addr × Obj)} (N : News g L h (a :: b :: c :: d :: e :: f :: i :: j :: own)) : News g L h (e :: f :: i :: j :: own) := fun p hp => N p (List.mem_cons_of_mem _ (List.mem_cons_of_mem _ (List.mem_cons_of_mem _ (List.mem_cons_of_mem _ hp))))
theorem dropNew {g h : Heap} {L : Addr} {a b c d e f i j : Addr × Obj} {nws own : List (Addr × Obj)} (N : News g L h (a :: b :: c :: d :: e :: f :: i :: j :: (nws ++ own))) : News g L h (a :: b :: c :: d :: e :: f :: i :: j :: own) := fun p hp => N p (by
  simp only [List.mem_cons, List.mem_append] at hp ⊢
  rcases hp with h | h | h | h | h | h | h | h | h <;> simp only [h, true_or, or_true])
theorem logDats_len (rows : List Row) (nm : Str) : (logDats rows nm).length ≤ rows.length := by
  unfold logDats
  rw [List.length_map]
  exact List.length_filter_le _ _
theorem mem4 {a b c d : Addr × Obj} {nws own : List (Addr × Obj)} : ∀ p ∈ own, p ∈ a :: b :: c :: d :: (nws ++ own) := fun _ hp => .tail _ (.tail _ (.tail _ (.tail _ (List.mem_append_right _ hp))))
theorem mem4' {a b c d : Addr × Obj} {nws own : List (Addr × Obj)} : ∀ p ∈ nws, p ∈ a :: b :: c :: d :: (nws ++ own) := fun _ hp => .tail _ (.tail _ (.tail _ (.tail _ (List.mem_append_left _ hp))))
local macro_rules | `(tactic| walk_at "no such step 0") => `(tactic| skip)
local macro_rules | `(tactic| walk_at "no such step 1") => `(tactic| skip)
local macro_rules | `(tactic| walk_at "call ref") => `(tactic| ((with_reducible show wpAny _ _ (call (Value.ref 70) _) _ _ _); refine halt ?_))
local macro_rules | `(tactic| walk_at "exec If") => `(tactic| ((with_reducible show wpAny _ _ (exec (Stmt.If _ _ _ _) _) _ _ _); refine halt ?_))
theorem name_body {w : World} {g : Heap} {mean : ExcName → Option Value} {mg mb : Str → Option Value} {sc : Scope} {L fa : Addr} {cd : Value} {s : Shared} {m : Str → Option Value} {sts : List Stmt}
   {lg rl lf e1 d1 cp ua : Addr} {lv fv rv : List Value} {rows : List Row} {ln rn fn cn t1 t2 t3 t4 : Nat} {oL oN : Obj} {nm : Str} {nt : Tok} {own : List (Addr × Obj)} {Q : Flow → Shared → Prop}
   {en : Nat} {te : Tok} {dv : Value}
   (hsc : lawScope = sc) (hstm : nameBody = sts) (C : CodeHd g 62 58) (X : (KK w).In g) (T : Top topProg looseL mean mg mb g) (B : Below callerA g [] g)
   (hlog : m (Str.ofString "log") = some (.ref lg)) (hone : m (Str.ofString "one") = some (.ref e1)) (hrules : m (Str.ofString "rules") = some (.ref rl)) (hcopy : m (Str.ofString "copy") = some (.ref cp)) (hend : m (Str.ofString "end") = some (.int (en : Int) te)) (hdue : m (Str.ofString "due") = some dv)
   (F : Fr g L s.heap m) (N : News g L s.heap ((lg, listOf lv.toArray ln) :: (L + 1 + 1, oN) :: (lf, listOf fv.toArray fn) :: (L + 1, oL) :: (rl, listOf rv.toArray rn) :: (cp, listOf rv.toArray cn) :: (e1, instObj 52 d1) :: (d1, dictOf (oneEs w t1 t2 t3 t4 ua rl) 4) :: own))
   (dN : oN.data = .cell (some (.str nm nt))) (dL : oL.data = .cell (some (.ref lf))) (hlen : (fv.length : Int) ≤ 63) (hT : Paired (TupAt own) fv rows)
   (hsz : lv.toArray.size ≤ sizeLine) (hoff : ∀ p ∈ (L + 1 + 1, oN) :: (lf, listOf fv.toArray fn) :: (L + 1, oL) :: (rl, listOf rv.toArray rn) :: (cp, listOf rv.toArray cn) :: (e1, instObj 52 d1) :: (d1, dictOf (oneEs w t1 t2 t3 t4 ua rl) 4) :: own, p.1 ≠ lg)
   (hord : @LT.lt Nat _ (lg) (d1) ∧ @LT.lt Nat _ (d1) (e1) ∧ @LT.lt Nat _ (e1) (rl)) (hR : Paired (RuleAt w mg reachParams reachBody reachScope ruleScope own lg) rv rows) (hrow : ∀ r ∈ rows, 0 ≤ r.kind ∧ r.kind ≤ 5 ∧ 1 ≤ r.reach ∧ r.reach ≤ 3) (hrlen : (rv.length : Int) ≤ 63) (hnm : PyData.strOk nm = true) (hen : en ≤ fv.length) (hplain : ∀ v seen, ToldV rows v seen → SameV v dv ∧ seen = rows.take en)
   (hQ : ∀ h' tk (lv' : List Value) k' v, lv'.toArray.size ≤ sizeLine → Fr g L h' (fun z => if z = Str.ofString "told" then some v else m z) →
     News g L h' ((lg, listOf lv'.toArray k') :: (L + 1 + 1, oN) :: (lf, listOf fv.toArray fn) :: (L + 1, oL) :: (rl, listOf rv.toArray rn) :: (cp, listOf rv.toArray cn) :: (e1, instObj 52 d1) :: (d1, dictOf (oneEs w t1 t2 t3 t4 ua rl) 4) :: own) → Q .next { s with heap := h', toks := tk }) :
   wpAny (model P w) (A1 sc L fa cd) (execs sts (envL sc L fa cd)) Q (fun _ _ => False) s := by
  dsimp only [KK, A1, envL, P] at X ⊢
  revert X
  k_fill
  intro X
  have hsc0 := hsc
  conv at hsc => lhs; whnf
  conv at hstm => lhs; whnf
  subst hsc hstm
  have em := over hlog (over hone (over hrules (over hcopy (over hend (over hdue rfl)))))
  have F := fr_eq em F
  k_steps
  have hlg := N _ List.mem_cons_self
  refine delItem_all (Heap.get?_push_of_some _ hlg.1) ⟨_, Heap.get?_push_size _ rfl, rfl, rfl⟩ ?_ hsz
  intro h1 k1 e1' hs1
  have F := fr_but (F.push _) hs1 hlg.2.1 hlg.2.2
  have N := news_but (news_keeps N fun b o e => Heap.get?_push_of_some _ e) hs1 hoff e1'
  clear hs1 e1' hlg
  k_steps
  refine (show wpAny _ _ _ _ _ _ from ?_)
  rename Fr _ _ _ _ => F1
  rename News _ _ _ _ => N1
  refine told_call (cd := cd) hsc0 C X T B F1 (by exact toTold N1) ?_ hord (Paired.mono (fun a b h => RuleAt.mono (fun p hp => List.mem_cons_of_mem _ (List.mem_cons_of_mem _ (List.mem_cons_of_mem _ (List.mem_cons_of_mem _ hp)))) h) hR) hrow hrlen ?_
  · intro p hp b hb
    rw [List.mem_singleton.mp hb]
    refine hoff p ?_
    simp only [List.mem_cons] at hp ⊢
    rcases hp with h | h | h | h | h <;> simp only [h, true_or, or_true]
  intro h2 tk2 v2 k2 lv2 nws2 seen hTold hDat F2 N2
  have N2 := ofTold N2
  obtain ⟨hsame, hsn⟩ := hplain v2 seen hTold
  have hsz2 : lv2.toArray.size ≤ sizeLine := by
    have h1 := hDat.length
    have h2 := logDats_len seen nm
    have h3 : seen.length ≤ rows.length := by rw [hsn]; exact List.length_take_le' _ _
    have h4 := hT.length
    rw [List.size_toArray]; unfold sizeLine; omega
  clear F F1 N1 N hplain hTold
  k_steps
  refine (show wpAny _ _ _ _ _ _ from ?_)
  rename Fr _ _ _ _ => F3
  rename News _ _ _ _ => N3
  have F3 := fr_eq (congrArg (fun (q : Str → Option Value) => fun z => if z = Str.ofString "told" then some v2 else q z) em.symm) F3
  refine log_if (cd := cd) (m := fun z => if z = Str.ofString "told" then some v2 else m z) hsc0 (stm := _) rfl X T B (below (by decide) hlog) (below (by decide) hend) (by exact F3) (by exact N3) dN dL hlen (hT.mono fun a b h => TupAt.mono mem4 h) (hDat.mono mem4') hsn hen hnm ?_
  intro h4 tk4 F4 N4
  k_steps
  refine (show wpAny _ _ _ _ _ _ from ?_)
  refine rules_if (cd := cd) (m := fun z => if z = Str.ofString "told" then some v2 else m z) hsc0 (stm := _) rfl X T B (below (by decide) hone) (below (by decide) hrules) (below (by decide) hcopy) (by exact F4) (by exact toRules N4) ?_
  intro tk5
  k_steps
  refine (show wpAny _ _ _ _ _ _ from ?_)
  refine due_if (cd := cd) (m := fun z => if z = Str.ofString "told" then some v2 else m z) hsc0 (stm := _) rfl X T B (by rfl) (below (by decide) hdue) hsame (by exact F4) (by exact N4) ?_
  intro tk6
  k_steps
  exact hQ h4 tk6 lv2 _ v2 hsz2 F4 (dropNew N4)
end Mine
end

section
theorem Mine.freshTupLoop : True := by w_top off; trivial
open PySem PySem.W PyProof.Rows PySem.Calls PyProof.V PySem.Spec
set_option Elab.async false
set_option maxRecDepth 100000
namespace Mine
def TPost (h₀ : Heap) (L : Addr) (Jn : (Str → Option Value) → List (Addr × Obj) → Prop) (nx own : List (Addr × Obj)) (s₁ : Shared) (f : Flow) (s₂ : Shared) : Prop :=
  f = .next ∧ ∃ h' tk m₂ nx₂, s₂ = { s₁ with heap := h', toks := tk } ∧ Fr h₀ L h' m₂ ∧ News h₀ L h' (nx₂ ++ own) ∧ nx₂.map (·.1) = nx.map (·.1) ∧ Jn m₂ nx₂
theorem map_mem {a b : List (Addr × Obj)} (e : a.map (·.1) = b.map (·.1)) {p : Addr × Obj} (hp : p ∈ a) : ∃ q ∈ b, q.1 = p.1 := by
  have : p.1 ∈ b.map (·.1) := e ▸ List.mem_map.mpr ⟨p, hp, rfl⟩
  exact List.mem_map.mp this
theorem news_comm {h₀ h : Heap} {L : Addr} {a b : List (Addr × Obj)} (N : News h₀ L h (a ++ b)) : News h₀ L h (b ++ a) := fun p hp => N p (List.mem_append.mpr (List.mem_append.mp hp).symm)
section
variable {prog : Program} {w : World} {A : Around} {E : Value → Shared → Prop} {s : Shared} {env : Env} {h₀ : Heap} {target : Expr} {body : List Stmt} {Q : Flow → Shared → Prop}
theorem tuple_loop {ax : Addr} {vs : List Value} {kt : Nat} {m₀ : Str → Option Value} {news : List (Addr × Obj)} (J : Nat → (Str → Option Value) → List (Addr × Obj) → Prop) (hh : A.handled = none)
    (F : Fr h₀ env.locals s.heap m₀) (N : News h₀ env.locals s.heap ((ax, ({ cls := .type "tuple", data := .seq vs.toArray kt } : Obj)) :: news)) (hlt : ∀ p ∈ news, p.1 < ax) (hj : J 0 m₀ news)
    (turn : ∀ i v m₁ nx h tk own, vs[i]? = some v → OwnOff own (nx.map (·.1)) → J i m₁ nx → Fr h₀ env.locals h m₁ → News h₀ env.locals h (nx ++ own) →
      wpAny (model prog w) A (assign target env v) (fun _ s₃ => wpAny (model prog w) A (execs body env) (TPost h₀ env.locals (J (i + 1)) nx own { s with heap := h, toks := tk }) E s₃) E { s with heap := h, toks := tk })
    (done : ∀ m₁ nx h tk, J vs.length m₁ nx → Fr h₀ env.locals h m₁ → News h₀ env.locals h nx → Q .next { s with heap := h, toks := tk }) :
    wpAny (model prog w) A (pyIter (.ref ax)) (fun it s₂ => TurnsAt prog w A h₀ env target body Q E it s₂) E s := by
  have hT : s.heap.IsTuple ax vs.toArray := ⟨_, (N _ List.mem_cons_self).1, rfl, kt, rfl⟩
  refine wpAny_pyIter_tuple hT ?_
  have hne : ax ≠ s.heap.objs.size := Nat.ne_of_lt (Heap.lt_size (N _ List.mem_cons_self).1)
  have hLI : env.locals ≠ s.heap.objs.size := Nat.ne_of_lt F.ns.lt
  have hLa : ax ≠ env.locals := (N _ List.mem_cons_self).2.1
  have hI0 : h₀.get? s.heap.objs.size = none := by
    cases q : h₀.get? s.heap.objs.size with
    | none => rfl
    | some o => exact absurd (Heap.lt_size (F.keep _ o q)) (Nat.lt_irrefl _)
  refine ⟨_, _, _, vs.toArray.size, _, _, _, m₀, news, fun i m nx => J i m nx ∧ ∀ p ∈ nx, p.1 < ax, rfl, KTurns.ofWalks (Walks.tuple hh s.heap.objs.size ax hne vs.toArray) (fun i v s Q E st q => letGo_tupleiter st.1 q), ?_, ?_, ?_, ?_, F.push _, (fun p hp => ⟨Heap.get?_push_of_some _ (N p (List.mem_cons_of_mem _ hp)).1, (N p (List.mem_cons_of_mem _ hp)).2⟩), ⟨hj, hlt⟩, ?_, ?_⟩
  · intro hm
    rw [List.mem_cons, List.mem_singleton] at hm
    rcases hm with hm | hm
    · exact hLI hm
    · exact hLa hm.symm
  · intro b hb; rw [List.mem_singleton.mp hb]; exact hI0
  · intro p hp hm
    exact Nat.ne_of_lt (Heap.lt_size (N p (List.mem_cons_of_mem _ hp)).1) (List.mem_singleton.mp hm)
  · exact ⟨⟨_, Heap.get?_push_size _ rfl, rfl, rfl⟩, hT.at fun o e => Heap.get?_push_of_some _ e⟩
  · intro i v m₁ nx h tk own hi hP hJ hnw hfp hown hall hst F₁ N₁
    have hoff : OwnOff own (nx.map (·.1)) := by
      intro p hp b hb e
      obtain ⟨q, hq, rfl⟩ := List.mem_map.mp hb
      have hm := hfp p hp
      rw [List.mem_cons, List.mem_singleton] at hm
      rcases hm with hm | hm
      · exact hnw q hq (List.mem_singleton.mpr (e ▸ hm))
      · exact Nat.ne_of_lt (hJ.2 q hq) (e.symm.trans hm)
    refine wpAny_mono (turn i v m₁ nx h tk own (by simpa using hP) hoff hJ.1 F₁ (news_comm N₁)) (fun _ s₃ h₃ => wpAny_mono h₃ (fun f s₄ h₄ => ?_) fun _ _ e => e) fun _ _ e => e
    obtain ⟨rfl, h', tk', m₂, nx₂, rfl, F₂, N₂, hmap, hJ₂⟩ := h₄
    refine LoopStepV.next (LoopStepU.intro F₂ (news_comm N₂) (fun p hp => ?_) ⟨hJ₂, fun p hp => ?_⟩)
    · obtain ⟨q, hq, e⟩ := map_mem hmap hp
      exact e ▸ hnw q hq
    · obtain ⟨q, hq, e⟩ := map_mem hmap hp
      exact e ▸ hJ.2 q hq
  · intro h' tk m' nx F' N' _ hJ
    exact done m' nx h' tk (by simpa using hJ.1) F' N'
end
end Mine
end

section
theorem Mine.freshNames : True := by w_top off; trivial
open PySem PySem.W PyProof.Rows PySem.Calls PyProof.V PySem.Spec
set_option Elab.async false
set_option maxRecDepth 100000
set_option maxHeartbeats 8000000
namespace Mine
theorem mid8 {g h : Heap} {L : Addr} {a b c d e f i j : Addr × Obj} {own own' : List (Addr × Obj)} (N : News g L h ((a :: b :: c :: d :: e :: f :: i :: j :: own) ++ own')) : News g L h (a :: b :: c :: d :: e :: f :: i :: j :: (own' ++ own)) := fun p hp => N p (by
  simp only [List.mem_cons, List.mem_append] at hp ⊢
  rcases hp with h | h | h | h | h | h | h | h | h | h <;> simp only [h, true_or, or_true])
theorem unmid8 {g h : Heap} {L : Addr} {a b c d e f i j : Addr × Obj} {own own' : List (Addr × Obj)} (N : News g L h (a :: b :: c :: d :: e :: f :: i :: j :: (own' ++ own))) : News g L h ((a :: b :: c :: d :: e :: f :: i :: j :: own) ++ own') := fun p hp => N p (by
  simp only [List.mem_cons, List.mem_append] at hp ⊢
  rcases hp with (h | h | h | h | h | h | h | h | h) | h <;> simp only [h, true_or, or_true])
local macro_rules | `(tactic| walk_at "no such step 0") => `(tactic| skip)
local macro_rules | `(tactic| walk_at "no such step 1") => `(tactic| skip)
local macro_rules | `(tactic| walk_at "no such step 2") => `(tactic| skip)
local macro_rules | `(tactic| walk_at "no such step 3") => `(tactic| skip)
local macro_rules | `(tactic| walk_at "pyIter ref") => `(tactic| ((with_reducible show wpAny _ _ (pyIter (Value.ref _)) (fun it s₂ => TurnsAt _ _ _ _ _ _ _ _ _ it s₂) _ _); refine halt ?_))
theorem names_stmt {w : World} {g : Heap} {mean : ExcName → Option Value} {mg mb : Str → Option Value} {sc : Scope} {L fa : Addr} {cd : Value} {s : Shared} {m : Str → Option Value} {stm : Stmt}
   {lg rl lf e1 d1 cp ua : Addr} {lv fv rv : List Value} {rows : List Row} {ln rn fn cn t1 t2 t3 t4 : Nat} {oL oN : Obj} {vN : Option Value} {own : List (Addr × Obj)} {Q : Flow → Shared → Prop}
   {en : Nat} {te : Tok} {dv : Value}
   (hsc : lawScope = sc) (hstm : whileStmt 5 = stm) (C : CodeHd g 62 58) (X : (KK w).In g) (T : Top topProg looseL mean mg mb g) (B : Below callerA g [] g)
   (hlog : m (Str.ofString "log") = some (.ref lg)) (hone : m (Str.ofString "one") = some (.ref e1)) (hrules : m (Str.ofString "rules") = some (.ref rl)) (hcopy : m (Str.ofString "copy") = some (.ref cp)) (hend : m (Str.ofString "end") = some (.int (en : Int) te)) (hdue : m (Str.ofString "due") = some dv)
   (F : Fr g L s.heap m) (N : News g L s.heap ((lg, listOf lv.toArray ln) :: (L + 1 + 1, oN) :: (lf, listOf fv.toArray fn) :: (L + 1, oL) :: (rl, listOf rv.toArray rn) :: (cp, listOf rv.toArray cn) :: (e1, instObj 52 d1) :: (d1, dictOf (oneEs w t1 t2 t3 t4 ua rl) 4) :: own))
   (dN : oN.data = .cell vN) (dL : oL.data = .cell (some (.ref lf))) (hlen : (fv.length : Int) ≤ 63) (hT : Paired (TupAt own) fv rows)
   (hsz : lv.toArray.size ≤ sizeLine) (hoff : ∀ p ∈ (lf, listOf fv.toArray fn) :: (L + 1, oL) :: (rl, listOf rv.toArray rn) :: (cp, listOf rv.toArray cn) :: (e1, instObj 52 d1) :: (d1, dictOf (oneEs w t1 t2 t3 t4 ua rl) 4) :: own, p.1 ≠ lg ∧ p.1 ≠ L + 1 + 1) (hNlg : @LT.lt Nat _ (L + 1 + 1) lg)
   (hord : @LT.lt Nat _ (lg) (d1) ∧ @LT.lt Nat _ (d1) (e1) ∧ @LT.lt Nat _ (e1) (rl)) (hR : Paired (RuleAt w mg reachParams reachBody reachScope ruleScope own lg) rv rows) (hrow : ∀ r ∈ rows, 0 ≤ r.kind ∧ r.kind ≤ 5 ∧ 1 ≤ r.reach ∧ r.reach ≤ 3) (hrlen : (rv.length : Int) ≤ 63) (hen : en ≤ fv.length) (hplain : ∀ v seen, ToldV rows v seen → SameV v dv ∧ seen = rows.take en)
   (hQ : ∀ h' tk (lv' : List Value) k' m' oN' vN', lv'.toArray.size ≤ sizeLine → (∀ z, z ≠ Str.ofString "told" → m' z = m z) → oN'.data = .cell vN' → Fr g L h' m' →
     News g L h' ((lg, listOf lv'.toArray k') :: (L + 1 + 1, oN') :: (lf, listOf fv.toArray fn) :: (L + 1, oL) :: (rl, listOf rv.toArray rn) :: (cp, listOf rv.toArray cn) :: (e1, instObj 52 d1) :: (d1, dictOf (oneEs w t1 t2 t3 t4 ua rl) 4) :: own) → Q .next { s with heap := h', toks := tk }) :
   wpAny (model P w) (A1 sc L fa cd) (exec stm (envL sc L fa cd)) Q (fun _ _ => False) s := by
  dsimp only [KK, A1, envL, P] at X ⊢
  revert X
  k_fill
  intro X
  have hsc0 := hsc
  conv at hsc => lhs; whnf
  conv at hstm => lhs; whnf
  subst hsc hstm
  k_steps
  refine (show wpAny _ _ _ _ _ _ from ?_)
  rename Fr _ _ _ _ => F1
  rename News _ _ _ _ => N1
  rename _ ∧ _ => hl1
  have hlt : ∀ p ∈ (lg, listOf lv.toArray ln) :: (L + 1 + 1, oN) :: (lf, listOf fv.toArray fn) :: (L + 1, oL) :: (rl, listOf rv.toArray rn) :: (cp, listOf rv.toArray cn) :: (e1, instObj 52 d1) :: (d1, dictOf (oneEs w t1 t2 t3 t4 ua rl) 4) :: own, p.1 < _ := fun p hp => by
    obtain ⟨a1, a2, a3, a4, a5, a6, a7, a8, a9⟩ := hl1
    simp only [List.mem_cons] at hp
    rcases hp with rfl | rfl | rfl | rfl | rfl | rfl | rfl | rfl | hp
    · exact a1
    · exact a2
    · exact a3
    · exact a4
    · exact a5
    · exact a6
    · exact a7
    · exact a8
    · exact kst_ltOf a9 p hp
  clear hl1
  refine tuple_loop (fun i m₁ nx => (∀ z, z ≠ Str.ofString "told" → m₁ z = m z) ∧ ∃ (lv : List Value) (ln : Nat) (oN : Obj) (vN : Option Value), lv.toArray.size ≤ sizeLine ∧ oN.data = .cell vN ∧
    nx = (lg, listOf lv.toArray ln) :: (L + 1 + 1, oN) :: (lf, listOf fv.toArray fn) :: (L + 1, oL) :: (rl, listOf rv.toArray rn) :: (cp, listOf rv.toArray cn) :: (e1, instObj 52 d1) :: (d1, dictOf (oneEs w t1 t2 t3 t4 ua rl) 4) :: own) (by rfl) (by exact F1) (by exact N1) hlt ⟨fun _ _ => rfl, lv, ln, oN, vN, hsz, dN, rfl⟩ ?_ ?_
  · clear F1 N1 hlt hsz dN
    intro i v m₁ nx h tk own' hv hO hJ F N
    obtain ⟨hm, lv, ln, oN, vN, hsz, dN, rfl⟩ := hJ
    obtain ⟨nm, nt, rfl, hnm⟩ : ∃ nm nt, v = .str nm nt ∧ PyData.strOk nm = true := by
      match i, hv with
      | 0, hv => exact ⟨_, _, (Option.some.inj hv).symm, by first | rfl | decide +kernel⟩
      | 1, hv => exact ⟨_, _, (Option.some.inj hv).symm, by first | rfl | decide +kernel⟩
      | n + 2, hv => exact nomatch hv
    clear hv
    replace F : Fr g L h m₁ := F
    replace N : News g L h _ := mid8 N
    refine wpAny_mono (Q := fun _ s₃ => Halt (∃ h' tk oN', s₃ = { s with heap := h', toks := tk } ∧ oN'.data = .cell (some (.str nm nt)) ∧ Fr g L h' m₁ ∧ News g L h' ((lg, listOf lv.toArray ln) :: (L + 1 + 1, oN') :: (lf, listOf fv.toArray fn) :: (L + 1, oL) :: (rl, listOf rv.toArray rn) :: (cp, listOf rv.toArray cn) :: (e1, instObj 52 d1) :: (d1, dictOf (oneEs w t1 t2 t3 t4 ua rl) 4) :: (own' ++ own)))) ?_ ?_ (fun _ _ e => e)
    · have hcell := N _ (.tail _ (.head _))
      refine wpAny_assign_Name (wpAny_storeName_cell (c := L + 1 + 1) rfl rfl rfl ⟨oN, hcell.1, dN⟩ ?_)
      intro h' hc hs'
      obtain ⟨oN', ho', hd'⟩ := hc
      refine ⟨h', _, oN', rfl, hd', fr_but F hs' hcell.2.1 hcell.2.2, fun p hp => ?_⟩
      have key : ∀ p ∈ (lg, listOf lv.toArray ln) :: (lf, listOf fv.toArray fn) :: (L + 1, oL) :: (rl, listOf rv.toArray rn) :: (cp, listOf rv.toArray cn) :: (e1, instObj 52 d1) :: (d1, dictOf (oneEs w t1 t2 t3 t4 ua rl) 4) :: (own' ++ own), p.1 ≠ L + 1 + 1 := fun p hp => by
        rcases List.mem_cons.mp hp with rfl | hp
        · exact Nat.ne_of_gt hNlg
        · simp only [List.mem_cons, List.mem_append] at hp
          rcases hp with h | h | h | h | h | h | h | h
          · exact (hoff p (by simp only [h, List.mem_cons, true_or, or_true])).2
          · exact (hoff p (by simp only [h, List.mem_cons, true_or, or_true])).2
          · exact (hoff p (by simp only [h, List.mem_cons, true_or, or_true])).2
          · exact (hoff p (by simp only [h, List.mem_cons, true_or, or_true])).2
          · exact (hoff p (by simp only [h, List.mem_cons, true_or, or_true])).2
          · exact (hoff p (by simp only [h, List.mem_cons, true_or, or_true])).2
          · exact hO p h _ (.tail _ (.head _))
          · exact (hoff p (.tail _ (.tail _ (.tail _ (.tail _ (.tail _ (.tail _ h))))))).2
      rcases List.mem_cons.mp hp with rfl | hp
      · exact ⟨hs'.extBut _ _ (key _ (.head _)) (N _ (.head _)).1, (N _ (.head _)).2⟩
      · rcases List.mem_cons.mp hp with rfl | hp
        · exact ⟨ho', hcell.2⟩
        · exact ⟨hs'.extBut _ _ (key p (.tail _ hp)) (N p (.tail _ (.tail _ hp))).1, (N p (.tail _ (.tail _ hp))).2⟩
    · rintro _ s₃ ⟨h', tk', oN', rfl, dN', F', N'⟩
      have hm' : ∀ z v, z ≠ Str.ofString "told" → m z = some v → m₁ z = some v := fun z v hz e => (hm z hz).trans e
      refine name_body (cd := cd) (m := m₁) hsc0 (sts := _) rfl C X T B (hm' _ _ (by decide) hlog) (hm' _ _ (by decide) hone) (hm' _ _ (by decide) hrules) (hm' _ _ (by decide) hcopy) (hm' _ _ (by decide) hend) (hm' _ _ (by decide) hdue) (by exact F') (by exact N') dN' dL hlen
        (hT.mono fun a b h => TupAt.mono (fun _ hp => List.mem_append_right _ hp) h) hsz ?_ hord (hR.mono fun a b h => RuleAt.mono (fun _ hp => List.mem_append_right _ hp) h) hrow hrlen hnm hen hplain ?_
      · intro p hp
        rcases List.mem_cons.mp hp with rfl | hp
        · exact Nat.ne_of_lt hNlg
        · simp only [List.mem_cons, List.mem_append] at hp
          rcases hp with h | h | h | h | h | h | h | h
          · exact (hoff p (by simp only [h, List.mem_cons, true_or, or_true])).1
          · exact (hoff p (by simp only [h, List.mem_cons, true_or, or_true])).1
          · exact (hoff p (by simp only [h, List.mem_cons, true_or, or_true])).1
          · exact (hoff p (by simp only [h, List.mem_cons, true_or, or_true])).1
          · exact (hoff p (by simp only [h, List.mem_cons, true_or, or_true])).1
          · exact (hoff p (by simp only [h, List.mem_cons, true_or, or_true])).1
          · exact hO p h _ (.head _)
          · exact (hoff p (.tail _ (.tail _ (.tail _ (.tail _ (.tail _ (.tail _ h))))))).1
      · intro h'' tk'' lv' k' v hsz' F'' N''
        exact ⟨rfl, h'', tk'', _, _, rfl, F'', unmid8 N'', rfl, fun z hz => by
          show (if z = _ then _ else m₁ z) = m z
          rw [if_neg hz, hm z hz], lv', k', oN', _, hsz', dN', rfl⟩
  · intro m₁ nx h tk hJ F N
    obtain ⟨hm, lv, ln, oN, vN, hsz, dN, rfl⟩ := hJ
    exact hQ h tk lv ln m₁ oN vN hsz hm dN F N
end Mine
end

section
theorem Mine.freshEndS : True := by w_top off; trivial
open PySem PySem.W PyProof.Rows PySem.Calls PyProof.V PySem.Spec
set_option Elab.async false
set_option maxRecDepth 100000
set_option maxHeartbeats 400000
namespace Mine
theorem ints_dat {ys : List Value} {js : List Int} (h : IntsAre ys js) : DatAll [] ys (js.map Dat.int) := by
  induction h with
  | nil => exact .nil
  | cons n t _ ih => exact .cons (.int n t) ih
section
variable {prog : Program} {w : World} {A : Around} {E : Value → Shared → Prop} {s : Shared}
theorem ne_nil {h₀ : Heap} {L l b : Addr} {v : Value} {ys : List Value} {js : List Int} {n n2 : Nat} {news : List (Addr × Obj)} {Q : Value → Shared → Prop} (N : News h₀ L s.heap news) (hl : (l, listOf (v :: ys).toArray n) ∈ news) (hb : (b, listOf #[] n2) ∈ news) (hi : IntsAre (v :: ys) js) (hu : A.units + 64 < cLine) (h : Q (.bool true) s) :
    wpAny (model prog w) A (compareOp .NotEq (.ref l) (.ref b)) Q E s := by
  refine kqd_ne N hl rfl rfl (ints_dat hi) (fun _ hp => nomatch hp) hb rfl (ys := []) rfl .nil (fun (_ : Addr × Obj) hp => nomatch hp) (n₂ := []) (fun d hd => ?_) (fun _ hd => nomatch hd) hu ?_
  · obtain ⟨i, _, rfl⟩ := List.mem_map.mp hd
    rfl
  · have e : js.map Dat.int ≠ [] := by cases hi; simp
    simpa [e] using h
theorem eq_nil {h₀ : Heap} {L l b : Addr} {v : Value} {ys : List Value} {js : List Int} {n n2 : Nat} {news : List (Addr × Obj)} {Q : Value → Shared → Prop} (N : News h₀ L s.heap news) (hl : (l, listOf (v :: ys).toArray n) ∈ news) (hb : (b, listOf #[] n2) ∈ news) (hi : IntsAre (v :: ys) js) (hu : A.units + 64 < cLine) (h : Q (.bool false) s) :
    wpAny (model prog w) A (compareOp .Eq (.ref l) (.ref b)) Q E s := by
  refine kqd_eq N hl rfl rfl (ints_dat hi) (fun _ hp => nomatch hp) hb rfl (ys := []) rfl .nil (fun (_ : Addr × Obj) hp => nomatch hp) (n₂ := []) (fun d hd => ?_) (fun _ hd => nomatch hd) hu ?_
  · obtain ⟨i, _, rfl⟩ := List.mem_map.mp hd
    rfl
  · have e : js.map Dat.int ≠ [] := by cases hi; simp
    simpa [e] using h
end
local macro_rules | `(tactic| walk_at "no such step 0") => `(tactic| skip)
local macro_rules | `(tactic| walk_at "no such step 1") => `(tactic| skip)
local macro_rules | `(tactic| walk_at "no such step 2") => `(tactic| skip)
local macro_rules | `(tactic| walk_at "no such step 3") => `(tactic| skip)
local macro_rules | `(tactic| walk_at "no such step 4") => `(tactic| skip)
local macro_rules | `(tactic| walk_at "no such step 5") => `(tactic| skip)
local macro_rules | `(tactic| walk_at "compareOp NotEq ref ref") => `(tactic| ((with_reducible show wpAny _ _ (compareOp CmpOp.NotEq _ _) _ _ _); refine halt ?_))
theorem end_none {w : World} {g : Heap} {mean : ExcName → Option Value} {mg mb : Str → Option Value} {sc : Scope} {L fa : Addr} {cd : Value} {s : Shared} {m : Str → Option Value} {stm : Stmt}
   {fl lf : Addr} {fv : List Value} {fk fn : Nat} {oL : Obj} {own : List (Addr × Obj)} {Q : Flow → Shared → Prop}
   (hsc : lawScope = sc) (hstm : whileStmt 2 = stm) (X : (KK w).In g) (T : Top topProg looseL mean mg mb g) (B : Below callerA g [] g)
   (hfl : m (Str.ofString "faults") = some (.ref fl))
   (F : Fr g L s.heap m) (N : News g L s.heap ((fl, listOf #[] fk) :: (lf, listOf fv.toArray fn) :: (L + 1, oL) :: own)) (dL : oL.data = .cell (some (.ref lf))) (hlen : (fv.length : Int) ≤ 63) 
   (hQ : ∀ h' tk t, Fr g L h' (fun z => if z = Str.ofString "end" then some (.int (fv.length : Int) t) else m z) → News g L h' ((fl, listOf #[] fk) :: (lf, listOf fv.toArray fn) :: (L + 1, oL) :: own) → Q .next { s with heap := h', toks := tk }) :
   wpAny (model P w) (A1 sc L fa cd) (exec stm (envL sc L fa cd)) Q (fun _ _ => False) s := by
  dsimp only [KK, A1, envL, P] at X ⊢
  revert X
  k_fill
  intro X
  conv at hsc => lhs; whnf
  conv at hstm => lhs; whnf
  subst hsc hstm
  have em := over hfl rfl
  have F := fr_eq em F
  k_steps
  refine (show wpAny _ _ _ _ _ _ from ?_)
  rename News _ _ _ _ => N1
  refine ne_same (items := #[]) (N1 _ (.tail _ (.head _))).1 (N1 _ (.head _)).1 (by exact (by decide : (7 : Nat) < cLine)) ?_
  k_steps
  rename News _ _ _ _ => N2
  refine' kst_len ?k1 ?k2 rfl ?k4 ?_
  case k1 => exact N2
  case k2 => exact .tail _ (.tail _ (.head _))
  case k4 => have : (2:Int)^63 = 9223372036854775808 := rfl
             omega
  k_steps
  rename Fr _ _ _ _ => F3
  rename News _ _ _ _ => N3
  exact hQ _ _ _ (fr_eq (congrArg (fun (q : Str → Option Value) => fun z => if z = Str.ofString "end" then some _ else q z) em.symm) F3) (fun p hp => N3 p (.tail _ hp))
theorem end_some {w : World} {g : Heap} {mean : ExcName → Option Value} {mg mb : Str → Option Value} {sc : Scope} {L fa : Addr} {cd : Value} {s : Shared} {m : Str → Option Value} {stm : Stmt}
   {fl : Addr} {j : Int} {tj : Tok} {ys : List Value} {js : List Int} {fk : Nat} {own : List (Addr × Obj)} {Q : Flow → Shared → Prop}
   (hsc : lawScope = sc) (hstm : whileStmt 2 = stm) (X : (KK w).In g) (T : Top topProg looseL mean mg mb g) (B : Below callerA g [] g)
   (hfl : m (Str.ofString "faults") = some (.ref fl)) (hys : IntsAre (.int j tj :: ys) (j :: js)) (hyl : (ys.length : Int) ≤ 63)
   (F : Fr g L s.heap m) (N : News g L s.heap ((fl, listOf (.int j tj :: ys).toArray fk) :: own)) 
   (hQ : ∀ h' tk t, Fr g L h' (fun z => if z = Str.ofString "end" then some (.int (j + 1) t) else m z) → News g L h' ((fl, listOf (.int j tj :: ys).toArray fk) :: own) → Q .next { s with heap := h', toks := tk }) :
   wpAny (model P w) (A1 sc L fa cd) (exec stm (envL sc L fa cd)) Q (fun _ _ => False) s := by
  dsimp only [KK, A1, envL, P] at X ⊢
  revert X
  k_fill
  intro X
  conv at hsc => lhs; whnf
  conv at hstm => lhs; whnf
  subst hsc hstm
  have em := over hfl rfl
  have F := fr_eq em F
  k_steps
  refine (show wpAny _ _ _ _ _ _ from ?_)
  rename News _ _ _ _ => N1
  refine ne_nil (by exact N1) (.tail _ (.head _)) (.head _) hys (by exact (by decide : (7 + 64 : Nat) < cLine)) ?_
  k_steps
  rename Fr _ _ _ _ => F3
  rename News _ _ _ _ => N3
  exact hQ _ _ _ (fr_eq (congrArg (fun (q : Str → Option Value) => fun z => if z = Str.ofString "end" then some (Value.int (j + 1) _) else q z) em.symm) F3) (fun p hp => N3 p (.tail _ hp))
end Mine
end

section
theorem Mine.freshDueS : True := by w_top off; trivial
open PySem PySem.W PyProof.Rows PySem.Calls PyProof.V PySem.Spec
set_option Elab.async false
set_option maxRecDepth 100000
set_option maxHeartbeats 400000
namespace Mine
local macro_rules | `(tactic| walk_at "no such step 0") => `(tactic| skip)
local macro_rules | `(tactic| walk_at "no such step 1") => `(tactic| skip)
local macro_rules | `(tactic| walk_at "no such step 2") => `(tactic| skip)
local macro_rules | `(tactic| walk_at "no such step 3") => `(tactic| skip)
local macro_rules | `(tactic| walk_at "no such step 4") => `(tactic| skip)
local macro_rules | `(tactic| walk_at "no such step 5") => `(tactic| skip)
local macro_rules | `(tactic| walk_at "no such step 6") => `(tactic| skip)
local macro_rules | `(tactic| walk_at "compareOp NotEq ref ref") => `(tactic| ((with_reducible show wpAny _ _ (compareOp CmpOp.NotEq _ _) _ _ _); refine halt ?_))
theorem due_none {w : World} {g : Heap} {mean : ExcName → Option Value} {mg mb : Str → Option Value} {sc : Scope} {L fa : Addr} {cd : Value} {s : Shared} {m : Str → Option Value} {stm : Stmt}
   {fl sl : Addr} {sv : List Value} {ss : List Int} {fk sk : Nat} {own : List (Addr × Obj)} {Q : Flow → Shared → Prop}
   (hsc : lawScope = sc) (hstm : whileStmt 4 = stm) (X : (KK w).In g) (T : Top topProg looseL mean mg mb g) (B : Below callerA g [] g)
   (hfl : m (Str.ofString "faults") = some (.ref fl)) (hsl : m (Str.ofString "scores") = some (.ref sl)) (hsv : IntsAre sv ss) (hss : (ss.length : Int) ≤ 63) (hsvz : sv.toArray.size ≤ sizeLine)
   (F : Fr g L s.heap m) (N : News g L s.heap ((sl, listOf sv.toArray sk) :: (fl, listOf #[] fk) :: own))
   (hQ : ∀ h' tk (M : Int), M ∈ ss ++ [1] → (∀ a ∈ ss ++ [1], a ≤ M) → Fr g L h' (fun z => if z = Str.ofString "due" then some (.bool (M.fmod 2 == 1)) else m z) → News g L h' ((sl, listOf sv.toArray sk) :: (fl, listOf #[] fk) :: own) → Q .next { s with heap := h', toks := tk }) :
   wpAny (model P w) (A1 sc L fa cd) (exec stm (envL sc L fa cd)) Q (fun _ _ => False) s := by
  dsimp only [KK, A1, envL, P] at X ⊢
  revert X
  k_fill
  intro X
  conv at hsc => lhs; whnf
  conv at hstm => lhs; whnf
  subst hsc hstm
  have em := over hfl (over hsl rfl)
  have F := fr_eq em F
  k_steps
  refine (show wpAny _ _ _ _ _ _ from ?_)
  rename News _ _ _ _ => N1
  refine ne_same (items := #[]) (N1 _ (.tail _ (.tail _ (.head _)))).1 (N1 _ (.head _)).1 (by exact (by decide : (7 : Nat) < cLine)) ?_
  k_steps
  rename Fr _ _ _ _ => F3
  rename News _ _ _ _ => N3
  rename ∀ (a : Int), a ∈ ss ++ [1] → a ≤ _ => hle
  rename _ ∈ ss ++ [1] => hmem
  exact hQ _ _ _ hmem hle (fr_eq (congrArg (fun (q : Str → Option Value) => fun z => if z = Str.ofString "due" then some _ else q z) em.symm) F3) (fun p hp => N3 p (.tail _ (.tail _ (.tail _ hp))))
theorem due_some {w : World} {g : Heap} {mean : ExcName → Option Value} {mg mb : Str → Option Value} {sc : Scope} {L fa : Addr} {cd : Value} {s : Shared} {m : Str → Option Value} {stm : Stmt}
   {fl lf : Addr} {j : Nat} {tj : Tok} {ys fv : List Value} {js : List Int} {rows : List Row} {r : Row} {fk fn : Nat} {oL : Obj} {own : List (Addr × Obj)} {Q : Flow → Shared → Prop}
   (hsc : lawScope = sc) (hstm : whileStmt 4 = stm) (X : (KK w).In g) (T : Top topProg looseL mean mg mb g) (B : Below callerA g [] g)
   (hfl : m (Str.ofString "faults") = some (.ref fl)) (hys : IntsAre (.int (j : Int) tj :: ys) ((j : Int) :: js)) (hyl : (ys.length : Int) ≤ 63)
   (F : Fr g L s.heap m) (N : News g L s.heap ((fl, listOf (.int (j : Int) tj :: ys).toArray fk) :: (lf, listOf fv.toArray fn) :: (L + 1, oL) :: own)) (dL : oL.data = .cell (some (.ref lf))) (hlen : (fv.length : Int) ≤ 63) (hT : Paired (TupAt own) fv rows) (hr : rows[j]? = some r)
   (hQ : ∀ h' tk t, Fr g L h' (fun z => if z = Str.ofString "due" then some (.int r.kind t) else m z) → News g L h' ((fl, listOf (.int (j : Int) tj :: ys).toArray fk) :: (lf, listOf fv.toArray fn) :: (L + 1, oL) :: own) → Q .next { s with heap := h', toks := tk }) :
   wpAny (model P w) (A1 sc L fa cd) (exec stm (envL sc L fa cd)) Q (fun _ _ => False) s := by
  dsimp only [KK, A1, envL, P] at X ⊢
  revert X
  k_fill
  intro X
  conv at hsc => lhs; whnf
  conv at hstm => lhs; whnf
  subst hsc hstm
  have em := over hfl rfl
  have F := fr_eq em F
  have hjl : j < rows.length := (List.getElem?_eq_some_iff.mp hr).1
  have hlr := hT.length
  obtain ⟨v, hv⟩ : ∃ v, fv[j]? = some v := ⟨_, List.getElem?_eq_getElem (by omega)⟩
  obtain ⟨r', hri, a, t1, t2, t3, kt, rfl, hTm⟩ := paired_get hT hv
  obtain rfl : r = r' := Option.some.inj (hr.symm.trans hri)
  have hj63 : (j : Int) < 100 := by omega
  clear hlr hjl
  k_steps
  refine (show wpAny _ _ _ _ _ _ from ?_)
  rename News _ _ _ _ => N1
  refine ne_nil (by exact N1) (.tail _ (.head _)) (.head _) hys (by exact (by decide : (7 + 64 : Nat) < cLine)) ?_
  k_steps
  rename News _ _ _ _ => N2
  refine' my_item ?y1 ?y2 ?y6 hv hj63 ?y4 ?y5
  case y1 => exact N2
  case y2 => exact .tail _ (.tail _ (.head _))
  case y6 => rfl
  case y4 => with_unfolding_all rfl
  have hTm2 := N2 _ (.tail _ (.tail _ (.tail _ (.tail _ hTm))))
  k_steps
  refine' my_tup hTm2.1 ?x4 ?x5
  case x4 => with_unfolding_all rfl
  k_steps
  rename Fr _ _ _ _ => F3
  rename News _ _ _ _ => N3
  exact hQ _ _ _ (fr_eq (congrArg (fun (q : Str → Option Value) => fun z => if z = Str.ofString "due" then some _ else q z) em.symm) F3) (fun p hp => N3 p (.tail _ hp))
end Mine
end

section
theorem Mine.freshWStm : True := by w_top off; trivial
open PySem PySem.W PyProof.Rows PySem.Calls PyProof.V PySem.Spec
set_option Elab.async false
set_option maxRecDepth 100000
set_option maxHeartbeats 400000
namespace Mine
section
variable {prog : Program} {w : World} {A : Around} {E : Value → Shared → Prop} {s : Shared}
theorem eq_nil0 {h₀ : Heap} {L l b : Addr} {n n2 : Nat} {news : List (Addr × Obj)} {Q : Value → Shared → Prop} (N : News h₀ L s.heap news) (hl : (l, listOf #[] n) ∈ news) (hb : (b, listOf #[] n2) ∈ news) (hu : A.units + 64 < cLine) (h : Q (.bool true) s) :
    wpAny (model prog w) A (compareOp .Eq (.ref l) (.ref b)) Q E s := by
  refine kqd_eq N hl rfl (xs := []) rfl .nil (n₁ := []) (fun (_ : Addr × Obj) hp => nomatch hp) hb rfl (ys := []) rfl .nil (fun (_ : Addr × Obj) hp => nomatch hp) (n₂ := []) (fun _ hd => nomatch hd) (fun _ hd => nomatch hd) hu ?_
  simpa using h
theorem del_at {l : Addr} {vs : List Value} {n j : Nat} {i : Int} {t : Tok} {Q : Unit → Shared → Prop} (ho : s.heap.get? l = some (listOf vs.toArray n)) (hi : i = (j : Int)) (hj : j < vs.length) (hlen : (vs.length : Int) ≤ 63)
    (h : ∀ h' k, h'.get? l = some (listOf (vs.eraseIdx j).toArray k) → Heap.SameBut l s.heap h' → Q () { s with heap := h' }) : wpAny (model prog w) A (delItem (.ref l) (.int i t)) Q E s := by
  subst hi
  refine wpAny_delItem_plain (k := j) ⟨n, ho⟩ ?_ ?_ ?_ ?_
  · unfold Builtin.List.listFitsIndex
    simp
    omega
  · rw [seqIndex_of (by omega) (by simp; omega)]
    simp
  · intro h' hp hs
    obtain ⟨k, hk⟩ := hp
    refine h h' k ?_ hs
    rw [hk]
    simp [PySem.W.listOf]
  · rw [List.size_toArray]; unfold sizeLine; omega
end
local macro_rules | `(tactic| walk_at "no such step 0") => `(tactic| skip)
local macro_rules | `(tactic| walk_at "no such step 1") => `(tactic| skip)
local macro_rules | `(tactic| walk_at "no such step 2") => `(tactic| skip)
local macro_rules | `(tactic| walk_at "no such step 3") => `(tactic| skip)
local macro_rules | `(tactic| walk_at "no such step 4") => `(tactic| skip)
local macro_rules | `(tactic| walk_at "no such step 5") => `(tactic| skip)
local macro_rules | `(tactic| walk_at "no such step 6") => `(tactic| skip)
local macro_rules | `(tactic| walk_at "no such step 7") => `(tactic| skip)
local macro_rules | `(tactic| walk_at "compareOp Eq ref ref") => `(tactic| ((with_reducible show wpAny _ _ (compareOp CmpOp.Eq _ _) _ _ _); refine halt ?_))
theorem copy_stmt {w : World} {g : Heap} {mean : ExcName → Option Value} {mg mb : Str → Option Value} {sc : Scope} {L fa : Addr} {cd : Value} {s : Shared} {m : Str → Option Value} {stm : Stmt}
   {rl : Addr} {rv : List Value} {rn : Nat} {own : List (Addr × Obj)} {Q : Flow → Shared → Prop}
   (hsc : lawScope = sc) (hstm : whileStmt 0 = stm) (X : (KK w).In g) (T : Top topProg looseL mean mg mb g) (B : Below callerA g [] g)
   (hrl : m (Str.ofString "rules") = some (.ref rl)) (hsz : rv.toArray.size ≤ sizeLine)
   (F : Fr g L s.heap m) (N : News g L s.heap ((rl, listOf rv.toArray rn) :: own))
   (hQ : ∀ h' tk cp k, Fr g L h' (fun z => if z = Str.ofString "copy" then some (.ref cp) else m z) → News g L h' ((cp, listOf rv.toArray k) :: (rl, listOf rv.toArray rn) :: own) → (∀ p ∈ (rl, listOf rv.toArray rn) :: own, p.1 < cp) → Q .next { s with heap := h', toks := tk }) :
   wpAny (model P w) (A1 sc L fa cd) (exec stm (envL sc L fa cd)) Q (fun _ _ => False) s := by
  dsimp only [KK, A1, envL, P] at X ⊢
  revert X
  k_fill
  intro X
  conv at hsc => lhs; whnf
  conv at hstm => lhs; whnf
  subst hsc hstm
  have em := over hrl rfl
  have F := fr_eq em F
  k_steps
  rename Fr _ _ _ _ => F3
  rename News _ _ _ _ => N3
  rename _ ∧ _ => hl1
  refine hQ _ _ _ _ (fr_eq (congrArg (fun (q : Str → Option Value) => fun z => if z = Str.ofString "copy" then some _ else q z) em.symm) F3) N3 (fun p hp => ?_)
  rcases List.mem_cons.mp hp with rfl | hp
  · exact hl1.1
  · exact kst_ltOf hl1.2 p hp
theorem break_none {w : World} {g : Heap} {mean : ExcName → Option Value} {mg mb : Str → Option Value} {sc : Scope} {L fa : Addr} {cd : Value} {s : Shared} {m : Str → Option Value} {stm : Stmt}
   {fl : Addr} {fk : Nat} {own : List (Addr × Obj)} {Q : Flow → Shared → Prop}
   (hsc : lawScope = sc) (hstm : whileStmt 6 = stm) (X : (KK w).In g) (T : Top topProg looseL mean mg mb g) (B : Below callerA g [] g)
   (hfl : m (Str.ofString "faults") = some (.ref fl))
   (F : Fr g L s.heap m) (N : News g L s.heap ((fl, listOf #[] fk) :: own))
   (hQ : ∀ h' tk, Fr g L h' m → News g L h' ((fl, listOf #[] fk) :: own) → Q .brk { s with heap := h', toks := tk }) :
   wpAny (model P w) (A1 sc L fa cd) (exec stm (envL sc L fa cd)) Q (fun _ _ => False) s := by
  dsimp only [KK, A1, envL, P] at X ⊢
  revert X
  k_fill
  intro X
  conv at hsc => lhs; whnf
  conv at hstm => lhs; whnf
  subst hsc hstm
  have em := over hfl rfl
  have F := fr_eq em F
  k_steps
  refine (show wpAny _ _ _ _ _ _ from ?_)
  rename News _ _ _ _ => N1
  rename Fr _ _ _ _ => F1
  refine eq_nil0 (by exact N1) (.tail _ (.head _)) (.head _) (by exact (by decide : (7 + 64 : Nat) < cLine)) ?_
  k_steps
  exact hQ _ _ (fr_eq em.symm F1) (fun p hp => N1 p (.tail _ hp))
theorem break_some {w : World} {g : Heap} {mean : ExcName → Option Value} {mg mb : Str → Option Value} {sc : Scope} {L fa : Addr} {cd : Value} {s : Shared} {m : Str → Option Value} {stm : Stmt}
   {fl : Addr} {j : Int} {tj : Tok} {ys : List Value} {js : List Int} {fk : Nat} {own : List (Addr × Obj)} {Q : Flow → Shared → Prop}
   (hsc : lawScope = sc) (hstm : whileStmt 6 = stm) (X : (KK w).In g) (T : Top topProg looseL mean mg mb g) (B : Below callerA g [] g)
   (hfl : m (Str.ofString "faults") = some (.ref fl)) (hys : IntsAre (.int j tj :: ys) (j :: js)) (hyl : (ys.length : Int) ≤ 63)
   (F : Fr g L s.heap m) (N : News g L s.heap ((fl, listOf (.int j tj :: ys).toArray fk) :: own)) 
   (hQ : ∀ h' tk, Fr g L h' m → News g L h' ((fl, listOf (.int j tj :: ys).toArray fk) :: own) → Q .next { s with heap := h', toks := tk }) :
   wpAny (model P w) (A1 sc L fa cd) (exec stm (envL sc L fa cd)) Q (fun _ _ => False) s := by
  dsimp only [KK, A1, envL, P] at X ⊢
  revert X
  k_fill
  intro X
  conv at hsc => lhs; whnf
  conv at hstm => lhs; whnf
  subst hsc hstm
  have em := over hfl rfl
  have F := fr_eq em F
  k_steps
  refine (show wpAny _ _ _ _ _ _ from ?_)
  rename News _ _ _ _ => N1
  refine eq_nil (by exact N1) (.tail _ (.head _)) (.head _) hys (by exact (by decide : (7 + 64 : Nat) < cLine)) ?_
  k_steps
  rename Fr _ _ _ _ => F1
  exact hQ _ _ (fr_eq em.symm F1) (fun p hp => N1 p (.tail _ hp))
theorem del_left {w : World} {g : Heap} {mean : ExcName → Option Value} {mg mb : Str → Option Value} {sc : Scope} {L fa : Addr} {cd : Value} {s : Shared} {m : Str → Option Value} {stm : Stmt}
   {fl lf : Addr} {j : Nat} {tj : Tok} {ys fv : List Value} {js : List Int} {fk fn : Nat} {oL : Obj} {own : List (Addr × Obj)} {Q : Flow → Shared → Prop}
   (hsc : lawScope = sc) (hstm : whileStmt 7 = stm) (X : (KK w).In g) (T : Top topProg looseL mean mg mb g) (B : Below callerA g [] g)
   (hfl : m (Str.ofString "faults") = some (.ref fl)) (hys : IntsAre (.int (j : Int) tj :: ys) ((j : Int) :: js)) (hyl : (ys.length : Int) ≤ 63)
   (F : Fr g L s.heap m) (N : News g L s.heap ((lf, listOf fv.toArray fn) :: (fl, listOf (.int (j : Int) tj :: ys).toArray fk) :: (L + 1, oL) :: own)) (dL : oL.data = .cell (some (.ref lf))) (hlen : (fv.length : Int) ≤ 63) (hj : j < fv.length)
   (hoff : ∀ p ∈ (fl, listOf (.int (j : Int) tj :: ys).toArray fk) :: (L + 1, oL) :: own, p.1 ≠ lf)
   (hQ : ∀ h' tk k, Fr g L h' m → News g L h' ((lf, listOf (fv.eraseIdx j).toArray k) :: (fl, listOf (.int (j : Int) tj :: ys).toArray fk) :: (L + 1, oL) :: own) → Q .next { s with heap := h', toks := tk }) :
   wpAny (model P w) (A1 sc L fa cd) (exec stm (envL sc L fa cd)) Q (fun _ _ => False) s := by
  dsimp only [KK, A1, envL, P] at X ⊢
  revert X
  k_fill
  intro X
  conv at hsc => lhs; whnf
  conv at hstm => lhs; whnf
  subst hsc hstm
  have em := over hfl rfl
  have F := fr_eq em F
  k_steps
  have hlf := N _ (.head _)
  refine del_at hlf.1 rfl hj hlen ?_
  intro h1 k1 e1 hs1
  k_steps
  exact hQ _ _ k1 (fr_eq em.symm (fr_but F hs1 hlf.2.1 hlf.2.2)) (news_but N hs1 hoff e1)
theorem del_rules {w : World} {g : Heap} {mean : ExcName → Option Value} {mg mb : Str → Option Value} {sc : Scope} {L fa : Addr} {cd : Value} {s : Shared} {m : Str → Option Value} {stm : Stmt}
   {fl rl : Addr} {j : Nat} {tj : Tok} {ys rv : List Value} {js : List Int} {fk rn : Nat} {own : List (Addr × Obj)} {Q : Flow → Shared → Prop}
   (hsc : lawScope = sc) (hstm : whileStmt 8 = stm) (X : (KK w).In g) (T : Top topProg looseL mean mg mb g) (B : Below callerA g [] g)
   (hrl : m (Str.ofString "rules") = some (.ref rl)) (hfl : m (Str.ofString "faults") = some (.ref fl)) (hys : IntsAre (.int (j : Int) tj :: ys) ((j : Int) :: js)) (hyl : (ys.length : Int) ≤ 63)
   (F : Fr g L s.heap m) (N : News g L s.heap ((rl, listOf rv.toArray rn) :: (fl, listOf (.int (j : Int) tj :: ys).toArray fk) :: own)) (hlen : (rv.length : Int) ≤ 63) (hj : j < rv.length)
   (hoff : ∀ p ∈ (fl, listOf (.int (j : Int) tj :: ys).toArray fk) :: own, p.1 ≠ rl)
   (hQ : ∀ h' tk k, Fr g L h' m → News g L h' ((rl, listOf (rv.eraseIdx j).toArray k) :: (fl, listOf (.int (j : Int) tj :: ys).toArray fk) :: own) → Q .next { s with heap := h', toks := tk }) :
   wpAny (model P w) (A1 sc L fa cd) (exec stm (envL sc L fa cd)) Q (fun _ _ => False) s := by
  dsimp only [KK, A1, envL, P] at X ⊢
  revert X
  k_fill
  intro X
  conv at hsc => lhs; whnf
  conv at hstm => lhs; whnf
  subst hsc hstm
  have em := over hrl (over hfl rfl)
  have F := fr_eq em F
  k_steps
  have hrf := N _ (.head _)
  refine del_at hrf.1 rfl hj hlen ?_
  intro h1 k1 e1 hs1
  k_steps
  exact hQ _ _ k1 (fr_eq em.symm (fr_but F hs1 hrf.2.1 hrf.2.2)) (news_but N hs1 hoff e1)
end Mine
end

section
theorem Mine.freshPlain : True := by w_top off; trivial
open PySem PySem.W PyProof.Rows PySem.Calls PyProof.V PySem.Spec
set_option Elab.async false
namespace Mine
theorem split_rows : ∀ rows : List Row, (∀ q ∈ rows, q.kind ≤ 2) ∨ ∃ pre r post, rows = pre ++ r :: post ∧ (∀ q ∈ pre, q.kind ≤ 2) ∧ 2 < r.kind
  | [] => .inl fun _ h => nomatch h
  | q :: rows => by
    by_cases hq : q.kind ≤ 2
    · rcases split_rows rows with h | ⟨pre, r, post, rfl, h, hr⟩
      · exact .inl fun p hp => by
          rcases List.mem_cons.mp hp with rfl | hp
          · exact hq
          · exact h p hp
      · exact .inr ⟨q :: pre, r, post, rfl, fun p hp => by
          rcases List.mem_cons.mp hp with rfl | hp
          · exact hq
          · exact h p hp, hr⟩
    · exact .inr ⟨[], q, rows, rfl, fun _ (h : _ ∈ []) => (nomatch h), by omega⟩
theorem first_eq : ∀ {pre pre' : List Row} {r r' : Row} {post post' : List Row}, (∀ q ∈ pre, q.kind ≤ 2) → 2 < r.kind → (∀ q ∈ pre', q.kind ≤ 2) → 2 < r'.kind → pre ++ r :: post = pre' ++ r' :: post' → pre = pre' ∧ r = r'
  | [], [], r, r', post, post', _, _, _, _, e => ⟨rfl, (List.cons.inj e).1⟩
  | [], q :: pre', r, r', post, post', _, h, h', _, e => by
    have := (List.cons.inj e).1
    subst this
    have := h' r List.mem_cons_self
    omega
  | q :: pre, [], r, r', post, post', h, _, _, h', e => by
    have := (List.cons.inj e).1
    subst this
    have := h q List.mem_cons_self
    omega
  | q :: pre, q' :: pre', r, r', post, post', h, hr, h', hr', e => by
    obtain ⟨e1, e2⟩ := List.cons.inj e
    obtain ⟨a, b⟩ := first_eq (fun p hp => h p (.tail _ hp)) hr (fun p hp => h' p (.tail _ hp)) hr' e2
    exact ⟨by rw [e1, a], b⟩
theorem faults_none {rows : List Row} (h : ∀ q ∈ rows, q.kind ≤ 2) : ∀ i, faultsTo rows i = []
  | 0 => rfl
  | i + 1 => by
    rw [faultsTo_succ, faults_none h i]
    have : isFault rows i = false := by
      unfold isFault
      cases e : rows[i]? with
      | none => rfl
      | some r => exact decide_eq_false (by have := h r (List.mem_of_getElem? e); omega)
    rw [this]; rfl
theorem faults_low {pre post : List Row} {r : Row} (h : ∀ q ∈ pre, q.kind ≤ 2) : ∀ i, i ≤ pre.length → faultsTo (pre ++ r :: post) i = []
  | 0, _ => rfl
  | i + 1, hi => by
    rw [faultsTo_succ, faults_low h i (by omega)]
    have : isFault (pre ++ r :: post) i = false := by
      unfold isFault
      rw [List.getElem?_append_left (by omega), List.getElem?_eq_getElem (by omega)]
      exact decide_eq_false (by have := h _ (List.getElem_mem (l := pre) (n := i) (by omega)); omega)
    rw [this]; rfl
theorem faults_high {pre post : List Row} {r : Row} (h : ∀ q ∈ pre, q.kind ≤ 2) (hr : 2 < r.kind) : ∀ n, ∃ js, faultsTo (pre ++ r :: post) (pre.length + 1 + n) = (pre.length : Int) :: js
  | 0 => ⟨[], by
    rw [Nat.add_zero, faultsTo_succ, faults_low h _ (Nat.le_refl _)]
    have : isFault (pre ++ r :: post) pre.length = true := by
      unfold isFault
      rw [List.getElem?_append_right (Nat.le_refl _), Nat.sub_self]
      exact decide_eq_true hr
    rw [this]; rfl⟩
  | n + 1 => by
    obtain ⟨js, e⟩ := faults_high h hr n
    rw [show pre.length + 1 + (n + 1) = (pre.length + 1 + n) + 1 from rfl, faultsTo_succ, e]
    by_cases hf : isFault (pre ++ r :: post) (pre.length + 1 + n) = true
    · exact ⟨js ++ [((pre.length + 1 + n : Nat) : Int)], by rw [hf]; rfl⟩
    · exact ⟨js, by rw [if_neg hf]⟩
theorem faults_some {pre post : List Row} {r : Row} (h : ∀ q ∈ pre, q.kind ≤ 2) (hr : 2 < r.kind) : ∃ js, faultsTo (pre ++ r :: post) (pre ++ r :: post).length = (pre.length : Int) :: js := by
  rw [show (pre ++ r :: post).length = pre.length + 1 + post.length from by simp; omega]
  exact faults_high h hr _
theorem plain_fault {pre post : List Row} {r : Row} {t : Tok} (h : ∀ q ∈ pre, q.kind ≤ 2) (hr : 2 < r.kind) : ∀ v seen, ToldV (pre ++ r :: post) v seen → SameV v (.int r.kind t) ∧ seen = (pre ++ r :: post).take (pre.length + 1) := by
  intro v seen ht
  generalize hrows : pre ++ r :: post = rows at ht
  cases ht with
  | fault h' hr' =>
    obtain ⟨rfl, rfl⟩ := first_eq h hr h' hr' hrows
    refine ⟨.int, ?_⟩
    rw [List.take_append, List.take_of_length_le (Nat.le_succ _)]
    simp
  | good hall =>
    have := hall r (hrows ▸ List.mem_append_right _ (.head _))
    omega
def maxInv (b : Int × Bool) (M : Int) : Prop := (b.1 = -1 ∧ b.2 = true ∧ M = 1) ∨ (1 ≤ b.1 ∧ M = 2 * b.1 + (if b.2 then 1 else 0))
theorem max_step {b : Int × Bool} {M : Int} {r : Row} (h : maxInv b M) (hk : 0 ≤ r.kind) (hr : 1 ≤ r.reach) : maxInv (bestStep b r) (if r.kind < 2 then max M (2 * r.reach + 1 - r.kind) else M) := by
  obtain ⟨bm, al⟩ := b
  obtain ⟨pl, kd, re⟩ := r
  dsimp only at hk hr
  by_cases hlt : kd < 2
  · have hkd : kd = 0 ∨ kd = 1 := by omega
    unfold bestStep
    dsimp only
    rw [if_pos hlt, if_pos hlt]
    unfold maxInv at h ⊢
    dsimp only at h
    rcases h with ⟨h1, h2, h3⟩ | ⟨h1, h3⟩
    · subst h1 h2 h3
      rw [if_pos (by omega)]
      right
      rcases hkd with rfl | rfl <;> simp <;> omega
    · by_cases hgt : re > bm
      · rw [if_pos hgt]
        right
        rcases hkd with rfl | rfl <;> cases al <;> simp at h3 ⊢ <;> omega
      · rw [if_neg hgt]
        by_cases heq : re = bm ∧ al = false
        · obtain ⟨rfl, rfl⟩ := heq
          rw [if_pos ⟨rfl, rfl⟩]
          right
          rcases hkd with rfl | rfl <;> simp at h3 ⊢ <;> omega
        · rw [if_neg heq]
          right
          rcases hkd with rfl | rfl <;> cases al <;> simp at h3 heq ⊢ <;> omega
  · unfold bestStep
    dsimp only
    rw [if_neg hlt, if_neg hlt]
    exact h
theorem max_all : ∀ (rows : List Row) (b : Int × Bool) (M : Int), maxInv b M → (∀ r ∈ rows, 0 ≤ r.kind ∧ 1 ≤ r.reach) →
    ∃ M', maxInv (rows.foldl bestStep b) M' ∧ (M' = M ∨ M' ∈ (rows.filter fun r => decide (r.kind < 2)).map scoreOf) ∧ M ≤ M' ∧ ∀ a ∈ (rows.filter fun r => decide (r.kind < 2)).map scoreOf, a ≤ M'
  | [], b, M, h, _ => ⟨M, h, .inl rfl, Int.le_refl _, fun _ h => nomatch h⟩
  | r :: rows, b, M, h, hr => by
    obtain ⟨M', h1, h2, h3, h4⟩ := max_all rows _ _ (max_step h (hr r (.head _)).1 (hr r (.head _)).2) (fun q hq => hr q (.tail _ hq))
    refine ⟨M', h1, ?_⟩
    by_cases hlt : r.kind < 2
    · rw [if_pos hlt] at h2 h3
      rw [List.filter_cons_of_pos (by simpa using hlt), List.map_cons]
      have hs : scoreOf r = 2 * r.reach + 1 - r.kind := rfl
      refine ⟨?_, by omega, fun a ha => ?_⟩
      · rcases h2 with h2 | h2
        · rw [← hs] at h2
          rcases Int.le_total M (scoreOf r) with hle | hle
          · exact .inr (List.mem_cons.mpr (.inl (by omega)))
          · exact .inl (by omega)
        · exact .inr (.tail _ h2)
      · rcases List.mem_cons.mp ha with rfl | ha
        · omega
        · exact h4 a ha
    · rw [if_neg hlt] at h2 h3
      rw [List.filter_cons_of_neg (by simpa using hlt)]
      exact ⟨h2, h3, h4⟩
theorem due_best {rows : List Row} {M : Int} (hr : ∀ r ∈ rows, 0 ≤ r.kind ∧ 1 ≤ r.reach) (hm : M ∈ scoresTo rows rows.length ++ [1]) (hle : ∀ a ∈ scoresTo rows rows.length ++ [1], a ≤ M) : (M.fmod 2 == 1) = (best rows).2 := by
  unfold scoresTo at hm hle
  rw [List.take_length] at hm hle
  obtain ⟨M', h1, h2, h3, h4⟩ := max_all rows (-1, true) 1 (.inl ⟨rfl, rfl, rfl⟩) hr
  have hM : M' = M := by
    have a1 : M' ≤ M := by
      refine hle M' ?_
      rcases h2 with h2 | h2
      · exact List.mem_append_right _ (by simp [h2])
      · exact List.mem_append_left _ h2
    have a2 : M ≤ M' := by
      rcases List.mem_append.mp hm with hm | hm
      · exact h4 M hm
      · rw [List.mem_singleton.mp hm]; exact h3
    omega
  subst hM
  have key : best rows = rows.foldl bestStep (-1, true) := rfl
  rw [key]
  generalize rows.foldl bestStep (-1, true) = b at h1
  obtain ⟨bm, al⟩ := b
  rcases h1 with ⟨_, h, h'⟩ | ⟨_, h'⟩
  · dsimp only at h h' ⊢
    subst h h'
    rfl
  · dsimp only at h' ⊢
    have : M'.fmod 2 = if al then 1 else 0 := by
      rw [h', Int.fmod_eq_emod_of_nonneg _ (by decide)]
      cases al <;> simp <;> omega
    rw [this]
    cases al <;> rfl
theorem plain_good {rows : List Row} {M : Int} (h : ∀ q ∈ rows, q.kind ≤ 2) (hr : ∀ r ∈ rows, 0 ≤ r.kind ∧ 1 ≤ r.reach) (hm : M ∈ scoresTo rows rows.length ++ [1]) (hle : ∀ a ∈ scoresTo rows rows.length ++ [1], a ≤ M) :
    ∀ v seen, ToldV rows v seen → SameV v (.bool (M.fmod 2 == 1)) ∧ seen = rows.take rows.length := by
  intro v seen ht
  cases ht with
  | fault h' hr' =>
    have := h _ (List.mem_append_right _ (.head _))
    omega
  | good hall =>
    rw [due_best hr hm hle, List.take_length]
    exact ⟨.bool, rfl⟩
theorem paired_erase {α β : Type} {F : α → β → Prop} : ∀ {l₁ : List α} {l₂ : List β}, Paired F l₁ l₂ → ∀ j, Paired F (l₁.eraseIdx j) (l₂.eraseIdx j)
  | _, _, .nil, _ => .nil
  | _, _, .cons _ t, 0 => t
  | _, _, .cons h t, j + 1 => .cons h (paired_erase t j)
end Mine
end

section
theorem Mine.freshWhile : True := by w_top off; trivial
open PySem PySem.W PyProof.Rows PySem.Calls PyProof.V PySem.Spec
set_option Elab.async false
set_option maxRecDepth 100000
set_option maxHeartbeats 800000
namespace Mine
theorem pmA {g h : Heap} {L : Addr} {d1 e1 lL lf lg nN rl : Addr × Obj} {own : List (Addr × Obj)} (N : News g L h (lg :: nN :: lf :: lL :: rl :: e1 :: d1 :: own)) : News g L h (rl :: lg :: nN :: lf :: lL :: e1 :: d1 :: own) := fun p hp => N p (by
  simp only [List.mem_cons] at hp ⊢
  rcases hp with h | h | h | h | h | h | h | h <;> simp only [h, true_or, or_true])
theorem pmB {g h : Heap} {L : Addr} {cp d1 e1 lL lf lg nN rl : Addr × Obj} {own : List (Addr × Obj)} (N : News g L h (cp :: rl :: lg :: nN :: lf :: lL :: e1 :: d1 :: own)) : News g L h (lf :: lL :: cp :: rl :: lg :: nN :: e1 :: d1 :: own) := fun p hp => N p (by
  simp only [List.mem_cons] at hp ⊢
  rcases hp with h | h | h | h | h | h | h | h | h <;> simp only [h, true_or, or_true])
theorem pmC {g h : Heap} {L : Addr} {cp d1 e1 fl lL lf lg nN rl : Addr × Obj} {own : List (Addr × Obj)} (N : News g L h (fl :: lf :: lL :: cp :: rl :: lg :: nN :: e1 :: d1 :: own)) : News g L h (lf :: lL :: fl :: cp :: rl :: lg :: nN :: e1 :: d1 :: own) := fun p hp => N p (by
  simp only [List.mem_cons] at hp ⊢
  rcases hp with h | h | h | h | h | h | h | h | h | h <;> simp only [h, true_or, or_true])
theorem pmD {g h : Heap} {L : Addr} {cp d1 e1 fl lL lf lg nN rl sl : Addr × Obj} {own : List (Addr × Obj)} (N : News g L h (sl :: lf :: lL :: fl :: cp :: rl :: lg :: nN :: e1 :: d1 :: own)) : News g L h (sl :: fl :: lf :: lL :: cp :: rl :: lg :: nN :: e1 :: d1 :: own) := fun p hp => N p (by
  simp only [List.mem_cons] at hp ⊢
  rcases hp with h | h | h | h | h | h | h | h | h | h | h <;> simp only [h, true_or, or_true])
theorem pmE {g h : Heap} {L : Addr} {cp d1 e1 fl lL lf lg nN rl sl : Addr × Obj} {own : List (Addr × Obj)} (N : News g L h (sl :: lf :: lL :: fl :: cp :: rl :: lg :: nN :: e1 :: d1 :: own)) : News g L h (fl :: lf :: lL :: sl :: cp :: rl :: lg :: nN :: e1 :: d1 :: own) := fun p hp => N p (by
  simp only [List.mem_cons] at hp ⊢
  rcases hp with h | h | h | h | h | h | h | h | h | h | h <;> simp only [h, true_or, or_true])
theorem pmF {g h : Heap} {L : Addr} {cp d1 e1 fl lL lf lg nN rl sl : Addr × Obj} {own : List (Addr × Obj)} (N : News g L h (sl :: fl :: lf :: lL :: cp :: rl :: lg :: nN :: e1 :: d1 :: own)) : News g L h (lg :: nN :: lf :: lL :: rl :: cp :: e1 :: d1 :: fl :: own) := fun p hp => N p (by
  simp only [List.mem_cons] at hp ⊢
  rcases hp with h | h | h | h | h | h | h | h | h | h <;> simp only [h, true_or, or_true])
theorem pmG {g h : Heap} {L : Addr} {cp d1 e1 fl lL lf lg nN rl sl : Addr × Obj} {own : List (Addr × Obj)} (N : News g L h (fl :: lf :: lL :: sl :: cp :: rl :: lg :: nN :: e1 :: d1 :: own)) : News g L h (lg :: nN :: lf :: lL :: rl :: cp :: e1 :: d1 :: fl :: own) := fun p hp => N p (by
  simp only [List.mem_cons] at hp ⊢
  rcases hp with h | h | h | h | h | h | h | h | h | h <;> simp only [h, true_or, or_true])
theorem pmH {g h : Heap} {L : Addr} {cp d1 e1 fl lL lf lg nN rl : Addr × Obj} {own : List (Addr × Obj)} (N : News g L h (lg :: nN :: lf :: lL :: rl :: cp :: e1 :: d1 :: fl :: own)) : News g L h (fl :: lg :: nN :: lf :: lL :: rl :: e1 :: d1 :: own) := fun p hp => N p (by
  simp only [List.mem_cons] at hp ⊢
  rcases hp with h | h | h | h | h | h | h | h | h <;> simp only [h, true_or, or_true])
theorem pmI {g h : Heap} {L : Addr} {d1 e1 fl lL lf lg nN rl : Addr × Obj} {own : List (Addr × Obj)} (N : News g L h (fl :: lg :: nN :: lf :: lL :: rl :: e1 :: d1 :: own)) : News g L h (lg :: nN :: lf :: lL :: rl :: e1 :: d1 :: own) := fun p hp => N p (by
  simp only [List.mem_cons] at hp ⊢
  rcases hp with h | h | h | h | h | h | h | h <;> simp only [h, true_or, or_true])
theorem pmJ {g h : Heap} {L : Addr} {d1 e1 fl lL lf lg nN rl : Addr × Obj} {own : List (Addr × Obj)} (N : News g L h (fl :: lg :: nN :: lf :: lL :: rl :: e1 :: d1 :: own)) : News g L h (lf :: fl :: lL :: lg :: nN :: rl :: e1 :: d1 :: own) := fun p hp => N p (by
  simp only [List.mem_cons] at hp ⊢
  rcases hp with h | h | h | h | h | h | h | h | h <;> simp only [h, true_or, or_true])
theorem pmK {g h : Heap} {L : Addr} {d1 e1 fl lL lf lg nN rl : Addr × Obj} {own : List (Addr × Obj)} (N : News g L h (lf :: fl :: lL :: lg :: nN :: rl :: e1 :: d1 :: own)) : News g L h (rl :: fl :: lf :: lL :: lg :: nN :: e1 :: d1 :: own) := fun p hp => N p (by
  simp only [List.mem_cons] at hp ⊢
  rcases hp with h | h | h | h | h | h | h | h | h <;> simp only [h, true_or, or_true])
theorem pmL {g h : Heap} {L : Addr} {d1 e1 fl lL lf lg nN rl : Addr × Obj} {own : List (Addr × Obj)} (N : News g L h (rl :: fl :: lf :: lL :: lg :: nN :: e1 :: d1 :: own)) : News g L h (lg :: nN :: lf :: lL :: rl :: e1 :: d1 :: own) := fun p hp => N p (by
  simp only [List.mem_cons] at hp ⊢
  rcases hp with h | h | h | h | h | h | h | h <;> simp only [h, true_or, or_true])

theorem fr_out {g h : Heap} {L : Addr} {m : Str → Option Value} {x : Str} {v : Value} (F : Fr g L h (fun z => if z = x then some v else m z)) : ∃ m', Fr g L h m' ∧ m' x = some v ∧ ∀ z, z ≠ x → m' z = m z :=
  ⟨_, F, if_pos rfl, fun _ hz => if_neg hz⟩
theorem while_body : whileBody = [whileStmt 0, whileStmt 1, whileStmt 2, whileStmt 3, whileStmt 4, whileStmt 5, whileStmt 6, whileStmt 7, whileStmt 8] := rfl
def wNames : List Str := [Str.ofString "copy", Str.ofString "faults", Str.ofString "end", Str.ofString "scores", Str.ofString "due", Str.ofString "told"]
theorem ints_inv {ys : List Value} {j : Int} {js : List Int} (h : IntsAre ys (j :: js)) : ∃ t zs, ys = .int j t :: zs ∧ zs.length = js.length := by
  cases h with
  | cons n t r => exact ⟨t, _, rfl, r.length⟩
theorem while_turn {w : World} {g : Heap} {mean : ExcName → Option Value} {mg mb : Str → Option Value} {L fa : Addr} {cd : Value} {s : Shared} {m : Str → Option Value}
   {lg rl lf e1 d1 ua : Addr} {lv fv rv : List Value} {rows : List Row} {ln rn fn t1 t2 t3 t4 : Nat} {oL oN : Obj} {vN : Option Value} {own : List (Addr × Obj)} {Q : Flow → Shared → Prop}
   (C : CodeHd g 62 58) (X : (KK w).In g) (T : Top topProg looseL mean mg mb g) (B : Below callerA g [] g)
   (hlog : m (Str.ofString "log") = some (.ref lg)) (hone : m (Str.ofString "one") = some (.ref e1)) (hrules : m (Str.ofString "rules") = some (.ref rl))
   (F : Fr g L s.heap m) (N : News g L s.heap ((lg, listOf lv.toArray ln) :: (L + 1 + 1, oN) :: (lf, listOf fv.toArray fn) :: (L + 1, oL) :: (rl, listOf rv.toArray rn) :: (e1, instObj 52 d1) :: (d1, dictOf (oneEs w t1 t2 t3 t4 ua rl) 4) :: own))
   (dN : oN.data = .cell vN) (dL : oL.data = .cell (some (.ref lf))) (hlen : (fv.length : Int) ≤ 63) (hT : Paired (TupAt own) fv rows)
   (hsz : lv.toArray.size ≤ sizeLine) (hoff : ∀ p ∈ own, p.1 ≠ lg ∧ p.1 ≠ L + 1 + 1 ∧ p.1 ≠ lf ∧ p.1 ≠ rl)
   (hord : @LT.lt Nat _ (L + 1 + 1) lg ∧ @LT.lt Nat _ lg lf ∧ @LT.lt Nat _ lf d1 ∧ @LT.lt Nat _ d1 e1 ∧ @LT.lt Nat _ e1 rl) (hR : Paired (RuleAt w mg reachParams reachBody reachScope ruleScope own lg) rv rows) (hrow : ∀ r ∈ rows, 0 ≤ r.kind ∧ r.kind ≤ 5 ∧ 1 ≤ r.reach ∧ r.reach ≤ 3)
   (hbrk : ∀ h' tk (lv' : List Value) k' m' oN' vN', lv'.toArray.size ≤ sizeLine → (∀ z, z ∉ wNames → m' z = m z) → oN'.data = .cell vN' → Fr g L h' m' →
     News g L h' ((lg, listOf lv'.toArray k') :: (L + 1 + 1, oN') :: (lf, listOf fv.toArray fn) :: (L + 1, oL) :: (rl, listOf rv.toArray rn) :: (e1, instObj 52 d1) :: (d1, dictOf (oneEs w t1 t2 t3 t4 ua rl) 4) :: own) → Q .brk { s with heap := h', toks := tk })
   (hnext : ∀ h' tk (lv' : List Value) k' m' oN' vN' j fn' rn', j < rows.length → lv'.toArray.size ≤ sizeLine → (∀ z, z ∉ wNames → m' z = m z) → oN'.data = .cell vN' → Fr g L h' m' →
     News g L h' ((lg, listOf lv'.toArray k') :: (L + 1 + 1, oN') :: (lf, listOf (fv.eraseIdx j).toArray fn') :: (L + 1, oL) :: (rl, listOf (rv.eraseIdx j).toArray rn') :: (e1, instObj 52 d1) :: (d1, dictOf (oneEs w t1 t2 t3 t4 ua rl) 4) :: own) → Q .next { s with heap := h', toks := tk }) :
   wpAny (model P w) (A1 lawScope L fa cd) (execs whileBody (envL lawScope L fa cd)) Q (fun _ _ => False) s := by
  obtain ⟨o1, o2, o3, o4, o5⟩ := hord
  have hlr := hT.length
  have hrr := hR.length
  have hrlen : (rv.length : Int) ≤ 63 := by omega
  have hrs : rv.toArray.size ≤ sizeLine := by rw [List.size_toArray]; unfold sizeLine; omega
  rw [while_body]
  refine wpAny_execs_cons (copy_stmt rfl rfl X T B hrules hrs F (pmA N) ?_)
  intro h1 tk1 cp kc F1 N1 hcp
  obtain ⟨m1, F1, a1, b1⟩ := fr_out F1
  refine wpAny_execs_cons (faults_stmt rfl rfl X T B F1 (pmB N1) dL hlen (hT.mono fun a b h => TupAt.mono (fun _ hp => .tail _ (.tail _ (.tail _ (.tail _ (.tail _ (.tail _ hp)))))) h) ?_)
  intro h2 tk2 fl kf ys hys F2 N2 hfl
  obtain ⟨m2, F2, a2, b2⟩ := fr_out F2
  rw [hlr] at hys
  have hflo : ∀ p ∈ own, p.1 < fl := fun p hp => hfl p (.tail _ (.tail _ (.tail _ (.tail _ (.tail _ (.tail _ (.tail _ (.tail _ hp))))))))
  have hcpo : ∀ p ∈ own, p.1 < cp := fun p hp => hcp p (.tail _ (.tail _ (.tail _ (.tail _ (.tail _ (.tail _ (.tail _ hp)))))))
  have q1 : @LT.lt Nat _ rl cp := hcp _ (.head _)
  have q2 : @LT.lt Nat _ cp fl := hfl _ (.tail _ (.tail _ (.head _)))
  have hoffN : ∀ p ∈ (lf, listOf fv.toArray fn) :: (L + 1, oL) :: (rl, listOf rv.toArray rn) :: (cp, listOf rv.toArray kc) :: (e1, instObj 52 d1) :: (d1, dictOf (oneEs w t1 t2 t3 t4 ua rl) 4) :: (fl, listOf ys.toArray kf) :: own, p.1 ≠ lg ∧ p.1 ≠ L + 1 + 1 := fun p hp => by
    have l0 : @LT.lt Nat _ (L + 1) (L + 1 + 1) := Nat.lt_succ_self _
    rcases List.mem_cons.mp hp with rfl | hp
    · exact ⟨Nat.ne_of_gt o2, Nat.ne_of_gt (Nat.lt_trans o1 o2)⟩
    rcases List.mem_cons.mp hp with rfl | hp
    · exact ⟨Nat.ne_of_lt (Nat.lt_trans l0 o1), Nat.ne_of_lt l0⟩
    have u1 : @LT.lt Nat _ lg d1 := Nat.lt_trans o2 o3
    have u2 : @LT.lt Nat _ lg e1 := Nat.lt_trans u1 o4
    have u3 : @LT.lt Nat _ lg rl := Nat.lt_trans u2 o5
    have u4 : @LT.lt Nat _ lg cp := Nat.lt_trans u3 q1
    rcases List.mem_cons.mp hp with rfl | hp
    · exact ⟨Nat.ne_of_gt u3, Nat.ne_of_gt (Nat.lt_trans o1 u3)⟩
    rcases List.mem_cons.mp hp with rfl | hp
    · exact ⟨Nat.ne_of_gt u4, Nat.ne_of_gt (Nat.lt_trans o1 u4)⟩
    rcases List.mem_cons.mp hp with rfl | hp
    · exact ⟨Nat.ne_of_gt u2, Nat.ne_of_gt (Nat.lt_trans o1 u2)⟩
    rcases List.mem_cons.mp hp with rfl | hp
    · exact ⟨Nat.ne_of_gt u1, Nat.ne_of_gt (Nat.lt_trans o1 u1)⟩
    rcases List.mem_cons.mp hp with rfl | hp
    · exact ⟨Nat.ne_of_gt (Nat.lt_trans u4 q2), Nat.ne_of_gt (Nat.lt_trans o1 (Nat.lt_trans u4 q2))⟩
    · exact ⟨(hoff p hp).1, (hoff p hp).2.1⟩
  have hT' : Paired (TupAt ((fl, listOf ys.toArray kf) :: own)) fv rows := hT.mono fun a b h => TupAt.mono (fun _ hp => .tail _ hp) h
  have hR' : Paired (RuleAt w mg reachParams reachBody reachScope ruleScope ((fl, listOf ys.toArray kf) :: own) lg) rv rows := hR.mono fun a b h => RuleAt.mono (fun _ hp => .tail _ hp) h
  have hord' : @LT.lt Nat _ (lg) (d1) ∧ @LT.lt Nat _ (d1) (e1) ∧ @LT.lt Nat _ (e1) (rl) := ⟨Nat.lt_trans o2 o3, o4, o5⟩
  have hT3 : Paired (TupAt ((fl, listOf ys.toArray kf) :: (cp, listOf rv.toArray kc) :: (rl, listOf rv.toArray rn) :: (lg, listOf lv.toArray ln) :: (L + 1 + 1, oN) :: (e1, instObj 52 d1) :: (d1, dictOf (oneEs w t1 t2 t3 t4 ua rl) 4) :: own)) fv rows := hT.mono fun a b h => TupAt.mono (fun _ hp => .tail _ (.tail _ (.tail _ (.tail _ (.tail _ (.tail _ (.tail _ hp))))))) h
  rcases split_rows rows with hall | ⟨pre, r, post, hrows, hpre, hr⟩
  · rw [faults_none hall] at hys
    cases hys
    refine wpAny_execs_cons (end_none rfl rfl X T B a2 F2 N2 dL hlen ?_)
    intro h3 tk3 te F3 N3
    obtain ⟨m3, F3, a3, b3⟩ := fr_out F3
    refine wpAny_execs_cons (scores_stmt rfl rfl X T B F3 (pmC N3) dL hlen hT3 ?_)
    intro h4 tk4 sl ks sv hsv F4 N4 _
    obtain ⟨m4, F4, a4, b4⟩ := fr_out F4
    have hsl := scoresTo_len rows rows.length
    have hsl2 := hsv.length
    refine wpAny_execs_cons (due_none rfl rfl X T B ((b4 _ (by decide)).trans ((b3 _ (by decide)).trans a2)) a4 hsv (by omega) (by rw [List.size_toArray]; unfold sizeLine; omega) F4 (pmD N4) ?_)
    intro h5 tk5 M hM1 hM2 F5 N5
    obtain ⟨m5, F5, a5, b5⟩ := fr_out F5
    have old : ∀ z, z ∉ wNames → m5 z = m z := fun z hz => by
      simp only [wNames, List.mem_cons, List.not_mem_nil, or_false, not_or] at hz
      rw [b5 z hz.2.2.2.2.1, b4 z hz.2.2.2.1, b3 z hz.2.2.1, b2 z hz.2.1, b1 z hz.1]
    refine wpAny_execs_cons (names_stmt (en := fv.length) (te := te) (dv := .bool (M.fmod 2 == 1)) rfl rfl C X T B ((old _ (by decide)).trans hlog) ((old _ (by decide)).trans hone) ((old _ (by decide)).trans hrules)
      ((b5 _ (by decide)).trans ((b4 _ (by decide)).trans ((b3 _ (by decide)).trans ((b2 _ (by decide)).trans a1)))) ((b5 _ (by decide)).trans ((b4 _ (by decide)).trans a3)) a5 F5 (pmF N5) dN dL hlen hT' hsz hoffN o1 hord' hR' hrow hrlen (Nat.le_refl _) ?_ ?_)
    · rw [hlr]
      exact plain_good hall (fun r hr => ⟨(hrow r hr).1, (hrow r hr).2.2.1⟩) hM1 hM2
    intro h6 tk6 lv6 k6 m6 oN6 vN6 hsz6 b6 dN6 F6 N6
    refine wpAny_execs_cons (break_none rfl rfl X T B ((b6 _ (by decide)).trans ((b5 _ (by decide)).trans ((b4 _ (by decide)).trans ((b3 _ (by decide)).trans a2)))) F6 (pmH N6) ?_)
    intro h7 tk7 F7 N7
    exact hbrk h7 tk7 lv6 k6 m6 oN6 vN6 hsz6 (fun z hz => (b6 z (by
      simp only [wNames, List.mem_cons, List.not_mem_nil, or_false, not_or] at hz
      exact hz.2.2.2.2.2)).trans (old z hz)) dN6 F7 (pmI N7)
  · subst hrows
    obtain ⟨js, hjs⟩ := faults_some (post := post) hpre hr
    have hjlen : js.length + 1 ≤ (pre ++ r :: post).length := by
      have := faultsTo_len (pre ++ r :: post) (pre ++ r :: post).length
      rw [hjs] at this
      exact this
    rw [hjs] at hys
    obtain ⟨tj, zs, rfl, hzl⟩ := ints_inv hys
    have hyl : (zs.length : Int) ≤ 63 := by omega
    have hpl : pre.length < (pre ++ r :: post).length := by simp
    have hget : (pre ++ r :: post)[pre.length]? = some r := by rw [List.getElem?_append_right (Nat.le_refl _), Nat.sub_self]; rfl
    refine wpAny_execs_cons (end_some rfl rfl X T B a2 hys hyl F2 N2 ?_)
    intro h3 tk3 te F3 N3
    obtain ⟨m3, F3, a3, b3⟩ := fr_out F3
    refine wpAny_execs_cons (scores_stmt rfl rfl X T B F3 (pmC N3) dL hlen hT3 ?_)
    intro h4 tk4 sl ks sv hsv F4 N4 _
    obtain ⟨m4, F4, a4, b4⟩ := fr_out F4
    refine wpAny_execs_cons (due_some (r := r) rfl rfl X T B ((b4 _ (by decide)).trans ((b3 _ (by decide)).trans a2)) hys hyl F4 (pmE N4) dL hlen (hT.mono fun a b h => TupAt.mono (fun _ hp => .tail _ (.tail _ (.tail _ (.tail _ (.tail _ (.tail _ (.tail _ hp))))))) h) hget ?_)
    intro h5 tk5 td F5 N5
    obtain ⟨m5, F5, a5, b5⟩ := fr_out F5
    have old : ∀ z, z ∉ wNames → m5 z = m z := fun z hz => by
      simp only [wNames, List.mem_cons, List.not_mem_nil, or_false, not_or] at hz
      rw [b5 z hz.2.2.2.2.1, b4 z hz.2.2.2.1, b3 z hz.2.2.1, b2 z hz.2.1, b1 z hz.1]
    refine wpAny_execs_cons (names_stmt (en := pre.length + 1) (te := te) (dv := .int r.kind td) rfl rfl C X T B ((old _ (by decide)).trans hlog) ((old _ (by decide)).trans hone) ((old _ (by decide)).trans hrules)
      ((b5 _ (by decide)).trans ((b4 _ (by decide)).trans ((b3 _ (by decide)).trans ((b2 _ (by decide)).trans a1)))) ((b5 _ (by decide)).trans ((b4 _ (by decide)).trans a3)) a5 F5 (pmG N5) dN dL hlen hT' hsz hoffN o1 hord' hR' hrow hrlen (by omega) (plain_fault hpre hr) ?_)
    intro h6 tk6 lv6 k6 m6 oN6 vN6 hsz6 b6 dN6 F6 N6
    have f6 : m6 (Str.ofString "faults") = some (.ref fl) := (b6 _ (by decide)).trans ((b5 _ (by decide)).trans ((b4 _ (by decide)).trans ((b3 _ (by decide)).trans a2)))
    have old6 : ∀ z, z ∉ wNames → m6 z = m z := fun z hz => (b6 z (by
      simp only [wNames, List.mem_cons, List.not_mem_nil, or_false, not_or] at hz
      exact hz.2.2.2.2.2)).trans (old z hz)
    refine wpAny_execs_cons (break_some rfl rfl X T B f6 hys hyl F6 (pmH N6) ?_)
    intro h7 tk7 F7 N7
    refine wpAny_execs_cons (del_left rfl rfl X T B f6 hys hyl F7 (pmJ N7) dL hlen (by omega) ?_ ?_)
    · have l0 : @LT.lt Nat _ (L + 1) (L + 1 + 1) := Nat.lt_succ_self _
      intro p hp
      rcases List.mem_cons.mp hp with rfl | hp
      · exact Nat.ne_of_gt (Nat.lt_trans o3 (Nat.lt_trans o4 (Nat.lt_trans o5 (Nat.lt_trans q1 q2))))
      rcases List.mem_cons.mp hp with rfl | hp
      · exact Nat.ne_of_lt (Nat.lt_trans l0 (Nat.lt_trans o1 o2))
      rcases List.mem_cons.mp hp with rfl | hp
      · exact Nat.ne_of_lt o2
      rcases List.mem_cons.mp hp with rfl | hp
      · exact Nat.ne_of_lt (Nat.lt_trans o1 o2)
      rcases List.mem_cons.mp hp with rfl | hp
      · exact Nat.ne_of_gt (Nat.lt_trans o3 (Nat.lt_trans o4 o5))
      rcases List.mem_cons.mp hp with rfl | hp
      · exact Nat.ne_of_gt (Nat.lt_trans o3 o4)
      rcases List.mem_cons.mp hp with rfl | hp
      · exact Nat.ne_of_gt o3
      · exact (hoff p hp).2.2.1
    intro h8 tk8 k8 F8 N8
    refine wpAny_execs_cons (del_rules rfl rfl X T B ((old6 _ (by decide)).trans hrules) f6 hys hyl F8 (pmK N8) hrlen (by omega) ?_ ?_)
    · have l0 : @LT.lt Nat _ (L + 1) (L + 1 + 1) := Nat.lt_succ_self _
      have u3 : @LT.lt Nat _ lf rl := Nat.lt_trans o3 (Nat.lt_trans o4 o5)
      have u2 : @LT.lt Nat _ lg rl := Nat.lt_trans o2 u3
      intro p hp
      rcases List.mem_cons.mp hp with rfl | hp
      · exact Nat.ne_of_gt (Nat.lt_trans q1 q2)
      rcases List.mem_cons.mp hp with rfl | hp
      · exact Nat.ne_of_lt u3
      rcases List.mem_cons.mp hp with rfl | hp
      · exact Nat.ne_of_lt (Nat.lt_trans l0 (Nat.lt_trans o1 u2))
      rcases List.mem_cons.mp hp with rfl | hp
      · exact Nat.ne_of_lt u2
      rcases List.mem_cons.mp hp with rfl | hp
      · exact Nat.ne_of_lt (Nat.lt_trans o1 u2)
      rcases List.mem_cons.mp hp with rfl | hp
      · exact Nat.ne_of_lt o5
      rcases List.mem_cons.mp hp with rfl | hp
      · exact Nat.ne_of_lt (Nat.lt_trans o4 o5)
      · exact (hoff p hp).2.2.2
    intro h9 tk9 k9 F9 N9
    exact wpAny_execs_nil (hnext h9 tk9 lv6 k6 m6 oN6 vN6 pre.length k8 k9 hpl hsz6 old6 dN6 F9 (pmL N9))
end Mine
end

section
theorem Mine.freshWhileS : True := by w_top off; trivial
open PySem PySem.W PyProof.Rows PySem.Calls PyProof.V PySem.Spec
set_option Elab.async false
set_option maxRecDepth 100000
set_option maxHeartbeats 800000
namespace Mine
def outerStmt (n : Nat) : Stmt := (outerBody[n]?).getD (.Pass default)
def whileTest : Expr := match outerStmt 5 with | .While t _ _ _ => t | _ => .Name default default
def whilePos : Pos := match outerStmt 5 with | .While _ _ _ p => p | _ => default
theorem while_shape : outerStmt 5 = .While whileTest whileBody [] whilePos := rfl
theorem test_true {w : World} {A : Around} {env : Env} {s : Shared} {Q : Bool → Shared → Prop} {E : Value → Shared → Prop} (h : Q true s) : wpAny (model P w) A (isTrue whileTest env (eval whileTest env)) Q E s := by
  generalize ht : whileTest = t
  conv at ht => lhs; whnf
  subst ht
  k_steps
  exact h
theorem while_stmt {w : World} {g : Heap} {mean : ExcName → Option Value} {mg mb : Str → Option Value} {L fa : Addr} {cd : Value} {s : Shared} {m : Str → Option Value}
   {lg rl lf e1 d1 ua : Addr} {lv fv rv : List Value} {rows : List Row} {ln rn fn t1 t2 t3 t4 : Nat} {oL oN : Obj} {vN : Option Value} {own : List (Addr × Obj)} {Q : Flow → Shared → Prop}
   (C : CodeHd g 62 58) (X : (KK w).In g) (T : Top topProg looseL mean mg mb g) (B : Below callerA g [] g)
   (hlog : m (Str.ofString "log") = some (.ref lg)) (hone : m (Str.ofString "one") = some (.ref e1)) (hrules : m (Str.ofString "rules") = some (.ref rl))
   (F : Fr g L s.heap m) (N : News g L s.heap ((lg, listOf lv.toArray ln) :: (L + 1 + 1, oN) :: (lf, listOf fv.toArray fn) :: (L + 1, oL) :: (rl, listOf rv.toArray rn) :: (e1, instObj 52 d1) :: (d1, dictOf (oneEs w t1 t2 t3 t4 ua rl) 4) :: own))
   (dN : oN.data = .cell vN) (dL : oL.data = .cell (some (.ref lf))) (hlen : (fv.length : Int) ≤ 63) (hT : Paired (TupAt own) fv rows)
   (hsz : lv.toArray.size ≤ sizeLine) (hoff : ∀ p ∈ own, p.1 ≠ lg ∧ p.1 ≠ L + 1 + 1 ∧ p.1 ≠ lf ∧ p.1 ≠ rl)
   (hord : @LT.lt Nat _ (L + 1 + 1) lg ∧ @LT.lt Nat _ lg lf ∧ @LT.lt Nat _ lf d1 ∧ @LT.lt Nat _ d1 e1 ∧ @LT.lt Nat _ e1 rl) (hR : Paired (RuleAt w mg reachParams reachBody reachScope ruleScope own lg) rv rows) (hrow : ∀ r ∈ rows, 0 ≤ r.kind ∧ r.kind ≤ 5 ∧ 1 ≤ r.reach ∧ r.reach ≤ 3)
   (hQ : ∀ h' tk m' oN' vN', (∀ z, z ∉ wNames → m' z = m z) → oN'.data = .cell vN' → Fr g L h' m' → News g L h' ((L + 1 + 1, oN') :: (L + 1, oL) :: own) → Q .next { s with heap := h', toks := tk }) :
   wpAny (model P w) (A1 lawScope L fa cd) (exec (outerStmt 5) (envL lawScope L fa cd)) Q (fun _ _ => False) s := by
  rw [while_shape]
  refine While_inv2 (h₀ := g) (L := L) (n₀ := rows.length) (fun n m₁ nx => ∃ (rows : List Row) (lv fv rv : List Value) (ln fn rn : Nat) (oN : Obj) (vN : Option Value), rows.length = n ∧ (∀ z, z ∉ wNames → m₁ z = m z) ∧ oN.data = .cell vN ∧ (fv.length : Int) ≤ 63 ∧ Paired (TupAt own) fv rows ∧
    lv.toArray.size ≤ sizeLine ∧ Paired (RuleAt w mg reachParams reachBody reachScope ruleScope own lg) rv rows ∧ (∀ r ∈ rows, 0 ≤ r.kind ∧ r.kind ≤ 5 ∧ 1 ≤ r.reach ∧ r.reach ≤ 3) ∧ nx = (lg, listOf lv.toArray ln) :: (L + 1 + 1, oN) :: (lf, listOf fv.toArray fn) :: (L + 1, oL) :: (rl, listOf rv.toArray rn) :: (e1, instObj 52 d1) :: (d1, dictOf (oneEs w t1 t2 t3 t4 ua rl) 4) :: own) F N
    ⟨rows, lv, fv, rv, ln, fn, rn, oN, vN, rfl, fun _ _ => rfl, dN, hlen, hT, hsz, hR, hrow, rfl⟩ ?_ (hE := PassesOwn.never)
  intro n m₁ nx h₁ tk₁ F₁ N₁ hJ
  obtain ⟨rows, lv, fv, rv, ln, fn, rn, oN, vN, rfl, hm, dN, hlen, hT, hsz, hR, hrow, rfl⟩ := hJ
  refine test_true ?_
  rw [if_pos rfl]
  refine while_turn (vN := vN) C X T B ((hm _ (by decide)).trans hlog) ((hm _ (by decide)).trans hone) ((hm _ (by decide)).trans hrules) F₁ N₁ dN dL hlen hT hsz hoff hord hR hrow ?_ ?_
  · intro h' tk lv' k' m' oN' vN' _ hm' dN' F' N'
    exact hQ h' tk m' oN' vN' (fun z hz => (hm' z hz).trans (hm z hz)) dN' F' (fun p hp => N' p (by
      simp only [List.mem_cons] at hp ⊢
      rcases hp with h | h | h <;> simp only [h, true_or, or_true]))
  · intro h' tk lv' k' m' oN' vN' j fn' rn' hj hsz' hm' dN' F' N'
    refine ⟨h', tk, m', _, (rows.eraseIdx j).length, rfl, F', N', ?_, rows.eraseIdx j, lv', fv.eraseIdx j, rv.eraseIdx j, k', fn', rn', oN', vN', rfl, fun z hz => (hm' z hz).trans (hm z hz), dN', ?_, paired_erase hT j, hsz', paired_erase hR j, fun r hr => hrow r (List.mem_of_mem_eraseIdx hr), rfl⟩
    · rw [List.length_eraseIdx_of_lt hj]; omega
    · have h1 : (fv.eraseIdx j).length ≤ fv.length := List.length_eraseIdx_le _ _
      omega
end Mine
end

section
theorem Mine.freshBuildS : True := by w_top off; trivial
open PySem PySem.W PyProof.Rows PySem.Calls PyProof.V PySem.Spec
set_option Elab.async false
set_option maxRecDepth 100000
set_option maxHeartbeats 800000
namespace Mine
theorem tab_turn {w : World} {g : Heap} {mean : ExcName → Option Value} {mg mb : Str → Option Value} {sc : Scope} {L fa : Addr} {cd : Value} {b : List Stmt} {s : Shared}
   {lg lf rl e1 d1 D ua : Addr} {fv rv ws : List Value} {ns : List Int} {fn rn t1 t2 t3 t4 : Nat} {oN oL : Obj} {vN : Option Value} {tab : Array Value} {own ownC : List (Addr × Obj)} {u : Str → Option Value} {t tp : Tok} {st pl : Int} {Q : Flow → Shared → Prop}
   (hsc : lawScope = sc) (hb : buildBody = b) (C : CodeHd g 62 58) (X : (KK w).In g) (T : Top topProg looseL mean mg mb g) (B : Below callerA g [] g)
   (F : Fr g L s.heap (fun y => if y = Str.ofString "place" then some (.int pl tp) else if y = Str.ofString "one" then some (.ref e1) else if y = Str.ofString "log" then some (.ref lg) else if y = Str.ofString "start" then some (.int st t) else if y = Str.ofString "script" then some (.ref D) else u y))
   (N : News g L s.heap ((lg, listOf #[] 0) :: (rl, listOf rv.toArray rn) :: (lf, listOf fv.toArray fn) :: (L + 1 + 1, oN) :: (L + 1, oL) :: (e1, instObj 52 d1) :: (d1, dictOf (oneEs w t1 t2 t3 t4 ua rl) 4) :: (D, listOf ws.toArray 0) :: (58, tabObj tab) :: own))
   (dN : oN.data = .cell vN) (dL : oL.data = .cell (some (.ref lf))) (hO : OwnOff own [lg, rl, lf, L + 1 + 1, L + 1, e1, d1, D, 58]) (hTab : TabSt ruleScope tab ownC) (hsub : ∀ p ∈ ownC, p ∈ own)
   (hd1 : @LT.lt Nat _ (58) (L) ∧ @LT.lt Nat _ (L + 1 + 1) (D) ∧ @LT.lt Nat _ (D) (lg) ∧ @LT.lt Nat _ (lg) (lf) ∧ @LT.lt Nat _ (lf) (d1) ∧ @LT.lt Nat _ (d1) (e1) ∧ @LT.lt Nat _ (e1) (ua) ∧ @LT.lt Nat _ (ua) (rl))
   (hz1 : fv.toArray.size ≤ sizeLine) (hz2 : rv.toArray.size ≤ sizeLine) (hI : IntsAre ws ns) (hp0 : 0 ≤ pl) (hp1 : pl < (ns.length : Int)) (hns : (ns.length : Int) ≤ 63)
   (hQ : ∀ h' tk tx v tA new tab', Fr g L h' (fun y => if y = Str.ofString "x" then some (.int (ns.getD pl.toNat 0) tx) else if y = Str.ofString "place" then some (.int pl tp) else if y = Str.ofString "one" then some (.ref e1) else if y = Str.ofString "log" then some (.ref lg) else if y = Str.ofString "start" then some (.int st t) else if y = Str.ofString "script" then some (.ref D) else u y) →
      News g L h' ((lg, listOf #[] 0) :: (rl, listOf (rv.toArray.push v) (rn + 1)) :: (lf, listOf (fv.toArray.push (.ref tA)) (fn + 1)) :: (L + 1 + 1, oN) :: (L + 1, oL) :: (e1, instObj 52 d1) :: (d1, dictOf (oneEs w t1 t2 t3 t4 ua rl) 4) :: (D, listOf ws.toArray 0) :: (58, tabObj tab') :: (new ++ own)) →
      RuleAt w mg reachParams reachBody reachScope ruleScope (new ++ ownC) lg v (rowOf pl (ns.getD pl.toNat 0)) → TupAt (new ++ ownC) (.ref tA) (rowOf pl (ns.getD pl.toNat 0)) → TabSt ruleScope tab' (new ++ ownC) →
      (∀ q ∈ new, @LT.lt Nat _ rl q.1 ∧ ∀ p ∈ own, p.1 < q.1) → Q .next { s with heap := h', toks := tk }) :
   wpAny (model P w) (A1 sc L fa cd) (execs b (envL sc L fa cd)) Q (fun _ _ => False) s := by
  rcases hTab with rfl | ⟨c, oc, vc, tq, rfl, h2, h3, h4⟩
  · exact build_miss hsc hb C X T B F N dN dL hO hd1 hz1 hz2 hI hp0 hp1 hns hQ
  · exact build_hit hsc hb C X T B F N dN dL hO hd1 (hsub _ h2) h2 h3 h4 hz1 hz2 hI hp0 hp1 hns hQ
theorem row_ok (p x : Int) : 0 ≤ (rowOf p x).kind ∧ (rowOf p x).kind ≤ 5 ∧ 1 ≤ (rowOf p x).reach ∧ (rowOf p x).reach ≤ 3 := by
  have h1 := Int.fmod_nonneg_of_pos x (b := 6) (by decide)
  have h2 := Int.fmod_lt_of_pos x (b := 6) (by decide)
  have h3 := Int.fmod_nonneg_of_pos (x.fdiv 6) (b := 3) (by decide)
  have h4 := Int.fmod_lt_of_pos (x.fdiv 6) (b := 3) (by decide)
  show 0 ≤ x.fmod 6 ∧ x.fmod 6 ≤ 5 ∧ 1 ≤ (x.fdiv 6).fmod 3 + 1 ∧ (x.fdiv 6).fmod 3 + 1 ≤ 3
  omega
theorem midE {g h : Heap} {L : Addr} {E own own' : List (Addr × Obj)} (N : News g L h ((E ++ own) ++ own')) : News g L h (E ++ (own' ++ own)) := fun p hp => N p (by
  simp only [List.mem_append] at hp ⊢
  rcases hp with h | h | h <;> simp only [h, true_or, or_true])
local macro_rules | `(tactic| walk_at "no such step 0") => `(tactic| skip)
local macro_rules | `(tactic| walk_at "no such step 1") => `(tactic| skip)
local macro_rules | `(tactic| walk_at "no such step 2") => `(tactic| skip)
local macro_rules | `(tactic| walk_at "no such step 3") => `(tactic| skip)
local macro_rules | `(tactic| walk_at "no such step 4") => `(tactic| skip)
local macro_rules | `(tactic| walk_at "no such step 5") => `(tactic| skip)
local macro_rules | `(tactic| walk_at "no such step 6") => `(tactic| skip)
local macro_rules | `(tactic| walk_at "no such step 7") => `(tactic| skip)
local macro_rules | `(tactic| walk_at "no such step 8") => `(tactic| skip)
local macro_rules | `(tactic| walk_at "pyIter ref") => `(tactic| ((with_reducible show wpAny _ _ (pyIter (Value.ref _)) _ _ _); refine halt ?_))
theorem build_stmt {w : World} {g : Heap} {mean : ExcName → Option Value} {mg mb : Str → Option Value} {sc : Scope} {L fa : Addr} {cd : Value} {s : Shared} {m : Str → Option Value} {stm : Stmt}
   {lg lf rl e1 d1 D ua : Addr} {ws : List Value} {ns : List Int} {t1 t2 t3 t4 : Nat} {oN oL : Obj} {vN : Option Value} {tab : Array Value} {ex own : List (Addr × Obj)} {t : Tok} {st : Nat} {Q : Flow → Shared → Prop}
   (hsc : lawScope = sc) (hstm : outerStmt 3 = stm) (C : CodeHd g 62 58) (X : (KK w).In g) (T : Top topProg looseL mean mg mb g) (B : Below callerA g [] g)
   (hone : m (Str.ofString "one") = some (.ref e1)) (hlog : m (Str.ofString "log") = some (.ref lg)) (hst : m (Str.ofString "start") = some (.int (st : Int) t)) (hscr : m (Str.ofString "script") = some (.ref D))
   (F : Fr g L s.heap m)
   (N : News g L s.heap ((lg, listOf #[] 0) :: (rl, listOf #[] 0) :: (lf, listOf #[] 0) :: (L + 1 + 1, oN) :: (L + 1, oL) :: (e1, instObj 52 d1) :: (d1, dictOf (oneEs w t1 t2 t3 t4 ua rl) 4) :: (D, listOf ws.toArray 0) :: (58, tabObj tab) :: (ex ++ own)))
   (dN : oN.data = .cell vN) (dL : oL.data = .cell (some (.ref lf))) (hO : OwnOff (ex ++ own) [lg, rl, lf, L + 1 + 1, L + 1, e1, d1, D, 58]) (hex : ∀ p ∈ ex, ∀ q ∈ own, p.1 ≠ q.1) (hTab : TabSt ruleScope tab own)
   (hd1 : @LT.lt Nat _ (58) (L) ∧ @LT.lt Nat _ (L + 1 + 1) (D) ∧ @LT.lt Nat _ (D) (lg) ∧ @LT.lt Nat _ (lg) (lf) ∧ @LT.lt Nat _ (lf) (d1) ∧ @LT.lt Nat _ (d1) (e1) ∧ @LT.lt Nat _ (e1) (ua) ∧ @LT.lt Nat _ (ua) (rl))
   (hI : IntsAre ws ns) (hns : (ns.length : Int) ≤ 63) (hst63 : (st : Int) ≤ 63)
   (hQ : ∀ h' tk m' fv rv fn rn tab' own' (rows : List Row), (∀ z, z ≠ Str.ofString "x" → z ≠ Str.ofString "place" → m' z = m z) → Fr g L h' m' →
      News g L h' ((lg, listOf #[] 0) :: (rl, listOf rv.toArray rn) :: (lf, listOf fv.toArray fn) :: (L + 1 + 1, oN) :: (L + 1, oL) :: (e1, instObj 52 d1) :: (d1, dictOf (oneEs w t1 t2 t3 t4 ua rl) 4) :: (D, listOf ws.toArray 0) :: (58, tabObj tab') :: (ex ++ own')) →
      Paired (RuleAt w mg reachParams reachBody reachScope ruleScope own' lg) rv rows → Paired (TupAt own') fv rows → TabSt ruleScope tab' own' → (∀ p ∈ ex, ∀ q ∈ own', p.1 ≠ q.1) → OwnOff (ex ++ own') [lg, rl, lf, L + 1 + 1, L + 1, e1, d1, D, 58] → (∀ r ∈ rows, 0 ≤ r.kind ∧ r.kind ≤ 5 ∧ 1 ≤ r.reach ∧ r.reach ≤ 3) → (rows.length : Int) ≤ 63 →
      Q .next { s with heap := h', toks := tk }) :
   wpAny (model P w) (A1 sc L fa cd) (exec stm (envL sc L fa cd)) Q (fun _ _ => False) s := by
  dsimp only [KK, A1, envL, P] at X ⊢
  revert X
  k_fill
  intro X
  have hsc0 := hsc
  conv at hsc => lhs; whnf
  conv at hstm => lhs; whnf
  subst hsc hstm
  have em := over hone (over hlog (over hst (over hscr rfl)))
  have F := fr_eq em F
  k_steps
  refine (show wpAny _ _ _ _ _ _ from ?_)
  rename Fr _ _ _ _ => F1
  rename News _ _ _ _ => N1
  rename IsRange _ _ _ _ _ _ _ _ => hr
  have F1 := fr_eq em.symm F1
  generalize hbe : (if (ns.length : Int) < (st : Int) + 10 then (ns.length : Int) else (st : Int) + 10) = be at hr
  have hb1 : be ≤ (ns.length : Int) := by rw [← hbe]; split <;> omega
  have hb2 : be ≤ (st : Int) + 10 := by rw [← hbe]; split <;> omega
  have hb0 : 0 ≤ be := by rw [← hbe]; split <;> omega
  have hsize : Builtin.Range.rangeSize (st : Int) be 1 = (((be - st).toNat : Nat) : Int) := by
    unfold Builtin.Range.rangeSize
    rw [if_pos (by decide)]
    split
    · rw [Int.ediv_one]; omega
    · omega
  refine' range_loop (n := (be - st).toNat) (fun i m₁ nx => ∃ (fv rv : List Value) (fn rn : Nat) (tab : Array Value) (ownB : List (Addr × Obj)) (rows : List Row), (∀ z, z ≠ Str.ofString "x" → z ≠ Str.ofString "place" → m₁ z = m z) ∧
    nx = (lg, listOf #[] 0) :: (rl, listOf rv.toArray rn) :: (lf, listOf fv.toArray fn) :: (L + 1 + 1, oN) :: (L + 1, oL) :: (e1, instObj 52 d1) :: (d1, dictOf (oneEs w t1 t2 t3 t4 ua rl) 4) :: (D, listOf ws.toArray 0) :: (58, tabObj tab) :: (ex ++ ownB) ∧
    Paired (RuleAt w mg reachParams reachBody reachScope ruleScope ownB lg) rv rows ∧ Paired (TupAt ownB) fv rows ∧ TabSt ruleScope tab ownB ∧ (∀ p ∈ ex, ∀ q ∈ ownB, p.1 ≠ q.1) ∧ OwnOff (ex ++ ownB) [lg, rl, lf, L + 1 + 1, L + 1, e1, d1, D, 58] ∧ (∀ r ∈ rows, 0 ≤ r.kind ∧ r.kind ≤ 5 ∧ 1 ≤ r.reach ∧ r.reach ≤ 3) ∧ rows.length = i)
    ?z1 ?z2 ?z3 hsize ?z4 ?z5 ?z6 ?z7 ?z8
  case z1 => rfl
  case z2 => exact hr
  case z3 =>
    unfold Builtin.Range.small
    rw [hsize]
    simp [Builtin.Range.rangeFitsLong]
    omega
  case z4 => exact F1
  case z5 => exact N1
  case z6 => exact ⟨[], [], 0, 0, tab, own, [], fun _ _ _ => rfl, rfl, .nil, .nil, hTab, hex, hO, fun _ h => (nomatch h), rfl⟩
  case z8 =>
    intro m₁ nx h tk hJ F N
    obtain ⟨fv, rv, fn, rn, tab, ownB, rows, hm, rfl, h1, h2, h3, hx, h4, h5, h6⟩ := hJ
    exact hQ h tk m₁ fv rv fn rn tab ownB rows hm F N h1 h2 h3 hx h4 h5 (by omega)
  case z7 =>
    clear F1 N1 hr em F
    intro i ti m₁ nx h tk own' hi hoff hJ F N
    obtain ⟨fv, rv, fn, rn, tab, ownB, rows, hm, rfl, h1, h2, h3, hx, h4, h5, h6⟩ := hJ
    have hm' : ∀ z v, z ≠ Str.ofString "x" → z ≠ Str.ofString "place" → m z = some v → m₁ z = some v := fun z v a b e => (hm z a b).trans e
    have em := over (hm' _ _ (by decide) (by decide) hone) (over (hm' _ _ (by decide) (by decide) hlog) (over (hm' _ _ (by decide) (by decide) hst) (over (hm' _ _ (by decide) (by decide) hscr) rfl)))
    have F := fr_eq (congrArg (fun (q : Str → Option Value) => fun z => if z = Str.ofString "place" then some (Value.int ((st : Int) + (i : Int) * 1) ti) else q z) em) F
    have N := midE (E := [_, _, _, _, _, _, _, _, _]) N
    have l1 := h1.length
    have l2 := h2.length
    have hE : ∀ b ∈ [lg, rl, lf, L + 1 + 1, L + 1, e1, d1, D, 58], b ∈ List.map (fun x : Addr × Obj => x.1) ((lg, listOf #[] 0) :: (rl, listOf rv.toArray rn) :: (lf, listOf fv.toArray fn) :: (L + 1 + 1, oN) :: (L + 1, oL) :: (e1, instObj 52 d1) :: (d1, dictOf (oneEs w t1 t2 t3 t4 ua rl) 4) :: (D, listOf ws.toArray 0) :: (58, tabObj tab) :: (ex ++ ownB)) :=
      fun b hb => show b ∈ [lg, rl, lf, L + 1 + 1, L + 1, e1, d1, D, 58] ++ (ex ++ ownB).map (fun x : Addr × Obj => x.1) from List.mem_append_left _ hb
    refine tab_turn (ownC := ownB) hsc0 rfl C X T B (by exact F) (by exact N) dN dL ?_ h3 (fun p hp => List.mem_append_right _ (List.mem_append_right _ hp)) hd1 (by rw [List.size_toArray]; unfold sizeLine; omega) (by rw [List.size_toArray]; unfold sizeLine; omega) hI (by omega) (by omega) hns ?_
    · intro p hp b hb
      rcases List.mem_append.mp hp with hp | hp
      · exact hoff p hp b (hE b hb)
      · exact h4 p hp b hb
    intro h' tk' tx v tA new tab' F' N' r1 r2 r3 hnew
    rw [List.push_toArray, List.push_toArray] at N'
    obtain ⟨o1, o2, o3, o4, o5, o6, o7, o8⟩ := hd1
    have hup : ∀ b ∈ [lg, rl, lf, L + 1 + 1, L + 1, e1, d1, D, 58], @LE.le Nat _ b rl := by
      have p7 : @LT.lt Nat _ e1 rl := Nat.lt_trans o7 o8
      have p6 : @LT.lt Nat _ d1 rl := Nat.lt_trans o6 p7
      have p5 : @LT.lt Nat _ lf rl := Nat.lt_trans o5 p6
      have p4 : @LT.lt Nat _ lg rl := Nat.lt_trans o4 p5
      have p3 : @LT.lt Nat _ D rl := Nat.lt_trans o3 p4
      have p2 : @LT.lt Nat _ (L + 1 + 1) rl := Nat.lt_trans o2 p3
      have p1 : @LT.lt Nat _ (L + 1) rl := Nat.lt_trans (Nat.lt_succ_self _) p2
      have p0 : @LT.lt Nat _ 58 rl := Nat.lt_trans o1 (Nat.lt_trans (Nat.lt_succ_self _) p1)
      intro b hb
      simp only [List.mem_cons, List.not_mem_nil, or_false] at hb
      rcases hb with rfl | rfl | rfl | rfl | rfl | rfl | rfl | rfl | rfl
      · exact Nat.le_of_lt p4
      · exact Nat.le_refl _
      · exact Nat.le_of_lt p5
      · exact Nat.le_of_lt p2
      · exact Nat.le_of_lt p1
      · exact Nat.le_of_lt p7
      · exact Nat.le_of_lt p6
      · exact Nat.le_of_lt p3
      · exact Nat.le_of_lt p0
    have hj : ∃ (fv' rv' : List Value) (fn' rn' : Nat) (tab'' : Array Value) (ownB' : List (Addr × Obj)) (rows' : List Row), (∀ z, z ≠ Str.ofString "x" → z ≠ Str.ofString "place" → (fun y => if y = Str.ofString "x" then some (.int (ns.getD ((st : Int) + (i : Int) * 1).toNat 0) tx) else if y = Str.ofString "place" then some (.int ((st : Int) + (i : Int) * 1) ti) else if y = Str.ofString "one" then some (.ref e1) else if y = Str.ofString "log" then some (.ref lg) else if y = Str.ofString "start" then some (.int (st : Int) t) else if y = Str.ofString "script" then some (.ref D) else m₁ y : Str → Option Value) z = m z) ∧
        ((lg, listOf #[] 0) :: (rl, listOf (rv ++ [v]).toArray (rn + 1)) :: (lf, listOf (fv ++ [Value.ref tA]).toArray (fn + 1)) :: (L + 1 + 1, oN) :: (L + 1, oL) :: (e1, instObj 52 d1) :: (d1, dictOf (oneEs w t1 t2 t3 t4 ua rl) 4) :: (D, listOf ws.toArray 0) :: (58, tabObj tab') :: (ex ++ (new ++ ownB))) =
          (lg, listOf #[] 0) :: (rl, listOf rv'.toArray rn') :: (lf, listOf fv'.toArray fn') :: (L + 1 + 1, oN) :: (L + 1, oL) :: (e1, instObj 52 d1) :: (d1, dictOf (oneEs w t1 t2 t3 t4 ua rl) 4) :: (D, listOf ws.toArray 0) :: (58, tabObj tab'') :: (ex ++ ownB') ∧
        Paired (RuleAt w mg reachParams reachBody reachScope ruleScope ownB' lg) rv' rows' ∧ Paired (TupAt ownB') fv' rows' ∧ TabSt ruleScope tab'' ownB' ∧ (∀ p ∈ ex, ∀ q ∈ ownB', p.1 ≠ q.1) ∧ OwnOff (ex ++ ownB') [lg, rl, lf, L + 1 + 1, L + 1, e1, d1, D, 58] ∧ (∀ r ∈ rows', 0 ≤ r.kind ∧ r.kind ≤ 5 ∧ 1 ≤ r.reach ∧ r.reach ≤ 3) ∧ rows'.length = i + 1 := by
      refine ⟨fv ++ [Value.ref tA], rv ++ [v], fn + 1, rn + 1, tab', new ++ ownB, rows ++ [rowOf _ _], fun z hz1 hz2 => ?_, rfl, (h1.mono fun a b h => RuleAt.mono (fun _ hp => List.mem_append_right _ hp) h).snoc r1, (h2.mono fun a b h => TupAt.mono (fun _ hp => List.mem_append_right _ hp) h).snoc r2, r3, ?_, ?_, ?_, ?_⟩
      · show (if z = Str.ofString "x" then _ else if z = Str.ofString "place" then _ else _) = m z
        rw [if_neg hz1, if_neg hz2]
        exact (congrFun em z).trans (hm z hz1 hz2)
      · intro p hp q hq
        rcases List.mem_append.mp hq with hq | hq
        · exact Nat.ne_of_lt ((hnew q hq).2 p (List.mem_append_right _ (List.mem_append_left _ hp)))
        · exact hx p hp q hq
      · intro p hp b hb
        rcases List.mem_append.mp hp with hp | hp
        · exact h4 p (List.mem_append_left _ hp) b hb
        rcases List.mem_append.mp hp with hp | hp
        · exact Nat.ne_of_gt (Nat.lt_of_le_of_lt (hup b hb) (hnew p hp).1)
        · exact h4 p (List.mem_append_right _ hp) b hb
      · intro r hr
        rcases List.mem_append.mp hr with hr | hr
        · exact h5 r hr
        · rw [List.mem_singleton.mp hr]
          exact row_ok _ _
      · rw [List.length_append, h6]; rfl
    show InvEndG _ _ _ _ _ _
    refine InvEndG.intro F' N' hj ?_ ?_ ?_
    · intro p hp b hb
      have hb' : b ∈ [lg, rl, lf, L + 1 + 1, L + 1, e1, d1, D, 58] ++ (ex ++ (new ++ ownB)).map (fun x : Addr × Obj => x.1) := hb
      rcases List.mem_append.mp hb' with hb | hb
      · exact hoff p hp b (hE b hb)
      · obtain ⟨q, hq, rfl⟩ := List.mem_map.mp hb
        rcases List.mem_append.mp hq with hq | hq
        · exact hoff p hp _ (show _ ∈ [lg, rl, lf, L + 1 + 1, L + 1, e1, d1, D, 58] ++ (ex ++ ownB).map (fun x : Addr × Obj => x.1) from List.mem_append_right _ (List.mem_map.mpr ⟨q, List.mem_append_left _ hq, rfl⟩))
        rcases List.mem_append.mp hq with hq | hq
        · exact Nat.ne_of_lt ((hnew q hq).2 p (List.mem_append_left _ hp))
        · exact hoff p hp _ (show _ ∈ [lg, rl, lf, L + 1 + 1, L + 1, e1, d1, D, 58] ++ (ex ++ ownB).map (fun x : Addr × Obj => x.1) from List.mem_append_right _ (List.mem_map.mpr ⟨q, List.mem_append_right _ hq, rfl⟩))
    · intro p hp
      have hp' : p ∈ [(lg, listOf #[] 0), (rl, listOf (rv ++ [v]).toArray (rn + 1)), (lf, listOf (fv ++ [Value.ref tA]).toArray (fn + 1)), (L + 1 + 1, oN), (L + 1, oL), (e1, instObj 52 d1), (d1, dictOf (oneEs w t1 t2 t3 t4 ua rl) 4), (D, listOf ws.toArray 0), (58, tabObj tab')] ++ (ex ++ (new ++ ownB)) := hp
      show p ∈ [(lg, listOf #[] 0), (rl, listOf (rv ++ [v]).toArray (rn + 1)), (lf, listOf (fv ++ [Value.ref tA]).toArray (fn + 1)), (L + 1 + 1, oN), (L + 1, oL), (e1, instObj 52 d1), (d1, dictOf (oneEs w t1 t2 t3 t4 ua rl) 4), (D, listOf ws.toArray 0), (58, tabObj tab')] ++ (new ++ (own' ++ (ex ++ ownB)))
      rcases List.mem_append.mp hp' with hp | hp
      · exact List.mem_append_left _ hp
      · rcases List.mem_append.mp hp with hp | hp
        · exact List.mem_append_right _ (List.mem_append_right _ (List.mem_append_right _ (List.mem_append_left _ hp)))
        rcases List.mem_append.mp hp with hp | hp
        · exact List.mem_append_right _ (List.mem_append_left _ hp)
        · exact List.mem_append_right _ (List.mem_append_right _ (List.mem_append_right _ (List.mem_append_right _ hp)))
    · intro p hp
      show p ∈ [(lg, listOf #[] 0), (rl, listOf (rv ++ [v]).toArray (rn + 1)), (lf, listOf (fv ++ [Value.ref tA]).toArray (fn + 1)), (L + 1 + 1, oN), (L + 1, oL), (e1, instObj 52 d1), (d1, dictOf (oneEs w t1 t2 t3 t4 ua rl) 4), (D, listOf ws.toArray 0), (58, tabObj tab')] ++ (new ++ (own' ++ (ex ++ ownB)))
      exact List.mem_append_right _ (List.mem_append_right _ (List.mem_append_left _ hp))
end Mine
end

section
theorem Mine.freshHead3 : True := by w_top off; trivial
open PySem PySem.W PyProof.Rows PySem.Calls PyProof.V PySem.Spec
set_option Elab.async false
set_option maxRecDepth 100000
set_option maxHeartbeats 8000000
namespace Mine
theorem head3 {w : World} {g : Heap} {mean : ExcName → Option Value} {mg mb : Str → Option Value} {sc : Scope} {L fa : Addr} {cd : Value} {s : Shared} {m : Str → Option Value} {sts : List Stmt}
   {D : Addr} {ws : List Value} {oN oL : Obj} {vN vL : Option Value} {tab : Array Value} {own : List (Addr × Obj)} {Q : Flow → Shared → Prop}
   (hsc : lawScope = sc) (hstm : [outerStmt 0, outerStmt 1, outerStmt 2] = sts) (C : CodeHd g 62 58) (X : (KK w).In g) (T : Top topProg looseL mean mg mb g) (B : Below callerA g [] g)
   (F : Fr g L s.heap m)
   (N : News g L s.heap ((D, listOf ws.toArray 0) :: (L + 1 + 1, oN) :: (L + 1, oL) :: (58, tabObj tab) :: own))
   (dN : oN.data = .cell vN) (dL : oL.data = .cell vL) (hO : OwnOff own [L + 1 + 1, L + 1, D, 58]) 
   (hd1 : @LT.lt Nat _ (58) (L) ∧ @LT.lt Nat _ (L + 1 + 1) (D))
   (hQ : ∀ h' tk lg lf d1 e1 ua rl oL' t1 t2 t3 t4, Fr g L h' (fun y => if y = Str.ofString "one" then some (.ref e1) else if y = Str.ofString "log" then some (.ref lg) else m y) →
     News g L h' ((rl, listOf #[] 0) :: (ua, listOf #[] 0) :: (e1, instObj 52 d1) :: (d1, dictOf (oneEs w t1 t2 t3 t4 ua rl) 4) :: (lf, listOf #[] 0) :: (lg, listOf #[] 0) :: (D, listOf ws.toArray 0) :: (L + 1 + 1, oN) :: (L + 1, oL') :: (58, tabObj tab) :: own) →
     oL'.data = .cell (some (.ref lf)) → (@LT.lt Nat _ D lg ∧ @LT.lt Nat _ lg lf ∧ @LT.lt Nat _ lf d1 ∧ @LT.lt Nat _ d1 e1 ∧ @LT.lt Nat _ e1 ua ∧ @LT.lt Nat _ ua rl) → AllLt lg own → Q .next { s with heap := h', toks := tk }) :
   wpAny (model P w) (A1 sc L fa cd) (execs sts (envL sc L fa cd)) Q (fun _ _ => False) s := by
  dsimp only [KK, A1, envL, P] at X ⊢
  revert X
  k_fill
  intro X
  conv at hsc => lhs; whnf
  have e0 : outerStmt 0 = outerStmt 0 := rfl
  have e1 : outerStmt 1 = outerStmt 1 := rfl
  have e2 : outerStmt 2 = outerStmt 2 := rfl
  conv at e0 => lhs; whnf
  conv at e1 => lhs; whnf
  conv at e2 => lhs; whnf
  rw [← e0, ← e1, ← e2] at hstm
  clear e0 e1 e2
  subst hsc hstm
  k_steps
  rename Fr _ _ _ _ => FF
  rename News _ _ _ _ => NN
  repeat (rename _ ∧ _ => hcj; obtain ⟨_, _⟩ := hcj)
  refine hQ _ _ _ _ _ _ _ _ _ _ _ _ _ FF NN (by first | assumption | rfl) ?_ ?_
  · refine ⟨?_, ?_, ?_, ?_, ?_, ?_⟩ <;> assumption
  · assumption
end Mine
end

section
theorem Mine.freshOuter : True := by w_top off; trivial
open PySem PySem.W PyProof.Rows PySem.Calls PyProof.V PySem.Spec
set_option Elab.async false
set_option maxRecDepth 100000
set_option maxHeartbeats 800000
namespace Mine
theorem pmM {g h : Heap} {L : Addr} {D d1 e1 lL lf lg nN rl tb ua : Addr × Obj} {own : List (Addr × Obj)} (N : News g L h (rl :: ua :: e1 :: d1 :: lf :: lg :: D :: nN :: lL :: tb :: own)) : News g L h (lg :: rl :: lf :: nN :: lL :: e1 :: d1 :: D :: tb :: own) := fun p hp => N p (by
  simp only [List.mem_cons] at hp ⊢
  rcases hp with h | h | h | h | h | h | h | h | h | h <;> simp only [h, true_or, or_true])
theorem pmN {g h : Heap} {L : Addr} {D d1 e1 lL lf lg nN rl tb : Addr × Obj} {own : List (Addr × Obj)} (N : News g L h (lg :: rl :: lf :: nN :: lL :: e1 :: d1 :: D :: tb :: own)) : News g L h (e1 :: d1 :: lg :: rl :: lf :: nN :: lL :: D :: tb :: own) := fun p hp => N p (by
  simp only [List.mem_cons] at hp ⊢
  rcases hp with h | h | h | h | h | h | h | h | h | h <;> simp only [h, true_or, or_true])
theorem pmO {g h : Heap} {L : Addr} {D d1 e1 lL lf lg nN rl tb : Addr × Obj} {own : List (Addr × Obj)} (N : News g L h (e1 :: d1 :: lg :: rl :: lf :: nN :: lL :: D :: tb :: own)) : News g L h (lg :: nN :: lf :: lL :: rl :: e1 :: d1 :: D :: tb :: own) := fun p hp => N p (by
  simp only [List.mem_cons] at hp ⊢
  rcases hp with h | h | h | h | h | h | h | h | h | h <;> simp only [h, true_or, or_true])
theorem pmP {g h : Heap} {L : Addr} {D lL nN tb : Addr × Obj} {own : List (Addr × Obj)} (N : News g L h (nN :: lL :: D :: tb :: own)) : News g L h (D :: nN :: lL :: tb :: own) := fun p hp => N p (by
  simp only [List.mem_cons] at hp ⊢
  rcases hp with h | h | h | h | h <;> simp only [h, true_or, or_true])

theorem rules_stmt {w : World} {g : Heap} {mean : ExcName → Option Value} {mg mb : Str → Option Value} {sc : Scope} {L fa : Addr} {cd : Value} {s : Shared} {m : Str → Option Value} {stm : Stmt}
   {e1 d1 ua rl : Addr} {t1 t2 t3 t4 : Nat} {own : List (Addr × Obj)} {Q : Flow → Shared → Prop}
   (hsc : lawScope = sc) (hstm : outerStmt 4 = stm) (X : (KK w).In g) (T : Top topProg looseL mean mg mb g) (B : Below callerA g [] g)
   (hone : m (Str.ofString "one") = some (.ref e1))
   (F : Fr g L s.heap m) (N : News g L s.heap ((e1, instObj 52 d1) :: (d1, dictOf (oneEs w t1 t2 t3 t4 ua rl) 4) :: own))
   (hQ : ∀ h' tk, Fr g L h' (fun z => if z = Str.ofString "rules" then some (.ref rl) else m z) → News g L h' ((e1, instObj 52 d1) :: (d1, dictOf (oneEs w t1 t2 t3 t4 ua rl) 4) :: own) → Q .next { s with heap := h', toks := tk }) :
   wpAny (model P w) (A1 sc L fa cd) (exec stm (envL sc L fa cd)) Q (fun _ _ => False) s := by
  dsimp only [KK, A1, envL, P] at X ⊢
  revert X
  k_fill
  intro X
  conv at hsc => lhs; whnf
  conv at hstm => lhs; whnf
  subst hsc hstm
  have em := over hone rfl
  have F := fr_eq em F
  k_steps
  rename Fr _ _ _ _ => F3
  rename News _ _ _ _ => N3
  exact hQ _ _ (fr_eq (congrArg (fun (q : Str → Option Value) => fun z => if z = Str.ofString "rules" then some _ else q z) em.symm) F3) N3
theorem outer_body : outerBody = [outerStmt 0, outerStmt 1, outerStmt 2] ++ [outerStmt 3, outerStmt 4, outerStmt 5] := rfl
theorem execs_split {M : Model} {A : Around} {E : Value → Shared → Prop} {env : Env} {Q : Flow → Shared → Prop} {a b : List Stmt} {s : Shared} (h : wpAny M A (execs a env) (fun f s' => match f with | .next => wpAny M A (execs b env) Q E s' | f => Q f s') E s) : wpAny M A (execs (a ++ b) env) Q E s := by
  intro Γ p hΓ
  have key : ∀ (a : List Stmt) p s, Sem.wp M Γ (execs a env) (fun f p' s' => match f with | .next => Sem.wp M Γ (execs b env) (fun f _ s' => Q f s') (fun e _ s' => E e s') p' s' | f => Q f s') (fun e _ s' => E e s') p s → Sem.wp M Γ (execs (a ++ b) env) (fun f _ s' => Q f s') (fun e _ s' => E e s') p s := by
    intro a
    induction a with
    | nil =>
      intro p s h
      rw [execs_nil, Sem.wp_pure'] at h
      exact h
    | cons st rest ih =>
      intro p s h
      rw [List.cons_append, execs_cons, Sem.wp_bind']
      rw [execs_cons, Sem.wp_bind'] at h
      refine Sem.wp_mono M Γ _ (fun f p' s' h' => ?_) (fun _ _ _ h' => h') _ _ h
      cases f with
      | next => exact ih _ _ h'
      | _ => exact h'
  refine key a p s (Sem.wp_mono M Γ _ (fun f p' s' h' => ?_) (fun _ _ _ h' => h') _ _ (h Γ p hΓ))
  cases f with
  | next => exact h' Γ p' hΓ
  | _ => exact h'
theorem outer_turn {w : World} {g : Heap} {mean : ExcName → Option Value} {mg mb : Str → Option Value} {L fa : Addr} {cd : Value} {s : Shared} {m : Str → Option Value}
   {D : Addr} {ws : List Value} {ns : List Int} {oN oL : Obj} {vN vL : Option Value} {tab : Array Value} {ex own : List (Addr × Obj)} {st : Nat} {t : Tok} {Q : Flow → Shared → Prop}
   (C : CodeHd g 62 58) (X : (KK w).In g) (T : Top topProg looseL mean mg mb g) (B : Below callerA g [] g)
   (hst : m (Str.ofString "start") = some (.int (st : Int) t)) (hscr : m (Str.ofString "script") = some (.ref D))
   (F : Fr g L s.heap m)
   (N : News g L s.heap ((D, listOf ws.toArray 0) :: (L + 1 + 1, oN) :: (L + 1, oL) :: (58, tabObj tab) :: (ex ++ own)))
   (dN : oN.data = .cell vN) (dL : oL.data = .cell vL) (hO : OwnOff (ex ++ own) [L + 1 + 1, L + 1, D, 58]) (hex : ∀ p ∈ ex, ∀ q ∈ own, p.1 ≠ q.1) (hTab : TabSt ruleScope tab own)
   (hd1 : @LT.lt Nat _ (58) (L) ∧ @LT.lt Nat _ (L + 1 + 1) (D)) (hI : IntsAre ws ns) (hns : (ns.length : Int) ≤ 63) (hst63 : (st : Int) ≤ 63)
   (hQ : ∀ h' tk m' oN' vN' oL' vL' tab' own', m' (Str.ofString "script") = some (.ref D) → oN'.data = .cell vN' → oL'.data = .cell vL' → Fr g L h' m' → News g L h' ((D, listOf ws.toArray 0) :: (L + 1 + 1, oN') :: (L + 1, oL') :: (58, tabObj tab') :: (ex ++ own')) → TabSt ruleScope tab' own' → (∀ p ∈ ex, ∀ q ∈ own', p.1 ≠ q.1) → OwnOff (ex ++ own') [L + 1 + 1, L + 1, D, 58] → Q .next { s with heap := h', toks := tk }) :
   wpAny (model P w) (A1 lawScope L fa cd) (execs outerBody (envL lawScope L fa cd)) Q (fun _ _ => False) s := by
  rw [outer_body]
  refine execs_split (head3 rfl rfl C X T B F N dN dL hO hd1 ?_)
  intro h1 tk1 lg lf d1 e1 ua rl oL1 t1 t2 t3 t4 F1 N1 dL1 hord hA
  obtain ⟨c1, c2⟩ := hd1
  obtain ⟨o3, o4, o5, o6, o7, o8⟩ := hord
  have hO1 : OwnOff (ex ++ own) [lg, rl, lf, L + 1 + 1, L + 1, e1, d1, D, 58] := by
    intro p hp b hb
    have hp1 : @LT.lt Nat _ p.1 lg := kst_ltOf hA p hp
    have p5 : @LT.lt Nat _ p.1 lf := Nat.lt_trans hp1 o4
    have p6 : @LT.lt Nat _ p.1 d1 := Nat.lt_trans p5 o5
    have p7 : @LT.lt Nat _ p.1 e1 := Nat.lt_trans p6 o6
    have p8 : @LT.lt Nat _ p.1 rl := Nat.lt_trans p7 (Nat.lt_trans o7 o8)
    simp only [List.mem_cons, List.not_mem_nil, or_false] at hb
    rcases hb with rfl | rfl | rfl | rfl | rfl | rfl | rfl | rfl | rfl
    · exact Nat.ne_of_lt hp1
    · exact Nat.ne_of_lt p8
    · exact Nat.ne_of_lt p5
    · exact hO p hp _ (.head _)
    · exact hO p hp _ (.tail _ (.head _))
    · exact Nat.ne_of_lt p7
    · exact Nat.ne_of_lt p6
    · exact hO p hp _ (.tail _ (.tail _ (.head _)))
    · exact hO p hp _ (.tail _ (.tail _ (.tail _ (.head _))))
  refine wpAny_execs_cons (build_stmt (t := t) rfl rfl C X T B (by rfl) (by rfl) ?_ ?_ F1 (pmM N1) dN dL1 hO1 hex hTab ⟨c1, c2, o3, o4, o5, o6, o7, o8⟩ hI hns hst63 ?_)
  · show (if _ = _ then _ else if _ = _ then _ else m _) = _
    rw [if_neg (by decide), if_neg (by decide)]; exact hst
  · show (if _ = _ then _ else if _ = _ then _ else m _) = _
    rw [if_neg (by decide), if_neg (by decide)]; exact hscr
  intro h2 tk2 m2 fv rv fn rn tab2 own2 rows hm2 F2 N2 hR hT hTab2 hx2 hO2 hrow hlen
  refine wpAny_execs_cons (rules_stmt rfl rfl X T B ((hm2 _ (by decide) (by decide)).trans (by rfl)) F2 (pmN N2) ?_)
  intro h3 tk3 F3 N3
  obtain ⟨m3, F3, a3, b3⟩ := fr_out F3
  have l2 := hT.length
  refine wpAny_execs_cons (while_stmt (lv := []) (ln := 0) (own := (D, listOf ws.toArray 0) :: (58, tabObj tab2) :: (ex ++ own2)) C X T B ((b3 _ (by decide)).trans ((hm2 _ (by decide) (by decide)).trans (by rfl))) ((b3 _ (by decide)).trans ((hm2 _ (by decide) (by decide)).trans (by rfl))) a3 F3 (pmO N3) dN dL1 (by omega)
    (hT.mono fun a b h => TupAt.mono (fun _ hp => .tail _ (.tail _ (List.mem_append_right _ hp))) h) (by decide) ?_ ⟨Nat.lt_trans c2 o3, o4, o5, o6, Nat.lt_trans o7 o8⟩ (hR.mono fun a b h => RuleAt.mono (fun _ hp => .tail _ (.tail _ (List.mem_append_right _ hp))) h) hrow ?_)
  · have l0 : @LT.lt Nat _ L (L + 1 + 1) := Nat.lt_trans (Nat.lt_succ_self _) (Nat.lt_succ_self _)
    have u1 : @LT.lt Nat _ D lf := Nat.lt_trans o3 o4
    have u2 : @LT.lt Nat _ D rl := Nat.lt_trans u1 (Nat.lt_trans o5 (Nat.lt_trans o6 (Nat.lt_trans o7 o8)))
    have u3 : @LT.lt Nat _ 58 (L + 1 + 1) := Nat.lt_trans c1 l0
    have u4 : @LT.lt Nat _ 58 D := Nat.lt_trans u3 c2
    intro p hp
    rcases List.mem_cons.mp hp with rfl | hp
    · exact ⟨Nat.ne_of_lt o3, Nat.ne_of_gt c2, Nat.ne_of_lt u1, Nat.ne_of_lt u2⟩
    rcases List.mem_cons.mp hp with rfl | hp
    · exact ⟨Nat.ne_of_lt (Nat.lt_trans u4 o3), Nat.ne_of_lt u3, Nat.ne_of_lt (Nat.lt_trans u4 u1), Nat.ne_of_lt (Nat.lt_trans u4 u2)⟩
    · exact ⟨hO2 p hp _ (.head _), hO2 p hp _ (.tail _ (.tail _ (.tail _ (.head _)))), hO2 p hp _ (.tail _ (.tail _ (.head _))), hO2 p hp _ (.tail _ (.head _))⟩
  intro h4 tk4 m4 oN4 vN4 hm4 dN4 F4 N4
  refine wpAny_execs_nil (hQ h4 tk4 m4 oN4 vN4 oL1 _ tab2 own2 ?_ dN4 dL1 F4 (pmP N4) hTab2 hx2 ?_)
  · rw [hm4 _ (by decide), b3 _ (by decide), hm2 _ (by decide) (by decide)]
    show (if _ = _ then _ else if _ = _ then _ else m _) = _
    rw [if_neg (by decide), if_neg (by decide)]; exact hscr
  · intro p hp b hb
    refine hO2 p hp b ?_
    simp only [List.mem_cons, List.not_mem_nil, or_false] at hb ⊢
    rcases hb with h | h | h | h <;> simp only [h, true_or, or_true]
end Mine
end

section
theorem Mine.freshOuterL : True := by w_top off; trivial
open PySem PySem.W PyProof.Rows PySem.Calls PyProof.V PySem.Spec
set_option Elab.async false
set_option maxRecDepth 100000
set_option maxHeartbeats 800000
namespace Mine
theorem size_ten {b : Int} (h : 0 < b) : Builtin.Range.rangeSize 0 b 10 = (b - 1) / 10 + 1 := by
  unfold Builtin.Range.rangeSize
  rw [if_pos (by decide), if_pos h, Int.sub_zero]
theorem small_ten {b : Int} (h : 0 < b) (h' : b < 2 ^ 62) : Builtin.Range.small 0 b 10 = true := by
  unfold Builtin.Range.small
  rw [size_ten h]
  simp only [Builtin.Range.rangeFitsLong, Bool.and_eq_true, Bool.or_eq_true, decide_eq_true_eq, beq_iff_eq, show (10 : Int) > 0 by decide, if_true]
  omega
def OJ (D L : Addr) (ws : List Value) (m : Str → Option Value) (nx : List (Addr × Obj)) : Prop :=
  ∃ (oN oL : Obj) (vN vL : Option Value) (tab : Array Value) (own : List (Addr × Obj)), m (Str.ofString "script") = some (.ref D) ∧
   nx = (D, listOf ws.toArray 0) :: (L + 1 + 1, oN) :: (L + 1, oL) :: (58, tabObj tab) :: own ∧ oN.data = .cell vN ∧ oL.data = .cell vL ∧ TabSt ruleScope tab own ∧ OwnOff own [L + 1 + 1, L + 1, D, 58]
theorem outer_loop {w : World} {g : Heap} {mean : ExcName → Option Value} {mg mb : Str → Option Value} {sc : Scope} {body : List Stmt} {L fa r : Addr} {cd : Value} {s : Shared} {m : Str → Option Value}
   {D : Addr} {ws : List Value} {ns : List Int} {oN oL : Obj} {vN vL : Option Value} {b : Int} {t u v : Tok} {Q : Flow → Shared → Prop}
   (hsc : lawScope = sc) (hbody : outerBody = body)
   (C : CodeHd g 62 58) (X : (KK w).In g) (T : Top topProg looseL mean mg mb g) (B : Below callerA g [] g)
   (hr : IsRange s.heap r 0 b 10 t u v) (hscr : m (Str.ofString "script") = some (.ref D))
   (F : Fr g L s.heap m)
   (N : News g L s.heap [(D, listOf ws.toArray 0), (L + 1 + 1, oN), (L + 1, oL), (58, tabObj #[])])
   (dN : oN.data = .cell vN) (dL : oL.data = .cell vL)
   (hd1 : @LT.lt Nat _ (58) (L) ∧ @LT.lt Nat _ (L + 1 + 1) (D)) (hI : IntsAre ws ns) (hns : (ns.length : Int) ≤ 63) (hb : 0 < b ∧ b ≤ 63)
   (hQ : ∀ h' tk m' tab', Fr g L h' m' → News g L h' [(58, tabObj tab')] → Q .next { s with heap := h', toks := tk }) :
   wpAny (model P w) (A1 sc L fa cd) (pyIter (.ref r)) (fun it s₂ => LoopAtV P w (A1 sc L fa cd) g (envL sc L fa cd) (Str.ofString "start") body Q (fun _ _ => False) it s₂) (fun _ _ => False) s := by
  subst hsc hbody
  have hz := size_ten hb.1
  refine range_loop (n := ((b - 1) / 10 + 1).toNat) (fun _ => OJ D L ws) (by rfl) hr (small_ten hb.1 (by omega)) (by rw [hz]; omega) F N ?_ ?_ ?_
  · exact ⟨oN, oL, vN, vL, #[], [], hscr, rfl, dN, dL, .inl rfl, fun _ hp => (nomatch hp)⟩
  · rintro i ti m₁ nx h tk ex hi hoff ⟨oN1, oL1, vN1, vL1, tab, own, hm, rfl, dN1, dL1, hTab, hO⟩ F1 N1
    have N1 := midE (E := [_, _, _, _]) N1
    have e0 : (0 : Int) + (i : Int) * 10 = ((i * 10 : Nat) : Int) := by omega
    rw [e0] at F1
    have hE : ∀ c ∈ [L + 1 + 1, L + 1, D, 58], ∀ p ∈ ex, p.1 ≠ c := by
      intro c hc p hp
      refine hoff p hp c ?_
      show c ∈ [D, L + 1 + 1, L + 1, 58] ++ own.map (fun x : Addr × Obj => x.1)
      refine List.mem_append_left _ ?_
      simp only [List.mem_cons, List.not_mem_nil, or_false] at hc ⊢
      rcases hc with h | h | h | h <;> simp only [h, true_or, or_true]
    refine outer_turn (t := ti) (st := i * 10) (ex := ex) (own := own) C X T B (if_pos rfl) ((if_neg (by decide)).trans hm) F1 N1 dN1 dL1 ?_ ?_ hTab hd1 hI hns (by omega) ?_
    · intro p hp c hc
      rcases List.mem_append.mp hp with hp | hp
      · exact hE c hc p hp
      · exact hO p hp c hc
    · intro p hp q hq
      exact hoff p hp _ (show _ ∈ [D, L + 1 + 1, L + 1, 58] ++ own.map (fun x : Addr × Obj => x.1) from List.mem_append_right _ (List.mem_map.mpr ⟨q, hq, rfl⟩))
    intro h' tk' m' oN' vN' oL' vL' tab' own' hm' dN' dL' F' N' hTab' hex' hO'
    show InvEndG _ _ _ _ _ _
    refine InvEndG.intro F' N' (nx := (D, listOf ws.toArray 0) :: (L + 1 + 1, oN') :: (L + 1, oL') :: (58, tabObj tab') :: own') ⟨oN', oL', vN', vL', tab', own', hm', rfl, dN', dL', hTab', fun p hp => hO' p (List.mem_append_right _ hp)⟩ ?_ ?_ ?_
    · intro p hp c hc
      have hc' : c ∈ [D, L + 1 + 1, L + 1, 58] ++ own'.map (fun x : Addr × Obj => x.1) := hc
      rcases List.mem_append.mp hc' with hc | hc
      · refine hE c ?_ p hp
        simp only [List.mem_cons, List.not_mem_nil, or_false] at hc ⊢
        rcases hc with h | h | h | h <;> simp only [h, true_or, or_true]
      · obtain ⟨q, hq, rfl⟩ := List.mem_map.mp hc
        exact hex' p hp q hq
    · intro p hp
      have hp' : p ∈ [(D, listOf ws.toArray 0), (L + 1 + 1, oN'), (L + 1, oL'), (58, tabObj tab')] ++ own' := hp
      show p ∈ [(D, listOf ws.toArray 0), (L + 1 + 1, oN'), (L + 1, oL'), (58, tabObj tab')] ++ (ex ++ own')
      rcases List.mem_append.mp hp' with hp | hp
      · exact List.mem_append_left _ hp
      · exact List.mem_append_right _ (List.mem_append_right _ hp)
    · intro p hp
      show p ∈ [(D, listOf ws.toArray 0), (L + 1 + 1, oN'), (L + 1, oL'), (58, tabObj tab')] ++ (ex ++ own')
      exact List.mem_append_right _ (List.mem_append_left _ hp)
  · rintro m₁ nx h tk ⟨_, _, _, _, tab, _, _, rfl, _⟩ F1 N1
    exact hQ h tk m₁ tab F1 fun p hp => N1 p (.tail _ (.tail _ (.tail _ (List.mem_singleton.mp hp ▸ .head _))))
end Mine
end

theorem Mine.freshMain : True := by w_top off; trivial
open PySem PySem.W PyProof.Rows PySem.Calls PyProof.V PySem.Spec
set_option Elab.async false
open Mine
set_option maxRecDepth 100000 in
set_option maxHeartbeats 8000000 in
theorem PySem.Challenge.cw_dn0258_01_holds : PySem.Challenge.rw_dn0258_01.Holds := by
  refine hd ?_
  w_strict (k_go0; (refine wpAny_noRaise ?_); (all_goals try k_fold); k_steps; )
  rename_i w s₀ s₁ mg mb G Y fa o pm cd doc ho hcd hg X V T B TE TW ns hs hlay0 hL1 hr1 hl2 w6 w5 w4 w3 w2 hL ra w1 r0 hI hr0 hc1 hc0 hD h₁ tk₁ oN0 oL0 dN0 dL0 X0 X' T' K' l0 D' ws' h3 hI' hC' hL' l1 h2 hF' h1 tk1 F' N' h' tk' t1 u1 v1 hr hF hN hk
  refine outer_loop (by rfl) (by rfl) codeHd X' T' K' hr (by rfl) hF hN dN0 dL0 ?_ hI' (by omega) (by split <;> omega) ?_
  · exact ⟨l0, l1.1⟩
  clear hF' F' N' hr hF hN hk
  intro hE tkE mE nxE FE NE
  show wpAny _ _ _ _ _ _
  dsimp only
  k_steps
