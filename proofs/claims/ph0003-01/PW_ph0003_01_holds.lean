import PyProof.Rows.All
import Wide.All
import OpenK.AllK
import Wide.FinOn
import PySem.Challenge.RW_ph0003_01
set_option Elab.async false
section PartH1
open PySem PySem.W PyProof.Rows
namespace Mine
set_option maxRecDepth 100000 in
set_option maxHeartbeats 8000000 in
open_top hd for PySem.Challenge.rw_ph0003_01
end Mine
end PartH1
section PartR1
open PySem PySem.W PyProof.Rows PySem.Spec PySem.Calls
set_option maxRecDepth 100000
namespace Mine
open PyProof.Rows.LCg (lst lst_snoc)


/-- every object but those of X stays -/
def Kp (X : List Addr) (h h' : Heap) : Prop := ∀ b o, b ∉ X → h.get? b = some o → h'.get? b = some o
theorem eqN {a b : Nat} (h : a = b) : a = b := h
theorem leN {a b : Nat} (h : a ≤ b) : a ≤ b := h
theorem Kp.refl {X : List Addr} {h : Heap} : Kp X h h := fun _ _ _ e => e
theorem Kp.trans {X : List Addr} {h h' h'' : Heap} (a : Kp X h h') (b : Kp X h' h'') : Kp X h h'' := fun c o hc e => b c o hc (a c o hc e)
theorem Kp.mono {X Y : List Addr} {h h' : Heap} (a : Kp X h h') (hs : ∀ b ∈ X, b ∈ Y) : Kp Y h h' := fun c o hc e => a c o (fun hm => hc (hs c hm)) e

section
variable {prog : Program} {w : World} {A : Around} {E : Value → Shared → Prop} {s : Shared} {env : Env}

/-- a clause's tests, none or one -/
def TT (prog : Program) (w : World) (A : Around) (ifs : List Expr) (env : Env) (P : Bool → Shared → Prop) (E : Value → Shared → Prop) (s : Shared) : Prop :=
  match ifs with
  | [] => P true s
  | c :: _ => wpAny (model prog w) A (isTrue c env (eval c env)) P E s
theorem TT.nil {P : Bool → Shared → Prop} (h : P true s) : TT prog w A [] env P E s := h
theorem TT.one {c : Expr} {P : Bool → Shared → Prop} (h : wpAny (model prog w) A (isTrue c env (eval c env)) P E s) : TT prog w A [c] env P E s := h
theorem TT.mono {ifs : List Expr} {P P' : Bool → Shared → Prop} (h : TT prog w A ifs env P E s) (k : ∀ b s', P b s' → P' b s') : TT prog w A ifs env P' E s := by
  cases ifs with
  | nil => exact k _ _ h
  | cons c r => exact wpAny_mono h k fun _ _ e => e

/-- the two loops of the library under one head -/
theorem comp_loop {elt target iter : Expr} {ifs : List Expr} {scope : Scope} {pos : Pos} {it acc : Value} {env : Env} {R : Result → Shared → Prop} (few : ifs.length ≤ 1) (I : Nat → Shared → Prop)
    (turn : ∀ n s, I n s → wpAny (model prog w) A (pyNext it) (fun r s₁ => match r with
      | none => R (.ok .next) s₁
      | some v => wpAny (model prog w) A (letOwnedTupleGo target it v) (fun _ s₀ => wpAny (model prog w) A (assign target env v) (fun _ s₂ =>
          TT prog w A ifs env (fun ok s₃ => if ok = true then wpAny (model prog w) A (eval elt env) (fun x s₄ =>
            wpAny (model prog w) A (call (.builtin "list.append") [acc, x]) (fun _ s₅ => ∃ m, m < n ∧ I m s₅) (notedBy (model prog w) A env fun e s' => R (.error e) s') s₄) (notedBy (model prog w) A env fun e s' => R (.error e) s') s₃
            else ∃ m, m < n ∧ I m s₃) (notedBy (model prog w) A env fun e s' => R (.error e) s') s₂)
          (notedBy (model prog w) A env fun e s' => R (.error e) s') s₀) (notedBy (model prog w) A env fun e s' => R (.error e) s') s₁) (notedBy (model prog w) A env fun e s' => R (.error e) s') s)
    (n : Nat) (h : I n s) : codeAny (model prog w) A (.compLoop (.ListComp elt [⟨target, iter, ifs, 0⟩] scope pos) 0 it acc env) R s := by
  match ifs, few, turn with
  | [], _, turn => exact kcp_loop I turn n h
  | [c], _, turn => exact kct_loop I turn n h
  | _ :: _ :: r, few, _ => exact absurd few (by simp)

/-- what one asks of a turn: X, the objects it may change; J, what holds of them and of the list so far; Bd, what the target's names hold -/
structure Turn (prog : Program) (w : World) (A : Around) (env : Env) (scope : Scope) (cl : List (Str × Addr)) (target : Expr) (ifs : List Expr) (elt : Expr) (I : Addr) (X : List Addr) (P : Nat → Value → Prop) (St : Nat → Heap → Prop)
    (Bd : Value → (Str → Option Value) → Prop) (J : Nat → List Value → Heap → Prop) (s₂ : Shared) : Prop where
  frame : ∀ i ys h h', J i ys h → (∀ b ∈ X, ∀ o, h.get? b = some o → h'.get? b = some o) → J i ys h'
  lot : ∀ i v (s : Shared) (Q : Unit → Shared → Prop) E', P i v → St (i + 1) s.heap → Q () s → wpAny (model prog w) A (letOwnedTupleGo target (.ref I) v) Q E' s
  asg : ∀ C i v (s₃ : Shared) m₃ (Q : Unit → Shared → Prop) E', s₂.heap.objs.size ≤ C → P i v → s₃.heap.Ns C m₃ → Kp (I :: X) s₂.heap s₃.heap →
    (∀ h' tk m', h'.Ns C m' → Bd v m' → (∀ b o, b ≠ C → s₃.heap.get? b = some o → h'.get? b = some o) → Q () { s₃ with heap := h', toks := tk }) →
    wpAny (model prog w) A (assign target (compEnvC scope cl C env) v) Q E' s₃
  body : ∀ C D i ys v (s₃ : Shared) m₃ E', s₂.heap.objs.size ≤ C → s₂.heap.objs.size ≤ D → D ≠ C → P i v → s₃.heap.Ns C m₃ → Bd v m₃ → Kp (I :: X) s₂.heap s₃.heap → J i ys s₃.heap →
    TT prog w A ifs (compEnvC scope cl C env) (fun ok s₄ => ∃ h₄ tk₄, s₄ = { s₃ with heap := h₄, toks := tk₄ } ∧ Kp X s₃.heap h₄ ∧
      if ok = true then wpAny (model prog w) A (eval elt (compEnvC scope cl C env)) (fun y s₅ => ∃ h₅ tk₅, s₅ = { s₄ with heap := h₅, toks := tk₅ } ∧ Kp X h₄ h₅ ∧ J (i + 1) (ys ++ [y]) h₅) E' s₄
      else J (i + 1) ys h₄) E' s₃

theorem comp_block {elt target iter : Expr} {ifs : List Expr} {scope : Scope} {cl : List (Str × Addr)} {pos : Pos} {s₂ : Shared} {I : Addr} {X fp : List Addr} {n : Nat} {P : Nat → Value → Prop} {St : Nat → Heap → Prop}
    {Bd : Value → (Str → Option Value) → Prop} {J : Nat → List Value → Heap → Prop} {RR : Value → Addr → Result → Shared → Prop}
    (few : ifs.length ≤ 1) (W : Walks prog w A I fp [I] n P St) (hsz : n ≤ sizeLine) (hcell : ∀ y ∈ scope.names, y.2 ≠ .cell) (hkind : scope.kind = .function) (hst : St 0 s₂.heap) (hfp : ∀ b ∈ fp, b < s₂.heap.objs.size)
    (hXlt : ∀ b ∈ X, b < s₂.heap.objs.size) (hXf : ∀ b ∈ X, b ∉ fp)
    (U : Turn prog w A env scope cl target ifs elt I X P St Bd J s₂) (hJ : J 0 [] s₂.heap)
    (hRR : ∀ D C h' tk m' ys, s₂.heap.objs.size ≤ D → s₂.heap.objs.size ≤ C → D ≠ C → h'.Ns C m' → h'.get? D = some (lst ys) → J n ys h' → Kp (I :: X) s₂.heap h' → RR (.ref D) C (.ok .next) { s₂ with heap := h', toks := tk }) :
    wpAny (model prog w) A (newList []) (fun acc s₃ => wpAny (model prog w) A (newFunctionEnv scope env.globals cl [] env.qual none .none (some env)) (fun cenv s₄ =>
      codeAny (model prog w) A (.compStart (.ListComp elt [⟨target, iter, ifs, 0⟩] scope pos) 0 (.ref I) acc { cenv with scope := relabel scope env }) (RR acc cenv.locals) s₄) E s₃) E s₂ := by
  refine wpAny_newObj_type (wpAny_newFunctionEnv hcell (by intro y hy; simp at hy) (fun h₁ hns₁ hsb₁ => ?_) hkind)
  dsimp only at hns₁ hsb₁ ⊢
  generalize hH2 : s₂.heap.push { cls := .type "list", dict := none, data := .seq ([] : List Value).toArray } = H2 at hns₁ hsb₁ ⊢
  have hC : H2.objs.size = s₂.heap.objs.size + 1 := by rw [← hH2, Heap.size_push]
  obtain ⟨D, hDa⟩ : ∃ D : Nat, s₂.heap.objs.size = D := ⟨_, rfl⟩
  obtain ⟨C, hCa⟩ : ∃ C : Nat, H2.objs.size = C := ⟨_, rfl⟩
  rw [hDa] at hC hfp hXlt hRR ⊢
  rw [hCa] at hC hns₁ hsb₁ ⊢
  have hDC : D ≠ C := by omega
  have below : ∀ b, b < D → b ≠ C ∧ b ≠ D := fun b hb => ⟨by omega, by omega⟩
  have hDf : D ∉ fp := fun hm => Nat.lt_irrefl _ (hfp _ hm)
  have hCf : C ∉ fp := fun hm => by have := ltN (hfp _ hm); omega
  have hDX : D ∉ X := fun hm => Nat.lt_irrefl _ (hXlt _ hm)
  have hCX : C ∉ X := fun hm => by have := ltN (hXlt _ hm); omega
  have hIf : I ∈ fp := W.sub I (List.mem_singleton.mpr rfl)
  have hIlt : I < D := hfp I hIf
  have hIX : I ∉ X := fun hm => hXf I hm hIf
  have old : ∀ b o, s₂.heap.get? b = some o → h₁.get? b = some o := fun b o e => hsb₁.extBut b o (below b (hDa ▸ Heap.lt_size e)).1 (Heap.get?_push_of_some _ (hH2 ▸ Heap.get?_push_of_some _ e))
  have hacc : h₁.get? D = some (lst []) := hsb₁.extBut _ _ hDC (Heap.get?_push_of_some _ (hH2 ▸ hDa ▸ Heap.get?_push_size _ rfl))
  have hst₁ : St 0 h₁ := W.frame _ _ _ hst fun b _ o e => old b o e
  have loop : ∀ s₃ : Shared, s₃ = { s₂ with heap := h₁, toks := s₂.toks + ([] : List (Str × Value)).length } →
      codeAny (model prog w) A (.compLoop (.ListComp elt [⟨target, iter, ifs, 0⟩] scope pos) 0 (.ref I) (.ref D) (compEnvC scope cl C env)) (RR (.ref D) C) s₃ := by
    rintro s₃ rfl
    refine comp_loop few (fun k s' => ∃ h' tk i ys m', s' = { s₂ with heap := h', toks := tk } ∧ i ≤ n ∧ k = n + 1 - i ∧ ys.length ≤ i ∧ St i h' ∧ h'.Ns C m' ∧ h'.get? D = some (lst ys) ∧ Kp (I :: X) s₂.heap h' ∧ J i ys h') ?_ (n + 1)
      ⟨h₁, _, 0, [], _, rfl, Nat.zero_le _, rfl, Nat.le_refl _, hst₁, hns₁, hacc, fun b o _ e => old b o e, U.frame _ _ _ _ hJ fun b _ o e => old b o e⟩
    rintro k s' ⟨h', tk, i, ys, m', rfl, hi, rfl, hyl, hst', hn', hD', hK', hJ'⟩
    by_cases hlt : i < n
    · refine W.item i _ _ _ hlt hst' fun v h₂ tk₂ hPv hst₂ hk₂ => ?_
      replace hk₂ : ∀ b o, b ∉ [I] → h'.get? b = some o → h₂.get? b = some o := hk₂
      refine U.lot i v _ _ _ hPv hst₂ ?_
      have hK₂ : Kp (I :: X) s₂.heap h₂ := fun b o hb e => hk₂ b o (fun hm => hb (List.mem_cons.mpr (.inl (List.mem_singleton.mp hm)))) (hK' b o hb e)
      have hn₂ : h₂.Ns C m' := hn'.at' fun o e => hk₂ _ o (fun hm => by have := eqN (List.mem_singleton.mp hm); have := ltN hIlt; omega) e
      refine U.asg C i v _ m' _ _ (by omega) hPv hn₂ hK₂ fun h₃ tk₃ m₃ hn₃ hB₃ hk₃ => ?_
      replace hk₃ : ∀ b o, b ≠ C → h₂.get? b = some o → h₃.get? b = some o := hk₃
      have hst₃ : St (i + 1) h₃ := W.frame _ _ _ hst₂ fun b hb o e => hk₃ b o (fun q => hCf (q ▸ hb)) e
      have hK₃ : Kp (I :: X) s₂.heap h₃ := fun b o hb e => hk₃ b o (below b (hDa ▸ Heap.lt_size e)).1 (hK₂ b o hb e)
      have hJ₃ : J i ys h₃ := U.frame _ _ _ _ hJ' fun b hb o e => hk₃ b o (fun q => hCX (q ▸ hb)) (hk₂ b o (fun hm => hIX (List.mem_singleton.mp hm ▸ hb)) e)
      have hD₃ : h₃.get? D = some (lst ys) := hk₃ D _ hDC (hk₂ D _ (fun hm => by have := eqN (List.mem_singleton.mp hm); have := ltN hIlt; omega) hD')
      refine (U.body C D i ys v _ m₃ _ (by omega) (by omega) hDC hPv hn₃ hB₃ hK₃ hJ₃).mono fun ok s₄ h₄ => ?_
      obtain ⟨h₄, tk₄, rfl, hk₄, hz₄⟩ := h₄
      replace hk₄ : Kp X h₃ h₄ := hk₄
      have hst₄ : St (i + 1) h₄ := W.frame _ _ _ hst₃ fun b hb o e => hk₄ b o (fun q => hXf b q hb) e
      have hK₄ : Kp (I :: X) s₂.heap h₄ := hK₃.trans (hk₄.mono fun b hb => List.mem_cons_of_mem _ hb)
      have hD₄ : h₄.get? D = some (lst ys) := hk₄ D _ hDX hD₃
      have hn₄ : h₄.Ns C m₃ := hn₃.at' fun o e => hk₄ _ o hCX e
      cases ok with
      | false =>
        rw [if_neg Bool.false_ne_true] at hz₄ ⊢
        exact ⟨n + 1 - (i + 1), by omega, h₄, tk₄, i + 1, ys, m₃, rfl, hlt, rfl, by omega, hst₄, hn₄, hD₄, hK₄, hz₄⟩
      | true =>
        rw [if_pos rfl] at hz₄ ⊢
        refine wpAny_mono hz₄ (fun y s₅ h₅ => ?_) fun _ _ e => e
        obtain ⟨h₅, tk₅, rfl, hk₅, hJ₅⟩ := h₅
        replace hk₅ : Kp X h₄ h₅ := hk₅
        have hD₅ : h₅.get? D = some (lst ys) := hk₅ D _ hDX hD₄
        refine append_at (hsz := by show ys.toArray.size ≤ sizeLine; rw [List.size_toArray]; omega) hD₅ fun h₆ hs₆ hD₆ => ?_
        refine ⟨n + 1 - (i + 1), by omega, h₆, tk₅, i + 1, ys ++ [y], m₃, rfl, hlt, rfl, by rw [List.length_append, List.length_singleton]; omega, ?_, ?_, hD₆.trans (congrArg some (lst_snoc ys y)), ?_, ?_⟩
        · exact W.frame _ _ _ hst₄ fun b hb o e => hs₆.extBut b o (fun q => hDf (q ▸ hb)) (hk₅ b o (fun q => hXf b q hb) e)
        · exact (hn₄.at' fun o e => hk₅ _ o hCX e).sameBut hs₆ (Ne.symm hDC)
        · exact fun b o hb e => hs₆.extBut b o (below b (hDa ▸ Heap.lt_size e)).2 ((hK₄.trans (hk₅.mono fun b hb => List.mem_cons_of_mem _ hb)) b o hb e)
        · exact U.frame _ _ _ _ hJ₅ fun b hb o e => hs₆.extBut b o (fun q => hDX (q ▸ hb)) e
    · obtain rfl : i = n := Nat.le_antisymm hi (Nat.not_lt.mp hlt)
      refine W.done _ _ _ hst' fun h₂ tk₂ hk₂ => ?_
      replace hk₂ : ∀ b o, b ∉ [I] → h'.get? b = some o → h₂.get? b = some o := hk₂
      exact hRR D C h₂ tk₂ m' ys (Nat.le_refl _) (by omega) hDC (hn'.at' fun o e => hk₂ _ o (fun hm => by have := eqN (List.mem_singleton.mp hm); have := ltN hIlt; omega) e) (hk₂ D _ (fun hm => by have := eqN (List.mem_singleton.mp hm); have := ltN hIlt; omega) hD')
        (U.frame _ _ _ _ hJ' fun b hb o e => hk₂ b o (fun hm => hIX (List.mem_singleton.mp hm ▸ hb)) e) fun b o hb e => hk₂ b o (fun hm => hb (List.mem_cons.mpr (.inl (List.mem_singleton.mp hm)))) (hK' b o hb e)
  exact codeAny_compStart_list (loop _ rfl) (W.self 0 _ _ _ hst₁ (loop _ rfl))

/-- a comprehension's value -/
theorem comp_eval {elt target iter : Expr} {ifs : List Expr} {scope : Scope} {cl : List (Str × Addr)} {pos : Pos} {Q : Value → Shared → Prop}
    (hclos : closureFor scope env = pure cl) (hcell : ∀ y ∈ scope.names, y.2 ≠ .cell) (hkind : scope.kind = .function) (hnames : ∀ y ∈ scope.names, y.2 = .local → scope.names.lookup y.1 = some .local)
    (h : wpAny (model prog w) A (eval iter env) (fun xv s₁ => wpAny (model prog w) A (pyIter xv) (fun it s₂ => ∃ I fp n P St X Bd J, it = .ref I ∧ Walks prog w A I fp [I] n P St ∧ n ≤ sizeLine ∧ St 0 s₂.heap ∧ (∀ b ∈ fp, b < s₂.heap.objs.size) ∧
      (∀ b ∈ X, b < s₂.heap.objs.size) ∧ (∀ b ∈ X, b ∉ fp) ∧ Turn prog w A env scope cl target ifs elt I X P St Bd J s₂ ∧ J 0 [] s₂.heap ∧
      (∀ D h' tk ys, s₂.heap.objs.size ≤ D → h'.get? D = some (lst ys) → J n ys h' → Kp (I :: X) s₂.heap h' → Q (.ref D) { s₂ with heap := h', toks := tk })) E s₁) E s)
    (hs : ∀ x, foldedSetIterable iter env x = pure x := by intro _; rfl) (few : ifs.length ≤ 1 := by exact Nat.le_of_ble_eq_true rfl) :
    wpAny (model prog w) A (eval (.ListComp elt [⟨target, iter, ifs, 0⟩] scope pos) env) Q E s := by
  rw [eval_ListComp]
  refine wpAny_comprehension_free (use := none) rfl hs hclos hkind hnames (wpAny_mono h (fun xv s₁ h₁ => wpAny_mono h₁ (fun it s₂ h₂ => ?_) fun _ _ e => e) fun _ _ e => e)
  obtain ⟨I, fp, n, P, St, X, Bd, J, rfl, W, hsz, hst, hfp, hXlt, hXf, U, hJ, hQ⟩ := h₂
  refine comp_block (RR := fun acc C => compPost (model prog w) A E none Q acc C) few W hsz hcell hkind hst hfp hXlt hXf U hJ ?_
  intro D C h' tk m' ys hD hC hDC hn hl hJ' hk
  refine ⟨m', hn, fun h'' hs'' => hQ D h'' tk ys hD (hs''.extBut _ _ hDC hl) (U.frame _ _ _ _ hJ' fun b hb o e => hs''.extBut b o (fun q => by have := ltN (hXlt b hb); have := eqN q; have := leN hC; omega) e) fun b o hb e => hs''.extBut b o (fun q => by have := ltN (Heap.lt_size e); have := eqN q; have := leN hC; omega) (hk b o hb e)⟩

/-- a comprehension stored under a name -/
theorem comp_assign {elt target iter : Expr} {ifs : List Expr} {scope : Scope} {cl : List (Str × Addr)} {pos spos : Pos} {y : Str} {py : Pos} {Q : Flow → Shared → Prop}
    (hsw : swapsWith (.ListComp elt [⟨target, iter, ifs, 0⟩] scope pos) (some (.Name y py)) spos.line env = pure true)
    (hclos : closureFor scope env = pure cl) (hcell : ∀ y ∈ scope.names, y.2 ≠ .cell) (hkind : scope.kind = .function) (hnames : ∀ y ∈ scope.names, y.2 = .local → scope.names.lookup y.1 = some .local)
    (hy : env.kindOf y = some .local) (hp : (env.scope.kind == .class || (env.scope.kind == .module && env.locals != env.globals)) = false)
    (h : wpAny (model prog w) A (eval iter env) (fun xv s₁ => wpAny (model prog w) A (pyIter xv) (fun it s₂ => ∃ I fp n P St X Bd J m, it = .ref I ∧ Walks prog w A I fp [I] n P St ∧ n ≤ sizeLine ∧ St 0 s₂.heap ∧ (∀ b ∈ fp, b < s₂.heap.objs.size) ∧
      (∀ b ∈ X, b < s₂.heap.objs.size) ∧ (∀ b ∈ X, b ∉ fp) ∧ Turn prog w A env scope cl target ifs elt I X P St Bd J s₂ ∧ J 0 [] s₂.heap ∧ env.locals < s₂.heap.objs.size ∧
      (∀ ys h', J n ys h' → Kp (I :: X) s₂.heap h' → h'.Ns env.locals m) ∧
      (∀ D h₁ h' tk ys, s₂.heap.objs.size ≤ D → h'.get? D = some (lst ys) → J n ys h₁ → (∀ b o, b < s₂.heap.objs.size → b ≠ env.locals → h₁.get? b = some o → h'.get? b = some o) → h'.Ns env.locals (fun z => if z = y then some (.ref D) else m z) →
        Kp (env.locals :: I :: X) s₂.heap h' → Q .next { s₂ with heap := h', toks := tk })) E s₁) E s)
    (hs : ∀ x, foldedSetIterable iter env x = pure x := by intro _; rfl) (few : ifs.length ≤ 1 := by exact Nat.le_of_ble_eq_true rfl) :
    wpAny (model prog w) A (exec (.Assign [.Name y py] (.ListComp elt [⟨target, iter, ifs, 0⟩] scope pos) spos) env) Q E s := by
  rw [exec_Assign_Name_used _ _ _ _ hsw]
  refine wpAny_bind (wpAny_standAt (wpAny_bind ?_))
  show wpAny _ A (do let _ ← comprehension (.ListComp elt [⟨target, iter, ifs, 0⟩] scope pos) scope env _ (newList []) false (eval iter env) (some (assign (.Name y py) env))) _ _ s
  refine wpAny_bind (wpAny_mono (wpAny_comprehension_free (use := some (assign (.Name y py) env)) (Q := fun _ s' => Q .next s') rfl hs hclos hkind hnames
    (wpAny_mono h (fun xv s₁ h₁ => wpAny_mono h₁ (fun it s₂ h₂ => ?_) fun _ _ e => e) fun _ _ e => e)) (fun _ s' hq => wpAny_pure (wpAny_pure hq)) fun _ _ e => e)
  obtain ⟨I, fp, n, P, St, X, Bd, J, m, rfl, W, hsz, hst, hfp, hXlt, hXf, U, hJ, hLlt, hNs, hQ⟩ := h₂
  refine comp_block (RR := fun acc C => compPost (model prog w) A E (some (assign (.Name y py) env)) (fun _ s' => Q .next s') acc C) few W hsz hcell hkind hst hfp hXlt hXf U hJ ?_
  intro D C h₁ tk m' ys hD hC hDC hn hl hJ' hk
  show wpAny _ A (assign (.Name y py) env (.ref D)) _ _ _
  refine wpAny_assign_Name (wpAny_storeName_local hy (hNs ys h₁ hJ' hk) (fun h₂ hn₂ hs₂ => ?_) hp)
  have hLlt' := ltN hLlt
  have hD' := leN hD
  have hC' := leN hC
  have hLD : D ≠ env.locals := neN (by omega)
  have hLC : C ≠ env.locals := neN (by omega)
  refine ⟨m', hn.sameBut hs₂ hLC, fun h₃ hs₃ => hQ D h₁ h₃ _ ys hD (hs₃.extBut _ _ hDC (hs₂.extBut _ _ hLD hl)) hJ' (fun b o hb hbL e => hs₃.extBut b o (neN (by have := ltN hb; omega)) (hs₂.extBut b o hbL e)) (hn₂.sameBut hs₃ (Ne.symm hLC)) fun b o hb e => ?_⟩
  have hb' := ltN (Heap.lt_size e)
  exact hs₃.extBut b o (neN (by omega)) (hs₂.extBut b o (fun q => hb (List.mem_cons.mpr (.inl q))) (hk b o (fun q => hb (List.mem_cons_of_mem _ q)) e))
end
end Mine
end PartR1
section PartR2
open PySem PySem.W PyProof.Rows PySem.Spec PySem.Calls
set_option maxRecDepth 100000
namespace Mine
open PyProof.Rows.LCg (lst lst_snoc)
section
variable {prog : Program} {w : World} {A : Around} {E : Value → Shared → Prop} {s : Shared} {env : Env}

theorem iter_list {l : Addr} {items : Array Value} {Q : Value → Shared → Prop} (hl : s.heap.IsList l items)
    (hQ : Q (.ref s.heap.objs.size) { s with heap := s.heap.push { cls := .type "list_iterator", data := .fields #[.ref l, .int 0 0] } }) :
    wpAny (model prog w) A (call (.builtin "iter") [.ref l]) Q E s := by
  refine call_function_entry (by decide +kernel) (by decide +kernel) kdk_entry_iter (kdk_args_iter _) ?_
  unfold Builtin.«iter»
  refine wpAny_bind (m := someArgs "iter" 1 2 _) (wpAny_of_eq (a := [Value.ref l]) (by first | rfl | kernel_rfl!) ?_)
  show wpAny _ _ (pyIter (.ref l) >>= _) _ _ _
  exact wpAny_bind (wpAny_pyIter_list hl (wpAny_pure ⟨_, rfl, hQ⟩))

theorem special_next {it l : Addr} {i : Nat} {items : Array Value} {x : Value} {Q : Option Value → Shared → Prop} (hit : s.heap.IsListIter it l i) (hl : s.heap.IsList l items) (hx : items[i]? = some x)
    (hQ : ∀ h', h'.IsListIter it l (i + 1) → Heap.SameBut it s.heap h' → Q (some x) { s with heap := h' }) : wpAny (model prog w) A (callSpecial? (.ref it) (Str.ofString "__next__")) Q E s := by
  have ty := hit.typeIs
  obtain ⟨oi, gi, ci, di⟩ := hit
  obtain ⟨ol, gl, _, k, dl⟩ := hl
  refine wpAny_callSpecial?_slot (name := Str.ofString "__next__") ty slot_listiter_next (wpAny_call_entry slot_listiter_next ty entry_listiter_next ?_ (args_listiter_next _))
  show wpAny _ _ (field (.ref it) 0 >>= _) _ _ s
  refine wpAny_bind (wpAny_field gi di (x := .ref l) rfl ?_)
  dsimp only
  rw [if_neg (by simp)]
  refine wpAny_bind (wpAny_field gi di (x := .int i 0) rfl (wpAny_bind (wpAny_seqItems gl dl ?_)))
  rw [Int.toNat_natCast]
  simp only [hx]
  refine wpAny_bind (wpAny_setField gi di ?sz (wpAny_pure ⟨x, rfl, hQ _ ⟨_, Heap.get?_update_self _ gi (Obj.isFreed_of_fields (Obj.data_mapFields di _)), (Obj.cls_mapFields ..).trans ci, ?_⟩ (Heap.SameBut.update ..)⟩))
  case sz => simp
  rw [Obj.data_mapFields di]
  simp [rawInt]

theorem next_list {it l : Addr} {i : Nat} {items : Array Value} {x : Value} {Q : Value → Shared → Prop} (hit : s.heap.IsListIter it l i) (hl : s.heap.IsList l items) (hx : items[i]? = some x)
    (hQ : ∀ h', h'.IsListIter it l (i + 1) → Heap.SameBut it s.heap h' → Q x { s with heap := h' }) :
    wpAny (model prog w) A (call (.builtin "next") [.ref it]) Q E s := by
  refine call_function_entry (by decide +kernel) (by decide +kernel) kdk_entry_next (kdk_args_next _) ?_
  unfold Builtin.«next»
  refine wpAny_bind (m := someArgs "next" 1 2 _) (wpAny_of_eq (a := [Value.ref it]) (by first | rfl | kernel_rfl!) ?_)
  dsimp only
  refine wpAny_bind (wpAny_specialOf (name := Str.ofString "__next__") hit.typeIs slot_listiter_next.lookup ?_)
  refine wpAny_ite_split (fun hab => absurd hab (by decide)) (fun _ => ?_)
  refine wpAny_bind (special_next hit hl hx fun h' hit' hs => ?_)
  exact wpAny_pure ⟨_, rfl, hQ h' hit' hs⟩

theorem walks_spent (hh : A.handled = none) (I ax : Addr) (hne : ax ≠ I) (items : Array Value) (j : Nat) (hj : items[j]? = none) :
    Walks prog w A I [I, ax] [I] 0 (fun _ _ => True) (fun _ h => h.IsListIter I ax j ∧ h.IsList ax items) where
  sub := fun b hb => by simp at hb; simp [hb]
  frame := fun _ _ _ st hk => .intro (st.1.at (hk I (by simp))) (st.2.at (hk ax (by simp)))
  item := fun i s Q E hi => absurd hi (Nat.not_lt_zero _)
  done := fun s Q E st hQ => wpAny_pyNext_list_end hh st.1 st.2 hj fun h' he' => hQ h' s.toks fun b o hb e => he' b o (fun h => hb (by simp [h])) e
  self := fun _ _ _ _ st hQ => wpAny_pyIter_listiter st.1 hQ

theorem extend_iter {R : Result → Shared → Prop} {I : Addr} {fp wr : List Addr} {G : Array GenState → Array GenState → Prop} {n : Nat} {P : Nat → Value → Prop} {St : Nat → Shared → Prop}
    (W : WalksS prog w A.in1 I fp wr G n P St) (hT : ∀ i s, St i s → s.TypeIs (.ref I) "list_iterator") (S : Addr) (res : Value) (c₀ : Nat) (hst : St 0 s) (hSf : S ∉ fp) (hI : I ∈ fp)
    (hS : s.heap.get? S = some { cls := .type "list", data := .seq #[] c₀ })
    (hR : ∀ s' acc' c', Moved (S :: wr) G s s' → s'.heap.get? S = some { cls := .type "list", dict := none, data := .seq acc' c', slots := #[] } → ItemsOf P acc' n → R (.ok (.ret res)) s') (hn : n ≤ sizeLine := by size_fits) :
    wpAny (model prog w) A.in1 (Builtin.List.listExtendWith (.ref S) (.ref I) res)
      (fun fin s' => match fin with | .done f => R (.ok f) s' | .again c' => c'.quiet = true ∧ codeAny (model prog w) A c' R s') (fun e s' => R (.error e) s') s := by
  have hSI : S ≠ I := fun e => hSf (e ▸ hI)
  have h1 : Builtin.List.listSameRef (.ref S) (.ref I) = false := by simp [Builtin.List.listSameRef, hSI]
  unfold Builtin.List.listExtendWith
  refine wpAny_bind (wpAny_typeOf (hT 0 _ hst) ?_)
  rw [if_neg (by rw [h1]; decide)]
  refine wpAny_bind (W.self 0 _ _ _ hst ?_)
  refine wpAny_bind (wpAny_holding ?_)
  unfold Builtin.List.listLengthHint
  refine wpAny_bind (wpAny_specialOf (hT 0 _ hst) F.nolen_li ?_)
  show wpAny _ A.in1 (specialOf (Value.ref I) (Str.ofString "__length_hint__") >>= _) _ _ _
  refine wpAny_bind (wpAny_specialOf (hT 0 _ hst) F.hint_li ?_)
  (generalize hid : ("list_iterator.__length_hint__" : String) = id0; (fail_if_success (clear hid id0)); wp_delta; rw [show splitId id0 = some ("list_iterator", "__length_hint__") from by subst hid; decide +kernel]; subst hid)
  refine wpAny_bind (wpAny_isInstance (b := true) (hT 0 _ hst) (by rw [isSubtype_type]; kernel_rfl) ?_)
  refine wpAny_pure ?_
  rw [if_neg (by decide)]
  exact wpAny_pure ⟨plainId_quiet F.plain_extend_loop _, codeAny_extend_loopS W hn _ hSf _ n 0 _ _ _ rfl (Nat.zero_le _) hst hS (ItemsOf.nil P) hR⟩

theorem list_spent {I ax : Addr} {items : Array Value} {j : Nat} {Q : Value → Shared → Prop} (hh : A.handled = none) (hne : ax ≠ I) (hit : s.heap.IsListIter I ax j) (hl : s.heap.IsList ax items) (hj : items[j]? = none)
    (hQ : ∀ h' tk c', Kp [I] s.heap h' → h'.get? s.heap.objs.size = some { cls := .type "list", dict := none, data := .seq #[] c', slots := #[] } → Q (.ref s.heap.objs.size) { s with heap := h', toks := tk }) :
    wpAny (model prog w) A (call (.type "list") [.ref I]) Q E s := by
  have hIlt : I < s.heap.objs.size := by obtain ⟨_, e, _⟩ := hit; exact Heap.lt_size e
  have hxlt : ax < s.heap.objs.size := by obtain ⟨_, e, _⟩ := hl; exact Heap.lt_size e
  refine callType_codes (Q₁ := fun obj s₁ => obj = .ref s.heap.objs.size ∧ s₁ = { s with heap := s.heap.push { cls := .type "list", data := .seq #[] } }) F.called_list (F.typeCall_list_1 _) F.entry_list_init
    (code_list_new _ ⟨rfl, rfl⟩) fun obj s₁ h₁ => ?_
  obtain ⟨rfl, rfl⟩ := h₁
  have hS : (s.heap.push { cls := .type "list", data := .seq #[] }).get? s.heap.objs.size = some { cls := .type "list", data := .seq #[] } := Heap.get?_push_size _ rfl
  refine ⟨⟨_, hS, rfl⟩, F.args_list_init_2 _ _, ?_⟩
  show wpAny _ A.in1.in1 (do let old ← Builtin.List.listItems (.ref s.heap.objs.size); Builtin.List.listUpdate (.ref s.heap.objs.size) (fun _ => #[]); letGo old.toList.reverse; Builtin.List.listExtendWith (.ref s.heap.objs.size) (.ref I) .none) _ _ _
  refine wpAny_bind ?_
  unfold Builtin.List.listItems
  refine wpAny_bind (wpAny_seqItems hS rfl (wpAny_pure ?_))
  show wpAny _ A.in1.in1 (updateSeq s.heap.objs.size (fun _ => #[]) >>= fun _ => letGo (#[] : Array Value).toList.reverse >>= fun _ => Builtin.List.listExtendWith (.ref s.heap.objs.size) (.ref I) .none) _ _ _
  refine wpAny_bind (wpAny_updateSeq hS rfl ?_)
  have hS₂ := Heap.get?_update_self (Obj.mapSeq (fun _ => (#[] : Array Value))) hS rfl
  have oth : ∀ b o, s.heap.get? b = some o → ((s.heap.push { cls := .type "list", data := .seq #[] }).update s.heap.objs.size (Obj.mapSeq (fun _ => (#[] : Array Value)))).get? b = some o :=
    fun b o e => (Heap.get?_update_other _ _ (Ne.symm (Nat.ne_of_lt (Heap.lt_size e)))).trans (Heap.get?_push_of_some _ e)
  refine wpAny_bind (wpAny_letGo ?_)
  refine extend_iter (A := A.in1) (n := 0) (fp := [I, ax]) (walks_spent (prog := prog) (w := w) (A := A.in1.in1) hh I ax hne items j hj).toS (fun _ _ st => st.1.typeIs) s.heap.objs.size .none _
    ⟨hit.at fun o e => oth I o e, hl.at fun o e => oth ax o e⟩ ?_ (by simp) hS₂ (fun s' acc' c' hm hS' hacc => ?_) (Nat.zero_le _)
  · intro hm
    rcases List.mem_cons.mp hm with e | hm
    · exact absurd hIlt (e ▸ Nat.lt_irrefl _)
    · exact absurd hxlt (List.mem_singleton.mp hm ▸ Nat.lt_irrefl _)
  · refine ⟨rfl, ?_⟩
    have e0 : acc' = #[] := by
      have := hacc.1
      exact Array.eq_empty_of_size_eq_zero this
    subst e0
    rw [Moved.eq_with hm]
    refine hQ s'.heap s'.toks c' (fun b o hb e => hm.heap b o (fun hmem => ?_) (oth b o e)) hS'
    rcases List.mem_cons.mp hmem with e' | hmem
    · exact absurd (Heap.lt_size e) (e' ▸ Nat.lt_irrefl _)
    · exact hb hmem
end
end Mine
end PartR2
section PartR3
open PySem PySem.W PyProof.Rows PySem.Spec PySem.Calls
set_option maxRecDepth 100000
namespace Mine
/-- one number read off, the figures so far handed on -/
def pv : Int → List Int → Option (Int × List Int)
  | _, [] => none
  | acc, b :: r => if b < 64 then some (acc * 64 + b % 64, r) else pv (acc * 64 + b % 64) r
def Octs (ns : List Int) : Prop := ∀ b ∈ ns, 0 ≤ b ∧ b < 128

theorem pv_le : ∀ {ns : List Int} {acc v : Int} {r : List Int}, Octs ns → 0 ≤ acc → pv acc ns = some (v, r) → acc ≤ v
  | [], _, _, _, _, _, h => by cases h
  | b :: ns, acc, v, r, ho, h0, h => by
    have hb := ho b (.head _)
    unfold pv at h
    split at h
    · cases h; omega
    · have := pv_le (fun c hc => ho c (.tail _ hc)) (by omega) h
      omega

theorem or_six {a r : Int} (ha : 0 ≤ a) (hr : 0 ≤ r) (hr2 : r < 64) : Builtin.bitOr (a * 2 ^ 6) r = a * 64 + r := by
  obtain ⟨n, rfl⟩ := Int.eq_ofNat_of_zero_le ha
  obtain ⟨k, rfl⟩ := Int.eq_ofNat_of_zero_le hr
  have h := Nat.two_pow_add_eq_or_of_lt (i := 6) (b := k) (by omega) n
  have e1 : (n : Int) * 2 ^ 6 = ((2 ^ 6 * n : Nat) : Int) := by omega
  rw [e1]
  unfold Builtin.bitOr Builtin.bitAnd
  have h1 : decide (0 ≤ Builtin.bitNot ((2 ^ 6 * n : Nat) : Int)) = false := by unfold Builtin.bitNot; exact decide_eq_false (by omega)
  have h2 : decide (0 ≤ Builtin.bitNot (k : Int)) = false := by unfold Builtin.bitNot; exact decide_eq_false (by omega)
  rw [h1, h2]
  dsimp only
  have e2 : ∀ z : Nat, (Builtin.bitNot (Builtin.bitNot (z : Int))).toNat = z := fun z => by unfold Builtin.bitNot; omega
  rw [e2, e2, ← h]
  unfold Builtin.bitNot
  omega
theorem and_64 {b : Int} (h0 : 0 ≤ b) (h1 : b < 128) : Builtin.bitAnd b 64 = if b < 64 then 0 else 64 := by
  have := kbt_bit b 6
  rw [show (2 : Int) ^ 6 = 64 from rfl] at this
  rw [this]
  split <;> omega

theorem drop_cons {ns : List Int} {i : Nat} {b : Int} (h : ns[i]? = some b) : ns.drop i = b :: ns.drop (i + 1) := by
  obtain ⟨hi, rfl⟩ := List.getElem?_eq_some_iff.mp h
  exact List.drop_eq_getElem_cons hi

abbrev itOf (l : Addr) (i : Nat) : Obj := { cls := .type "list_iterator", data := .fields #[.ref l, .int i 0] }
def IsIt (o : Obj) (l : Addr) (i : Nat) : Prop := o.cls = .type "list_iterator" ∧ o.data = .fields #[.ref l, .int i 0]

section
variable {prog : Program} {w : World} {A : Around} {E : Value → Shared → Prop} {s : Shared} {env : Env} {h₀ : Heap} {L : Addr} {m : Str → Option Value}
theorem next_head {T l : Addr} {oT : Obj} {i : Nat} {vs : List Value} {ns : List Int} {b : Int} {kl : Nat} {rest : List (Addr × Obj)} {Q : Value → Shared → Prop} (F : Fr h₀ L s.heap m) (N : News h₀ L s.heap ((T, oT) :: rest)) (hne : ∀ p ∈ rest, p.1 ≠ T)
    (ho : IsIt oT l i) (hl : (l, W.listOf vs.toArray kl) ∈ rest) (hI : IntsAre vs ns) (hx : ns[i]? = some b)
    (h : ∀ t oT' h', IsIt oT' l (i + 1) → Fr h₀ L h' m → News h₀ L h' ((T, oT') :: rest) → Q (.int b t) { s with heap := h' }) :
    wpAny (model prog w) A (call (.builtin "next") [.ref T]) Q E s := by
  have hT := N _ List.mem_cons_self
  obtain ⟨t, ht⟩ := hI.get i b hx
  have hL : s.heap.IsList l vs.toArray := ⟨_, (N _ (List.mem_cons_of_mem _ hl)).1, rfl, _, rfl⟩
  refine next_list (x := .int b t) ⟨oT, hT.1, ho.1, ho.2⟩ hL (by simpa using ht) fun h' hit hs => ?_
  obtain ⟨o', e', c', d'⟩ := hit
  refine h t o' h' ⟨c', d'⟩ (F.change hs hT.2.1 hT.2.2) fun p hp => ?_
  rcases List.mem_cons.mp hp with rfl | hp
  · exact ⟨e', hT.2⟩
  · exact ⟨hs.extBut _ _ (hne p hp) (N p (List.mem_cons_of_mem _ hp)).1, (N p (List.mem_cons_of_mem _ hp)).2⟩
end
end Mine
end PartR3
section PartR4
open PySem PySem.W PyProof.Rows PySem.Spec PySem.Calls
set_option maxRecDepth 100000
namespace Mine
def Stop (P : Prop) : Prop := P
theorem Stop.out {P : Prop} (h : Stop P) : P := h
section
variable {prog : Program} {w : World} {A : Around} {E : Value → Shared → Prop} {s : Shared} {env : Env} {h₀ : Heap} {L : Addr} {m : Str → Option Value}
theorem iter_led {l : Addr} {vs : List Value} {kl : Nat} {news : List (Addr × Obj)} {Q : Value → Shared → Prop} (F : Fr h₀ L s.heap m) (N : News h₀ L s.heap news) (hl : (l, W.listOf vs.toArray kl) ∈ news)
    (h : ∀ I h', Fr h₀ L h' m → News h₀ L h' ((I, itOf l 0) :: news) → (∀ p ∈ news, p.1 < I) → Q (.ref I) { s with heap := h' }) :
    wpAny (model prog w) A (call (.builtin "iter") [.ref l]) Q E s := by
  have hL : s.heap.IsList l vs.toArray := ⟨_, (N _ hl).1, rfl, _, rfl⟩
  exact iter_list hL (h _ _ (F.push _) (News.push F N _ rfl) fun q hq => Heap.lt_size (N q hq).1)
end
end Mine
end PartR4
section PartR5
open PySem PySem.W PyProof.Rows PySem.Spec PySem.Calls
set_option maxRecDepth 100000
namespace Mine
section
variable {M : Model} {A : Around} {E : Value → Shared → Prop} {s : Shared} {K : Frag} {h₀ : Heap} {C : Addr} {m mg mb : Str → Option Value} {env : Env} {scope : Scope} {cl : List (Str × Addr)} {p : Program} {loose : List Str} {x : Str} {pos : Pos} {v : Value} {Q : Value → Shared → Prop} {c : Addr}
theorem nameC_L (hn : s.heap.Ns C m) (hv : m x = some v) (h : Q v s)
    (hk : (relabel scope env).kind = .function := by rfl) (hx : (compEnvC scope cl C env).kindOf x = some .local := by rfl) (hd : (x == ("__debug__" : Str)) = false := by decide) :
    wpAny M A (eval (.Name x pos) (compEnvC scope cl C env)) Q E s := ldVarK hn hv h hk hx hd
theorem nameC_C {o : Obj} (hc : cl.lookup x = some c) (ho : s.heap.get? c = some o) (hd : o.data = .cell (some v)) (h : Q v s)
    (hk : (relabel scope env).kind = .function := by rfl) (hx : (compEnvC scope cl C env).kindOf x = some .cell := by rfl) (hb : (x == ("__debug__" : Str)) = false := by decide) :
    wpAny M A (eval (.Name x pos) (compEnvC scope cl C env)) Q E s := wpAny_Name (wpAny_loadName_cell hk hx hc ⟨o, ho, hd⟩ h) hb
theorem nameC_K (hst : ∀ b o, h₀.get? b = some o → s.heap.get? b = some o) (X : K.In h₀) (T : TopRead p loose mg mb h₀) (e : nsIn K mainGlobals x = some (some v)) (h : Q v s) (hg : env.globals = mainGlobals := by rfl)
    (hk : (relabel scope env).kind = .function := by rfl) (hx : (compEnvC scope cl C env).kindOf x = some .globalImplicit := by rfl) (hd : (x == ("__debug__" : Str)) = false := by decide) :
    wpAny M A (eval (.Name x pos) (compEnvC scope cl C env)) Q E s :=
  Name_function_global hk hx (loadGlobal_global (env := compEnvC scope cl C env) (by rw [show (compEnvC scope cl C env).globals = mainGlobals from hg]; exact T.g.keeps hst) (mg_of X T.g e) h) hd
theorem nameC_B (hst : ∀ b o, h₀.get? b = some o → s.heap.get? b = some o) (X : K.In h₀) (T : TopRead p loose mg mb h₀) (e : nsIn K mainGlobals x = some none) (hv : bootBuiltins x = some v) (hn : x ≠ "__name__") (h : Q v s)
    (hg : env.globals = mainGlobals := by rfl) (hbn : env.builtins = builtinsNs := by rfl)
    (hk : (relabel scope env).kind = .function := by rfl) (hx : (compEnvC scope cl C env).kindOf x = some .globalImplicit := by rfl) (hd : (x == ("__debug__" : Str)) = false := by decide) :
    wpAny M A (eval (.Name x pos) (compEnvC scope cl C env)) Q E s :=
  Name_function_global hk hx (loadGlobal_builtin (env := compEnvC scope cl C env) (by rw [show (compEnvC scope cl C env).globals = mainGlobals from hg]; exact T.g.keeps hst) (mg_none_of X T.g e) (by rw [show (compEnvC scope cl C env).builtins = builtinsNs from hbn]; exact T.b.keeps hst) ((T.builtins x hn).trans hv) h) hd
end

/-- all that a heap holds beyond h₀, L and T -/
def fullLed (h₀ : Heap) (L T : Addr) (h : Heap) : List (Addr × Obj) :=
  (List.range h.objs.size).filterMap fun b => if b = L ∨ b = T ∨ (h₀.get? b).isSome = true then none else (h.get? b).map fun o => (b, o)
theorem mem_fullLed {h₀ h : Heap} {L T : Addr} {p : Addr × Obj} : p ∈ fullLed h₀ L T h ↔ h.get? p.1 = some p.2 ∧ p.1 ≠ L ∧ p.1 ≠ T ∧ h₀.get? p.1 = none := by
  unfold fullLed
  rw [List.mem_filterMap]
  constructor
  · rintro ⟨b, hb, e⟩
    split at e
    · cases e
    · rename_i hn
      cases hg : h.get? b with
      | none => rw [hg] at e; cases e
      | some o =>
        rw [hg] at e
        cases e
        refine ⟨hg, fun q => hn (.inl q), fun q => hn (.inr (.inl q)), ?_⟩
        cases h0 : h₀.get? b with
        | none => rfl
        | some o' => exact absurd (.inr (.inr (by rw [h0]; rfl))) hn
  · rintro ⟨h1, h2, h3, h4⟩
    refine ⟨p.1, List.mem_range.mpr (Heap.lt_size h1), ?_⟩
    rw [if_neg (by rintro (q | q | q); exact h2 q; exact h3 q; rw [h4] at q; cases q), h1]
    rfl
theorem fullLed_news {h₀ h : Heap} {L T : Addr} {oT : Obj} (hT : h.get? T = some oT) (hTL : T ≠ L) (hT0 : h₀.get? T = none) : News h₀ L h ((T, oT) :: fullLed h₀ L T h) := fun p hp => by
  rcases List.mem_cons.mp hp with rfl | hp
  · exact ⟨hT, hTL, hT0⟩
  · have := mem_fullLed.mp hp
    exact ⟨this.1, this.2.1, this.2.2.2⟩
theorem kp_full {h₀ h h' : Heap} {L T : Addr} {oT : Obj} {m m' : Str → Option Value} (F : Fr h₀ L h m) (F' : Fr h₀ L h' m') (N' : News h₀ L h' ((T, oT) :: fullLed h₀ L T h)) : Kp [T, L] h h' := fun b o hb e => by
  cases h0 : h₀.get? b with
  | some o' =>
    have := F.keep b o' h0
    rw [e] at this
    cases this
    exact F'.keep b _ h0
  | none =>
    exact (N' (b, o) (List.mem_cons_of_mem _ (mem_fullLed.mpr ⟨e, fun q => hb (by have q' : b = L := q; rw [q']; simp), fun q => hb (by have q' : b = T := q; rw [q']; simp), h0⟩))).1

/-- all numbers of a tape -/
def rd : Int → List Int → List Int
  | _, [] => []
  | acc, b :: r => if b < 64 then (acc * 64 + b % 64) :: rd 0 r else rd (acc * 64 + b % 64) r
def tcount (ns : List Int) : Nat := (ns.filter fun b => decide (b < 64)).length
def Ended (ns : List Int) : Prop := ∀ b, ns.getLast? = some b → b < 64
theorem tcount_cons (b : Int) (r : List Int) : tcount (b :: r) = (if b < 64 then 1 else 0) + tcount r := by
  unfold tcount
  rw [List.filter_cons]
  by_cases h : b < 64
  · rw [if_pos (by simpa using h), if_pos h, List.length_cons]; omega
  · rw [if_neg (by simpa using h), if_neg h]; omega
theorem pv_cons (acc b : Int) (r : List Int) : pv acc (b :: r) = if b < 64 then some (acc * 64 + b % 64, r) else pv (acc * 64 + b % 64) r := rfl
theorem rd_cons (acc b : Int) (r : List Int) : rd acc (b :: r) = if b < 64 then (acc * 64 + b % 64) :: rd 0 r else rd (acc * 64 + b % 64) r := rfl
theorem pv_rd : ∀ (ns : List Int) (acc : Int), 0 < tcount ns → ∃ v r, pv acc ns = some (v, r) ∧ rd acc ns = v :: rd 0 r ∧ tcount ns = tcount r + 1 ∧ ∃ j, r = ns.drop j ∧ j ≤ ns.length
  | [], _, h => absurd h (Nat.lt_irrefl _)
  | b :: ns, acc, h => by
    rw [tcount_cons] at h ⊢
    rw [pv_cons, rd_cons]
    by_cases hb : b < 64
    · rw [if_pos hb, if_pos hb, if_pos hb]
      exact ⟨_, _, rfl, rfl, by omega, 1, rfl, by simp⟩
    · rw [if_neg hb] at h
      rw [if_neg hb, if_neg hb, if_neg hb]
      obtain ⟨v, r, h1, h2, h3, j, h4, h5⟩ := pv_rd ns (acc * 64 + b % 64) (by omega)
      exact ⟨v, r, h1, h2, by omega, j + 1, h4, by simpa using h5⟩
theorem rd_len : ∀ (ns : List Int) (acc : Int), (rd acc ns).length ≤ ns.length
  | [], _ => Nat.le_refl _
  | b :: r, acc => by
    rw [rd_cons, List.length_cons]
    split
    · rw [List.length_cons]; have := rd_len r 0; omega
    · have := rd_len r (acc * 64 + b % 64); omega
theorem tcount_zero_end {ns : List Int} (he : Ended ns) (j : Nat) (h : tcount (ns.drop j) = 0) : ns.drop j = [] := by
  cases hd : ns.drop j with
  | nil => rfl
  | cons b r =>
    exfalso
    have hne : ns.drop j ≠ [] := by rw [hd]; exact List.cons_ne_nil _ _
    have hlt : j < ns.length := by
      by_cases q : j < ns.length
      · exact q
      · exact absurd (List.drop_eq_nil_of_le (by omega)) hne
    have hl : (ns.drop j).getLast? = ns.getLast? := by
      rw [List.getLast?_drop, if_neg (by omega)]
    cases hg : (ns.drop j).getLast? with
    | none => exact hne (List.getLast?_eq_none_iff.mp hg)
    | some c =>
      have hc := he c (hl ▸ hg)
      have hmem : c ∈ (ns.drop j).filter fun b => decide (b < 64) := List.mem_filter.mpr ⟨List.mem_of_getLast? hg, by simpa using hc⟩
      unfold tcount at h
      rw [List.length_eq_zero_iff.mp h] at hmem
      cases hmem
end Mine
end PartR5
section PartR6
open PySem PySem.W PyProof.Rows PySem.Spec PySem.Calls
set_option maxRecDepth 100000
namespace Mine
section
variable {M : Model} {A : Around} {E : Value → Shared → Prop} {s : Shared} {h₀ : Heap} {L a : Addr} {m : Str → Option Value} {cn : Str} {cs : Scope} {ccd : Value} {cl : List (Str × Addr)}
  {x : Str} {v : Value} {Q : Unit → Shared → Prop} {news : List (Addr × Obj)} {c : Addr} {o : Obj} {v₀ : Option Value} {e1 : Addr × Obj}
theorem store_cell2 (F : Fr h₀ L s.heap m) (N : News h₀ L s.heap (e1 :: (c, o) :: news)) (hc : cl.lookup x = some c) (h1 : e1.1 ≠ c) (h2 : ∀ p ∈ news, p.1 ≠ c) (hd : o.data = .cell v₀)
    (h : ∀ h' o', Fr h₀ L h' m → News h₀ L h' (e1 :: (c, o') :: news) → o'.data = .cell (some v) → Q () { s with heap := h' })
    (hk : cs.kind = .function := by rfl) (hx : (envX cn cs L a ccd cl).kindOf x = some .cell := by rfl) : wpAny M A (storeName (envX cn cs L a ccd cl) x v) Q E s := by
  have hmem := N (c, o) (List.mem_cons_of_mem _ List.mem_cons_self)
  refine wpAny_storeName_cell hk hx hc ⟨o, hmem.1, hd⟩ fun h' hv hs => ?_
  obtain ⟨o', ho', hd'⟩ := hv
  refine h h' o' ⟨F.ns.sameBut hs (Ne.symm hmem.2.1), fun b ob e => (hs.2 b (fun q => ?_)).trans (F.keep b ob e), F.above⟩ (fun p hp => ?_) hd'
  · rw [q, hmem.2.2] at e; cases e
  · rcases List.mem_cons.mp hp with rfl | hp
    · have z := N p List.mem_cons_self
      exact ⟨(hs.2 _ h1).trans z.1, z.2⟩
    · rcases List.mem_cons.mp hp with rfl | hp
      · exact ⟨ho', hmem.2⟩
      · have z := N p (List.mem_cons_of_mem _ (List.mem_cons_of_mem _ hp))
        exact ⟨(hs.2 _ (h2 p hp)).trans z.1, z.2⟩
end
end Mine
end PartR6
section PartR7
open PySem PySem.W PyProof.Rows PySem.Spec PySem.Calls
set_option maxRecDepth 100000
namespace Mine
open PyProof.Rows.LCg (lst lst_snoc)
section
variable {prog : Program} {w : World} {A : Around} {E : Value → Shared → Prop} {s : Shared} {env : Env} {h₀ : Heap} {L : Addr} {m : Str → Option Value}
theorem asg_name {C : Addr} {scope : Scope} {cl : List (Str × Addr)} {x : Str} {px : Pos} {v : Value} {s₃ : Shared} {m₃ : Str → Option Value} {Q : Unit → Shared → Prop} (hx : scope.names.lookup x = some .local) (hkind : scope.kind = .function) (hn : s₃.heap.Ns C m₃)
    (hQ : ∀ h' tk m', h'.Ns C m' → m' x = some v → (∀ b o, b ≠ C → s₃.heap.get? b = some o → h'.get? b = some o) → Q () { s₃ with heap := h', toks := tk }) :
    wpAny (model prog w) A (assign (.Name x px) (compEnvC scope cl C env) v) Q E s₃ :=
  wpAny_assign_Name (wpAny_storeName_local (lookup_relabel_local hx) hn (fun h' hn' hs => hQ h' _ _ hn' (by simp) fun b o hb e => hs.extBut b o hb e) (by simp [compEnvC, relabel, hkind]))

theorem read_comp {elt iter c : Expr} {scope : Scope} {cl : List (Str × Addr)} {pos spos : Pos} {x y : Str} {px py : Pos} {Q : Flow → Shared → Prop} {T l : Addr} {oT : Obj} {vs : List Value} {ns : List Int} {kl : Nat}
    (hh : A.handled = none)
    (hsw : swapsWith (.ListComp elt [⟨.Name x px, iter, [c], 0⟩] scope pos) (some (.Name y py)) spos.line env = pure true)
    (hclos : closureFor scope env = pure cl) (hcell : ∀ y ∈ scope.names, y.2 ≠ .cell) (hkind : scope.kind = .function) (hnames : ∀ y ∈ scope.names, y.2 = .local → scope.names.lookup y.1 = some .local)
    (hy : env.kindOf y = some .local) (hp : (env.scope.kind == .class || (env.scope.kind == .module && env.locals != env.globals)) = false)
    (hx : scope.names.lookup x = some .local) (hLe : env.locals = L)
    (hoc : Octs ns) (hend : Ended ns) (hsm : ∀ v ∈ rd 0 ns, v < 2 ^ 60) (hlen : ns.length ≤ 1000) (hI : IntsAre vs ns)
    (hiter : ∀ Q' : Value → Shared → Prop, Q' (.ref l) s → wpAny (model prog w) A (eval iter env) Q' E s)
    (F : Fr h₀ L s.heap m) (hT : s.heap.get? T = some oT) (hIt : IsIt oT l 0) (hTL : T ≠ L) (hT0 : h₀.get? T = none) (hl : s.heap.get? l = some (W.listOf vs.toArray kl)) (hlT : l ≠ T) (hlL : l ≠ L)
    (htest : ∀ C b t (s₃ : Shared) m₃ (Q' : Bool → Shared → Prop) E', s₃.heap.Ns C m₃ → m₃ x = some (.int b t) → (∀ tk, Q' (decide (b < 64)) { s₃ with toks := tk }) →
      wpAny (model prog w) A (isTrue c (compEnvC scope cl C env) (eval c (compEnvC scope cl C env))) Q' E' s₃)
    (helt : ∀ C j v r oT' (s₃ : Shared) (Q' : Value → Shared → Prop) E', Fr h₀ L s₃.heap m → Kp [T, L] s.heap s₃.heap → s₃.heap.get? T = some oT' → IsIt oT' l j → pv 0 (ns.drop j) = some (v, r) → v < 2 ^ 60 →
      (∀ t oT'' h' tk' j', ns.drop j' = r → j' ≤ ns.length → h'.get? T = some oT'' → IsIt oT'' l j' → Fr h₀ L h' m → Kp [T, L] s₃.heap h' → Q' (.int v t) { s₃ with heap := h', toks := tk' }) →
      wpAny (model prog w) A (eval elt (compEnvC scope cl C env)) Q' E' s₃)
    (hQ : ∀ D h' tk ys oT' j, s.heap.objs.size ≤ D → h'.get? D = some (lst ys) → IntsAre ys (rd 0 ns) → h'.get? T = some oT' → IsIt oT' l j → ns.drop j = [] → Fr h₀ L h' (fun z => if z = y then some (.ref D) else m z) → Kp [T, L] s.heap h' →
      Q .next { s with heap := h', toks := tk })
    (hs : ∀ x, foldedSetIterable iter env x = pure x := by intro _; rfl) :
    wpAny (model prog w) A (exec (.Assign [.Name y py] (.ListComp elt [⟨.Name x px, iter, [c], 0⟩] scope pos) spos) env) Q E s := by
  subst hLe
  have hL : s.heap.IsList l vs.toArray := ⟨_, hl, rfl, _, rfl⟩
  have hTlt := ltN (Heap.lt_size hT)
  have hllt := ltN (Heap.lt_size hl)
  have hLlt := ltN F.ns.lt
  have hsz : (s.heap.push { cls := .type "list_iterator", data := .fields #[.ref l, .int 0 0] }).objs.size = s.heap.objs.size + 1 := Heap.size_push ..
  have up : ∀ b o, s.heap.get? b = some o → (s.heap.push { cls := .type "list_iterator", data := .fields #[.ref l, .int 0 0] }).get? b = some o := fun b o e => Heap.get?_push_of_some _ e
  refine comp_assign hsw hclos hcell hkind hnames hy hp (hiter _ (wpAny_pyIter_list hL ?_)) hs
  have back : ∀ h, Kp (s.heap.objs.size :: [T, env.locals]) (s.heap.push { cls := .type "list_iterator", data := .fields #[.ref l, .int 0 0] }) h → Kp [T, env.locals] s.heap h := fun h hk b o hb e =>
    hk b o (fun hm => by
      rcases List.mem_cons.mp hm with q | hm
      · have := ltN (Heap.lt_size e); have := eqN q; omega
      · exact hb hm) (up b o e)
  have frOf : ∀ h, h.Ns env.locals m → Kp [T, env.locals] s.heap h → Fr h₀ env.locals h m := fun h hn hk => ⟨hn, fun b o e => hk b o (fun hm => by
      rcases List.mem_cons.mp hm with q | hm
      · rw [q, hT0] at e; cases e
      · rw [List.mem_singleton.mp hm] at e
        have := ltN (Heap.lt_size e); have := leN F.above; omega) (F.keep b o e), F.above⟩
  refine ⟨s.heap.objs.size, [s.heap.objs.size, l], vs.toArray.size, _, _, [T, env.locals], (fun v m => m x = some v),
    (fun i ys h => ∃ j zs oT, h.get? T = some oT ∧ IsIt oT l j ∧ IntsAre ys zs ∧ zs ++ rd 0 (ns.drop j) = rd 0 ns ∧ tcount (ns.drop j) = tcount (ns.drop i) ∧ j ≤ ns.length ∧ h.Ns env.locals m), m, rfl, Walks.list hh _ _ (Nat.ne_of_lt hllt) vs.toArray, ?_, ?_, ?_, ?_, ?_, ?_, ?_, ?_, ?_, ?_⟩
  · rw [List.size_toArray, hI.length, sizeLine_eq]; omega
  · exact ⟨⟨_, Heap.get?_push_size _ rfl, rfl, rfl⟩, hL.push _⟩
  · intro b hb
    show b < (s.heap.push _).objs.size
    rw [hsz]
    rcases List.mem_cons.mp hb with rfl | hb
    · exact Nat.lt_succ_self _
    · rw [List.mem_singleton.mp hb]; exact Nat.lt_succ_of_lt hllt
  · intro b hb
    show b < (s.heap.push _).objs.size
    rw [hsz]
    rcases List.mem_cons.mp hb with rfl | hb
    · exact Nat.lt_succ_of_lt hTlt
    · rw [List.mem_singleton.mp hb]; exact Nat.lt_succ_of_lt hLlt
  · intro b hb hm
    rcases List.mem_cons.mp hb with rfl | hb
    · rcases List.mem_cons.mp hm with q | hm
      · have := eqN q; omega
      · exact hlT (List.mem_singleton.mp hm).symm
    · rw [List.mem_singleton.mp hb] at hm
      rcases List.mem_cons.mp hm with q | hm
      · have := eqN q; omega
      · exact hlL (List.mem_singleton.mp hm).symm
  · refine ⟨?_, ?_, ?_, ?_⟩
    · rintro i ys h h' ⟨j, zs, oT, h1, h2, h3, h4, h5, h6, h7⟩ hk
      exact ⟨j, zs, oT, hk _ (by simp) _ h1, h2, h3, h4, h5, h6, h7.at' fun o e => hk _ (by simp) o e⟩
    · intro i v s' Q' E' _ _ hq
      exact wpAny_pure hq
    · intro C i v s₃ m₃ Q' E' hC hP hn hK hq
      exact asg_name hx hkind hn fun h' tk m' a b c => hq h' tk m' a b c
    · rintro C D i ys v s₃ m₃ E' hC hD hDC hP hn hB hK ⟨j, zs, oT', h1, h2, h3, h4, h5, h6, h7⟩
      obtain ⟨b, t, rfl, hb⟩ := hI.at i v (by simpa using hP)
      refine TT.one (htest C b t s₃ m₃ _ _ hn hB fun tk => ⟨s₃.heap, tk, rfl, Kp.refl, ?_⟩)
      have hd : ns.drop i = b :: ns.drop (i + 1) := drop_cons hb
      by_cases hb64 : b < 64
      · rw [if_pos (decide_eq_true hb64)]
        have htc : tcount (ns.drop j) = tcount (ns.drop (i + 1)) + 1 := by rw [h5, hd, tcount_cons, if_pos hb64]; omega
        obtain ⟨v, r, e1, e2, e3, k, e4, e5⟩ := pv_rd (ns.drop j) 0 (by omega)
        have hv : v < 2 ^ 60 := hsm v (by rw [← h4, e2]; simp)
        have hK' := back _ hK
        refine helt C j v r oT' _ _ _ (frOf _ h7 hK') hK' h1 h2 e1 hv fun t oT'' h' tk' j' a1 a2 a3 a4 a5 a6 => ⟨h', tk', rfl, a6, j', zs ++ [v], oT'', a3, a4, ?_, ?_, ?_, a2, a5.ns⟩
        · exact IntsAre.append h3 (.cons v t .nil)
        · rw [a1, List.append_assoc, List.singleton_append, ← e2, h4]
        · rw [a1]; omega
      · rw [if_neg (by simpa using hb64)]
        exact ⟨j, zs, oT', h1, h2, h3, h4, by rw [h5, hd, tcount_cons, if_neg hb64]; omega, h6, h7⟩
  · exact ⟨0, [], oT, up _ _ hT, hIt, .nil, rfl, rfl, Nat.zero_le _, F.ns.push _⟩
  · show env.locals < (s.heap.push _).objs.size
    rw [hsz]; exact Nat.lt_succ_of_lt hLlt
  · rintro ys h' ⟨j, zs, oT, h1, h2, h3, h4, h5, h6, h7⟩ _
    exact h7
  · rintro D h₁ h' tk ys hD hD' ⟨j, zs, oT', h1, h2, h3, h4, h5, h6, h7⟩ hk hn hK
    replace hD : (s.heap.push { cls := .type "list_iterator", data := .fields #[.ref l, .int 0 0] }).objs.size ≤ D := hD
    rw [hsz] at hD
    have hz : ns.drop j = [] := tcount_zero_end hend j (by rw [h5, List.drop_eq_nil_of_le (by rw [List.size_toArray, hI.length]; exact Nat.le_refl _)]; rfl)
    rw [hz] at h4
    have h4' : zs = rd 0 ns := by rw [← h4]; simp [rd]
    have hK' : Kp [T, env.locals] s.heap h' := fun b o hb e => hK b o (fun hm => by
      rcases List.mem_cons.mp hm with q | hm
      · exact hb (by rw [q]; simp)
      · rcases List.mem_cons.mp hm with q | hm
        · have := ltN (Heap.lt_size e); have := eqN q; omega
        · exact hb hm) (up b o e)
    have hT' : h'.get? T = some oT' := hk T _ (by show T < (s.heap.push _).objs.size; rw [hsz]; exact Nat.lt_succ_of_lt hTlt) hTL h1
    refine hQ D h' tk ys oT' j (Nat.le_of_succ_le hD) hD' (h4' ▸ h3) hT' h2 hz ⟨hn, fun b o e => hK' b o (fun hm => ?_) (F.keep b o e), F.above⟩ hK'
    rcases List.mem_cons.mp hm with q | hm
    · rw [q, hT0] at e; cases e
    · rw [List.mem_singleton.mp hm] at e
      have := ltN (Heap.lt_size e); have := leN F.above; omega
theorem list_led {T l D : Addr} {oT oD : Obj} {vs : List Value} {j kl : Nat} {rest : List (Addr × Obj)} {Q : Value → Shared → Prop} (hh : A.handled = none) (F : Fr h₀ L s.heap m) (N : News h₀ L s.heap ((D, oD) :: (T, oT) :: rest)) (hIt : IsIt oT l j) (hj : vs.toArray[j]? = none)
    (hl : (l, W.listOf vs.toArray kl) ∈ rest) (hne : ∀ p ∈ (D, oD) :: rest, p.1 ≠ T)
    (h : ∀ S h' tk c, Fr h₀ L h' m → News h₀ L h' ((S, W.listOf ([] : List Value).toArray c) :: (D, oD) :: rest) → (∀ p ∈ (D, oD) :: rest, p.1 < S) → Q (.ref S) { s with heap := h', toks := tk }) :
    wpAny (model prog w) A (call (.type "list") [.ref T]) Q E s := by
  have hT := N (T, oT) (List.mem_cons_of_mem _ List.mem_cons_self)
  have hlN := N _ (List.mem_cons_of_mem _ (List.mem_cons_of_mem _ hl))
  have hL : s.heap.IsList l vs.toArray := ⟨_, hlN.1, rfl, _, rfl⟩
  have sub : ∀ p ∈ (D, oD) :: rest, p ∈ (D, oD) :: (T, oT) :: rest := fun p hp => by
    rcases List.mem_cons.mp hp with rfl | hp
    · exact List.mem_cons_self
    · exact List.mem_cons_of_mem _ (List.mem_cons_of_mem _ hp)
  refine list_spent hh (hne _ (List.mem_cons_of_mem _ hl)) ⟨oT, hT.1, hIt.1, hIt.2⟩ hL hj fun h' tk c hK hS => ?_
  have hS0 : h₀.get? s.heap.objs.size = none := next_is_new F
  refine h _ h' tk c ⟨F.ns.at' fun o e => hK _ o (fun hm => hT.2.1 (List.mem_singleton.mp hm).symm) e, fun b o e => hK b o (fun hm => ?_) (F.keep b o e), F.above⟩ (fun p hp => ?_) fun p hp => Heap.lt_size (N p (sub p hp)).1
  · rw [List.mem_singleton.mp hm, hT.2.2] at e; cases e
  · rcases List.mem_cons.mp hp with rfl | hp
    · exact ⟨hS, Nat.ne_of_gt F.ns.lt, hS0⟩
    · have z := N p (sub p hp)
      exact ⟨hK _ _ (fun hm => hne p hp (List.mem_singleton.mp hm)) z.1, z.2⟩
end
end Mine
end PartR7
section PartR8
open PySem PySem.W PyProof.Rows PySem.Spec PySem.Calls
set_option maxRecDepth 100000
namespace Mine
open PyProof.Rows.LCg (lst lst_snoc)
abbrev Tri := Int × Int × Int
def TupAt (h : Heap) (v : Value) (p : Tri) : Prop := ∃ t t1 t2 t3, v = .ref t ∧ IsTup h t #[.int p.1 t1, .int p.2.1 t2, .int p.2.2 t3]
inductive SpansAre (h : Heap) : List Value → List Tri → Prop
  | nil : SpansAre h [] []
  | cons {v p vs ps} : TupAt h v p → SpansAre h vs ps → SpansAre h (v :: vs) (p :: ps)
theorem TupAt.keeps {h h' : Heap} {v : Value} {p : Tri} (x : TupAt h v p) (k : ∀ b o, h.get? b = some o → h'.get? b = some o) : TupAt h' v p := by
  obtain ⟨t, t1, t2, t3, e, o, ho, r⟩ := x
  exact ⟨t, t1, t2, t3, e, o, k _ _ ho, r⟩
theorem SpansAre.keeps {h h' : Heap} {vs : List Value} {ps : List Tri} (x : SpansAre h vs ps) (k : ∀ b o, h.get? b = some o → h'.get? b = some o) : SpansAre h' vs ps := by
  induction x with
  | nil => exact .nil
  | cons a _ ih => exact .cons (a.keeps k) ih
theorem SpansAre.length {h : Heap} {vs : List Value} {ps : List Tri} (x : SpansAre h vs ps) : vs.length = ps.length := by
  induction x with
  | nil => rfl
  | cons _ _ ih => rw [List.length_cons, List.length_cons, ih]
theorem SpansAre.at {h : Heap} {vs : List Value} {ps : List Tri} (x : SpansAre h vs ps) : ∀ (i : Nat) (v : Value), vs[i]? = some v → ∃ p, ps[i]? = some p ∧ TupAt h v p := by
  induction x with
  | nil => intro i v e; simp at e
  | cons a _ ih =>
    intro i v e
    cases i with
    | zero => simp at e; subst e; exact ⟨_, rfl, a⟩
    | succ i => exact ih i v (by simpa using e)

section
variable {prog : Program} {w : World} {A : Around} {E : Value → Shared → Prop} {s : Shared} {env : Env} {h₀ : Heap} {L : Addr} {m : Str → Option Value}
theorem asg_three {C : Addr} {scope : Scope} {cl : List (Str × Addr)} {a b c : Str} {pa pb pc tp : Pos} {kk : Nat} {t : Addr} {x y z : Value} {s₃ : Shared} {m₃ : Str → Option Value} {Q : Unit → Shared → Prop} (hh : A.handled = none)
    (ha : scope.names.lookup a = some .local) (hb : scope.names.lookup b = some .local) (hc : scope.names.lookup c = some .local) (hkind : scope.kind = .function) (hab : a ≠ b) (hac : a ≠ c) (hbc : b ≠ c) (hn : s₃.heap.Ns C m₃) (ht : IsTup s₃.heap t #[x, y, z])
    (hQ : ∀ h' tk m', h'.Ns C m' → m' a = some x ∧ m' b = some y ∧ m' c = some z → (∀ b o, b ≠ C → s₃.heap.get? b = some o → h'.get? b = some o) → Q () { s₃ with heap := h', toks := tk }) :
    wpAny (model prog w) A (assign (.Tuple [.Name a pa, .Name b pb, .Name c pc] kk tp) (compEnvC scope cl C env) (.ref t)) Q E s₃ := by
  refine assign_Tuple_tuple hh ht rfl rfl fun h₁ he₁ => ?_
  have hL : C ≠ s₃.heap.objs.size := Nat.ne_of_lt hn.lt
  have hn₁ : h₁.Ns C m₃ := hn.at' fun o e => he₁ _ o hL e
  have up₁ : ∀ c o, s₃.heap.get? c = some o → h₁.get? c = some o := fun c o e => he₁ c o (Nat.ne_of_lt (Heap.lt_size e)) e
  have hp : ((compEnvC scope cl C env).scope.kind == .class || ((compEnvC scope cl C env).scope.kind == .module && (compEnvC scope cl C env).locals != (compEnvC scope cl C env).globals)) = false := by simp [compEnvC, relabel, hkind]
  show wpAny _ _ (assignInOrder [assign (.Name a pa) (compEnvC scope cl C env), assign (.Name b pb) (compEnvC scope cl C env), assign (.Name c pc) (compEnvC scope cl C env)] [x, y, z]) _ _ _
  refine assignInOrder_cons (wpAny_assign_Name (wpAny_storeName_local (lookup_relabel_local ha) hn₁ (fun h₂ hn₂ hs₂ => ?_) hp))
  refine assignInOrder_cons (wpAny_assign_Name (wpAny_storeName_local (lookup_relabel_local hb) hn₂ (fun h₃ hn₃ hs₃ => ?_) hp))
  refine assignInOrder_cons (wpAny_assign_Name (wpAny_storeName_local (lookup_relabel_local hc) hn₃ (fun h₄ hn₄ hs₄ => ?_) hp))
  refine assignInOrder_nil ?_
  exact hQ h₄ _ _ hn₄ ⟨by simp [hac, hab], by simp [hbc], by simp⟩ fun d o hd e => hs₄.extBut d o hd (hs₃.extBut d o hd (hs₂.extBut d o hd (up₁ d o e)))

/-- a comprehension over triples of ints, whose tests and element change nothing -/
structure TriTurn (prog : Program) (w : World) (A : Around) (env : Env) (scope : Scope) (cl : List (Str × Addr)) (a b c : Str) (ifs : List Expr) (elt : Expr) (ps : List Tri) (P : Tri → Bool) (f : Tri → Int) (h : Heap) : Prop where
  test : ∀ C p t1 t2 t3 (s₃ : Shared) m₃ (Q' : Bool → Shared → Prop) E', p ∈ ps → s₃.heap.Ns C m₃ → m₃ a = some (.int p.1 t1) → m₃ b = some (.int p.2.1 t2) → m₃ c = some (.int p.2.2 t3) → (∀ b o, h.get? b = some o → s₃.heap.get? b = some o) →
    (∀ tk, Q' (P p) { s₃ with toks := tk }) → TT prog w A ifs (compEnvC scope cl C env) Q' E' s₃
  elt : ∀ C p t1 t2 t3 (s₃ : Shared) m₃ (Q' : Value → Shared → Prop) E', p ∈ ps → P p = true → s₃.heap.Ns C m₃ → m₃ a = some (.int p.1 t1) → m₃ b = some (.int p.2.1 t2) → m₃ c = some (.int p.2.2 t3) → (∀ b o, h.get? b = some o → s₃.heap.get? b = some o) →
    (∀ t tk, Q' (.int (f p) t) { s₃ with toks := tk }) → wpAny (model prog w) A (eval elt (compEnvC scope cl C env)) Q' E' s₃

theorem tri_turn {elt : Expr} {ifs : List Expr} {scope : Scope} {cl : List (Str × Addr)} {a b c : Str} {pa pb pc tp : Pos} {kk : Nat} {l : Addr} {vs : List Value} {ps : List Tri} {P : Tri → Bool} {f : Tri → Int}
    (hh : A.handled = none) (ha : scope.names.lookup a = some .local) (hb : scope.names.lookup b = some .local) (hc : scope.names.lookup c = some .local) (hkind : scope.kind = .function) (hab : a ≠ b) (hac : a ≠ c) (hbc : b ≠ c)
    (S : SpansAre s.heap vs ps) (R : TriTurn prog w A env scope cl a b c ifs elt ps P f s.heap) :
    Turn prog w A env scope cl (.Tuple [.Name a pa, .Name b pb, .Name c pc] kk tp) ifs elt s.heap.objs.size [] (fun i v => vs.toArray[i]? = some v) (fun i h => h.IsListIter s.heap.objs.size l i ∧ h.IsList l vs.toArray)
      (fun v m => ∃ p t1 t2 t3, p ∈ ps ∧ (∃ i : Nat, ps[i]? = some p ∧ vs[i]? = some v) ∧ m a = some (.int p.1 t1) ∧ m b = some (.int p.2.1 t2) ∧ m c = some (.int p.2.2 t3))
      (fun i ys _ => IntsAre ys (((ps.take i).filter P).map f)) { s with heap := s.heap.push { cls := .type "list_iterator", data := .fields #[.ref l, .int 0 0] } } where
  frame := fun _ _ _ _ h _ => h
  lot := fun i v s' Q' E' hP hst hq => by
    obtain ⟨p, _, t, _, _, _, rfl, _⟩ := S.at i v (by simpa using hP)
    exact wpAny_letOwnedTupleGo_listiter hst.1 hq
  asg := fun C i v s₃ m₃ Q' E' hC hP hn hK hq => by
    obtain ⟨p, hp, t, t1, t2, t3, rfl, ht⟩ := S.at i v (by simpa using hP)
    have hk : ∀ b o, s.heap.get? b = some o → s₃.heap.get? b = some o := fun b o e => hK b o (fun hm => by have := eqN (List.mem_singleton.mp hm); have := ltN (Heap.lt_size e); omega) (Heap.get?_push_of_some _ e)
    refine asg_three hh ha hb hc hkind hab hac hbc hn (ht.keeps hk) fun h' tk m' a1 a2 a3 => hq h' tk m' a1 ⟨p, t1, t2, t3, List.mem_of_getElem? hp, ⟨i, hp, by simpa using hP⟩, a2.1, a2.2.1, a2.2.2⟩ a3
  body := fun C D i ys v s₃ m₃ E' hC hD hDC hP hn hB hK hJ => by
    obtain ⟨p', hp', ht'⟩ := S.at i v (by simpa using hP)
    obtain ⟨p, t1, t2, t3, hmem, ⟨j, hj, hvj⟩, hma, hmb, hmc⟩ := hB
    have hk : ∀ b o, s.heap.get? b = some o → s₃.heap.get? b = some o := fun b o e => hK b o (fun hm => by have := eqN (List.mem_singleton.mp hm); have := ltN (Heap.lt_size e); omega) (Heap.get?_push_of_some _ e)
    obtain ⟨p'', hp'', ht''⟩ := S.at j v hvj
    have epp : p'' = p' := by
      obtain ⟨t, u1, u2, u3, e1, o, ho, _, n, hd⟩ := ht'
      obtain ⟨t', u1', u2', u3', e2, o', ho', _, n', hd'⟩ := ht''
      rw [e1] at e2
      cases e2
      rw [ho] at ho'
      cases ho'
      rw [hd] at hd'
      injection hd' with hd' _
      have q : [Value.int p'.1 u1, .int p'.2.1 u2, .int p'.2.2 u3] = [Value.int p''.1 u1', .int p''.2.1 u2', .int p''.2.2 u3'] := by simpa using hd'
      obtain ⟨x1, x2, x3⟩ := p'
      obtain ⟨y1, y2, y3⟩ := p''
      simp at q
      obtain ⟨⟨q1, _⟩, ⟨q2, _⟩, q3, _⟩ := q
      rw [q1, q2, q3]
    have epp2 : p'' = p := by rw [hj] at hp''; cases hp''; rfl
    have hpi : ps[i]? = some p := by rw [hp', ← epp, epp2]
    have htk : ps.take (i + 1) = ps.take i ++ [p] := by
      rw [List.take_add_one, hpi]; rfl
    refine R.test C p t1 t2 t3 s₃ m₃ _ E' hmem hn hma hmb hmc hk fun tk => ⟨s₃.heap, tk, rfl, Kp.refl, ?_⟩
    cases hPp : P p with
    | false =>
      rw [if_neg Bool.false_ne_true, htk, List.filter_append]
      simpa [hPp] using hJ
    | true =>
      rw [if_pos rfl]
      refine R.elt C p t1 t2 t3 _ m₃ _ E' hmem hPp hn hma hmb hmc hk fun t tk' => ⟨s₃.heap, tk', rfl, Kp.refl, ?_⟩
      rw [htk, List.filter_append]
      simpa [hPp] using IntsAre.append hJ (.cons (f p) t .nil)

theorem tri_eval {elt iter : Expr} {ifs : List Expr} {scope : Scope} {cl : List (Str × Addr)} {pos : Pos} {a b c : Str} {pa pb pc tp : Pos} {kk : Nat} {l : Addr} {vs : List Value} {ps : List Tri} {P : Tri → Bool} {f : Tri → Int} {Q : Value → Shared → Prop}
    (hh : A.handled = none) (hclos : closureFor scope env = pure cl) (hcell : ∀ y ∈ scope.names, y.2 ≠ .cell) (hkind : scope.kind = .function) (hnames : ∀ y ∈ scope.names, y.2 = .local → scope.names.lookup y.1 = some .local)
    (ha : scope.names.lookup a = some .local) (hb : scope.names.lookup b = some .local) (hc : scope.names.lookup c = some .local) (hab : a ≠ b) (hac : a ≠ c) (hbc : b ≠ c)
    (hiter : ∀ Q' : Value → Shared → Prop, Q' (.ref l) s → wpAny (model prog w) A (eval iter env) Q' E s) (hl : s.heap.IsList l vs.toArray) (hlen : ps.length ≤ 1000) (S : SpansAre s.heap vs ps) (R : TriTurn prog w A env scope cl a b c ifs elt ps P f s.heap)
    (hQ : ∀ D h' tk ys, s.heap.objs.size ≤ D → h'.get? D = some (lst ys) → IntsAre ys ((ps.filter P).map f) → (∀ b o, s.heap.get? b = some o → h'.get? b = some o) → Q (.ref D) { s with heap := h', toks := tk })
    (hs : ∀ x, foldedSetIterable iter env x = pure x := by intro _; rfl) (few : ifs.length ≤ 1 := by exact Nat.le_of_ble_eq_true rfl) :
    wpAny (model prog w) A (eval (.ListComp elt [⟨.Tuple [.Name a pa, .Name b pb, .Name c pc] kk tp, iter, ifs, 0⟩] scope pos) env) Q E s := by
  have hllt : l < s.heap.objs.size := by obtain ⟨_, e, _⟩ := hl; exact Heap.lt_size e
  have hsz : (s.heap.push { cls := .type "list_iterator", data := .fields #[.ref l, .int 0 0] }).objs.size = s.heap.objs.size + 1 := Heap.size_push ..
  refine comp_eval hclos hcell hkind hnames (hiter _ (wpAny_pyIter_list hl ?_)) hs few
  refine ⟨s.heap.objs.size, [s.heap.objs.size, l], vs.toArray.size, _, _, [], _, _, rfl, Walks.list hh _ _ (Nat.ne_of_lt hllt) vs.toArray, ?_, ⟨⟨_, Heap.get?_push_size _ rfl, rfl, rfl⟩, hl.push _⟩, ?_, (by intro b hb; cases hb), (by intro b hb; cases hb), tri_turn hh ha hb hc hkind hab hac hbc S R, ?_, ?_⟩
  · rw [List.size_toArray, S.length, sizeLine_eq]; omega
  · intro b hb
    show b < (s.heap.push _).objs.size
    rw [hsz]
    rcases List.mem_cons.mp hb with rfl | hb
    · exact Nat.lt_succ_self _
    · rw [List.mem_singleton.mp hb]; exact Nat.lt_succ_of_lt hllt
  · exact .nil
  · intro D h' tk ys hD hD' hJ hK
    replace hD : (s.heap.push { cls := .type "list_iterator", data := .fields #[.ref l, .int 0 0] }).objs.size ≤ D := hD
    rw [hsz] at hD
    refine hQ D h' tk ys (Nat.le_of_succ_le hD) hD' ?_ fun b o e => hK b o (fun hm => by have := eqN (List.mem_singleton.mp hm); have := ltN (Heap.lt_size e); omega) (Heap.get?_push_of_some _ e)
    rw [List.take_of_length_le (by rw [List.size_toArray, S.length]; exact Nat.le_refl _)] at hJ
    exact hJ

theorem tri_assign {elt iter : Expr} {ifs : List Expr} {scope : Scope} {cl : List (Str × Addr)} {pos spos : Pos} {y : Str} {py : Pos} {a b c : Str} {pa pb pc tp : Pos} {kk : Nat} {l : Addr} {vs : List Value} {ps : List Tri} {P : Tri → Bool} {f : Tri → Int} {Q : Flow → Shared → Prop}
    (hh : A.handled = none)
    (hsw : swapsWith (.ListComp elt [⟨.Tuple [.Name a pa, .Name b pb, .Name c pc] kk tp, iter, ifs, 0⟩] scope pos) (some (.Name y py)) spos.line env = pure true)
    (hclos : closureFor scope env = pure cl) (hcell : ∀ y ∈ scope.names, y.2 ≠ .cell) (hkind : scope.kind = .function) (hnames : ∀ y ∈ scope.names, y.2 = .local → scope.names.lookup y.1 = some .local)
    (hy : env.kindOf y = some .local) (hp : (env.scope.kind == .class || (env.scope.kind == .module && env.locals != env.globals)) = false) (hLe : env.locals = L)
    (ha : scope.names.lookup a = some .local) (hb : scope.names.lookup b = some .local) (hc : scope.names.lookup c = some .local) (hab : a ≠ b) (hac : a ≠ c) (hbc : b ≠ c)
    (hiter : ∀ Q' : Value → Shared → Prop, Q' (.ref l) s → wpAny (model prog w) A (eval iter env) Q' E s) (hl : s.heap.IsList l vs.toArray) (hlen : ps.length ≤ 1000) (S : SpansAre s.heap vs ps) (R : TriTurn prog w A env scope cl a b c ifs elt ps P f s.heap)
    (F : Fr h₀ L s.heap m)
    (hQ : ∀ D h' tk ys, s.heap.objs.size ≤ D → h'.get? D = some (lst ys) → IntsAre ys ((ps.filter P).map f) → (∀ b o, b ≠ L → s.heap.get? b = some o → h'.get? b = some o) → Fr h₀ L h' (fun z => if z = y then some (.ref D) else m z) → Q .next { s with heap := h', toks := tk })
    (hs : ∀ x, foldedSetIterable iter env x = pure x := by intro _; rfl) (few : ifs.length ≤ 1 := by exact Nat.le_of_ble_eq_true rfl) :
    wpAny (model prog w) A (exec (.Assign [.Name y py] (.ListComp elt [⟨.Tuple [.Name a pa, .Name b pb, .Name c pc] kk tp, iter, ifs, 0⟩] scope pos) spos) env) Q E s := by
  subst hLe
  have hllt : l < s.heap.objs.size := by obtain ⟨_, e, _⟩ := hl; exact Heap.lt_size e
  have hLlt := F.ns.lt
  have hsz : (s.heap.push { cls := .type "list_iterator", data := .fields #[.ref l, .int 0 0] }).objs.size = s.heap.objs.size + 1 := Heap.size_push ..
  refine comp_assign hsw hclos hcell hkind hnames hy hp (hiter _ (wpAny_pyIter_list hl ?_)) hs few
  refine ⟨s.heap.objs.size, [s.heap.objs.size, l], vs.toArray.size, _, _, [], _, _, m, rfl, Walks.list hh _ _ (Nat.ne_of_lt hllt) vs.toArray, ?_, ⟨⟨_, Heap.get?_push_size _ rfl, rfl, rfl⟩, hl.push _⟩, ?_, (by intro b hb; cases hb), (by intro b hb; cases hb), tri_turn hh ha hb hc hkind hab hac hbc S R, ?_, ?_, ?_, ?_⟩
  · rw [List.size_toArray, S.length, sizeLine_eq]; omega
  · intro b hb
    show b < (s.heap.push _).objs.size
    rw [hsz]
    rcases List.mem_cons.mp hb with rfl | hb
    · exact Nat.lt_succ_self _
    · rw [List.mem_singleton.mp hb]; exact Nat.lt_succ_of_lt hllt
  · exact .nil
  · show env.locals < (s.heap.push _).objs.size
    rw [hsz]; exact Nat.lt_succ_of_lt hLlt
  · intro ys h' _ hK
    exact (F.ns.push _).at' fun o e => hK _ o (fun hm => by have := eqN (List.mem_singleton.mp hm); have := ltN hLlt; omega) e
  · intro D h₁ h' tk ys hD hD' hJ hk hn hK
    replace hD : (s.heap.push { cls := .type "list_iterator", data := .fields #[.ref l, .int 0 0] }).objs.size ≤ D := hD
    rw [hsz] at hD
    have hk' : ∀ b o, b ≠ env.locals → s.heap.get? b = some o → h'.get? b = some o := fun b o hb e => hK b o (fun hm => by
      rcases List.mem_cons.mp hm with q | hm
      · exact hb q
      · have := eqN (List.mem_singleton.mp hm); have := ltN (Heap.lt_size e); omega) (Heap.get?_push_of_some _ e)
    refine hQ D h' tk ys (Nat.le_of_succ_le hD) hD' ?_ hk' ⟨hn, fun b o e => hk' b o (fun q => ?_) (F.keep b o e), F.above⟩
    · rw [List.take_of_length_le (by rw [List.size_toArray, S.length]; exact Nat.le_refl _)] at hJ
      exact hJ
    · have := ltN (Heap.lt_size e); have := eqN q; have := leN F.above; omega
end
end Mine
end PartR8
section PartR9
open PySem PySem.W PyProof.Rows PySem.Spec PySem.Calls
set_option maxRecDepth 100000
namespace Mine
open PyProof.Rows.LCg (lst lst_snoc)
section
variable {prog : Program} {w : World} {A : Around} {E : Value → Shared → Prop} {s : Shared} {env : Env} {h₀ : Heap} {L : Addr} {m : Str → Option Value}
theorem iadd_list {a b : Addr} {x y : List Value} {na nb : Nat} {Q : Value → Shared → Prop} (ha : s.heap.get? a = some (W.listOf x.toArray na)) (hb : s.heap.get? b = some (W.listOf y.toArray nb)) (hsz : x.length + y.length ≤ 1000)
    (hQ : ∀ h' c, Heap.SameBut a s.heap h' → h'.get? a = some (W.listOf (x ++ y).toArray c) → Q (.ref a) { s with heap := h' }) :
    wpAny (model prog w) A (inplaceOp .Add (.ref a) (.ref b)) Q E s := by
  have hTa : s.TypeIs (.ref a) "list" := ⟨_, ha, rfl⟩
  have hTb : s.TypeIs (.ref b) "list" := ⟨_, hb, rfl⟩
  unfold inplaceOp
  refine wpAny_holding ?_
  have hfi : fillsInplaceSlot (.type "list") "add" (Operator.Add == .Add) = pure false := by
    unfold fillsInplaceSlot
    show (typeLookup (.type "list") (dunderI "add") >>= fun fi => pure (fi.isSome && !isSeqSlot fi)) = pure false
    rw [F.slot_list_iadd.lookup]
    rw [pure_bind]
    exact congrArg pure (by decide +kernel)
  have hsi : seqSlot? (.type "list") (dunderI "add") = pure (some (.builtin "list.__iadd__")) := PySem.seqSlot_of F.slot_list_iadd.lookup (by decide +kernel)
  refine wpAny_bind (wpAny_typeOf hTa (wpAny_bind (wpAny_of_eq hfi ?_)))
  show wpAny (model prog w) A (if false = true then _ else _) Q E s
  rw [if_neg Bool.false_ne_true]
  refine wpAny_bind (wpAny_binaryOp1_none (nm := "add") hTa hTb noFill_list_add ?_)
  refine wpAny_bind (wpAny_of_eq hsi ?_)
  refine wpAny_bind (wpAny_rule ?_)
  have htl : ¬ (!x.toArray.isEmpty && Builtin.List.listTooLong (x.toArray.size + y.toArray.size)) = true := by
    intro h
    have := (Bool.and_eq_true_iff.mp h).2
    simp [Builtin.List.listTooLong, sizeLine] at this
    omega
  refine call_meets F.slot_list_iadd hTa F.entry_list_iadd (F.args_list_iadd_2 _ _) (AutoSeq1.list___iadd___list_list_0 a x.toArray na b y.toArray nb htl (by rw [List.size_toArray, sizeLine_eq]; omega) (by rw [List.size_toArray, List.size_toArray, sizeLine_eq]; omega)) ⟨ha, hb, ?_⟩
  have e := Heap.get?_update_self (Obj.mapSeq fun z => z ++ y.toArray) ha rfl
  show Q (.ref a) _
  simp only [Obj.mapSeq, List.append_toArray] at e
  exact hQ _ _ (Heap.SameBut.update ..) e
end
end Mine
namespace Mine
def TupIn (news : List (Addr × Obj)) (v : Value) (p : Tri) : Prop := ∃ t o n t1 t2 t3, v = .ref t ∧ (t, o) ∈ news ∧ o.cls = .type "tuple" ∧ o.data = .seq #[.int p.1 t1, .int p.2.1 t2, .int p.2.2 t3] n
inductive SpansIn (news : List (Addr × Obj)) : List Value → List Tri → Prop
  | nil : SpansIn news [] []
  | cons {v p vs ps} : TupIn news v p → SpansIn news vs ps → SpansIn news (v :: vs) (p :: ps)
theorem SpansIn.are {news : List (Addr × Obj)} {h : Heap} {vs : List Value} {ps : List Tri} (x : SpansIn news vs ps) (N : ∀ p ∈ news, h.get? p.1 = some p.2) : SpansAre h vs ps := by
  induction x with
  | nil => exact .nil
  | cons a _ ih =>
    obtain ⟨t, o, n, t1, t2, t3, e, hm, hc, hd⟩ := a
    exact .cons ⟨t, t1, t2, t3, e, o, N _ hm, hc, n, hd⟩ ih
theorem SpansIn.mono {news news' : List (Addr × Obj)} {vs : List Value} {ps : List Tri} (x : SpansIn news vs ps) (hs : ∀ p ∈ news, p ∈ news') : SpansIn news' vs ps := by
  induction x with
  | nil => exact .nil
  | cons a _ ih =>
    obtain ⟨t, o, n, t1, t2, t3, e, hm, hc, hd⟩ := a
    exact .cons ⟨t, o, n, t1, t2, t3, e, hs _ hm, hc, hd⟩ ih
def dueF (front : Int) (p : Tri) : Int := p.1.fdiv (64 ^ (p.2.2 - front).toNat) * 64 + 46
def dueB (size back : Int) (p : Tri) : Int := p.1.fmod (64 ^ (p.2.2 - size + back).toNat)
def dueL (ps : List Tri) (size front back : Int) : List Int :=
  (ps.filter fun p => decide (p.2.2 ≤ front)).map (·.1) ++ (ps.filter fun p => decide (p.2.1 ≤ front) && decide (front < p.2.2)).map (dueF front) ++ [46, 46] ++ (ps.filter fun p => decide (size - back < p.2.2)).map (dueB size back)
end Mine
namespace Mine
theorem pow64_ne (k : Nat) : (64 : Int) ^ k ≠ 0 := Int.ne_of_gt (Int.pow_pos (by decide))
theorem pow64_log {k : Nat} (hk : k ≤ 1000) : ((64 : Int) ^ k).natAbs.log2 < 9000 := by
  have e : (64 : Int) ^ k = 2 ^ ((6 * k : Nat) : Int).toNat := by
    rw [Int.toNat_natCast, Int.pow_mul]; rfl
  rw [e]
  exact kbt_py (by omega)
end Mine
end PartR9
section PartR10
open PySem PySem.W PyProof.Rows PySem.Spec PySem.Calls
set_option maxRecDepth 100000
namespace Mine
open PyProof.Rows.LCg (lst lst_snoc)
section
variable {prog : Program} {w : World} {A : Around} {E : Value → Shared → Prop} {s : Shared} {env : Env} {h₀ : Heap} {L : Addr} {m : Str → Option Value}
/-- a comprehension over one name, no test, whose element changes nothing: the turn -/
theorem name_turn {elt : Expr} {scope : Scope} {cl : List (Str × Addr)} {x : Str} {px : Pos} {o : Obj} {P : Nat → Value → Prop} {St : Nat → Heap → Prop} {G : Nat → Value → Prop} (hx : scope.names.lookup x = some .local) (hkind : scope.kind = .function)
    (R : ∀ C i v (s₃ : Shared) m₃ (Q' : Value → Shared → Prop) E', P i v → s₃.heap.Ns C m₃ → m₃ x = some v → (∀ b o, s.heap.get? b = some o → s₃.heap.get? b = some o) → (∀ y tk, G i y → Q' y { s₃ with toks := tk }) →
      wpAny (model prog w) A (eval elt (compEnvC scope cl C env)) Q' E' s₃) :
    Turn prog w A env scope cl (.Name x px) [] elt s.heap.objs.size [] P St (fun v m => m x = some v) (fun i ys _ => ys.length = i ∧ ∀ j y, ys[j]? = some y → G j y) { s with heap := s.heap.push o } where
  frame := fun _ _ _ _ h _ => h
  lot := fun i v s' Q' E' _ _ hq => wpAny_pure hq
  asg := fun C i v s₃ m₃ Q' E' hC hP hn hK hq => asg_name hx hkind hn hq
  body := fun C D i ys v s₃ m₃ E' hC hD hDC hP hn hB hK hJ => by
    have hk : ∀ b o, s.heap.get? b = some o → s₃.heap.get? b = some o := fun b o' e => hK b o' (fun hm => by have := eqN (List.mem_singleton.mp hm); have := ltN (Heap.lt_size e); omega) (Heap.get?_push_of_some _ e)
    refine TT.nil ⟨s₃.heap, s₃.toks, rfl, Kp.refl, ?_⟩
    rw [if_pos rfl]
    refine R C i v s₃ m₃ _ E' hP hn hB hk fun y tk hy => ⟨s₃.heap, tk, rfl, Kp.refl, by rw [List.length_append, List.length_singleton, hJ.1], fun j z hz => ?_⟩
    rcases Nat.lt_trichotomy j ys.length with h | h | h
    · exact hJ.2 j z (by rwa [List.getElem?_append_left h] at hz)
    · subst h; simp at hz; subst hz; rw [hJ.1]; exact hy
    · have hnone : (ys ++ [y])[j]? = none := List.getElem?_eq_none (by rw [List.length_append, List.length_singleton]; omega)
      rw [hnone] at hz; cases hz

theorem name_eval {elt iter : Expr} {scope : Scope} {cl : List (Str × Addr)} {pos : Pos} {x : Str} {px : Pos} {n : Nat} {P : Nat → Value → Prop} {G : Nat → Value → Prop} {Q : Value → Shared → Prop}
    (hclos : closureFor scope env = pure cl) (hcell : ∀ y ∈ scope.names, y.2 ≠ .cell) (hkind : scope.kind = .function) (hnames : ∀ y ∈ scope.names, y.2 = .local → scope.names.lookup y.1 = some .local) (hx : scope.names.lookup x = some .local)
    (hn : n ≤ 1000)
    (hsrc : ∀ Q' : Value → Shared → Prop, (∀ o fp St, Walks prog w A s.heap.objs.size fp [s.heap.objs.size] n P St → St 0 (s.heap.push o) → (∀ b ∈ fp, b < s.heap.objs.size + 1) → Q' (.ref s.heap.objs.size) { s with heap := s.heap.push o }) →
      wpAny (model prog w) A (eval iter env) (fun xv s₁ => wpAny (model prog w) A (pyIter xv) Q' E s₁) E s)
    (R : ∀ C i v (s₃ : Shared) m₃ (Q' : Value → Shared → Prop) E', P i v → s₃.heap.Ns C m₃ → m₃ x = some v → (∀ b o, s.heap.get? b = some o → s₃.heap.get? b = some o) → (∀ y tk, G i y → Q' y { s₃ with toks := tk }) →
      wpAny (model prog w) A (eval elt (compEnvC scope cl C env)) Q' E' s₃)
    (hQ : ∀ D h' tk ys, s.heap.objs.size ≤ D → h'.get? D = some (lst ys) → ys.length = n → (∀ j y, ys[j]? = some y → G j y) → (∀ b o, s.heap.get? b = some o → h'.get? b = some o) → Q (.ref D) { s with heap := h', toks := tk })
    (hs : ∀ x, foldedSetIterable iter env x = pure x := by intro _; rfl) :
    wpAny (model prog w) A (eval (.ListComp elt [⟨.Name x px, iter, [], 0⟩] scope pos) env) Q E s := by
  refine comp_eval hclos hcell hkind hnames (hsrc _ fun o fp St W hst hfp => ?_) hs
  have hsz : (s.heap.push o).objs.size = s.heap.objs.size + 1 := Heap.size_push ..
  refine ⟨s.heap.objs.size, fp, n, P, St, [], _, _, rfl, W, ?_, hst, ?_, (by intro b hb; cases hb), (by intro b hb; cases hb), name_turn hx hkind R, ?_, ?_⟩
  · rw [sizeLine_eq]; omega
  · intro b hb
    show b < (s.heap.push o).objs.size
    rw [hsz]
    exact hfp b hb
  · exact ⟨rfl, fun j y e => by simp at e⟩
  · intro D h' tk ys hD hD' hJ hK
    replace hD : (s.heap.push o).objs.size ≤ D := hD
    rw [hsz] at hD
    exact hQ D h' tk ys (Nat.le_of_succ_le hD) hD' hJ.1 hJ.2 fun b o' e => hK b o' (fun hm => by have := eqN (List.mem_singleton.mp hm); have := ltN (Heap.lt_size e); omega) (Heap.get?_push_of_some _ e)

theorem src_list {iter : Expr} {l : Addr} {items : Array Value} (hh : A.handled = none) (hiter : ∀ Q' : Value → Shared → Prop, Q' (.ref l) s → wpAny (model prog w) A (eval iter env) Q' E s) (hl : s.heap.IsList l items) :
    ∀ Q' : Value → Shared → Prop, (∀ o fp St, Walks prog w A s.heap.objs.size fp [s.heap.objs.size] items.size (fun i v => items[i]? = some v) St → St 0 (s.heap.push o) → (∀ b ∈ fp, b < s.heap.objs.size + 1) → Q' (.ref s.heap.objs.size) { s with heap := s.heap.push o }) →
      wpAny (model prog w) A (eval iter env) (fun xv s₁ => wpAny (model prog w) A (pyIter xv) Q' E s₁) E s := fun Q' h => by
  have hlt : l < s.heap.objs.size := by obtain ⟨_, e, _⟩ := hl; exact Heap.lt_size e
  refine hiter _ (wpAny_pyIter_list hl (h _ _ _ (Walks.list hh _ _ (Nat.ne_of_lt hlt) items) ⟨⟨_, Heap.get?_push_size _ rfl, rfl, rfl⟩, hl.push _⟩ fun b hb => ?_))
  rcases List.mem_cons.mp hb with rfl | hb
  · exact Nat.lt_succ_self _
  · rw [List.mem_singleton.mp hb]; exact Nat.lt_succ_of_lt hlt
theorem src_str {iter : Expr} {x : Str} {t : Tok} (hh : A.handled = none) (hiter : ∀ Q' : Value → Shared → Prop, Q' (.str x t) s → wpAny (model prog w) A (eval iter env) Q' E s) :
    ∀ Q' : Value → Shared → Prop, (∀ o fp St, Walks prog w A s.heap.objs.size fp [s.heap.objs.size] x.cps.size (SignAt x) St → St 0 (s.heap.push o) → (∀ b ∈ fp, b < s.heap.objs.size + 1) → Q' (.ref s.heap.objs.size) { s with heap := s.heap.push o }) →
      wpAny (model prog w) A (eval iter env) (fun xv s₁ => wpAny (model prog w) A (pyIter xv) Q' E s₁) E s := fun Q' h => by
  refine hiter _ (wpAny_pyIter_str fun o St W hst => h o _ St (W A hh) hst fun b hb => ?_)
  rw [List.mem_singleton.mp hb]; exact Nat.lt_succ_self _
end
theorem ints_of_at : ∀ {ys : List Value} {ns : List Int}, ys.length = ns.length → (∀ (j : Nat) (y : Value), ys[j]? = some y → ∃ b t, ns[j]? = some b ∧ y = Value.int b t) → IntsAre ys ns
  | [], [], _, _ => .nil
  | y :: ys, n :: ns, hl, h => by
    obtain ⟨b, t, e1, e2⟩ := h 0 y rfl
    have e1' : n = b := by simpa using e1
    subst e1' e2
    exact .cons _ _ (ints_of_at (by simpa using hl) fun j z hz => by simpa using h (j + 1) z (by simpa using hz))
  | [], _ :: _, hl, _ => by simp at hl
  | _ :: _, [], hl, _ => by simp at hl

section
variable {prog : Program} {w : World} {A : Around} {E : Value → Shared → Prop} {s : Shared} {env : Env} {h₀ : Heap} {L : Addr} {m : Str → Option Value} {news : List (Addr × Obj)}
theorem new_led {D : Addr} {h' : Heap} {ys : List Value} {tk : Nat} (F : Fr h₀ L s.heap m) (N : News h₀ L s.heap news) (hD : s.heap.objs.size ≤ D) (hD' : h'.get? D = some (lst ys)) (hk : ∀ b o, s.heap.get? b = some o → h'.get? b = some o) :
    Fr h₀ L h' m ∧ News h₀ L h' ((D, W.listOf ys.toArray ys.length) :: news) ∧ (∀ p ∈ news, p.1 < D) := by
  refine ⟨F.keeps hk, fun p hp => ?_, fun p hp => Nat.lt_of_lt_of_le (Heap.lt_size (N p hp).1) hD⟩
  rcases List.mem_cons.mp hp with rfl | hp
  · refine ⟨hD', Nat.ne_of_gt (Nat.lt_of_lt_of_le F.ns.lt hD), ?_⟩
    cases q : h₀.get? D with
    | none => rfl
    | some o9 => exact absurd (Heap.lt_size (F.keep _ _ q)) (Nat.not_lt.mpr hD)
  · exact ⟨hk _ _ (N p hp).1, (N p hp).2⟩

theorem map_led {elt iter : Expr} {scope : Scope} {cl : List (Str × Addr)} {pos : Pos} {x : Str} {px : Pos} {D : Addr} {ws : List Value} {ns : List Int} {f : Int → Int} {Q : Value → Shared → Prop} (hh : A.handled = none)
    (hclos : closureFor scope env = pure cl) (hcell : ∀ y ∈ scope.names, y.2 ≠ .cell) (hkind : scope.kind = .function) (hnames : ∀ y ∈ scope.names, y.2 = .local → scope.names.lookup y.1 = some .local) (hx : scope.names.lookup x = some .local)
    (F : Fr h₀ L s.heap m) (N : News h₀ L s.heap news) (hD : s.heap.IsList D ws.toArray) (hI : IntsAre ws ns) (hn : ns.length ≤ 1000)
    (hiter : ∀ Q' : Value → Shared → Prop, Q' (.ref D) s → wpAny (model prog w) A (eval iter env) Q' E s)
    (R : ∀ C b t (s₃ : Shared) m₃ (Q' : Value → Shared → Prop) E', b ∈ ns → s₃.heap.Ns C m₃ → m₃ x = some (.int b t) → (∀ t tk, Q' (.int (f b) t) { s₃ with toks := tk }) → wpAny (model prog w) A (eval elt (compEnvC scope cl C env)) Q' E' s₃)
    (h : ∀ D' h' tk ys, Fr h₀ L h' m → News h₀ L h' ((D', W.listOf ys.toArray ys.length) :: news) → (∀ p ∈ news, p.1 < D') → IntsAre ys (ns.map f) → Q (.ref D') { s with heap := h', toks := tk })
    (hs : ∀ x, foldedSetIterable iter env x = pure x := by intro _; rfl) :
    wpAny (model prog w) A (eval (.ListComp elt [⟨.Name x px, iter, [], 0⟩] scope pos) env) Q E s := by
  refine name_eval (G := fun i y => ∃ b t, (ns.map f)[i]? = some b ∧ y = .int b t) hclos hcell hkind hnames hx (by rw [List.size_toArray, hI.length]; exact hn) (src_list hh hiter hD) (fun C i v s₃ m₃ Q' E' hP hN hv hk hq => ?_) (fun D' h' tk ys hD1 hD2 hl hG hk => ?_) hs
  · obtain ⟨b, t, rfl, hb⟩ := hI.at i v (by simpa using hP)
    exact R C b t s₃ m₃ Q' E' (List.mem_of_getElem? hb) hN hv fun t' tk => hq _ tk ⟨f b, t', by rw [List.getElem?_map, hb]; rfl, rfl⟩
  · obtain ⟨F', N', l'⟩ := new_led (tk := tk) F N hD1 hD2 hk
    exact h D' h' tk ys F' N' l' (ints_of_at (by rw [hl, List.size_toArray, hI.length, List.length_map]) hG)
end
theorem news_pick {h₀ h : Heap} {L : Addr} {x : Addr × Obj} {l news : List (Addr × Obj)} (N : News h₀ L h (x :: l)) (hs : ∀ p ∈ news, p ∈ l) : News h₀ L h (x :: news) := fun p hp => by
  rcases List.mem_cons.mp hp with rfl | hp
  · exact N _ List.mem_cons_self
  · exact N _ (List.mem_cons_of_mem _ (hs p hp))
end Mine
end PartR10
section PartC5
open PySem PySem.W PyProof.Rows PySem.Spec PySem.Calls
namespace Mine

theorem fr_abs2 {h₀ h : Heap} {L : Addr} {x z : Str} {a c : Option Value} {m0 : Str → Option Value} (F : Fr h₀ L h (fun y => if y = x then a else if y = z then c else m0 y)) :
    ∃ m1 : Str → Option Value, m1 = m0 ∧ Fr h₀ L h (fun y => if y = x then a else if y = z then c else m1 y) := ⟨m0, rfl, F⟩
def vmap (val b : Int) (t t' : Tok) (Ta : Addr) (m0 : Str → Option Value) : Str → Option Value :=
  fun y => if y = PySem.Str.ofString "val" then some (.int val t) else if y = PySem.Str.ofString "b" then some (.int b t') else if y = PySem.Str.ofString "iterator" then some (.ref Ta) else m0 y
theorem vmap_of {val b : Int} {t t' : Tok} {Ta : Addr} {m0 : Str → Option Value} (h : m0 (PySem.Str.ofString "iterator") = some (.ref Ta)) :
    (fun y => if y = PySem.Str.ofString "val" then some (Value.int val t) else if y = PySem.Str.ofString "b" then some (.int b t') else m0 y) = vmap val b t t' Ta m0 := by
  funext y
  unfold vmap
  split
  · rfl
  · split
    · rfl
    · split
      · rename_i e; rw [e, h]
      · rfl
theorem vmap_turn {v2 v1 val b b' : Int} {t t' t1 t2 t3 : Tok} {Ta : Addr} {m0 : Str → Option Value} :
    (fun y => if y = PySem.Str.ofString "val" then some (Value.int v2 t2) else if y = PySem.Str.ofString "b" then some (.int b' t3) else if y = PySem.Str.ofString "val" then some (.int v1 t1) else
      if y = PySem.Str.ofString "val" then some (.int val t) else if y = PySem.Str.ofString "b" then some (.int b t') else if y = PySem.Str.ofString "iterator" then some (.ref Ta) else m0 y) = vmap v2 b' t2 t3 Ta m0 := by
  funext y
  unfold vmap
  repeat' split
  all_goals first | rfl | contradiction
local macro_rules | `(tactic| walk_at "call builtin:next") => `(tactic| (refine' next_head ?nF ?nN ?nne ?no ?nl ?nI ?nx ?_; (case nF => k_asm); (case nN => k_asm); (case nne => assumption); (case no => assumption); (case nl => assumption); (case nI => assumption); (case nx => assumption); intro tn oT' h' hIt' F' N'; (try k_sweep)))
local macro_rules | `(tactic| walk_at "WhileStep") => `(tactic| refine Stop.out ?_)
set_option maxRecDepth 100000 in
set_option maxHeartbeats 8000000 in
theorem parse_call {w : World} {s₀ : Shared} {mg mb : Str → Option Value} {Ta l : Addr} {oT : Obj} {i : Nat} {r : List Int} {vs : List Value} {ns : List Int} {kl : Nat} {v b0 : Int} (hoc : Octs ns) (hI : IntsAre vs ns) (hIt : IsIt oT l i) (hp : pv 0 (ns.drop i) = some (v, r)) (hv : v < 2 ^ 60) (hb0 : ns[i]? = some b0)
   {dp un : Nat} {gd : Option (List Code)} {cn : Str} {cs : Scope} {a : Addr} {ccd : Value} {cl : List (Str × Addr)} {outer : List Env} {A₀ : Around} {base h₀ : Heap} {L : Addr} {m : Str → Option Value} {rest : List (Addr × Obj)} {s : Shared} {Q E : Value → Shared → Prop}
   (B : Below A₀ base outer h₀) (F : Fr h₀ L s.heap m) (X : (hd.heap_39 w.params).In h₀) (N : News h₀ L s.heap ((Ta, oT) :: rest)) (T : Top hd.view_39 (looseW hd.view_39 []) (ExcName.means s₀.heap) mg mb h₀) (hk : cs.kind = .function) (hdp : dp + 3 < recursionLimit) (hu : un + 20 < cLine)
   (hne : ∀ p ∈ rest, p.1 ≠ Ta) (hl : (l, W.listOf vs.toArray kl) ∈ rest)
   (hret : ∀ t oT' h' tk' j, ns.drop j = r → j ≤ ns.length → IsIt oT' l j → Fr h₀ L h' m → News h₀ L h' ((Ta, oT') :: rest) → Q (.int v t) { s with heap := h', toks := tk' }) : 
   wpAny (model Challenge.rw_ph0003_01.row.prog w) (ktrTop dp un gd cn cs L a ccd cl outer) (call (.ref 28) [.ref Ta]) Q E s := by
  revert X; k_fill; intro X
  w_on
  refine wpAny_call ?_
  k_dflt cell_enter
  k_with "exec While BinOp cons nil" => (refine Stop.out ?_)
  k_steps
  rename Fr _ _ _ _ => F1
  rename News _ _ _ _ => N1
  rename IsIt _ _ _ => hIt1
  have hbm := hoc b0 (List.mem_of_getElem? hb0)
  obtain ⟨m0, hm0, F1⟩ := fr_abs2 F1
  have hm1 : m0 (PySem.Str.ofString "iterator") = some (.ref Ta) := by rw [hm0]; rfl
  rw [vmap_of hm1] at F1
  clear hm0 hm1
  unfold Stop
  have hi : i < ns.length := (List.getElem?_eq_some_iff.mp hb0).1
  refine While_inv (n₀ := ns.length - (i + 1)) (fun n m₁ news₁ => ∃ (val b : Int) (t t' : Tok) (oT' : Obj) (k : Nat), m₁ = vmap val b t t' Ta m0 ∧ news₁ = (Ta, oT') :: rest ∧ IsIt oT' l k ∧ n = ns.length - k ∧ k ≤ ns.length ∧ 0 ≤ b ∧ b < 128 ∧ 0 ≤ val ∧ val ≤ v ∧
    (if b < 64 then val = v ∧ ns.drop k = r else pv val (ns.drop k) = some (v, r))) F1 N1 ⟨_, _, _, _, _, i + 1, rfl, rfl, hIt1, rfl, hi, hbm.1, hbm.2, ?_, ?_, ?_⟩ ?_ ?_
  · rw [bitAnd_m6]; omega
  · rw [bitAnd_m6]
    rw [drop_cons hb0] at hp
    unfold pv at hp
    split at hp
    · cases hp; omega
    · have := pv_le (fun c hc => hoc c (List.mem_of_mem_drop hc)) (by omega) hp
      omega
  · rw [bitAnd_m6]
    rw [drop_cons hb0] at hp
    unfold pv at hp
    split at hp
    · rw [if_pos (by assumption)]; cases hp; exact ⟨by omega, rfl⟩
    · rw [if_neg (by assumption)]; rw [Int.zero_mul, Int.zero_add] at hp; exact hp
  · rintro n m₁ news₁ h₁ tk₁ F₂ N₂ ⟨val, b, t, t', oT', k, rfl, rfl, hIt2, rfl, hk2, hb1, hb2, hv1, hv2, hpv⟩
    unfold vmap at F₂
    have hw := and_64 hb1 hb2
    by_cases h64 : b < 64
    · rw [if_pos h64] at hpv hw
      k_steps
      · exfalso; simp_all
      · rename Fr h₀ L _ m => F9
        rename News h₀ L _ _ => N9
        obtain ⟨rfl, hr9⟩ := hpv
        exact hret _ _ _ _ k hr9 hk2 hIt2 F9 N9
    · rw [if_neg h64] at hpv hw
      obtain ⟨b', hb'⟩ : ∃ b', ns[k]? = some b' := by
        cases e : ns[k]? with
        | some b' => exact ⟨b', rfl⟩
        | none =>
          rw [List.drop_eq_nil_of_le (List.getElem?_eq_none_iff.mp e)] at hpv
          cases hpv
      have hk3 := (List.getElem?_eq_some_iff.mp hb').1
      have hbm' := hoc b' (List.mem_of_getElem? hb')
      k_steps
      · rename Fr _ _ _ _ => F9
        rename News _ _ _ _ => N9
        rename IsIt _ _ _ => hIt9
        unfold Stop
        rw [vmap_turn] at F9
        have e2 : Builtin.bitOr (val * 2 ^ Int.toNat 6) (Builtin.bitAnd b' 63) = val * 64 + b' % 64 := by rw [bitAnd_m6]; exact or_six hv1 (by omega) (by omega)
        rw [e2] at F9
        rw [drop_cons hb'] at hpv
        unfold pv at hpv
        refine WhileStep.intro F9 N9 (by omega) ⟨_, _, _, _, _, k + 1, rfl, rfl, hIt9, rfl, hk3, hbm'.1, hbm'.2, by omega, ?_, ?_⟩
        · split at hpv
          · cases hpv; omega
          · have := pv_le (fun c hc => hoc c (List.mem_of_mem_drop hc)) (by omega) hpv
            omega
        · split at hpv
          · rw [if_pos (by assumption)]; cases hpv; exact ⟨rfl, rfl⟩
          · rw [if_neg (by assumption)]; exact hpv
      · exfalso; simp_all
  · passes_own
end Mine
end PartC5
section PartC3
open PySem PySem.W PyProof.Rows PySem.Spec PySem.Calls
namespace Mine

open PyProof.Rows.LCg (lst lst_snoc)
set_option maxRecDepth 100000 in
set_option maxHeartbeats 8000000 in
theorem read_call {w : World} {s₀ : Shared} {mg mb : Str → Option Value} {l : Addr} {vs : List Value} {ns : List Int} {k : Nat} (hoc : Octs ns) (hend : Ended ns) (hsm : ∀ v ∈ rd 0 ns, v < 2 ^ 60) (hlen : ns.length ≤ 1000) (hI : IntsAre vs ns)
   {dp un : Nat} {gd : Option (List Code)} {cn : Str} {cs : Scope} {a : Addr} {ccd : Value} {cl : List (Str × Addr)} {outer : List Env} {A₀ : Around} {base h₀ : Heap} {L : Addr} {m : Str → Option Value} {news : List (Addr × Obj)} {s : Shared} {Q E : Value → Shared → Prop}
   (B : Below A₀ base outer h₀) (F : Fr h₀ L s.heap m) (X : (hd.heap_39 w.params).In h₀) (N : News h₀ L s.heap (news)) (T : Top hd.view_39 (looseW hd.view_39 []) (ExcName.means s₀.heap) mg mb h₀) (hk : cs.kind = .function) (hdp : dp + 10 < recursionLimit) (hu : un + 60 < cLine)
   (hl : (l, W.listOf vs.toArray k) ∈ news)
   (hret : ∀ r h' tk' zs c, IntsAre zs (rd 0 ns) → Fr h₀ L h' m → News h₀ L h' ((r, W.listOf zs.toArray c) :: news) → (∀ p ∈ news, p.1 < r) → Q (.ref r) { s with heap := h', toks := tk' }) : 
   wpAny (model Challenge.rw_ph0003_01.row.prog w) (ktrTop dp un gd cn cs L a ccd cl outer) (call (.ref 38) [.ref l]) Q E s := by
  revert X; k_fill; intro X
  w_on
  refine wpAny_call ?_
  k_dflt (refine' code_defC ?k1 ?k2 ?k3 ?k4 ?k5 ?kA ?kF ?kK ?k6 ?k7 ?k8 ?k9 ?kB ?kD ?_ ?c2 ?c3 ?c4; (case kA => exact rfl); (case kF => exact rfl); (case kK => assumption); (case k1 => k_asm); (case k2 => k_asm); (case k3 => k_asm); (case k4 => k_asm); (case k5 => k_asm); (case k6 => k_is); (case k7 => k_is); (case k8 => ktr_room); (case k9 => exact BindsTo.of_eq rfl); (case kB => exact rfl); (case kD => decide +kernel); (case c2 => exact rfl); (case c3 => exact rfl); (case c4 => exact rfl); k_whole; intro g' L' h' tk' cells' FG' F' N' Y' B' X' T' l1; (try k_lt l1); k_cells Y'; (try simp only [List.cons_append, List.nil_append] at N'); (try dsimp only); (try k_fold))
  have l0 := l1
  have l1' : ∀ p ∈ news, p.1 ≠ L' + 1 := fun p hp => neN (by have := ltN (l1 p hp); omega)
  k_with "call builtin:iter" => (refine iter_led (by k_asm) (by k_asm) (by first | assumption | (refine List.mem_cons_of_mem _ ?_; assumption)) ?_; intro Ti h' F' N' l1; (try k_sweep))
  k_with "storeName" => (refine store_cell2 (by k_asm) (by k_asm) rfl (Ne.symm (Nat.ne_of_lt (l1 _ List.mem_cons_self))) l1' (by assumption) ?_ rfl rfl; intro h' o' F' N' d'; (try k_sweep))
  k_with "exec Assign cons ListComp" => (refine Stop.out ?_)
  k_steps
  k_with_none

  unfold Stop
  obtain ⟨m5, hm5, F'⟩ : ∃ m5, m5 (PySem.Str.ofString "octets") = some (.ref l) ∧ Fr g' L' h' m5 := ⟨_, rfl, F'⟩
  have hTi := N' _ List.mem_cons_self
  have hcell := N' (L' + 1, o') (List.mem_cons_of_mem _ List.mem_cons_self)
  have hlN := N' _ (List.mem_cons_of_mem _ (List.mem_cons_of_mem _ hl))
  have lT : ∀ p ∈ (L' + 1, o') :: news, p.1 < Ti := fun p hp => by
    rcases List.mem_cons.mp hp with rfl | hp
    · have z := l1 _ List.mem_cons_self; exact z
    · exact l1 p (List.mem_cons_of_mem _ hp)
  have hlT : l ≠ Ti := Nat.ne_of_lt (l1 _ (List.mem_cons_of_mem _ hl))
  have hcT : L' + 1 ≠ Ti := Nat.ne_of_lt (l1 _ List.mem_cons_self)
  refine read_comp (cl := [(PySem.Str.ofString "tape", L' + 1)]) (T := Ti) (l := l) (oT := itOf l 0) rfl (by rfl) (by with_unfolding_all rfl) (by decide) rfl (by decide) rfl rfl rfl rfl hoc hend hsm hlen hI ?hiter F' hTi.1 ⟨rfl, rfl⟩ hTi.2.1 hTi.2.2 hlN.1 hlT hlN.2.1 ?htest ?helt ?hQ
  case hiter => exact fun Q' hq => nameX_L F' hm5 hq rfl rfl
  case htest =>
    intro C b t s₃ m₃ Q' E' hn hv hq
    k_with "eval Name" => (refine nameC_L hn hv ?_)
    k_steps
    k_with_none
    exact hq _
  case helt =>
    intro C j v r oT' s₃ Q' E' F3 hK h1 h2 h3 h4 hq
    obtain ⟨b0, hb0⟩ : ∃ b0, ns[j]? = some b0 := by
      cases e : ns[j]? with
      | some b' => exact ⟨b', rfl⟩
      | none =>
        rw [List.drop_eq_nil_of_le (List.getElem?_eq_none_iff.mp e)] at h3
        cases h3
    have hc3 : s₃.heap.get? (L' + 1) = some o' := hK _ _ (by
      intro hm
      rcases List.mem_cons.mp hm with q | hm
      · exact hcT q
      · exact Nat.succ_ne_self _ (List.mem_singleton.mp hm)) hcell.1
    have hl3 := hK _ _ (by
      intro hm
      rcases List.mem_cons.mp hm with q | hm
      · exact hlT q
      · exact hlN.2.1 (List.mem_singleton.mp hm)) hlN.1
    have hf := X' 28 _ (by k_is)
    refine Call_ (nameC_K F3.keep X' (topRead_of T') (by k_is) ?_)
    refine callWith_def_at hf rfl (args_cons (nameC_C rfl hc3 d' (args_nil ⟨F3.keep _ _ hf, ?_⟩)))
    refine parse_call hoc hI h2 h3 h4 hb0 B' F3 X' (fullLed_news h1 hTi.2.1 hTi.2.2) T' rfl ?_ ?_ (fun p hp => (mem_fullLed.mp hp).2.2.1) (mem_fullLed.mpr ⟨hl3, hlN.2.1, hlT, hlN.2.2⟩) ?_
    · show dp + 1 + 3 < recursionLimit
      omega
    · show un + 3 + 20 < cLine
      omega
    · intro t oT'' h9 tk9 j9 a1 a2 a3 F9 N9
      exact hq t oT'' h9 tk9 j9 a1 a2 (N9 _ List.mem_cons_self).1 a3 F9 (kp_full F3 F9 N9)
  case hQ =>
    intro D h3 tk3 ys oT3 j hD hD3 hI3 hT3 hIt3 hj F3 hK3
    replace hD : h'.objs.size ≤ D := hD
    have N3 : News g' L' h3 ((D, W.listOf ys.toArray ys.length) :: (Ti, oT3) :: (L' + 1, o') :: news) := fun p hp => by
      rcases List.mem_cons.mp hp with rfl | hp
      · refine ⟨hD3, Nat.ne_of_gt (Nat.lt_of_lt_of_le F'.ns.lt hD), ?_⟩
        cases q : g'.get? D with
        | none => rfl
        | some o9 => exact absurd (Heap.lt_size (F'.keep _ _ q)) (Nat.not_lt.mpr hD)
      · rcases List.mem_cons.mp hp with rfl | hp
        · exact ⟨hT3, hTi.2⟩
        · have z := N' p (List.mem_cons_of_mem _ hp)
          refine ⟨hK3 _ _ (fun hm => ?_) z.1, z.2⟩
          rcases List.mem_cons.mp hm with q | hm
          · exact absurd (lT p hp) (q ▸ Nat.lt_irrefl _)
          · exact z.2.1 (List.mem_singleton.mp hm)
    have hrl : (rd 0 ns).length ≤ 1000 := Nat.le_trans (rd_len ns 0) hlen
    dsimp only
    k_with "call type:list" => (refine Stop.out ?_)
    k_steps
    k_with_none
    unfold Stop
    refine list_led (vs := vs) (kl := k) rfl F3 N3 hIt3 (by
      rw [List.getElem?_toArray, List.getElem?_eq_none_iff, hI.length]
      exact List.drop_eq_nil_iff.mp hj) (List.mem_cons_of_mem _ hl) (fun p hp => by
      rcases List.mem_cons.mp hp with rfl | hp
      · exact Nat.ne_of_gt (Nat.lt_of_lt_of_le (Heap.lt_size hTi.1) hD)
      · exact Nat.ne_of_lt (lT p hp)) ?_
    intro S h9 tk9 c9 F9 N9 l9
    refine kmk_add_ints F9 N9 (News.isList N9 (.tail _ (.head _))) (News.isList N9 (.head _)) hI3 .nil ?_ (by rw [sizeLine_eq]; simp only [List.length_nil]; omega)
    intro D' ws' h8 F8 N8 l8 hI8
    dsimp only
    k_steps
    rename Fr h₀ L _ m => Fz
    rename News h₀ L _ _ => Nz
    rw [List.append_nil] at hI8
    exact hret _ _ _ _ _ hI8 Fz (fun p hp => Nz p (by
      rcases List.mem_cons.mp hp with rfl | hp
      · exact List.mem_cons_self
      · exact .tail _ (.tail _ (.tail _ (.tail _ hp))))) (fun p hp => l8 p (.tail _ (.tail _ (.tail _ hp))))

end Mine
end PartC3
section PartC4
open PySem PySem.W PyProof.Rows PySem.Spec PySem.Calls
namespace Mine

open PyProof.Rows.LCg (lst lst_snoc)
set_option maxRecDepth 100000 in
set_option maxHeartbeats 8000000 in
theorem due_call {w : World} {s₀ : Shared} {mg mb : Str → Option Value} {l : Addr} {vs : List Value} {ps : List Tri} {size front back : Int} {t1 t2 t3 : Tok} {k : Nat} (hps : ∀ p ∈ ps, 0 ≤ p.1 ∧ p.1 < 4096 ∧ 0 ≤ p.2.1 ∧ p.2.2 ≤ 1000) (hlen : ps.length ≤ 20) (hs : 0 ≤ size ∧ size ≤ 1000) (hf : 0 ≤ front ∧ front ≤ 1000) (hb : 0 ≤ back ∧ back ≤ 1000)
   {dp un : Nat} {gd : Option (List Code)} {cn : Str} {cs : Scope} {a : Addr} {ccd : Value} {cl : List (Str × Addr)} {outer : List Env} {A₀ : Around} {base h₀ : Heap} {L : Addr} {m : Str → Option Value} {news : List (Addr × Obj)} {s : Shared} {Q E : Value → Shared → Prop}
   (B : Below A₀ base outer h₀) (F : Fr h₀ L s.heap m) (X : (hd.heap_39 w.params).In h₀) (N : News h₀ L s.heap (news)) (T : Top hd.view_39 (looseW hd.view_39 []) (ExcName.means s₀.heap) mg mb h₀) (hk : cs.kind = .function) (hdp : dp + 10 < recursionLimit) (hu : un + 60 < cLine)
   (hl : (l, W.listOf vs.toArray k) ∈ news) (hS : SpansIn news vs ps)
   (hret : ∀ r h' tk' zs c, IntsAre zs (dueL ps size front back) → Fr h₀ L h' m → News h₀ L h' ((r, W.listOf zs.toArray c) :: news) → (∀ p ∈ news, p.1 < r) → Q (.ref r) { s with heap := h', toks := tk' }) : 
   wpAny (model Challenge.rw_ph0003_01.row.prog w) (ktrTop dp un gd cn cs L a ccd cl outer) (call (.ref 43) [.ref l, .int size t1, .int front t2, .int back t3]) Q E s := by
  revert X; k_fill; intro X
  w_on
  refine wpAny_call ?_
  k_dflt (refine' code_defC ?k1 ?k2 ?k3 ?k4 ?k5 ?kA ?kF ?kK ?k6 ?k7 ?k8 ?k9 ?kB ?kD ?_ ?c2 ?c3 ?c4; (case kA => exact rfl); (case kF => exact rfl); (case kK => assumption); (case k1 => k_asm); (case k2 => k_asm); (case k3 => k_asm); (case k4 => k_asm); (case k5 => k_asm); (case k6 => k_is); (case k7 => k_is); (case k8 => ktr_room); (case k9 => exact BindsTo.of_eq rfl); (case kB => exact rfl); (case kD => decide +kernel); (case c2 => exact rfl); (case c3 => exact rfl); (case c4 => exact rfl); k_whole; intro g' L' h' tk' cells' FG' F' N' Y' B' X' T' l1; (try k_lt l1); k_cells Y'; (try simp only [List.cons_append, List.nil_append] at N'); (try dsimp only); (try k_fold))
  rename_i oB oF oS d1 d2 d3
  have dB : oB.data = .cell (some (.int back t3)) := d1
  have dF : oF.data = .cell (some (.int front t2)) := d2
  have dS : oS.data = .cell (some (.int size t1)) := d3
  clear d1 d2 d3
  obtain ⟨m5, hm5, F5⟩ : ∃ m5, m5 (PySem.Str.ofString "spans") = some (.ref l) ∧ Fr g' L' h' m5 := ⟨_, rfl, F'⟩
  clear F'
  have hNk : ∀ (h9 : Heap), (∀ b o, b ≠ L' → h'.get? b = some o → h9.get? b = some o) → News g' L' h9 ((L' + 1 + 1 + 1, oB) :: (L' + 1 + 1, oF) :: (L' + 1, oS) :: news) := fun h9 hk p hp => ⟨hk _ _ (N' p hp).2.1 (N' p hp).1, (N' p hp).2⟩
  have hlN := (N' _ (.tail _ (.tail _ (.tail _ hl)))).1
  have hcB := (N' (L' + 1 + 1 + 1, oB) (.head _)).1
  have hcF := (N' (L' + 1 + 1, oF) (.tail _ (.head _))).1
  have hcS := (N' (L' + 1, oS) (.tail _ (.tail _ (.head _)))).1
  have hSp : SpansAre h' vs ps := hS.are fun p hp => (N' p (.tail _ (.tail _ (.tail _ hp)))).1
  refine wpAny_execs_cons ?_
  refine tri_assign (cl := [(PySem.Str.ofString "front", L' + 1 + 1)]) (l := l) (vs := vs) (ps := ps) (P := fun p => decide (p.2.2 ≤ front)) (f := fun p => p.1) rfl (by rfl) (by with_unfolding_all rfl) (by decide) rfl (by decide) rfl rfl rfl rfl rfl rfl (by decide) (by decide) (by decide)
    (fun Q' hq => nameX_L F5 hm5 hq rfl rfl) ⟨_, hlN, rfl, _, rfl⟩ (by omega) hSp ⟨?t1, ?e1⟩ F5 ?_
  case t1 =>
    intro C p u1 u2 u3 s₃ m₃ Q' E' hp hn ha hb hc hk hq
    refine TT.one ?_
    k_with "eval Name" => (refine nameC_L hn hc ?_)
    k_with "eval Name" => (refine nameC_C rfl (hk _ _ hcF) dF ?_)
    k_steps
    k_with_none
    exact hq _
  case e1 =>
    intro C p u1 u2 u3 s₃ m₃ Q' E' hp hP hn ha hb hc hk hq
    exact nameC_L hn ha (hq _ _)
  intro D1 h1 tk1 ys1 hD1 hD1' hI1 hk1 F1
  dsimp only
  have N1 := hNk h1 hk1
  have hlN1 := (N1 _ (.tail _ (.tail _ (.tail _ hl)))).1
  have hcB1 := (N1 (L' + 1 + 1 + 1, oB) (.head _)).1
  have hcF1 := (N1 (L' + 1 + 1, oF) (.tail _ (.head _))).1
  have hcS1 := (N1 (L' + 1, oS) (.tail _ (.tail _ (.head _)))).1
  have hSp1 : SpansAre h1 vs ps := hS.are fun p hp => (N1 p (.tail _ (.tail _ (.tail _ hp)))).1
  refine wpAny_execs_cons (wpAny_AugAssign_Name (wpAny_loadName_local rfl rfl F1.ns (if_pos rfl) ?_))
  refine tri_eval (cl := [(PySem.Str.ofString "front", L' + 1 + 1)]) (l := l) (vs := vs) (ps := ps) (P := fun p => decide (p.2.1 ≤ front) && decide (front < p.2.2)) (f := dueF front) rfl (by with_unfolding_all rfl) (by decide) rfl (by decide) rfl rfl rfl (by decide) (by decide) (by decide)
    (fun Q' hq => nameX_L F1 ((if_neg (by decide)).trans hm5) hq rfl rfl) ⟨_, hlN1, rfl, _, rfl⟩ (by omega) hSp1 ⟨?t2, ?e2⟩ ?_
  case t2 =>
    intro C p u1 u2 u3 s₃ m₃ Q' E' hp hn ha hb hc hk hq
    refine TT.one ?_
    have z := hq s₃.toks
    k_with "eval Name" => (refine nameC_L hn hc ?_)
    k_with "eval Name" => (refine nameC_L hn hb ?_)
    k_with "eval Name" => (refine nameC_C rfl (hk _ _ hcF1) dF ?_)
    by_cases hle : p.2.1 ≤ front
    · rw [decide_eq_true hle, Bool.true_and] at z
      k_steps
      all_goals first | exact z | (exfalso; simp_all; done)
    · rw [decide_eq_false hle, Bool.false_and] at z
      k_steps
      all_goals first | exact z | (exfalso; simp_all; done)
    k_with_none
  case e2 =>
    intro C p u1 u2 u3 s₃ m₃ Q' E' hp hP hn ha hb hc hk hq
    have hpp := hps p hp
    have hPP : p.2.1 ≤ front ∧ front < p.2.2 := by simpa using hP
    refine wpAny_BinOp (wpAny_BinOp (wpAny_BinOp (nameC_L hn ha ?_)))
    refine wpAny_BinOp (wpAny_Constant_int (wpAny_BinOp (nameC_L hn hc ?_)))
    refine nameC_C rfl (hk _ _ hcF1) dF ?_
    refine PyProof.Rows.sub_int (pow_int_small (by omega) (by omega) (by decide) ?_)
    refine floordiv_int (pow64_ne _) ?_ (Or.inl (PyProof.noPylong_of_log2 (pow64_log (by omega))))
    refine wpAny_Constant_int (PyProof.Rows.mul_int ?_ (IntMulOk.of_right (by decide +kernel)))
    exact wpAny_Constant_int (PyProof.Rows.add_int (hq _ _))
  intro D2 h2 tk2 ys2 hD2 hD2' hI2 hk2
  replace hD1 : h'.objs.size ≤ D1 := hD1
  replace hD2 : h1.objs.size ≤ D2 := hD2
  have hD1L : D1 ≠ L' := Nat.ne_of_gt (Nat.lt_of_lt_of_le F5.ns.lt hD1)
  have hD1g : g'.get? D1 = none := by
    cases q : g'.get? D1 with
    | none => rfl
    | some o9 => exact absurd (Heap.lt_size (F5.keep _ _ q)) (Nat.not_lt.mpr hD1)
  have hBL : ∀ p ∈ (L' + 1 + 1 + 1, oB) :: (L' + 1 + 1, oF) :: (L' + 1, oS) :: news, p.1 ≠ D1 := fun p hp => Nat.ne_of_lt (Nat.lt_of_lt_of_le (Heap.lt_size (N' p hp).1) hD1)
  have hn1 : ys1.length ≤ 20 := by rw [hI1.length, List.length_map]; exact Nat.le_trans (List.length_filter_le _ _) hlen
  have hn2 : ys2.length ≤ 20 := by rw [hI2.length, List.length_map]; exact Nat.le_trans (List.length_filter_le _ _) hlen
  have F2 := F1.keeps hk2
  have N2 := N1.grown hk2
  refine iadd_list (hk2 _ _ hD1') hD2' (by omega) fun h3 c3 hs3 hg3 => ?_
  have F3 := F2.change hs3 hD1L hD1g
  have N3 : News g' L' h3 ((D1, W.listOf (ys1 ++ ys2).toArray c3) :: (L' + 1 + 1 + 1, oB) :: (L' + 1 + 1, oF) :: (L' + 1, oS) :: news) := fun p hp => by
    rcases List.mem_cons.mp hp with rfl | hp
    · exact ⟨hg3, hD1L, hD1g⟩
    · exact ⟨hs3.extBut _ _ (hBL p hp) (N2 p hp).1, (N2 p hp).2⟩
  refine storeX_L F3 N3 (fun h4 F4 N4 => ?_) rfl rfl
  dsimp only
  have hI12 := hI1.append hI2
  clear F3 N3 F2 N2
  refine wpAny_execs_cons (wpAny_AugAssign_Name (wpAny_loadName_local rfl rfl F4.ns (if_pos rfl) ?_))
  k_with "inplaceOp Add ref ref" => (refine Stop.out ?_)
  k_steps
  k_with_none
  unfold Stop
  rename Fr g' L' _ _ => F6
  rename News g' L' _ _ => N6
  rename_i l6 h6 l16
  obtain ⟨u1, u2, N6⟩ : ∃ u1 u2, News g' L' h6 ((l6, W.listOf [Value.int 46 u1, Value.int 46 u2].toArray 0) :: (D1, W.listOf (ys1 ++ ys2).toArray c3) :: (L' + 1 + 1 + 1, oB) :: (L' + 1 + 1, oF) :: (L' + 1, oS) :: news) := ⟨_, _, N6⟩
  refine iadd_list (N6 _ (.tail _ (.head _))).1 (N6 _ (.head _)).1 (by simp only [List.length_append, List.length_cons, List.length_nil]; omega) fun h7 c7 hs7 hg7 => ?_
  have F7 := F6.change hs7 hD1L hD1g
  have hI3 := hI12.append (.cons 46 u1 (.cons 46 u2 .nil))
  have hn3 : (ys1 ++ ys2 ++ [Value.int 46 u1, Value.int 46 u2]).length ≤ 42 := by simp only [List.length_append, List.length_cons, List.length_nil]; omega
  generalize ys1 ++ ys2 ++ [Value.int 46 u1, Value.int 46 u2] = ys3 at hg7 hI3 hn3
  have N7 : News g' L' h7 ((D1, W.listOf ys3.toArray c7) :: (L' + 1 + 1 + 1, oB) :: (L' + 1 + 1, oF) :: (L' + 1, oS) :: news) := fun p hp => by
    rcases List.mem_cons.mp hp with rfl | hp
    · exact ⟨hg7, hD1L, hD1g⟩
    · exact ⟨hs7.extBut _ _ (hBL p hp) (N6 p (.tail _ (.tail _ hp))).1, (N6 p (.tail _ (.tail _ hp))).2⟩
  refine storeX_L F7 N7 (fun h8 F8 N8 => ?_) rfl rfl
  dsimp only
  clear F7 N7 F6 N6
  have hlN8 := (N8 _ (.tail _ (.tail _ (.tail _ (.tail _ hl))))).1
  have hcB8 := (N8 (L' + 1 + 1 + 1, oB) (.tail _ (.head _))).1
  have hcS8 := (N8 (L' + 1, oS) (.tail _ (.tail _ (.tail _ (.head _))))).1
  have hSp8 : SpansAre h8 vs ps := hS.are fun p hp => (N8 p (.tail _ (.tail _ (.tail _ (.tail _ hp))))).1
  refine wpAny_execs_cons (wpAny_Return_some (wpAny_BinOp (nameX_L F8 (if_pos rfl) ?_ rfl rfl)))
  refine tri_eval (cl := [(PySem.Str.ofString "size", L' + 1), (PySem.Str.ofString "back", L' + 1 + 1 + 1)]) (l := l) (vs := vs) (ps := ps) (P := fun p => decide (size - back < p.2.2)) (f := dueB size back) rfl (by with_unfolding_all rfl) (by decide) rfl (by decide) rfl rfl rfl (by decide) (by decide) (by decide)
    (fun Q' hq => nameX_L F8 ((if_neg (by decide)).trans ((if_neg (by decide)).trans ((if_neg (by decide)).trans hm5))) hq rfl rfl) ⟨_, hlN8, rfl, _, rfl⟩ (by omega) hSp8 ⟨?t3, ?e3⟩ ?_
  case t3 =>
    intro C p u1 u2 u3 s₃ m₃ Q' E' hp hn ha hb hc hk hq
    refine TT.one ?_
    k_with "eval Name" => (refine nameC_L hn hc ?_)
    k_with "eval Name" => (refine nameC_C rfl (hk _ _ hcB8) dB ?_)
    k_with "eval Name" => (refine nameC_C rfl (hk _ _ hcS8) dS ?_)
    k_steps
    k_with_none
    exact hq _
  case e3 =>
    intro C p u1 u2 u3 s₃ m₃ Q' E' hp hP hn ha hb hc hk hq
    have hpp := hps p hp
    have hPP : size - back < p.2.2 := by simpa using hP
    refine wpAny_BinOp (nameC_L hn ha ?_)
    refine wpAny_BinOp (wpAny_Constant_int (wpAny_BinOp (wpAny_BinOp (nameC_L hn hc ?_))))
    refine nameC_C rfl (hk _ _ hcS8) dS (PyProof.Rows.sub_int ?_)
    refine nameC_C rfl (hk _ _ hcB8) dB (PyProof.Rows.add_int ?_)
    refine pow_int_small (by omega) (by omega) (by decide) ?_
    exact mod_int' (pow64_ne _) (hq _ _)
  intro D9 h9 tk9 ys9 hD9 hD9' hI9 hk9
  have F9 := F8.keeps hk9
  have N9 := N8.grown hk9
  have hn9 : ys9.length ≤ 20 := by rw [hI9.length, List.length_map]; exact Nat.le_trans (List.length_filter_le _ _) hlen
  refine kmk_add_ints F9 N9 (News.isList N9 (.head _)) ⟨_, hD9', rfl, _, rfl⟩ hI3 hI9 ?_ (by rw [sizeLine_eq, ← hI3.length, ← hI9.length]; omega)
  intro D' ws' h10 F10 N10 l10 hI10
  dsimp only
  k_steps
  rename Fr h₀ L _ m => Fz
  rename News h₀ L _ _ => Nz
  exact hret _ _ _ _ _ hI10 Fz (fun p hp => Nz p (by
    rcases List.mem_cons.mp hp with rfl | hp
    · exact List.mem_cons_self
    · exact .tail _ (.tail _ (.tail _ (.tail _ (.tail _ hp)))))) (fun p hp => l10 p (.tail _ (.tail _ (.tail _ (.tail _ hp)))))

end Mine
end PartC4
section PartC2
open PySem PySem.W PyProof.Rows PySem.Spec PySem.Calls
namespace Mine

open PyProof.Rows.LCg (lst lst_snoc)
def octs (x : Int) : List Int :=
  ((List.replicate ((x.fdiv 4096).fmod 3).toNat [(0 : Int)]).flatten ++ (if 63 < x.fmod 4096 then [(x.fmod 4096).fdiv 64] else [])).map (64 + ·) ++ (if 63 < x.fmod 4096 then [(x.fmod 4096).fmod 64] else [x.fmod 4096])
theorem octs_pos {x : Int} (h : 63 < x.fmod 4096) : List.map (fun b => 64 + b) ((List.replicate ((x.fdiv 4096).fmod 3).toNat [(0 : Int)]).flatten ++ [(x.fmod 4096).fdiv 64]) ++ [(x.fmod 4096).fmod 64] = octs x := by
  unfold octs; rw [if_pos h, if_pos h]
theorem octs_neg {x : Int} (h : ¬ 63 < x.fmod 4096) : List.map (fun b => 64 + b) ((List.replicate ((x.fdiv 4096).fmod 3).toNat [(0 : Int)]).flatten ++ []) ++ [x.fmod 4096] = octs x := by
  unfold octs; rw [if_neg h, if_neg h]
theorem fm3 (x : Int) : ((x.fdiv 4096).fmod 3).toNat ≤ 2 := by
  have := Int.fmod_lt_of_pos (x.fdiv 4096) (b := 3) (by decide)
  omega
theorem zs_len (x : Int) : ((List.replicate ((x.fdiv 4096).fmod 3).toNat [(0 : Int)]).flatten).length ≤ 2 := by
  have h := fm3 x
  rw [List.length_flatten, List.map_replicate, List.sum_replicate_nat, List.length_singleton]
  omega
set_option maxRecDepth 100000 in
set_option maxHeartbeats 8000000 in
theorem octets_call {w : World} {s₀ : Shared} {mg mb : Str → Option Value} {x : Int} {t1 : Tok}
   {dp un : Nat} {gd : Option (List Code)} {cn : Str} {cs : Scope} {a : Addr} {ccd : Value} {cl : List (Str × Addr)} {outer : List Env} {A₀ : Around} {base h₀ : Heap} {L : Addr} {m : Str → Option Value} {news : List (Addr × Obj)} {s : Shared} {Q E : Value → Shared → Prop}
   (B : Below A₀ base outer h₀) (F : Fr h₀ L s.heap m) (X : (hd.heap_39 w.params).In h₀) (N : News h₀ L s.heap (news)) (T : Top hd.view_39 (looseW hd.view_39 []) (ExcName.means s₀.heap) mg mb h₀) (hk : cs.kind = .function) (hdp : dp + 10 < recursionLimit) (hu : un + 60 < cLine)
   (hret : ∀ r h' tk' zs c, IntsAre zs (octs x) → Fr h₀ L h' m → News h₀ L h' ((r, W.listOf zs.toArray c) :: news) → (∀ p ∈ news, p.1 < r) → Q (.ref r) { s with heap := h', toks := tk' }) : 
   wpAny (model Challenge.rw_ph0003_01.row.prog w) (ktrTop dp un gd cn cs L a ccd cl outer) (call (.ref 33) [.int x t1]) Q E s := by
  revert X; k_fill; intro X
  w_on
  refine wpAny_call ?_
  k_dflt cell_enter
  k_with "eval ListComp" => (refine Stop.out ?_)
  k_steps
  k_with_none
  all_goals (
    unfold Stop
    rename IntsAre _ _ => hIa
    rename Fr _ _ _ _ => Fa
    rename News _ _ _ _ => Na
    refine map_led (cl := []) (f := fun b => 64 + b) rfl (by with_unfolding_all rfl) (by decide) rfl (by decide) rfl Fa Na (News.isList Na (.head _)) hIa
      (by have := zs_len x; simp only [List.length_append, List.length_cons, List.length_nil]; omega) (fun Q' hq => nameX_L Fa rfl hq rfl rfl)
      (fun C b t s₃ m₃ Q' E' hb hN hv hq => wpAny_BinOp (wpAny_Constant_int (nameC_L hN hv (PyProof.Rows.add_int (hq _ _))))) ?_
    intro Db hb tkb ysb Fb Nb lb hIb
    dsimp only
    clear hIa Fa Na)
  all_goals k_steps
  all_goals (
    rename IntsAre _ _ => hIz
    rename Fr h₀ L _ m => Fz
    rename News h₀ L _ _ => Nz
    rename (_ < _ ∧ _) => lz
    first | rw [octs_pos (by assumption)] at hIz | rw [octs_neg (by assumption)] at hIz
    exact hret _ _ _ _ _ hIz Fz (news_pick Nz fun p hp => .tail _ (.tail _ (.tail _ (.tail _ (.tail _ (.tail _ (.tail _ hp))))))) (kst_ltOf lz.2.2.2.2.2.2.2))

end Mine
end PartC2
section PartC1
open PySem PySem.W PyProof.Rows PySem.Spec PySem.Calls
namespace Mine

def cramS (x : Str) (n : Int) : Str :=
  if n < (x.length : Int) then
    Txt.slice x none (some (if (n - 3).fdiv 2 > 0 then (n - 3).fdiv 2 else 0)) ++ PySem.Str.ofString "..." ++
      Txt.slice x (some ((x.length : Int) - if (n - 3 - if (n - 3).fdiv 2 > 0 then (n - 3).fdiv 2 else 0) > 0 then n - 3 - if (n - 3).fdiv 2 > 0 then (n - 3).fdiv 2 else 0 else 0)) none
  else x
set_option maxRecDepth 100000 in
set_option maxHeartbeats 8000000 in
theorem cram_call {w : World} {s₀ : Shared} {mg mb : Str → Option Value} {x : Str} {n : Int} {t1 t2 : Tok} (hx : x.length ≤ 1000) (hn : -10 ≤ n ∧ n ≤ 1000)
   {dp un : Nat} {gd : Option (List Code)} {cn : Str} {cs : Scope} {a : Addr} {ccd : Value} {cl : List (Str × Addr)} {outer : List Env} {A₀ : Around} {base h₀ : Heap} {L : Addr} {m : Str → Option Value} {news : List (Addr × Obj)} {s : Shared} {Q E : Value → Shared → Prop}
   (B : Below A₀ base outer h₀) (F : Fr h₀ L s.heap m) (X : (hd.heap_39 w.params).In h₀) (N : News h₀ L s.heap (news)) (T : Top hd.view_39 (looseW hd.view_39 []) (ExcName.means s₀.heap) mg mb h₀) (hk : cs.kind = .function) (hdp : dp + 10 < recursionLimit) (hu : un + 60 < cLine)
   (hret : ∀ t h' tk', Fr h₀ L h' m → News h₀ L h' news → Q (.str (cramS x n) t) { s with heap := h', toks := tk' }) : 
   wpAny (model Challenge.rw_ph0003_01.row.prog w) (ktrTop dp un gd cn cs L a ccd cl outer) (call (.ref 21) [.str x t1, .int n t2]) Q E s := by
  revert X; k_fill; intro X
  w_on
  refine wpAny_call ?_
  k_dflt cell_enter
  k_steps
  all_goals (
    rename Fr h₀ L _ m => Fz
    rename News h₀ L _ _ => Nz)
  · have hr := hret
    unfold cramS at hr
    rw [if_pos (by omega)] at hr
    exact hr _ _ _ Fz Nz
  · have hr := hret
    unfold cramS at hr
    rw [if_neg (by omega)] at hr
    exact hr _ _ _ Fz Nz

end Mine
end PartC1
section PartR11
open PySem PySem.W PyProof.Rows PySem.Spec PySem.Calls
open AutoSeq1 (wpAny_loadPart')
set_option maxRecDepth 100000
namespace Mine
/-- enumerate made of a tuple -/
theorem meets_enum_tuple (l : Addr) (items : Array Value) (n : Nat) :
    Meets (Builtin.«enumerate.__new__» ⟨[.type "enumerate", .ref l], []⟩) (fun _ R s => s.heap.get? l = some { cls := .type "tuple", dict := none, data := .seq items n, slots := #[] } ∧
      R (.ok (.ret (.ref (s.heap.push { cls := .type "tuple_iterator", data := .fields #[.ref l, .int 0 0] }).objs.size)))
        { s with heap := (s.heap.push { cls := .type "tuple_iterator", data := .fields #[.ref l, .int 0 0] }).push { cls := .type "enumerate", data := .fields #[.none, .bool false, .ref s.heap.objs.size, rawInt 0, .none, .none] } }) :=
  .of_wp fun prog w A R s h => by
    have hsub := sub_enumerate
    obtain ⟨H, gs, dr, k, o⟩ := s
    have hT : Heap.IsTuple (Shared.heap ⟨H, gs, dr, k, o⟩) l items := ⟨_, h.1, rfl, n, rfl⟩
    have hl := h.1
    wp_walk using wpAny_loadPart' hl
    refine wpAny_stack_any fun st => wpAny_pure ?_
    split
    · rename_i c _ _ _ _ _
      cases (c == Value.type "enumerate") <;> (wp_walk using wpAny_loadPart' hl, wpAny_pyIter_tuple hT; exact ⟨_, rfl, h.2⟩)
    · wp_walk using wpAny_loadPart' hl, wpAny_pyIter_tuple hT
      exact ⟨_, rfl, h.2⟩
section
variable {prog : Program} {w : World} {A : Around} {E : Value → Shared → Prop} {s : Shared} {env : Env} {h₀ : Heap} {L : Addr}
theorem enum_tuple_call {l : Addr} {items : Array Value} {n : Nat} {Q : Value → Shared → Prop} (hl : s.heap.get? l = some { cls := .type "tuple", dict := none, data := .seq items n, slots := #[] })
    (h : ∀ h', IsEnum h' (s.heap.objs.size + 1) s.heap.objs.size 0 .none → h'.IsTupleIter s.heap.objs.size l 0 → h'.objs.size = s.heap.objs.size + 2 →
      (∀ b o, s.heap.get? b = some o → h'.get? b = some o) → Q (.ref (s.heap.objs.size + 1)) { s with heap := h' }) :
    wpAny (model prog w) A (call (.type "enumerate") [.ref l]) Q E s := by
  refine callType_new F.called_enumerate (by decide) (F.typeCall_enumerate_1 _) (F.newCall_enumerate_1 _) (fun obj => F.args_object_init_2 obj _) F.entry_enumerate_new (meets_enum_tuple l items n) ⟨hl, ?_⟩
  generalize hI : ({ cls := .type "tuple_iterator", data := .fields #[.ref l, .int 0 0] } : Obj) = oI
  generalize hE : ({ cls := .type "enumerate", data := .fields #[.none, .bool false, .ref s.heap.objs.size, rawInt 0, .none, .none] } : Obj) = oE
  have hz : (s.heap.push oI).objs.size = s.heap.objs.size + 1 := Heap.size_push ..
  have gI : (s.heap.push oI).get? s.heap.objs.size = some oI := Heap.get?_push_size _ (by rw [← hI]; rfl)
  have gE : ((s.heap.push oI).push oE).get? (s.heap.objs.size + 1) = some oE := hz ▸ Heap.get?_push_size (s.heap.push oI) (by rw [← hE]; rfl)
  show _ ∧ _
  rw [hz]
  refine ⟨⟨oE, gE, by rw [← hE]⟩, h _ (gE.trans (congrArg some hE.symm)) ⟨oI, Heap.get?_push_of_some _ gI, by rw [← hI], by rw [← hI]; rfl⟩ ?_ fun b o e => Heap.get?_push_of_some _ (Heap.get?_push_of_some _ e)⟩
  rw [Heap.size_push, hz]

/-- one draw from a tuple's iterator, as enumerate draws -/
theorem tuple_draw {it t : Addr} {i : Nat} {items : Array Value} {Q : Value → Shared → Prop} (hh : A.handled = none) (hit : s.heap.IsTupleIter it t i) (ht : s.heap.IsTuple t items)
    (some_ : ∀ x h', items[i]? = some x → h'.IsTupleIter it t (i + 1) → Heap.SameBut it s.heap h' → Q x { s with heap := h' })
    (none_ : items[i]? = none → ∀ h' e, Heap.ExtBut it s.heap h' → (∃ o, h'.get? e = some o ∧ o.cls = .type "StopIteration") → E (.ref e) { s with heap := h' }) :
    wpAny (model prog w) A (Builtin.SmallTypes.nextOf (.ref it)) Q E s := by
  obtain ⟨oi, gi, ci, di⟩ := id hit
  obtain ⟨ot, gt, _, k, dt⟩ := ht
  have ty := hit.typeIs
  unfold Builtin.SmallTypes.nextOf
  refine wpAny_bind (wpAny_callSpecial?_slot (name := Str.ofString "__next__") ty F.slot_tuple_iterator_next (wpAny_call_entry F.slot_tuple_iterator_next ty F.entry_tuple_iterator_next ?_ (F.args_tuple_iterator_next_1 _)))
  show wpAny _ _ (field (.ref it) 0 >>= _) _ _ s
  refine wpAny_bind (wpAny_field gi di (x := .ref t) rfl ?_)
  dsimp only
  rw [if_neg (by simp)]
  refine wpAny_bind (wpAny_field gi di (x := .int i 0) rfl ?_)
  refine wpAny_bind (wpAny_seqItems gt dt ?_)
  rw [Int.toNat_natCast]
  cases hx : items[i]? with
  | some x =>
    simp only [hx]
    refine wpAny_bind (wpAny_setField gi di ?sz ?_)
    case sz => simp
    refine wpAny_pure ⟨x, rfl, wpAny_pure (some_ x _ hx ⟨_, Heap.get?_update_self _ gi (Obj.isFreed_of_fields (Obj.data_mapFields di _)), (Obj.cls_mapFields ..).trans ci, ?_⟩ (Heap.SameBut.update ..))⟩
    rw [Obj.data_mapFields di]
    simp [rawInt]
  | none =>
    simp only [hx]
    refine wpAny_bind (wpAny_rule (wpAny_bind (wpAny_setField gi di ?sz ?_)))
    case sz => simp
    have H := none_ hx
    generalize hg : s.heap.update it _ = g
    have gs : Heap.SameBut it s.heap g := hg ▸ Heap.SameBut.update ..
    unfold Builtin.SmallTypes.stopIteration newExc newTuple
    refine wpAny_bind (wpAny_bind (wpAny_newObj_type (wpAny_bind (m := firstArgMember _ _) (wpAny_of_eq (a := Value.none) (by unfold firstArgMember; rfl) (wpAny_newObj_type (wpAny_raiseNew_none hh ?_) (by size_fits)))) (by size_fits)))
    exact H _ _ ((gs.extBut.push _).push _) ⟨_, Heap.get?_push_size _ rfl, rfl⟩

/-- a tuple's iterator as a source that enumerate draws from -/
theorem drawsTuple (hh : A.handled = none) (it t : Addr) (hne : t ≠ it) (items : Array Value) :
    Draws prog w A it [it, t] items.size (fun i v => items[i]? = some v) (fun i h => h.IsTupleIter it t i ∧ h.IsTuple t items) where
  live := fun _ _ st => ⟨_, st.1.choose_spec.1⟩
  frame := fun _ _ _ st k => ⟨st.1.at fun o e => k it (by simp) o e, st.2.at fun o e => k t (by simp) o e⟩
  item := fun i s Q E hi st hQ => tuple_draw hh st.1 st.2 (fun x h' hx a b => hQ x h' s.toks hx ⟨a, st.2.extBut b.extBut hne⟩ b) fun hx => absurd hx (by simp [hi])
  done := fun s Q E st hE => tuple_draw hh st.1 st.2 (fun x h' hx => absurd hx (by simp)) fun _ => hE
end
end Mine
end PartR11
section PartR12
open PySem PySem.W PyProof.Rows PySem.Spec PySem.Calls
set_option maxRecDepth 100000
namespace Mine
section
variable {prog : Program} {w : World} {A : Around} {E : Value → Shared → Prop} {s : Shared} {env : Env} {h₀ : Heap} {L : Addr} {m : Str → Option Value} {news : List (Addr × Obj)}
def EnumStep (h₀ : Heap) (L e it t : Addr) (oe oit ot : Obj) (J : (Str → Option Value) → List (Addr × Obj) → Prop) (s : Shared) (f : Flow) (s₃ : Shared) : Prop :=
  f = .next ∧ ∃ h₃ tk₃ m₃ news₃, s₃ = { s with heap := h₃, toks := tk₃ } ∧ Fr h₀ L h₃ m₃ ∧ News h₀ L h₃ ((e, oe) :: (it, oit) :: (t, ot) :: news₃) ∧ (∀ p ∈ news₃, p.1 ≠ e ∧ p.1 ≠ it ∧ p.1 ≠ t) ∧ J m₃ news₃

theorem forLoop_enum {R : Result → Shared → Prop} {xi xv : Str} {pi pv pt : Pos} {x1} {body : List Stmt} {e it t : Addr} {ot : Obj} {items : Array Value} {n : Nat}
    (hh : A.handled = none) (hxi : env.kindOf xi = some .local) (hxv : env.kindOf xv = some .local) (hp : (env.scope.kind == .class || (env.scope.kind == .module && env.locals != env.globals)) = false) (hLe : env.locals = L)
    (he : IsEnum s.heap e it 0 .none) (hit : s.heap.IsTupleIter it t 0) (ht : s.heap.get? t = some ot) (hoc : ot.cls = .type "tuple") (hod : ot.data = .seq items n) (hei : e ≠ it) (hte : t ≠ e) (hti : t ≠ it) (heL : e ≠ L) (hiL : it ≠ L) (htL : t ≠ L)
    (he0 : h₀.get? e = none) (hi0 : h₀.get? it = none) (ht0 : h₀.get? t = none)
    (F : Fr h₀ L s.heap m) (N : News h₀ L s.heap news) (off : ∀ p ∈ news, p.1 ≠ e ∧ p.1 ≠ it ∧ p.1 ≠ t)
    (J : Nat → (Str → Option Value) → List (Addr × Obj) → Prop) (h0 : J 0 m news)
    (step : ∀ i v tk m₁ news₁ h₁ tk₁ oe oit, items[i]? = some v → J i m₁ news₁ → Fr h₀ L h₁ (fun y => if y = xv then some v else if y = xi then some (.int i tk) else m₁ y) → News h₀ L h₁ ((e, oe) :: (it, oit) :: (t, ot) :: news₁) →
      (∀ p ∈ news₁, p.1 ≠ e ∧ p.1 ≠ it ∧ p.1 ≠ t) →
      wpAny (model prog w) A (execs body env) (EnumStep h₀ L e it t oe oit ot (J (i + 1)) s) (notedBy (model prog w) A env fun e s' => R (.error e) s') { s with heap := h₁, toks := tk₁ })
    (hR : ∀ h' tk m' news', Fr h₀ L h' m' → News h₀ L h' news' → J items.size m' news' → R (.ok .next) { s with heap := h', toks := tk }) :
    codeAny (model prog w) A (.forLoop (.Tuple [.Name xi pi, .Name xv pv] x1 pt) (.ref e) body [] env) R s := by
  subst hLe
  have W := WalksT.enumerateD (drawsTuple (prog := prog) (w := w) (A := A.in1) hh it t hti items) e hei (by simp [hei, hte.symm]) (by simp)
  have new0 : ∀ b o, h₀.get? b = some o → b ≠ e ∧ b ≠ it := fun b o q => ⟨fun z => (by rw [z, he0] at q; cases q), fun z => (by rw [z, hi0] at q; cases q)⟩
  refine codeAny_forLoop_any
    (fun k s' => ∃ h' tk m' news' i, s' = { s with heap := h', toks := tk } ∧ ((∃ old, IsEnum h' e it ((i : Nat) : Int) old) ∧ h'.IsTupleIter it t i ∧ h'.IsTuple t items) ∧ h'.get? t = some ot ∧ Fr h₀ env.locals h' m' ∧ News h₀ env.locals h' news' ∧
      (∀ p ∈ news', p.1 ≠ e ∧ p.1 ≠ it ∧ p.1 ≠ t) ∧ J i m' news' ∧ i ≤ items.size ∧ k = items.size - i) ?_ items.size
    ⟨s.heap, s.toks, m, news, 0, rfl, ⟨⟨_, he⟩, hit, ⟨ot, ht, hoc, n, hod⟩⟩, ht, F, N, off, h0, Nat.zero_le _, rfl⟩
  rintro k s' ⟨H, tk, m', news', i, rfl, st, gt, F', N', off', hJ, hi, rfl⟩
  -- what leaves e and it aside keeps the frame and the ledger
  have kept : ∀ g : Heap, (∀ b o, b ∉ [e, it] → H.get? b = some o → g.get? b = some o) → Fr h₀ env.locals g m' ∧ News h₀ env.locals g ((t, ot) :: news') := fun g k => by
    have k' : ∀ b o, b ≠ e → b ≠ it → H.get? b = some o → g.get? b = some o := fun b o x y q => k b o (by simp [x, y]) q
    refine ⟨⟨F'.ns.at' fun o q => k' _ o heL.symm hiL.symm q, fun b o q => k' b o (new0 b o q).1 (new0 b o q).2 (F'.keep b o q), F'.above⟩, fun p hp => ?_⟩
    rcases List.mem_cons.mp hp with rfl | hp
    · exact ⟨k' _ _ hte hti gt, htL, ht0⟩
    · exact ⟨k' _ _ (off' p hp).1 (off' p hp).2.1 (N' p hp).1, (N' p hp).2⟩
  rcases Nat.lt_or_ge i items.size with hlt | hge
  · refine W.item i _ _ _ hlt st fun T vals h₁ tk₁ hP _ hT hM k₁ => ?_
    obtain ⟨u, x, hx, rfl⟩ := hP
    refine W.go _ x1 pt i T _ _ _ hM fun h₂ st₂ k₂ => wpAny_assign_Tuple hh (hT.at fun o q => k₂ T o (W.apart i T h₁ hM) q) rfl rfl fun h₃ k₃ => ?_
    have up : ∀ b o, h₂.get? b = some o → h₃.get? b = some o := fun b o q => k₃ b o (Nat.ne_of_lt (Heap.lt_size q)) q
    obtain ⟨F₃, N₃⟩ := kept h₃ fun b o hb q => up b o (k₂ b o hb (k₁ b o hb q))
    show wpAny _ A (do holding [x] (assign (.Name xi pi) env (.int i u)); do holding [] (assign (.Name xv pv) env x); pure ()) _ _ _
    refine wpAny_bind (wpAny_holding (wpAny_assign_Name (wpAny_storeName_local hxi F₃.ns (fun h₄ n₄ k₄ => wpAny_bind (wpAny_holding (wpAny_assign_Name (wpAny_storeName_local hxv n₄ (fun h₅ n₅ k₅ => wpAny_pure ?_) hp)))) hp)))
    have F₅ := (F₃.set n₄ k₄).set n₅ k₅
    have N₅ := (N₃.set k₄).set k₅
    obtain ⟨⟨old, e₅⟩, ⟨oit, g₅, r₅⟩, t₅⟩ := W.frame (i + 1) h₂ h₅ st₂ fun b hb o q => by
      have hbL : b ≠ env.locals := fun z => by
        rcases List.mem_cons.mp hb with hb | hb
        · exact heL (hb ▸ z)
        · rcases List.mem_cons.mp hb with hb | hb
          · exact hiL (hb ▸ z)
          · exact htL (List.mem_singleton.mp hb ▸ z)
      exact Heap.SameBut.extBut k₅ b o hbL (Heap.SameBut.extBut k₄ b o hbL (up b o q))
    have t₅' : h₅.get? t = some ot := (N₅ _ (.head _)).1
    obtain ⟨oe, ge, re⟩ : ∃ oe, h₅.get? e = some oe ∧ ∀ g : Heap, g.get? e = some oe → IsEnum g e it ((i + 1 : Nat) : Int) old := ⟨_, e₅, fun _ q => q⟩
    have NN : News h₀ env.locals h₅ ((e, oe) :: (it, oit) :: (t, ot) :: news') := fun p hp => by
      rcases List.mem_cons.mp hp with rfl | hp
      · exact ⟨ge, heL, he0⟩
      · rcases List.mem_cons.mp hp with rfl | hp
        · exact ⟨g₅, hiL, hi0⟩
        · exact N₅ p hp
    refine wpAny_mono (step i x u m' news' h₅ _ oe oit hx hJ F₅ NN off') (fun f s₃ z => ?_) fun _ _ z => z
    obtain ⟨rfl, h₆, tk₆, m₆, news₆, rfl, F₆, N₆, off₆, J₆⟩ := z
    have a₆ := (N₆ _ (.tail _ (.tail _ (.head _)))).1
    exact ⟨items.size - (i + 1), by omega, h₆, tk₆, m₆, news₆, i + 1, rfl, ⟨⟨old, re _ (N₆ _ (.head _)).1⟩, ⟨oit, (N₆ _ (.tail _ (.head _))).1, r₅⟩, ⟨ot, a₆, hoc, n, hod⟩⟩, a₆, F₆, fun p hp => N₆ p (.tail _ (.tail _ (.tail _ hp))), off₆, J₆, hlt, rfl⟩
  · obtain rfl : i = items.size := Nat.le_antisymm hi hge
    refine W.done _ _ _ st fun h₁ tk₁ k₁ => wpAny_execs_nil ?_
    obtain ⟨F₁, N₁⟩ := kept h₁ k₁
    exact hR h₁ tk₁ m' news' F₁ (fun p hp => N₁ p (.tail _ hp)) hJ
end
end Mine
end PartR12
section PartR13
open PySem PySem.W PyProof.Rows PySem.Spec PySem.Calls
set_option maxRecDepth 100000
namespace Mine
def octsAll (xs : List Int) : List Int := (xs.map octs).flatten
def spansOf : Int → List Int → List Tri
  | _, [] => []
  | p, x :: r => (x.fmod 4096, p, p + ((octs x).length : Int)) :: spansOf (p + ((octs x).length : Int)) r
theorem octsAll_snoc (xs : List Int) (x : Int) : octsAll (xs ++ [x]) = octsAll xs ++ octs x := by
  unfold octsAll
  rw [List.map_append, List.flatten_append]
  simp
theorem spansOf_snoc : ∀ (p : Int) (xs : List Int) (x : Int), spansOf p (xs ++ [x]) = spansOf p xs ++ [(x.fmod 4096, p + ((octsAll xs).length : Int), p + ((octsAll xs).length : Int) + ((octs x).length : Int))]
  | p, [], x => by simp [spansOf, octsAll]
  | p, y :: r, x => by
    have ih := spansOf_snoc (p + ((octs y).length : Int)) r x
    simp only [List.cons_append, spansOf, ih]
    have e : (octsAll (y :: r)).length = (octs y).length + (octsAll r).length := by simp [octsAll]
    rw [e]
    simp only [Int.natCast_add, Int.add_assoc]
theorem octs_len (x : Int) : 1 ≤ (octs x).length ∧ (octs x).length ≤ 4 := by
  have := zs_len x
  unfold octs
  split <;> simp only [List.length_append, List.length_map, List.length_cons, List.length_nil] <;> omega
theorem octsAll_len : ∀ xs : List Int, (octsAll xs).length ≤ 4 * xs.length
  | [] => Nat.le_refl _
  | x :: r => by
    have := octsAll_len r
    have := (octs_len x).2
    have e : (octsAll (x :: r)).length = (octs x).length + (octsAll r).length := by simp [octsAll]
    rw [e, List.length_cons]; omega
theorem spansIn_snoc {news : List (Addr × Obj)} {vs : List Value} {ps : List Tri} {v : Value} {p : Tri} (x : SpansIn news vs ps) (hv : TupIn news v p) : SpansIn news (vs ++ [v]) (ps ++ [p]) := by
  induction x with
  | nil => exact .cons hv .nil
  | cons a _ ih => exact .cons a ih
structure LJ (D oc sp : Addr) (ws : List Value) (i : Nat) (m : Str → Option Value) (news : List (Addr × Obj)) (xs : List Int) (ovs svs : List Value) (co cs : Nat) (tups : List (Addr × Obj)) : Prop where
  hlen : xs.length = i
  md : m (PySem.Str.ofString "drawn") = some (.ref D)
  mo : m (PySem.Str.ofString "octets") = some (.ref oc)
  ms : m (PySem.Str.ofString "spans") = some (.ref sp)
  hled : news = (oc, W.listOf ovs.toArray co) :: (sp, W.listOf svs.toArray cs) :: tups
  hmem : (D, W.listOf ws.toArray 0) ∈ tups
  hoff : ∀ p ∈ tups, p.1 ≠ oc ∧ p.1 ≠ sp
  hne : oc ≠ sp
  isI : IntsAre ovs (octsAll xs)
  isS : SpansIn tups svs (spansOf 0 xs)
theorem chain3 {m : Str → Option Value} {a b c : Str} {x y z : Value} (ha : m a = some x) (hb : m b = some y) (hc : m c = some z) : m = fun n => if n = a then some x else if n = b then some y else if n = c then some z else m n := by
  funext n
  split
  · rename_i e; rw [e, ha]
  · split
    · rename_i e; rw [e, hb]
    · split
      · rename_i e; rw [e, hc]
      · rfl
end Mine
namespace Mine
theorem fr_new {h₀ h : Heap} {L : Addr} {m : Str → Option Value} (F : Fr h₀ L h m) {b : Addr} (hb : h.objs.size ≤ b) : h₀.get? b = none := by
  cases q : h₀.get? b with
  | none => rfl
  | some o => exact absurd (Heap.lt_size (F.keep _ _ q)) (Nat.not_lt.mpr hb)
end Mine
end PartR13
section PartL1
open PySem PySem.W PyProof.Rows PySem.Spec PySem.Calls
set_option maxRecDepth 100000
set_option linter.unusedSimpArgs false
namespace Mine
def octsN (z : Nat) (n : Int) : List Int :=
  ((List.replicate z [(0 : Int)]).flatten ++ (if 63 < n then [n / 64] else [])).map (64 + ·) ++ (if 63 < n then [n % 64] else [n])
theorem octs_eqN (x : Int) : octs x = octsN ((x.fdiv 4096).fmod 3).toNat (x.fmod 4096) := by
  unfold octs octsN
  rw [Int.fdiv_eq_ediv_of_nonneg (x.fmod 4096) (b := 64) (by decide), Int.fmod_eq_emod_of_nonneg (x.fmod 4096) (b := 64) (by decide)]
theorem fm4096 (x : Int) : 0 ≤ x.fmod 4096 ∧ x.fmod 4096 < 4096 := ⟨Int.fmod_nonneg_of_pos x (by decide), Int.fmod_lt_of_pos x (by decide)⟩
/-- what one piece reads as: from any place, and cut at any place -/
theorem octsN_piece (z : Nat) (hz : z ≤ 2) (n : Int) (h0 : 0 ≤ n) (h1 : n < 4096) :
    n < 64 ^ (octsN z n).length ∧
    ∀ j : Nat, j < (octsN z n).length → ∀ rest : List Int,
      rd 0 ((octsN z n).take j ++ 46 :: rest) = (n / 64 ^ ((octsN z n).length - j) * 64 + 46) :: rd 0 rest ∧
      rd 0 ((octsN z n).drop j ++ rest) = (n % 64 ^ ((octsN z n).length - j)) :: rd 0 rest := by
  have hz' : z = 0 ∨ z = 1 ∨ z = 2 := by omega
  by_cases h : 63 < n
  · have e1 : (64 + n / 64) % 64 = n / 64 := by omega
    have e2 : n % 64 % 64 = n % 64 := by omega
    have e3 : ¬ 64 + n / 64 < 64 := by omega
    have e4 : n % 64 < 64 := by omega
    have d1 : n / 4096 = 0 := by omega
    have d2 : n / 262144 = 0 := by omega
    have d3 : n / 16777216 = 0 := by omega
    have m1 : n % 4096 = n := by omega
    have m2 : n % 262144 = n := by omega
    have m3 : n % 16777216 = n := by omega
    have g : n / 64 * 64 + n % 64 = n := by omega
    rcases hz' with rfl | rfl | rfl
    · have eq : octsN 0 n = [64 + n / 64, n % 64] := by simp [octsN, h]
      rw [eq]
      refine ⟨by simp; omega, fun j hj rest => ?_⟩
      rcases j with _ | _ | j
      · simp [rd, e1, e2, e3, e4, d1, m1, g]
      · simp [rd, e1, e2, e3, e4, d1, m1, g]
      · simp at hj; omega
    · have eq : octsN 1 n = [64, 64 + n / 64, n % 64] := by simp [octsN, h]
      rw [eq]
      refine ⟨by simp; omega, fun j hj rest => ?_⟩
      rcases j with _ | _ | _ | j
      · simp [rd, e1, e2, e3, e4, d2, m2, g]
      · simp [rd, e1, e2, e3, e4, d1, m1, g]
      · simp [rd, e1, e2, e3, e4, d1, m1, g]
      · simp at hj; omega
    · have eq : octsN 2 n = [64, 64, 64 + n / 64, n % 64] := by simp [octsN, h, List.replicate]
      rw [eq]
      refine ⟨by simp; omega, fun j hj rest => ?_⟩
      rcases j with _ | _ | _ | _ | j
      · simp [rd, e1, e2, e3, e4, d3, m3, g]
      · simp [rd, e1, e2, e3, e4, d2, m2, g]
      · simp [rd, e1, e2, e3, e4, d1, m1, g]
      · simp [rd, e1, e2, e3, e4, d1, m1, g]
      · simp at hj; omega
  · have e2 : n % 64 = n := by omega
    have e4 : n < 64 := by omega
    have d0 : n / 64 = 0 := by omega
    have d1 : n / 4096 = 0 := by omega
    have d2 : n / 262144 = 0 := by omega
    have m1 : n % 4096 = n := by omega
    have m2 : n % 262144 = n := by omega
    rcases hz' with rfl | rfl | rfl
    · have eq : octsN 0 n = [n] := by simp [octsN, h]
      rw [eq]
      refine ⟨by simp; omega, fun j hj rest => ?_⟩
      rcases j with _ | j
      · simp [rd, e2, e4, d0]
      · simp at hj
    · have eq : octsN 1 n = [64, n] := by simp [octsN, h]
      rw [eq]
      refine ⟨by simp; omega, fun j hj rest => ?_⟩
      rcases j with _ | _ | j
      · simp [rd, e2, e4, d0, d1, m1]
      · simp [rd, e2, e4, d0, d1, m1]
      · simp at hj; omega
    · have eq : octsN 2 n = [64, 64, n] := by simp [octsN, h, List.replicate]
      rw [eq]
      refine ⟨by simp; omega, fun j hj rest => ?_⟩
      rcases j with _ | _ | _ | j
      · simp [rd, e2, e4, d0, d1, d2, m1, m2]
      · simp [rd, e2, e4, d0, d1, d2, m1, m2]
      · simp [rd, e2, e4, d0, d1, d2, m1, m2]
      · simp at hj; omega
theorem p64 (k : Nat) : (0 : Int) ≤ 64 ^ k := Int.le_of_lt (Int.pow_pos (by decide))
theorem octs_lt (x : Int) : x.fmod 4096 < 64 ^ (octs x).length := by
  rw [octs_eqN]; exact (octsN_piece _ (fm3 x) _ (fm4096 x).1 (fm4096 x).2).1
theorem octs_take (x : Int) (j : Nat) (hj : j < (octs x).length) (rest : List Int) : rd 0 ((octs x).take j ++ 46 :: rest) = ((x.fmod 4096).fdiv (64 ^ ((octs x).length - j)) * 64 + 46) :: rd 0 rest := by
  rw [Int.fdiv_eq_ediv_of_nonneg _ (p64 _)]
  rw [octs_eqN] at hj ⊢
  exact ((octsN_piece _ (fm3 x) _ (fm4096 x).1 (fm4096 x).2).2 j hj rest).1
theorem octs_drop (x : Int) (j : Nat) (hj : j < (octs x).length) (rest : List Int) : rd 0 ((octs x).drop j ++ rest) = (x.fmod 4096).fmod (64 ^ ((octs x).length - j)) :: rd 0 rest := by
  rw [Int.fmod_eq_emod_of_nonneg _ (p64 _)]
  rw [octs_eqN] at hj ⊢
  exact ((octsN_piece _ (fm3 x) _ (fm4096 x).1 (fm4096 x).2).2 j hj rest).2
theorem fmod_small {n : Int} {k : Nat} (h0 : 0 ≤ n) (h : n < 64 ^ k) : n.fmod (64 ^ k) = n := by
  rw [Int.fmod_eq_emod_of_nonneg _ (p64 _)]; exact Int.emod_eq_of_lt h0 h
theorem octs_full (x : Int) (rest : List Int) : rd 0 (octs x ++ rest) = x.fmod 4096 :: rd 0 rest := by
  have h := octs_drop x 0 (octs_len x).1 rest
  rw [List.drop_zero, Nat.sub_zero, fmod_small (fm4096 x).1 (octs_lt x)] at h
  exact h
theorem octsAll_cons (x : Int) (r : List Int) : octsAll (x :: r) = octs x ++ octsAll r := by simp [octsAll]
theorem spansOf_mem : ∀ (xs : List Int) (p : Int) (q : Tri), q ∈ spansOf p xs → 0 ≤ q.1 ∧ q.1 < 4096 ∧ p ≤ q.2.1 ∧ q.2.1 < q.2.2 ∧ q.2.2 ≤ p + (octsAll xs).length ∧ q.1 < 64 ^ (q.2.2 - q.2.1).toNat
  | [], _, _, h => by simp [spansOf] at h
  | x :: r, p, q, h => by
    have hl := (octs_len x).1
    rw [octsAll_cons, List.length_append]
    rw [spansOf] at h
    rcases List.mem_cons.mp h with rfl | h
    · refine ⟨(fm4096 x).1, (fm4096 x).2, Int.le_refl _, by simp; omega, by simp; omega, ?_⟩
      have e : (p + ((octs x).length : Int) - p).toNat = (octs x).length := by omega
      show x.fmod 4096 < 64 ^ (p + ((octs x).length : Int) - p).toNat
      rw [e]
      exact octs_lt x
    · obtain ⟨a, b, c, d, e, f⟩ := spansOf_mem r _ q h
      exact ⟨a, b, by omega, d, by omega, f⟩
theorem rd_all : ∀ (xs : List Int) (p : Int), rd 0 (octsAll xs) = (spansOf p xs).map (·.1)
  | [], _ => rfl
  | x :: r, p => by rw [octsAll_cons, octs_full, spansOf, List.map_cons, rd_all r]
theorem rd_front : ∀ (xs : List Int) (p c : Int) (k : Nat) (rest : List Int), c = p + k → k < (octsAll xs).length →
    rd 0 ((octsAll xs).take k ++ 46 :: rest) = ((spansOf p xs).filter fun q => decide (q.2.2 ≤ c)).map (·.1) ++ ((spansOf p xs).filter fun q => decide (q.2.1 ≤ c) && decide (c < q.2.2)).map (dueF c) ++ rd 0 rest
  | [], _, _, _, _, _, h => by simp [octsAll] at h
  | x :: r, p, c, k, rest, hc, h => by
    rw [octsAll_cons] at h ⊢
    rw [List.length_append] at h
    by_cases hk : k < (octs x).length
    · have e1 : ((spansOf (p + ((octs x).length : Int)) r).filter fun q => decide (q.2.2 ≤ c)) = [] := List.filter_eq_nil_iff.mpr fun q hq => by
        have := spansOf_mem r _ q hq
        simp; omega
      have e2 : ((spansOf (p + ((octs x).length : Int)) r).filter fun q => decide (q.2.1 ≤ c) && decide (c < q.2.2)) = [] := List.filter_eq_nil_iff.mpr fun q hq => by
        have := spansOf_mem r _ q hq
        simp; omega
      have e3 : ¬ p + ((octs x).length : Int) ≤ c := by omega
      have e4 : p ≤ c := by omega
      have e5 : c < p + ((octs x).length : Int) := by omega
      have e6 : (p + ((octs x).length : Int) - c).toNat = (octs x).length - k := by omega
      rw [List.take_append_of_le_length (Nat.le_of_lt hk), octs_take x k hk, spansOf, List.filter_cons, List.filter_cons, e1, e2]
      simp [e3, e4, e5, e6, dueF]
    · have e3 : p + ((octs x).length : Int) ≤ c := by omega
      have e5 : ¬ c < p + ((octs x).length : Int) := by omega
      rw [List.take_append, List.take_of_length_le (by omega), List.append_assoc, octs_full, rd_front r (p + ((octs x).length : Int)) c (k - (octs x).length) rest (by omega) (by omega), spansOf, List.filter_cons, List.filter_cons]
      simp [e3, e5]
theorem rd_back : ∀ (xs : List Int) (p c : Int) (k : Nat), c = p + k → 
    rd 0 ((octsAll xs).drop k) = ((spansOf p xs).filter fun q => decide (c < q.2.2)).map fun q => q.1.fmod (64 ^ (q.2.2 - c).toNat)
  | [], _, _, _, _ => by simp [octsAll, rd, spansOf]
  | x :: r, p, c, k, hc => by
    rw [octsAll_cons]
    by_cases hk : k < (octs x).length
    · have e5 : c < p + ((octs x).length : Int) := by omega
      have e6 : (p + ((octs x).length : Int) - c).toNat = (octs x).length - k := by omega
      have e1 : ((spansOf (p + ((octs x).length : Int)) r).filter fun q => decide (c < q.2.2)) = spansOf (p + ((octs x).length : Int)) r := List.filter_eq_self.mpr fun q hq => by
        have := spansOf_mem r _ q hq
        simp; omega
      have e2 : ((spansOf (p + ((octs x).length : Int)) r).map fun q => q.1.fmod (64 ^ (q.2.2 - c).toNat)) = (spansOf (p + ((octs x).length : Int)) r).map (·.1) := List.map_congr_left fun q hq => by
        obtain ⟨a, b, d, e, f, g⟩ := spansOf_mem r _ q hq
        refine fmod_small a (Int.lt_of_lt_of_le g ?_)
        exact_mod_cast Nat.pow_le_pow_right (by decide) (by omega)
      rw [List.drop_append_of_le_length (Nat.le_of_lt hk), octs_drop x k hk, rd_all r (p + ((octs x).length : Int)), spansOf, List.filter_cons, e1]
      simp [e5, e6, e2]
    · have e5 : ¬ c < p + ((octs x).length : Int) := by omega
      rw [List.drop_append, List.drop_of_length_le (by omega), List.nil_append, rd_back r (p + ((octs x).length : Int)) c (k - (octs x).length) (by omega), spansOf, List.filter_cons]
      simp [e5]
/-- the plain law -/
theorem rd_due (xs : List Int) (f b : Nat) (hf : f < (octsAll xs).length) (hb : b ≤ (octsAll xs).length) :
    rd 0 ((octsAll xs).take f ++ [46, 46, 46] ++ (octsAll xs).drop ((octsAll xs).length - b)) = dueL (spansOf 0 xs) (octsAll xs).length f b := by
  have e : (octsAll xs).take f ++ [46, 46, 46] ++ (octsAll xs).drop ((octsAll xs).length - b) = (octsAll xs).take f ++ 46 :: 46 :: 46 :: (octsAll xs).drop ((octsAll xs).length - b) := by simp
  rw [e, rd_front xs 0 f f _ (by omega) hf]
  unfold dueL
  have e2 : rd 0 (46 :: 46 :: (octsAll xs).drop ((octsAll xs).length - b)) = [46, 46] ++ rd 0 ((octsAll xs).drop ((octsAll xs).length - b)) := by simp [rd]
  rw [e2, rd_back xs 0 ((octsAll xs).length - b) ((octsAll xs).length - b) (by omega), ← List.append_assoc]
  congr 1
  refine List.map_congr_left fun q _ => ?_
  unfold dueB
  have e3 : q.2.2 - (((octsAll xs).length : Int) - (b : Int)) = q.2.2 - ((octsAll xs).length : Int) + (b : Int) := by omega
  rw [e3]
end Mine
end PartL1
section PartL2
open PySem PySem.W PyProof.Rows PySem.Spec PySem.Calls
set_option maxRecDepth 100000
namespace Mine
def codes (x : Str) : List Int := x.cps.toList.map Int.ofNat
theorem codes_len (x : Str) : (codes x).length = x.length := by
  unfold codes; rw [List.length_map, Array.length_toList]; rfl
theorem codes_app (a b : Str) : codes (a ++ b) = codes a ++ codes b := by
  unfold codes; rw [KT.app_list, List.map_append]
theorem slice_plain (x : Str) {a b : Nat} (hab : a ≤ b) (hb : b ≤ x.length) : (Txt.slice x (some (a : Int)) (some (b : Int))).cps.toList = (x.cps.toList.drop a).take (b - a) := by
  unfold Txt.slice
  have hx : x.cps.toList.length = x.length := Array.length_toList
  split
  · rename_i h
    rw [StrLaws.strSliceIndices_plain hab hb] at h
    simp at h
    have h0 : a = 0 := by omega
    have h1 : b = x.length := by omega
    subst h0 h1
    rw [List.drop_zero, Nat.sub_zero, ← hx, List.take_length]
  · show ((Builtin.Str.strSliceIndices (some (a : Int)) (some (b : Int)) 1 x.length).filterMap (x.cps[·]?)).toArray.toList = _
    rw [StrLaws.sliced_plain x hab hb]
theorem slice_front (x : Str) (k : Nat) (hk : k ≤ x.length) : codes (Txt.slice x none (some (k : Int))) = (codes x).take k := by
  have e : Txt.slice x none (some (k : Int)) = Txt.slice x (some ((0 : Nat) : Int)) (some (k : Int)) := by
    unfold Txt.slice; rw [StrLaws.sliceIdx_none_lo]; rfl
  unfold codes
  rw [e, slice_plain x (Nat.zero_le _) hk, List.drop_zero, Nat.sub_zero, List.map_take]
theorem slice_back (x : Str) (k : Nat) (hk : k ≤ x.length) : codes (Txt.slice x (some (k : Int)) none) = (codes x).drop k := by
  have e : Txt.slice x (some (k : Int)) none = Txt.slice x (some (k : Int)) (some (x.length : Int)) := by
    unfold Txt.slice; rw [StrLaws.sliceIdx_none_hi]
  have hx : x.cps.toList.length = x.length := Array.length_toList
  unfold codes
  rw [e, slice_plain x hk (Nat.le_refl _), List.take_of_length_le (by rw [List.length_drop, hx]; exact Nat.le_refl _), List.map_drop]
theorem codes_dots : codes (PySem.Str.ofString "...") = [46, 46, 46] := by decide +kernel
theorem cram_codes (x : Str) (n : Int) (f b : Nat) (h : n < (x.length : Int)) (hf : (if (n - 3).fdiv 2 > 0 then (n - 3).fdiv 2 else 0) = (f : Int)) (hb : (if n - 3 - (f : Int) > 0 then n - 3 - (f : Int) else 0) = (b : Int)) (hfx : f ≤ x.length) (hbx : b ≤ x.length) :
    codes (cramS x n) = (codes x).take f ++ [46, 46, 46] ++ (codes x).drop ((codes x).length - b) := by
  unfold cramS
  rw [if_pos h, hf, hb, codes_app, codes_app, slice_front x f hfx, codes_dots, codes_len]
  have e : (x.length : Int) - (b : Int) = ((x.length - b : Nat) : Int) := by omega
  rw [e, slice_back x _ (Nat.sub_le _ _)]
theorem cram_whole (x : Str) (n : Int) (h : ¬ n < (x.length : Int)) : cramS x n = x := by unfold cramS; rw [if_neg h]
/-- the front's and the back's octets at a width -/
def frW (n : Int) : Int := if 3 < n then (n - 3) / 2 else 0
def bkW (n : Int) : Int := if 3 < n then n - 3 - (n - 3) / 2 else 0
theorem frbk_step (n : Int) : (3 < n → frW n = frW (n - 1) + n.fmod 2 ∧ bkW n = bkW (n - 1) + (1 - n.fmod 2)) ∧ (¬ 3 < n → frW n = frW (n - 1) ∧ bkW n = bkW (n - 1)) := by
  rw [Int.fmod_eq_emod_of_nonneg n (b := 2) (by decide)]
  unfold frW bkW
  constructor
  · intro h
    by_cases h2 : 3 < n - 1
    · rw [if_pos h, if_pos h2, if_pos h, if_pos h2]; omega
    · rw [if_pos h, if_neg h2, if_pos h, if_neg h2]; omega
  · intro h
    rw [if_neg h, if_neg (by omega), if_neg h, if_neg (by omega)]
    exact ⟨rfl, rfl⟩
theorem frbk_bound (n : Int) : 0 ≤ frW n ∧ 0 ≤ bkW n ∧ (frW n = 0 ∨ frW n < n - 3) ∧ (bkW n = 0 ∨ bkW n ≤ n - 3) := by
  unfold frW bkW
  split <;> omega
/-- the crammed text at a width -/
theorem cram_due (x : Str) (xs : List Int) (n : Int) (hx : codes x = octsAll xs) (h5 : 5 ≤ x.length) (h : n < (x.length : Int)) :
    rd 0 (codes (cramS x n)) = dueL (spansOf 0 xs) (x.length : Int) (frW n) (bkW n) ∧ ((cramS x n).length : Int) = max 3 n := by
  obtain ⟨b1, b2, b3, b4⟩ := frbk_bound n
  obtain ⟨f, hf⟩ := Int.eq_ofNat_of_zero_le b1
  obtain ⟨b, hb⟩ := Int.eq_ofNat_of_zero_le b2
  rw [hf] at b3
  rw [hb] at b4
  have hfd : (n - 3).fdiv 2 = (n - 3) / 2 := Int.fdiv_eq_ediv_of_nonneg _ (by decide)
  have e1 : (if (n - 3).fdiv 2 > 0 then (n - 3).fdiv 2 else 0) = (f : Int) := by
    rw [hfd, ← hf]; unfold frW; split <;> split <;> omega
  have e2 : (if n - 3 - (f : Int) > 0 then n - 3 - (f : Int) else 0) = (b : Int) := by
    rw [← hf, ← hb]; unfold frW bkW; split <;> split <;> omega
  have hc := cram_codes x n f b h e1 e2 (by omega) (by omega)
  have hl := codes_len x
  constructor
  · rw [hc, hx, rd_due xs f b (by rw [← hx, hl]; omega) (by rw [← hx, hl]; omega), hf, hb, ← hl, hx]
  · rw [← codes_len, hc, List.length_append, List.length_append, List.length_take, List.length_drop, hl]
    have g : (f : Int) + b = if 3 < n then n - 3 else 0 := by rw [← hf, ← hb]; unfold frW bkW; split <;> omega
    simp only [List.length_cons, List.length_nil]
    split at g <;> omega
end Mine
end PartL2
section PartL3
open PySem PySem.W PyProof.Rows PySem.Spec PySem.Calls
set_option maxRecDepth 100000
namespace Mine
theorem octsN_octs (z : Nat) (n : Int) (h0 : 0 ≤ n) (h1 : n < 4096) : Octs (octsN z n) ∧ ∃ a c, octsN z n = a ++ [c] ∧ c < 64 := by
  unfold octsN
  constructor
  · intro b hb
    rcases List.mem_append.mp hb with hb | hb
    · obtain ⟨c, hc, rfl⟩ := List.mem_map.mp hb
      have : 0 ≤ c ∧ c < 64 := by
        rcases List.mem_append.mp hc with hc | hc
        · obtain ⟨l, hl, hc⟩ := List.mem_flatten.mp hc
          obtain ⟨_, rfl⟩ := List.mem_replicate.mp hl
          rw [List.mem_singleton.mp hc]; omega
        · split at hc
          · rw [List.mem_singleton.mp hc]; omega
          · cases hc
      show 0 ≤ 64 + c ∧ 64 + c < 128
      omega
    · split at hb
      · rw [List.mem_singleton.mp hb]; omega
      · rw [List.mem_singleton.mp hb]; omega
  · by_cases h : 63 < n
    · rw [if_pos h, if_pos h]; exact ⟨_, _, rfl, by omega⟩
    · rw [if_neg h, if_neg h]; exact ⟨_, _, rfl, by omega⟩
theorem octs_octs (x : Int) : Octs (octs x) := by rw [octs_eqN]; exact (octsN_octs _ _ (fm4096 x).1 (fm4096 x).2).1
theorem octs_last (x : Int) : ∃ a c, octs x = a ++ [c] ∧ c < 64 := by rw [octs_eqN]; exact (octsN_octs _ _ (fm4096 x).1 (fm4096 x).2).2
theorem Octs.app {a b : List Int} (x : Octs a) (y : Octs b) : Octs (a ++ b) := fun c hc => (List.mem_append.mp hc).elim (x c) (y c)
theorem octsAll_octs : ∀ xs : List Int, Octs (octsAll xs)
  | [] => fun b hb => by simp [octsAll] at hb
  | x :: r => by rw [octsAll_cons]; exact (octs_octs x).app (octsAll_octs r)
theorem octsAll_ended (xs : List Int) : Ended (octsAll xs) := by
  rcases List.eq_nil_or_concat xs with rfl | ⟨r, x, rfl⟩
  · intro b hb; simp [octsAll] at hb
  · rw [List.concat_eq_append, octsAll_snoc]
    obtain ⟨a, c, e, hc⟩ := octs_last x
    rw [e, ← List.append_assoc]
    intro b hb
    rw [List.getLast?_concat] at hb
    cases hb
    exact hc
theorem crammed_octs {O : List Int} (h : Octs O) (f k : Nat) : Octs (O.take f ++ [46, 46, 46] ++ O.drop k) := by
  refine Octs.app (Octs.app (fun b hb => h b (List.mem_of_mem_take hb)) fun b hb => ?_) fun b hb => h b (List.mem_of_mem_drop hb)
  simp at hb
  omega
theorem crammed_ended {O : List Int} (h : Ended O) (f k : Nat) : Ended (O.take f ++ [46, 46, 46] ++ O.drop k) := by
  intro b hb
  cases hd : O.drop k with
  | nil =>
    rw [hd, List.append_nil, List.getLast?_append] at hb
    simp at hb
    omega
  | cons c r =>
    have hne : O.drop k ≠ [] := by rw [hd]; exact List.cons_ne_nil _ _
    have hlt : ¬ O.length ≤ k := fun hle => hne (List.drop_eq_nil_of_le hle)
    rw [List.getLast?_append] at hb
    have e : (O.drop k).getLast? = O.getLast? := by rw [List.getLast?_drop, if_neg hlt]
    cases hg : (O.drop k).getLast? with
    | none => exact absurd (List.getLast?_eq_none_iff.mp hg) hne
    | some d =>
      rw [hg] at hb
      simp at hb
      exact h b (by rw [← e, hg, hb])
theorem due_small (xs : List Int) (size f b : Int) : ∀ v ∈ dueL (spansOf 0 xs) size f b, v < 2 ^ 60 := by
  intro v hv
  unfold dueL at hv
  have P : (2 : Int) ^ 60 = 1152921504606846976 := by decide
  rw [P]
  rcases List.mem_append.mp hv with hv | hv
  · rcases List.mem_append.mp hv with hv | hv
    · rcases List.mem_append.mp hv with hv | hv
      · obtain ⟨q, hq, rfl⟩ := List.mem_map.mp hv
        have := spansOf_mem xs 0 q (List.mem_filter.mp hq).1
        omega
      · obtain ⟨q, hq, rfl⟩ := List.mem_map.mp hv
        have := spansOf_mem xs 0 q (List.mem_filter.mp hq).1
        unfold dueF
        rw [Int.fdiv_eq_ediv_of_nonneg _ (p64 _)]
        have h2 : q.1 / 64 ^ (q.2.2 - f).toNat ≤ q.1 := Int.ediv_le_self _ this.1
        omega
    · simp at hv; omega
  · obtain ⟨q, hq, rfl⟩ := List.mem_map.mp hv
    have := spansOf_mem xs 0 q (List.mem_filter.mp hq).1
    unfold dueB
    rw [Int.fmod_eq_emod_of_nonneg _ (p64 _)]
    by_cases hz : q.1 < 64 ^ (q.2.2 - size + b).toNat
    · rw [Int.emod_eq_of_lt this.1 hz]; omega
    · have := Int.emod_lt_of_pos q.1 (show (0 : Int) < 64 ^ (q.2.2 - size + b).toNat from Int.pow_pos (by decide))
      omega
/-- the crammed text at every width: all that the walk asks -/
theorem crammed_all (x : Str) (xs : List Int) (n : Int) (hx : codes x = octsAll xs) (h5 : 5 ≤ x.length) :
    Octs (codes (cramS x n)) ∧ Ended (codes (cramS x n)) ∧ (∀ v ∈ rd 0 (codes (cramS x n)), v < 2 ^ 60) ∧
    (n < (x.length : Int) → rd 0 (codes (cramS x n)) = dueL (spansOf 0 xs) (x.length : Int) (frW n) (bkW n) ∧ ((cramS x n).length : Int) = max 3 n) ∧
    (¬ n < (x.length : Int) → rd 0 (codes (cramS x n)) = (spansOf 0 xs).map (·.1) ∧ (cramS x n).length = x.length) := by
  by_cases h : n < (x.length : Int)
  · have hd := cram_due x xs n hx h5 h
    obtain ⟨b1, b2, b3, b4⟩ := frbk_bound n
    obtain ⟨f, hf⟩ := Int.eq_ofNat_of_zero_le b1
    obtain ⟨b, hb⟩ := Int.eq_ofNat_of_zero_le b2
    rw [hf] at b3
    rw [hb] at b4
    have hfd : (n - 3).fdiv 2 = (n - 3) / 2 := Int.fdiv_eq_ediv_of_nonneg _ (by decide)
    have e1 : (if (n - 3).fdiv 2 > 0 then (n - 3).fdiv 2 else 0) = (f : Int) := by
      rw [hfd, ← hf]; unfold frW; split <;> split <;> omega
    have e2 : (if n - 3 - (f : Int) > 0 then n - 3 - (f : Int) else 0) = (b : Int) := by
      rw [← hf, ← hb]; unfold frW bkW; split <;> split <;> omega
    have hc := cram_codes x n f b h e1 e2 (by omega) (by omega)
    refine ⟨?_, ?_, ?_, fun _ => hd, fun q => absurd h q⟩
    · rw [hc, hx]; exact crammed_octs (octsAll_octs xs) _ _
    · rw [hc, hx]; exact crammed_ended (octsAll_ended xs) _ _
    · rw [hd.1]; exact due_small xs _ _ _
  · rw [cram_whole x n h, hx]
    refine ⟨octsAll_octs xs, octsAll_ended xs, ?_, fun q => absurd q h, fun _ => ⟨rd_all xs 0, rfl⟩⟩
    rw [rd_all xs 0]
    intro v hv
    obtain ⟨q, hq, rfl⟩ := List.mem_map.mp hv
    have := spansOf_mem xs 0 q hq
    have P : (2 : Int) ^ 60 = 1152921504606846976 := by decide
    rw [P]
    omega
theorem octsAll_len5 : ∀ xs : List Int, xs.length ≤ (octsAll xs).length
  | [] => Nat.le_refl _
  | x :: r => by
    have := octsAll_len5 r
    have := (octs_len x).1
    rw [octsAll_cons, List.length_append, List.length_cons]; omega
/-- the text whose codes are the octets -/
def signOf (b : Int) : Str := ⟨#[b.toNat]⟩
theorem codes_sign {b : Int} (h : 0 ≤ b) : codes (signOf b) = [b] := by
  unfold codes signOf
  show [Int.ofNat b.toNat] = [b]
  have : Int.ofNat b.toNat = b := Int.toNat_of_nonneg h
  rw [this]
theorem empty_codes : codes (PySem.Str.ofString "") = [] := by decide +kernel
theorem join_codes : ∀ (l : List Str), codes (Txt.join (PySem.Str.ofString "") l) = (l.map codes).flatten := by
  intro l
  show codes (Builtin.Str.glued (PySem.Str.ofString "") l) = _
  rw [StrLaws.glued_eq_join]
  induction l with
  | nil => exact empty_codes
  | cons a r ih =>
    cases r with
    | nil => simp [PySem.Str.join]
    | cons b r =>
      show codes (a ++ PySem.Str.ofString "" ++ PySem.Str.join (PySem.Str.ofString "") (b :: r)) = _
      rw [codes_app, codes_app, ih, empty_codes, List.append_nil]
      simp
theorem signs_codes {O : List Int} (h : Octs O) : codes (Txt.join (PySem.Str.ofString "") (O.map signOf)) = O := by
  rw [join_codes, List.map_map]
  induction O with
  | nil => rfl
  | cons b r ih =>
    rw [List.map_cons, List.flatten_cons, ih fun c hc => h c (.tail _ hc)]
    show codes (signOf b) ++ r = b :: r
    rw [codes_sign (h b (.head _)).1]
    rfl
end Mine
end PartL3
section PartR14
open PySem PySem.W PyProof.Rows PySem.Spec PySem.Calls
set_option maxRecDepth 100000
namespace Mine
theorem carried_signs : ∀ {ys : List Value} {O : List Int}, ys.length = O.length → (∀ (j : Nat) (y : Value), ys[j]? = some y → ∃ b t, O[j]? = some b ∧ y = Value.str (signOf b) t) → CarriedAll ys (O.map fun a => PyData.str (signOf a))
  | [], [], _, _ => .nil
  | y :: ys, n :: ns, hl, h => by
    obtain ⟨b, t, e1, e2⟩ := h 0 y rfl
    have e1' : n = b := by simpa using e1
    subst e1' e2
    exact .cons (.str _ _) (carried_signs (by simpa using hl) fun j z hz => by simpa using h (j + 1) z (by simpa using hz))
  | [], _ :: _, hl, _ => by simp at hl
  | _ :: _, [], hl, _ => by simp at hl
theorem signOf_len (b : Int) : (signOf b).length = 1 := rfl
section
variable {prog : Program} {w : World} {A : Around} {E : Value → Shared → Prop} {s : Shared} {env : Env} {h₀ : Heap} {x : Str} {body : List Stmt} {Q : Flow → Shared → Prop}
/-- a loop over a range by ones: what holds between the turns is said of the frame's map; what the ledger has stays -/
theorem range_turns {r : Addr} {a₀ b₀ : Int} {t₀ u₀ v₀ : Tok} {n : Nat} {m₀ : Str → Option Value} {news : List (Addr × Obj)} (J : Nat → (Str → Option Value) → Prop)
    (hh : A.handled = none) (hr : IsRange s.heap r a₀ b₀ 1 t₀ u₀ v₀) (hsmall : Builtin.Range.small a₀ b₀ 1 = true) (hn : Builtin.Range.rangeSize a₀ b₀ 1 = (n : Int)) (F : Fr h₀ env.locals s.heap m₀) (N : News h₀ env.locals s.heap news) (hj : J 0 m₀)
    (turn : ∀ i t m₁ h tk own, i < n → J i m₁ → Fr h₀ env.locals h (fun y => if y = x then some (.int (a₀ + (i : Int)) t) else m₁ y) → News h₀ env.locals h (own ++ news) →
      wpAny (model prog w) A (execs body env) (InvPost h₀ env.locals (J (i + 1)) (own ++ news) { s with heap := h, toks := tk } Q) E { s with heap := h, toks := tk })
    (done : ∀ m₁ h tk, J n m₁ → Fr h₀ env.locals h m₁ → News h₀ env.locals h news → Q .next { s with heap := h, toks := tk }) :
    wpAny (model prog w) A (pyIter (.ref r)) (fun it s₂ => LoopAtV prog w A h₀ env x body Q E it s₂) E s := by
  refine wpAny_pyIter_range hr hsmall ?_
  have W : Walks prog w A s.heap.objs.size [s.heap.objs.size] [s.heap.objs.size] n (fun i v => i < n ∧ ∃ t, v = .int (a₀ + i * 1) t)
      (fun i h => IsRangeIter h s.heap.objs.size (a₀ + (i : Nat) * 1) ((n : Int) - (i : Nat)) 1) := (Walks.range hh _ a₀ 1 n).bound
  have off : ∀ p ∈ news, p.1 ∉ [s.heap.objs.size] := fun p hp hm => absurd (Heap.lt_size (N p hp).1) ((List.mem_singleton.mp hm) ▸ Nat.lt_irrefl _)
  refine ⟨_, _, _, n, _, _, m₀, news, fun i m nx => nx = news ∧ J i m, rfl, W, ?_, ?_, off, ?_, F.push _, fun p hp => ⟨Heap.get?_push_of_some _ (N p hp).1, (N p hp).2⟩, ⟨rfl, hj⟩, ?_, ?_⟩
  · exact fun hm => absurd F.ns.lt ((List.mem_singleton.mp hm) ▸ Nat.lt_irrefl _)
  · exact fun b hb => by rw [List.mem_singleton.mp hb]; exact next_is_new F
  · show IsRangeIter _ _ _ _ _
    rw [hn]
    simpa using Heap.get?_push_size _ rfl
  · rintro i v m₁ nx s₁ own ⟨hh', tk', rfl⟩ hin ⟨_, t, rfl⟩ ⟨rfl, hJ⟩ hoff _ _ _ _ F₁ N₁
    rw [show a₀ + (i : Int) * 1 = a₀ + (i : Int) by omega] at F₁
    refine wpAny_mono (turn i t m₁ hh' tk' own hin hJ F₁ N₁) (fun f s₂ p => ?_) fun _ _ e => e
    have fin : InvEnd h₀ env.locals (J (i + 1)) (own ++ nx) { s with heap := hh', toks := tk' } s₂ → LoopStepU h₀ env.locals [s.heap.objs.size] own (fun m z => z = nx ∧ J (i + 1) m) { s with heap := hh', toks := tk' } .next s₂ := by
      rintro ⟨h', tk, m', news', e, F', N', hn', hm⟩
      exact ⟨rfl, h', tk, m', nx, e, F', fun p hp => N' p (hn' p hp), hoff, rfl, hm⟩
    cases f with
    | ret v => exact .ret p
    | brk => exact .brk p
    | next => exact .next (fin p)
    | cont => exact .cont (fin p)
  · rintro h' tk m' nx F' N' _ ⟨rfl, hJ⟩
    exact done m' h' tk hJ F' N'
end
end Mine
namespace Mine
/-- what stands behind the turn's first statement -/
def IfEnd (led : List (Addr × Obj)) (n : Int) (SG : Str) (sz : Nat) (sp : Addr) (h₀ : Heap) (L : Addr) (s : Shared) (f : Flow) (s' : Shared) : Prop :=
  f = .next ∧ ∃ h' tk m' t0, s' = { s with heap := h', toks := tk } ∧ Fr h₀ L h' m' ∧ News h₀ L h' led ∧ m' (PySem.Str.ofString "width") = some (.int n t0) ∧ (∃ t, m' (PySem.Str.ofString "front") = some (.int (frW n) t)) ∧ (∃ t, m' (PySem.Str.ofString "back") = some (.int (bkW n) t)) ∧
    (∃ t, m' (PySem.Str.ofString "signs") = some (.str SG t)) ∧ (∃ t, m' (PySem.Str.ofString "size") = some (.int (sz : Int) t)) ∧ m' (PySem.Str.ofString "spans") = some (.ref sp)
theorem if_mid {α : Type} {M : Model} {A : Around} {c : Sem α} {Q : α → Shared → Prop} {E : Value → Shared → Prop} {s : Shared} {h₀ : Heap} {L : Addr} {m : Str → Option Value} (_F : Fr h₀ L s.heap m) (P : Heap → Addr → Shared → α → Shared → Prop)
    (h1 : wpAny M A c (P h₀ L s) E s) (h2 : ∀ f s', P h₀ L s f s' → Q f s') : wpAny M A c Q E s := wpAny_mono h1 h2 fun _ _ e => e
theorem chain5 {m : Str → Option Value} {a b c d e : Str} {x y z u v : Value} (ha : m a = some x) (hb : m b = some y) (hc : m c = some z) (hd : m d = some u) (he : m e = some v) :
    m = fun n => if n = a then some x else if n = b then some y else if n = c then some z else if n = d then some u else if n = e then some v else m n := by
  funext n
  repeat' split
  all_goals first | rfl | (rename_i q; rw [q]; assumption)
theorem chain6 {m : Str → Option Value} {a b c d e f : Str} {x y z u v w : Value} (ha : m a = some x) (hb : m b = some y) (hc : m c = some z) (hd : m d = some u) (he : m e = some v) (hf : m f = some w) :
    m = fun n => if n = a then some x else if n = b then some y else if n = c then some z else if n = d then some u else if n = e then some v else if n = f then some w else m n := by
  funext n
  repeat' split
  all_goals first | rfl | (rename_i q; rw [q]; assumption)
end Mine
namespace Mine
theorem codes_at {x : Str} {j c : Nat} (h : x.cps[j]? = some c) : (codes x)[j]? = some (c : Int) := by
  unfold codes
  rw [List.getElem?_map, Array.getElem?_toList, h]
  rfl
end Mine
end PartR14
section PartW5
open PySem PySem.W PyProof.Rows PySem.Spec PySem.Calls
namespace Mine
local macro_rules | `(tactic| walk_at "subscriptTail Name Slice ref ref") => `(tactic| ((with_reducible show wpAny _ _ (subscriptTail _ (PySem.Expr.Slice _ _ (some _) _) (Value.ref _) (Value.ref _)) _ _ _); refine Stop.out ?_))
local macro_rules | `(tactic| walk_at "call builtin:sum") => `(tactic| refine Stop.out ?_)
local macro_rules | `(tactic| walk_at "call builtin:len") => `(tactic| ((with_reducible show wpAny _ _ (call (Value.builtin "len") [Value.ref _]) _ _ _); refine Stop.out ?_))
local macro_rules | `(tactic| walk_at "call ref") => `(tactic| refine Stop.out ?_)
local macro_rules | `(tactic| walk_at "inplaceOp Add ref ref") => `(tactic| refine Stop.out ?_)
local macro_rules | `(tactic| walk_at "eval ListComp") => `(tactic| refine Stop.out ?_)
local macro_rules | `(tactic| walk_at "call builtin:list.append") => `(tactic| refine Stop.out ?_)
theorem SpansIn.length {news : List (Addr × Obj)} {vs : List Value} {ps : List Tri} (x : SpansIn news vs ps) : vs.length = ps.length := by
  induction x with
  | nil => rfl
  | cons _ _ ih => rw [List.length_cons, List.length_cons, ih]
theorem spansOf_len : ∀ (p : Int) (xs : List Int), (spansOf p xs).length = xs.length
  | _, [] => rfl
  | p, x :: r => by rw [spansOf, List.length_cons, List.length_cons, spansOf_len]
theorem wpAny_tk {α : Type} {M : Model} {A : Around} {c : Sem α} {Q : α → Shared → Prop} {E : Value → Shared → Prop} {s : Shared} (h : ∀ tk, wpAny M A c Q E { heap := s.heap, gens := s.gens, drawn := s.drawn, toks := tk, os := s.os }) : wpAny M A c Q E s := h s.toks
theorem codeAny_tk {M : Model} {A : Around} {c : Code} {R : Result → Shared → Prop} {s : Shared} (h : ∀ tk, codeAny M A c R { heap := s.heap, gens := s.gens, drawn := s.drawn, toks := tk, os := s.os }) : codeAny M A c R s := h s.toks
set_option maxRecDepth 100000 in
set_option maxHeartbeats 8000000 in
theorem law_holds : PySem.Challenge.rw_ph0003_01.Holds := hd (by
  k_go0
  all_goals try k_fold
  k_with "exec For Tuple Call cons nil" => (refine Stop.out ?_)
  w_on
  k_steps
  k_with_none
  rename (hd.heap_39 _).In _ => X
  rename Top _ _ _ _ _ _ => T
  rename Below _ _ _ _ => B
  rename Fr _ _ _ _ => F
  rename News _ _ _ _ => N
  rename IntsAre _ (List.take 60 _) => hIw
  rename_i D ws g5 hC hL9 l1c g4 oc g3 l1a g2 sp g1 l1b g0
  unfold Stop
  refine wpAny_For ?_
  k_with "call type:enumerate" => (refine Stop.out ?_)
  k_steps
  k_with_none
  unfold Stop
  rename Fr _ _ _ _ => F1
  rename News _ _ _ _ => N1
  rename_i tp g9 l1t
  obtain ⟨u1, u2, u3, u4, u5, N1⟩ : ∃ u1 u2 u3 u4 u5, News _ _ g9 [(tp, ({ cls := .type "tuple", data := .seq #[.int 70 u1, .int 4101 u2, .int 4095 u3, .int 8492 u4, .int 46 u5] } : Obj)), (sp, W.listOf #[] 0), (oc, W.listOf #[] 0), (D, W.listOf ws.toArray 0)] := ⟨_, _, _, _, _, N1⟩
  refine enum_tuple_call (N1 _ (.head _)).1 ?_
  intro h1 he hit hsz hk
  replace hk : ∀ b o, g9.get? b = some o → h1.get? b = some o := hk
  refine wpAny_pyIter_enum he ?_
  have N2 := N1.grown hk
  obtain ⟨m2, md, mo, ms, F2⟩ : ∃ m2, m2 (PySem.Str.ofString "drawn") = some (.ref D) ∧ m2 (PySem.Str.ofString "octets") = some (.ref oc) ∧ m2 (PySem.Str.ofString "spans") = some (.ref sp) ∧ Fr _ _ h1 m2 := ⟨_, rfl, rfl, rfl, F1.keeps hk⟩
  have htp := N1 _ (.head _)
  have hlt : ∀ p ∈ [(tp, ({ cls := .type "tuple", data := .seq #[.int 70 u1, .int 4101 u2, .int 4095 u3, .int 8492 u4, .int 46 u5] } : Obj)), (sp, W.listOf #[] 0), (oc, W.listOf #[] 0), (D, W.listOf ws.toArray 0)], p.1 < g9.objs.size := fun p hp => Heap.lt_size (N1 p hp).1
  have hLlt := F1.ns.lt
  have hn1 := fr_new F1 (b := g9.objs.size + 1) (Nat.le_succ _)
  have hn2 := fr_new F1 (b := g9.objs.size) (Nat.le_refl _)
  clear F1 N1
  dsimp only at he hit hsz htp hlt hLlt hn1 hn2 hk
  refine codeAny_tk fun tk9 => ?_
  dsimp only
  generalize hot9 : ({ cls := .type "tuple", data := .seq #[.int 70 u1, .int 4101 u2, .int 4095 u3, .int 8492 u4, .int 46 u5] } : Obj) = ot9 at *
  generalize hit9 : g9.objs.size = I9 at *
  obtain ⟨e9, he9⟩ : ∃ e9, e9 = I9 + 1 := ⟨_, rfl⟩
  rw [← he9] at he hn1 ⊢
  have q4 : ∀ z : Addr, z < I9 → e9 ≠ z := fun z hz => he9 ▸ Nat.ne_of_gt (Nat.lt_succ_of_lt hz)
  have q5 : ∀ z : Addr, z < I9 → I9 ≠ z := fun z hz => Nat.ne_of_gt hz
  have hltp := ltN (hlt _ (.head _))
  refine forLoop_enum rfl rfl rfl rfl rfl he hit (N2 _ (.head _)).1 (congrArg Obj.cls hot9.symm) (congrArg Obj.data hot9.symm) (he9 ▸ Nat.succ_ne_self _) (q4 _ (hlt _ (.head _))).symm (q5 _ (hlt _ (.head _))).symm (q4 _ hLlt) (q5 _ hLlt) htp.2.1 hn1 hn2 htp.2.2 F2
    (news := [(oc, W.listOf ([] : List Value).toArray 0), (sp, W.listOf ([] : List Value).toArray 0), (D, W.listOf ws.toArray 0)]) (fun p hp => N2 p (by
      rcases List.mem_cons.mp hp with rfl | hp
      · exact .tail _ (.tail _ (.head _))
      · rcases List.mem_cons.mp hp with rfl | hp
        · exact .tail _ (.head _)
        · exact .tail _ (.tail _ (.tail _ hp)))) ?off (fun i m news => ∃ xs ovs svs co cs tups, LJ D oc sp ws i m news xs ovs svs co cs tups)
    ⟨[], [], [], 0, 0, [(D, W.listOf ws.toArray 0)], rfl, md, mo, ms, rfl, .head _, ?offD, ?neq, .nil, .nil⟩ ?step ?hR
  case off =>
    intro p hp
    have hp' : p.1 < tp := by
      rcases List.mem_cons.mp hp with rfl | hp
      · exact l1t.2.1
      · rcases List.mem_cons.mp hp with rfl | hp
        · exact l1t.1
        · rw [List.mem_singleton.mp hp]; exact l1t.2.2
    have hp9 := ltN hp'
    exact ⟨neN (by omega), neN (by omega), neN (by omega)⟩
  case offD =>
    intro p hp
    rw [List.mem_singleton.mp hp]
    exact ⟨Nat.ne_of_lt l1a, Nat.ne_of_lt l1b.2⟩
  case neq => exact Nat.ne_of_lt l1b.1
  case step =>
    intro i v tk m₁ news₁ h₁ tk₁ oe oit hv ⟨xs, ovs, svs, co, cs, tups, J⟩ F3 N3 off3
    obtain ⟨c, uc, rfl⟩ : ∃ c uc, v = Value.int c uc := by
      have hi : i < 5 := (Array.getElem?_eq_some_iff.mp hv).1
      rcases i with _ | _ | _ | _ | _ | i
      · exact ⟨70, u1, by simpa using hv.symm⟩
      · exact ⟨4101, u2, by simpa using hv.symm⟩
      · exact ⟨4095, u3, by simpa using hv.symm⟩
      · exact ⟨8492, u4, by simpa using hv.symm⟩
      · exact ⟨46, u5, by simpa using hv.symm⟩
      · omega
    have hi5 : i < 5 := (Array.getElem?_eq_some_iff.mp hv).1
    have em := chain3 J.md J.mo J.ms
    rw [em] at F3
    have hled := J.hled
    have hmem := J.hmem
    subst hled
    k_steps
    unfold Stop
    refine slice_list3 F3 N3 (News.isList N3 (.tail _ (.tail _ (.tail _ (.tail _ (.tail _ hmem)))))) (.int _ _) .none (.int _ _) (by decide) ?_ (by with_unfolding_all rfl) (by intro _; with_unfolding_all rfl) (by rw [List.size_toArray, hIw.length, sizeLine_eq]; omega)
    intro h4 F4 N4
    dsimp only
    have hIp := hIw.pick (some (i : Int)) none (some 5)
    k_steps
    unfold Stop
    refine sumK rfl F4 N4 ⟨_, (N4 _ (.head _)).1, rfl, _, by rw [Array.toArray_toList]⟩ hIp ?_
    intro h5 tk5 t5 F5 N5
    replace N5 : News _ _ _ _ := fun p hp => N5 p (List.mem_cons_of_mem _ hp)
    clear F4 N4 F3 N3
    have hol : ovs.length ≤ 20 := by
      have := octsAll_len xs
      rw [J.isI.length]; have := J.hlen; omega
    k_steps
    unfold Stop
    rename Fr _ _ _ _ => F6
    rename News _ _ _ _ => N6
    have hoc6 := N6 _ (.tail _ (.tail _ (.tail _ (.head _))))
    refine len_list ⟨_, hoc6.1, rfl, _, rfl⟩ (by rw [List.size_toArray]; omega) ?_
    k_steps
    unfold Stop
    rename Fr _ _ _ _ => F7
    rename News _ _ _ _ => N7
    refine octets_call B F7 X N7 T rfl (by decide) (by decide) ?_
    intro r8 h8 tk8 zs8 c8 hI8 F8 N8 l8
    dsimp only
    k_steps
    unfold Stop
    have hn8 : zs8.length ≤ 4 := by rw [hI8.length]; exact (octs_len _).2
    clear F7 N7
    refine iadd_list (N8 _ (.tail _ (.tail _ (.tail _ (.tail _ (.head _)))))).1 (N8 _ (.head _)).1 (by omega) fun h9 c9 hs9 hg9 => ?_
    dsimp only
    have hmoc := N8 _ (.tail _ (.tail _ (.tail _ (.tail _ (.head _)))))
    have F9 := F8.change hs9 hmoc.2.1 hmoc.2.2
    have N9 : News _ _ h9 ((oc, W.listOf (ovs ++ zs8).toArray c9) :: (e9, oe) :: (I9, oit) :: (tp, ot9) :: (sp, W.listOf svs.toArray cs) :: tups) := fun p hp => by
      rcases List.mem_cons.mp hp with rfl | hp
      · exact ⟨hg9, hmoc.2⟩
      · have hp9 : p ∈ (e9, oe) :: (I9, oit) :: (tp, ot9) :: (oc, W.listOf ovs.toArray co) :: (sp, W.listOf svs.toArray cs) :: tups ∧ p.1 ≠ oc := by
          rcases List.mem_cons.mp hp with rfl | hp
          · exact ⟨.head _, (off3 _ (.head _)).1.symm⟩
          · rcases List.mem_cons.mp hp with rfl | hp
            · exact ⟨.tail _ (.head _), (off3 _ (.head _)).2.1.symm⟩
            · rcases List.mem_cons.mp hp with rfl | hp
              · exact ⟨.tail _ (.tail _ (.head _)), (off3 _ (.head _)).2.2.symm⟩
              · rcases List.mem_cons.mp hp with rfl | hp
                · exact ⟨.tail _ (.tail _ (.tail _ (.tail _ (.head _)))), J.hne.symm⟩
                · exact ⟨.tail _ (.tail _ (.tail _ (.tail _ (.tail _ hp)))), (J.hoff p hp).1⟩
        exact ⟨hs9.extBut _ _ hp9.2 (N8 _ (.tail _ hp9.1)).1, (N8 _ (.tail _ hp9.1)).2⟩
    dsimp only at N9 F9
    clear N8 F8 hs9 hg9 N5 F5
    k_steps
    unfold Stop
    rename Fr _ _ _ _ => F10
    rename News _ _ _ _ => N10
    refine len_list ⟨_, (N10 _ (.head _)).1, rfl, _, rfl⟩ (by rw [List.size_toArray, List.length_append]; omega) ?_
    k_steps
    unfold Stop
    rename Fr _ _ _ _ => F11
    rename News _ _ _ _ => N11
    rename (oc < _ ∧ _) => l11
    rename_i tD h11
    generalize hX : c + (pickNums (List.take 60 _) (some (i : Int)) none (some 5)).sum = X at *
    obtain ⟨U1, U2, U3, N11⟩ : ∃ U1 U2 U3, News _ _ h11 ((tD, ({ cls := .type "tuple", data := .seq #[.int (X.fmod 4096) U1, .int (↑ovs.toArray.size) U2, .int (↑(ovs ++ zs8).toArray.size) U3] } : Obj)) :: _) := ⟨_, _, _, N11⟩
    have e1 : (ovs.toArray.size : Int) = 0 + ((octsAll xs).length : Int) := by rw [List.size_toArray, J.isI.length, Int.zero_add]
    have e2 : ((ovs ++ zs8).toArray.size : Int) = 0 + ((octsAll xs).length : Int) + ((octs X).length : Int) := by rw [List.size_toArray, List.length_append, J.isI.length, hI8.length, Int.natCast_add, Int.zero_add]
    rw [e1, e2] at N11
    generalize hoD : ({ cls := .type "tuple", data := .seq #[.int (X.fmod 4096) U1, .int (0 + ((octsAll xs).length : Int)) U2, .int (0 + ((octsAll xs).length : Int) + ((octs X).length : Int)) U3] } : Obj) = oD at N11
    have hmsp := N11 _ (.tail _ (.tail _ (.tail _ (.tail _ (.tail _ (.head _))))))
    have hsl : svs.length ≤ 20 := by
      rw [J.isS.length]; exact spansOf_len _ _ ▸ (by have := J.hlen; omega)
    refine append_at hmsp.1 (fun h12 hs12 hg12 => ?_) (by rw [List.size_toArray, sizeLine_eq]; omega)
    replace hs12 : Heap.SameBut sp h11 h12 := hs12
    replace hg12 : h12.get? sp = some (W.listOf (svs ++ [Value.ref tD]).toArray (cs + 1)) := by rw [hg12, List.push_toArray]
    have F12 := F11.change hs12 hmsp.2.1 hmsp.2.2
    refine wpAny_execs_nil ⟨rfl, h12, _, _, (oc, W.listOf (ovs ++ zs8).toArray c9) :: (sp, W.listOf (svs ++ [Value.ref tD]).toArray (cs + 1)) :: (tD, oD) :: tups, rfl, F12, ?_, ?_, ?_⟩
    · intro p hp
      have hq : p = (sp, W.listOf (svs ++ [Value.ref tD]).toArray (cs + 1)) ∨ (p ∈ (tD, oD) :: (oc, W.listOf (ovs ++ zs8).toArray c9) :: (e9, oe) :: (I9, oit) :: (tp, ot9) :: (sp, W.listOf svs.toArray cs) :: tups ∧ p.1 ≠ sp) := by
        rcases List.mem_cons.mp hp with rfl | hp
        · exact .inr ⟨.tail _ (.tail _ (.head _)), (off3 _ (.tail _ (.head _))).1.symm⟩
        · rcases List.mem_cons.mp hp with rfl | hp
          · exact .inr ⟨.tail _ (.tail _ (.tail _ (.head _))), (off3 _ (.tail _ (.head _))).2.1.symm⟩
          · rcases List.mem_cons.mp hp with rfl | hp
            · exact .inr ⟨.tail _ (.tail _ (.tail _ (.tail _ (.head _)))), (off3 _ (.tail _ (.head _))).2.2.symm⟩
            · rcases List.mem_cons.mp hp with rfl | hp
              · exact .inr ⟨.tail _ (.head _), J.hne⟩
              · rcases List.mem_cons.mp hp with rfl | hp
                · exact .inl rfl
                · rcases List.mem_cons.mp hp with rfl | hp
                  · exact .inr ⟨.head _, Nat.ne_of_gt l11.2.2.2.2.1⟩
                  · exact .inr ⟨.tail _ (.tail _ (.tail _ (.tail _ (.tail _ (.tail _ hp))))), (J.hoff p hp).2⟩
      rcases hq with rfl | ⟨hq, hq'⟩
      · exact ⟨hg12, hmsp.2⟩
      · exact ⟨hs12.extBut _ _ hq' (N11 _ hq).1, (N11 _ hq).2⟩
    · intro p hp
      rcases List.mem_cons.mp hp with rfl | hp
      · exact off3 (oc, W.listOf ovs.toArray co) (.head _)
      · rcases List.mem_cons.mp hp with rfl | hp
        · exact off3 (sp, W.listOf svs.toArray cs) (.tail _ (.head _))
        · rcases List.mem_cons.mp hp with rfl | hp
          · exact ⟨Nat.ne_of_gt l11.2.1, Nat.ne_of_gt l11.2.2.1, Nat.ne_of_gt l11.2.2.2.1⟩
          · exact off3 _ (.tail _ (.tail _ hp))
    · refine ⟨xs ++ [X], ovs ++ zs8, svs ++ [Value.ref tD], c9, cs + 1, (tD, oD) :: tups, ?_, rfl, rfl, rfl, rfl, .tail _ hmem, ?_, J.hne, ?_, ?_⟩
      · rw [List.length_append, J.hlen]; rfl
      · intro p hp
        rcases List.mem_cons.mp hp with rfl | hp
        · exact ⟨Nat.ne_of_gt l11.1, Nat.ne_of_gt l11.2.2.2.2.1⟩
        · exact J.hoff p hp
      · rw [octsAll_snoc]; exact J.isI.append hI8
      · rw [spansOf_snoc]
        exact spansIn_snoc (J.isS.mono fun p hp => .tail _ hp) ⟨tD, oD, 0, U1, U2, U3, rfl, .head _, congrArg Obj.cls hoD.symm, congrArg Obj.data hoD.symm⟩
  case hR =>
    intro h' tk m' news' F3 N3 ⟨xs, ovs, svs, co, cs, tups, J⟩
    have em := chain3 J.md J.mo J.ms
    rw [em] at F3
    have hled := J.hled
    have hmem := J.hmem
    subst hled
    have hl5 : xs.length = 5 := J.hlen
    have hol := octsAll_len xs
    have hol5 := octsAll_len5 xs
    have hoc3 := octsAll_octs xs
    have hov : ovs.length = (octsAll xs).length := J.isI.length
    dsimp only
    k_steps
    unfold Stop
    refine len_list ⟨_, (N3 _ (.head _)).1, rfl, _, rfl⟩ (by rw [List.size_toArray]; omega) ?_
    k_steps
    unfold Stop
    rename Fr _ _ _ _ => F4
    rename News _ _ _ _ => N4
    have hoc4 := N4 _ (.head _)
    refine name_eval (cl := []) (G := fun i y => ∃ b t, (octsAll xs)[i]? = some b ∧ y = .str (signOf b) t) (by with_unfolding_all rfl) (by decide) rfl (by decide) rfl (by rw [List.size_toArray]; omega)
      (src_list rfl (fun Q' hq => nameX_L F4 rfl hq rfl rfl) ⟨_, hoc4.1, rfl, _, rfl⟩) ?elt ?fin
    case elt =>
      intro C i v s₃ m₃ Q' E' hP hN hv hk hq
      obtain ⟨b, t, rfl, hb⟩ := J.isI.at i v (by simpa using hP)
      have hbm := hoc3 b (List.mem_of_getElem? hb)
      refine' Call_ (nameC_B (fun b o e => hk b o (F4.keep b o e)) X (topRead_of T) ?kB1 ?kB2 ?kB3 ?_)
      case kB1 => k_is
      case kB2 => boot_fast
      case kB3 => decide
      k_with "eval Name" => (refine nameC_L hN hv ?_)
      k_steps
      k_with_none
      exact hq _ _ ⟨b, _, hb, rfl⟩
    case fin =>
      intro D1 h1 tk1 ys1 hD1 hD1' hl1 hG1 hk1
      obtain ⟨F5, N5, l5⟩ := new_led (tk := tk1) F4 N4 hD1 hD1' hk1
      have hC1 := carried_signs (by rw [hl1, List.size_toArray, hov]) hG1
      clear F4 N4
      k_with "call builtin:str.join" => (refine Stop.out ?_)
      k_steps
      k_with_none
      unfold Stop
      refine KT.join_1 (News.isList N5 (.head _)) hC1 (fun b _ => signOf_len b) (by omega) fun t6 k6 hlen6 => ?_
      have hcod := signs_codes hoc3
      generalize Txt.join (PySem.Str.ofString "") ((octsAll xs).map signOf) = SG at hcod hlen6 ⊢
      k_with "exec For Name Call cons nil" => (refine Stop.out ?_)
      k_steps
      k_with_none
      unfold Stop
      rename Fr _ _ _ _ => F7
      rename News _ _ _ _ => N7
      refine For_invVF F7 rfl rfl ?_
      k_with "pyIter ref" => (refine Stop.out ?_)
      k_steps
      k_with_none
      unfold Stop
      rename IsRange _ _ _ _ _ _ _ _ => R8
      rename Fr _ _ _ _ => F8
      rename News _ _ _ _ => N8
      refine wpAny_tk fun tk8 => ?_
      dsimp only at R8 ⊢
      obtain ⟨m8, j1, j2, j3, j4, j5, F8⟩ : ∃ m8 : PySem.Str → Option Value, (∃ t, m8 (PySem.Str.ofString "front") = some (.int (frW (((0 : Nat) : Int) - 2)) t)) ∧ (∃ t, m8 (PySem.Str.ofString "back") = some (.int (bkW (((0 : Nat) : Int) - 2)) t)) ∧ (∃ t, m8 (PySem.Str.ofString "signs") = some (.str SG t)) ∧
        (∃ t, m8 (PySem.Str.ofString "size") = some (.int (ovs.length : Int) t)) ∧ m8 (PySem.Str.ofString "spans") = some (.ref sp) ∧ Fr _ _ _ m8 := ⟨_, ⟨_, rfl⟩, ⟨_, rfl⟩, ⟨_, rfl⟩, ⟨_, rfl⟩, rfl, F8⟩
      refine range_turns (n := ovs.length + 3) (fun i m => (∃ t, m (PySem.Str.ofString "front") = some (.int (frW ((i : Int) - 2)) t)) ∧ (∃ t, m (PySem.Str.ofString "back") = some (.int (bkW ((i : Int) - 2)) t)) ∧ (∃ t, m (PySem.Str.ofString "signs") = some (.str SG t)) ∧
        (∃ t, m (PySem.Str.ofString "size") = some (.int (ovs.length : Int) t)) ∧ m (PySem.Str.ofString "spans") = some (.ref sp)) rfl R8 (small_one (by omega) (by omega) (by omega) (by omega)) (by rw [rangeSize_nat]; omega) F8 N8 ⟨j1, j2, j3, j4, j5⟩ ?turn ?done
      case done =>
        intro m9 h9 tk9 _ F9 N9
        dsimp only
        k_steps
      case turn =>
        rintro i t m9 h9 tk9 own hi ⟨⟨t1, j1⟩, ⟨t2, j2⟩, ⟨t3, j3⟩, ⟨t4, j4⟩, j5⟩ F9 N9
        obtain ⟨n, hn⟩ : ∃ n : Int, n = -1 + (i : Int) := ⟨_, rfl⟩
        rw [show (i : Int) - 2 = n - 1 by omega] at j1 j2
        rw [← hn] at F9
        have hspm : (sp, W.listOf svs.toArray cs) ∈ own ++ (D1, W.listOf ys1.toArray ys1.length) :: (oc, W.listOf ovs.toArray co) :: (sp, W.listOf svs.toArray cs) :: tups := List.mem_append_right _ (.tail _ (.tail _ (.head _)))
        have hspS : SpansIn (own ++ (D1, W.listOf ys1.toArray ys1.length) :: (oc, W.listOf ovs.toArray co) :: (sp, W.listOf svs.toArray cs) :: tups) svs (spansOf 0 xs) := J.isS.mono fun p hp => List.mem_append_right _ (.tail _ (.tail _ (.tail _ hp)))
        generalize own ++ (D1, W.listOf ys1.toArray ys1.length) :: (oc, W.listOf ovs.toArray co) :: (sp, W.listOf svs.toArray cs) :: tups = led at N9 hspm hspS ⊢
        have em9 := chain5 j1 j2 j3 j4 j5
        rw [em9] at F9
        dsimp only at F9 N9 ⊢
        rw [show ((i + 1 : Nat) : Int) - 2 = n by omega]
        refine wpAny_execs_cons (if_mid F9 (IfEnd led n SG ovs.length sp) ?iff ?rest)
        case iff =>
          have hst := frbk_step n
          by_cases h3 : 3 < n
          · k_with "IfEnd" => (refine Stop.out ?_)
            k_steps
            k_with_none
            (try unfold Stop)
            rename Fr _ _ _ _ => Fz
            rename News _ _ _ _ => Nz
            rw [← (hst.1 h3).1, ← (hst.1 h3).2] at Fz
            exact ⟨rfl, _, _, _, _, rfl, Fz, Nz, rfl, ⟨_, rfl⟩, ⟨_, rfl⟩, ⟨_, rfl⟩, ⟨_, rfl⟩, rfl⟩
          · k_with "IfEnd" => (refine Stop.out ?_)
            k_steps
            k_with_none
            (try unfold Stop)
            rename Fr _ _ _ _ => Fz
            rename News _ _ _ _ => Nz
            rw [← (hst.2 h3).1, ← (hst.2 h3).2] at Fz
            exact ⟨rfl, _, _, _, _, rfl, Fz, Nz, rfl, ⟨_, rfl⟩, ⟨_, rfl⟩, ⟨_, rfl⟩, ⟨_, rfl⟩, rfl⟩
        case rest =>
          rintro f s' ⟨rfl, h10, tk10, m10, t0, rfl, F10, N10, i1, ⟨t1, i2⟩, ⟨t2, i3⟩, ⟨t3, i4⟩, ⟨t4, i5⟩, i6⟩
          have em10 := chain6 i1 i2 i3 i4 i5 i6
          rw [em10] at F10
          dsimp only
          k_steps
          unfold Stop
          have hSl : SG.length = ovs.length := by rw [hlen6, hov]
          refine cram_call (by omega) (by omega) B F10 X N10 T rfl (by decide) (by decide) ?_
          intro t11 h11 tk11 F11 N11
          obtain ⟨c1, c2, c3, c4, c5⟩ := crammed_all SG xs n hcod (by omega)
          rw [hSl] at c4 c5
          generalize cramS SG n = CS at c1 c2 c3 c4 c5 ⊢
          have hcl := codes_len CS
          dsimp only
          by_cases hw : n < (ovs.length : Int)
          case' pos =>
            have c6 := c4 hw
            clear c4 c5
            k_steps
            unfold Stop
            rename Fr _ _ _ _ => F12
            rename News _ _ _ _ => N12
            have hfb := frbk_bound n
            refine due_call (ps := spansOf 0 xs) (fun p hp => ?psOk) (by rw [spansOf_len]; omega) (by omega) (by omega) (by omega) B F12 X N12 T rfl (by decide) (by decide) hspm hspS ?_
            case psOk =>
              have := spansOf_mem xs 0 p hp
              omega
            intro r9 h13 tk13 zs9 cc9 hI9 F13 N13 l13
            rw [← c6.1] at hI9
          case' neg =>
            have c6 := c5 hw
            clear c4 c5
            k_steps
            unfold Stop
            rename Fr _ _ _ _ => F12
            rename News _ _ _ _ => N12
            refine tri_eval (cl := []) (l := sp) (vs := svs) (ps := spansOf 0 xs) (P := fun _ => true) (f := fun p => p.1) rfl (by with_unfolding_all rfl) (by decide) rfl (by decide) rfl rfl rfl (by decide) (by decide) (by decide)
              (fun Q' hq => nameX_L F12 rfl hq rfl rfl) (News.isList N12 hspm) (by rw [spansOf_len]; omega) (hspS.are fun p hp => (N12 p hp).1)
              ⟨fun C p u1 u2 u3 s₃ m₃ Q' E' hp hn ha hb hc hk hq => TT.nil (hq _), fun C p u1 u2 u3 s₃ m₃ Q' E' hp hP hn ha hb hc hk hq => nameC_L hn ha (hq _ _)⟩ ?_
            intro r9 h13 tk13 zs9 hD9 hD9' hI9 hk9
            obtain ⟨F13, N13, l13⟩ := new_led (tk := tk13) F12 N12 hD9 hD9' hk9
            rw [show ((spansOf 0 xs).filter fun _ => true) = spansOf 0 xs from List.filter_eq_self.mpr fun _ _ => rfl, ← c6.1] at hI9
          all_goals (
            dsimp only
            k_steps
            unfold Stop
            rename Fr _ _ _ _ => F14
            rename News _ _ _ _ => N14
            refine name_eval (cl := []) (G := fun i y => ∃ b t, (codes CS)[i]? = some b ∧ y = .int b t) (by with_unfolding_all rfl) (by decide) rfl (by decide) rfl (by show CS.length ≤ 1000; omega)
              (src_str rfl (fun Q' hq => nameX_L F14 rfl hq rfl rfl)) ?elt2 ?fin2
            case elt2 =>
              intro C j v s₃ m₃ Q' E' hP hN hv hk hq
              obtain ⟨cc, uu, hcc, rfl⟩ := hP
              refine' Call_ (nameC_B (fun b o e => hk b o (F14.keep b o e)) X (topRead_of T) ?kB1 ?kB2 ?kB3 ?_)
              case kB1 => k_is
              case kB2 => boot_fast
              case kB3 => decide
              k_with "eval Name" => (refine nameC_L hN hv ?_)
              k_steps
              k_with_none
              exact hq _ _ ⟨(cc : Int), _, codes_at hcc, rfl⟩
            case fin2 =>
              intro D2 h15 tk15 ys2 hD2 hD2' hl2 hG2 hk2
              obtain ⟨F15, N15, l15⟩ := new_led (tk := tk15) F14 N14 hD2 hD2' hk2
              have hI15 : IntsAre ys2 (codes CS) := ints_of_at (by rw [hl2, hcl]; rfl) hG2
              clear F14 N14
              k_steps
              unfold Stop
              rename Fr _ _ _ _ => F16
              rename News _ _ _ _ => N16
              refine read_call c1 c2 c3 (by rw [hcl]; omega) hI15 B F16 X N16 T rfl (by decide) (by decide) (.head _) ?_
              intro r17 h17 tk17 zs17 cc17 hI17 F17 N17 l17
              clear F16 N16
              dsimp only
              k_steps
              rename Fr _ _ _ _ => F18
              rename News _ _ _ _ => N18
              exact InvEnd.intro F18 N18 (fun p hp => .tail _ (.tail _ (.tail _ hp))) ⟨⟨_, rfl⟩, ⟨_, rfl⟩, ⟨_, rfl⟩, ⟨_, rfl⟩, rfl⟩))
end Mine
end PartW5
theorem PySem.Challenge.cw_ph0003_01_holds : PySem.Challenge.rw_ph0003_01.Holds := by
  exact Mine.law_holds
