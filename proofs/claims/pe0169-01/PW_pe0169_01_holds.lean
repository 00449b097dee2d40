import PyProof.Rows.All
import Wide.All
import OpenK.AllK
import Wide.FinOn
import PySem.Challenge.RW_pe0169_01
open PySem PySem.W PyProof.Rows PySem.Calls PySem.Spec
set_option Elab.async false
set_option maxRecDepth 100000
set_option maxHeartbeats 4000000
set_option linter.unusedVariables false
set_option compiler.extract_closed false
namespace Mine
def among (l : String) (s : Lean.TSyntax `str) : Bool := (l.splitOn "|").contains s.getString
-- B1
section

/-- room left for frames and C units -/
structure Ok (A : Around) (D U : Nat) : Prop where
  h : A.handled = none
  d : A.depth + D < 1000
  u : A.units + U < 9900

theorem Ok.deeper {A : Around} {D U : Nat} (o : Ok A (D + 1) (U + 3)) (env : Env) : Ok (A.deeper env) D U :=
  ⟨o.h, by have := o.d; show A.depth + 1 + D < 1000; omega, by have := o.u; show A.units + 3 + U < 9900; omega⟩
theorem Ok.less {A : Around} {D U D' U' : Nat} (o : Ok A D U) (hd : D' ≤ D) (hu : U' ≤ U) : Ok A D' U' := ⟨o.h, by have := o.d; omega, by have := o.u; omega⟩

/-- a frame's names as a list -/
noncomputable def mp : List (Str × Option Value) → Str → Option Value
  | [], _ => none
  | (z, u) :: r, y => if y = z then u else mp r y
noncomputable def put (x : Str) (v : Option Value) : List (Str × Option Value) → List (Str × Option Value)
  | [] => [(x, v)]
  | (y, u) :: r => if y = x then (y, v) :: r else (y, u) :: put x v r
theorem mp_put' (x y : Str) (v : Option Value) : ∀ l : List (Str × Option Value), (if y = x then v else mp l y) = mp (put x v l) y
  | [] => rfl
  | (z, u) :: r => by
    have ih := mp_put' x y v r
    unfold put
    by_cases hz : z = x
    · subst hz
      by_cases hy : y = z
      · simp [mp, hy]
      · simp [mp, hy]
    · rw [if_neg hz]
      by_cases hy : y = z
      · subst hy; simp [mp, hz]
      · simp only [mp, if_neg hy]; exact ih
theorem mp_put (x y : Str) (v : Value) (l : List (Str × Option Value)) : (if y = x then some v else mp l y) = mp (put x (some v) l) y := mp_put' x y _ l
theorem lookup_mp (y : Str) : ∀ l : List (Str × Value), List.lookup y l = mp (l.map fun p => (p.1, some p.2)) y
  | [] => rfl
  | (z, u) :: r => by
    have ih := lookup_mp y r
    by_cases hy : y = z
    · subst hy; simp [mp, List.lookup]
    · have e : (y == z) = false := by simpa using hy
      simp only [mp, List.lookup, List.map, e, if_neg hy]; exact ih

/-- a mark at which the walk halts -/
structure Halt (p : Prop) : Prop where
  on ::
  go : p

theorem fmod_lo (a : Int) {b : Int} (hb : 0 < b) : 0 ≤ a.fmod b := by rw [Int.fmod_eq_emod_of_nonneg _ (by omega)]; exact Int.emod_nonneg _ (by omega)
theorem fmod_hi (a : Int) {b : Int} (hb : 0 < b) : a.fmod b < b := by rw [Int.fmod_eq_emod_of_nonneg _ (by omega)]; exact Int.emod_lt_of_pos _ hb
theorem Fr.cong {h₀ h : Heap} {L : Addr} {m m' : Str → Option Value} (F : Fr h₀ L h m) (e : ∀ y, m y = m' y) : Fr h₀ L h m' := (funext e) ▸ F
theorem Fr.but {h₀ h h' : Heap} {L I : Addr} {m : Str → Option Value} (F : Fr h₀ L h m) (hk : ∀ b o, b ≠ I → h.get? b = some o → h'.get? b = some o) (hL : L ≠ I) (hI : h₀.get? I = none) : Fr h₀ L h' m :=
  ⟨F.ns.at' fun o e => hk _ o hL e, fun b o e => hk b o (fun q => by rw [q, hI] at e; cases e) (F.keep b o e), F.above⟩
theorem News.but {h₀ h h' : Heap} {L I : Addr} {news : List (Addr × Obj)} (N : News h₀ L h news) (hk : ∀ b o, b ≠ I → h.get? b = some o → h'.get? b = some o) (hI : ∀ p ∈ news, p.1 ≠ I) : News h₀ L h' news :=
  fun p hp => ⟨hk _ _ (hI p hp) (N p hp).1, (N p hp).2⟩

section
variable {prog : Program} {w : World} {A : Around} {s : Shared} {env : Env} {E : Value → Shared → Prop}
theorem whileH {test : PySem.Expr} {body orelse : List Stmt} {pos : Pos} {Q : Flow → Shared → Prop} (I : Nat → Shared → Prop)
    (turn : ∀ n s, I n s → wpAny (model prog w) A (isTrue test env (eval test env)) (fun b s₂ =>
        if b then wpAny (model prog w) A (execs body env) (fun f s₃ => match f with
            | .next => Halt (∃ m, m < n ∧ I m s₃)
            | .cont => Halt (∃ m, m < n ∧ I m s₃)
            | .brk => Q .next s₃
            | .ret v => Q (.ret v) s₃) (fun _ _ => False) s₂
        else wpAny (model prog w) A (execs orelse env) Q (fun _ _ => False) s₂) (fun _ _ => False) s)
    (n : Nat) (h : I n s) : wpAny (model prog w) A (exec (.While test body orelse pos) env) Q E s := by
  refine wpAny_While (codeAny_whileLoop I (fun n s hI => wpAny_mono (turn n s hI) (fun b s₂ h₂ => ?_) fun _ _ x => x.elim) n h)
  cases b with
  | true =>
    refine wpAny_mono h₂ (fun f s₃ h₃ => ?_) fun _ _ x => x.elim
    cases f <;> first | exact h₃.go | exact h₃
  | false => exact wpAny_mono h₂ (fun f s₃ h₃ => h₃) fun _ _ x => x.elim

theorem forW {target : PySem.Expr} {body orelse : List Stmt} {Q : Flow → Shared → Prop} {I : Addr} {fp wr : List Addr} {n : Nat} {P : Nat → Value → Prop} {St : Nat → Heap → Prop}
    (W : Walks prog w A I fp wr n P St) (hwr : ∀ b ∈ wr, b = I) (href : Heap) (hfp : ∀ b ∈ fp, b = I ∨ ∃ o, href.get? b = some o) (J : Nat → Shared → Prop)
    (hJ : ∀ i s, J i s → ∀ b o, href.get? b = some o → s.heap.get? b = some o)
    (hup : ∀ i s h' tk, J i s → (∀ b o, b ≠ I → s.heap.get? b = some o → h'.get? b = some o) → J i { s with heap := h', toks := tk })
    (hat : ∀ i h, St i h → ∃ o, h.get? I = some o)
    (turn : ∀ i v s o, i < n → P i v → J i s → s.heap.get? I = some o → St (i + 1) s.heap → wpAny (model prog w) A (letOwnedTupleGo target (.ref I) v) (fun _ s₁ =>
        wpAny (model prog w) A (assign target env v) (fun _ s₂ => wpAny (model prog w) A (execs body env) (fun f s₃ => match f with
            | .next => Halt (J (i + 1) s₃ ∧ s₃.heap.get? I = some o)
            | .cont => Halt (J (i + 1) s₃ ∧ s₃.heap.get? I = some o)
            | .brk => Q .next s₃
            | .ret v => Q (.ret v) s₃) (fun _ _ => False) s₂) (fun _ _ => False) s₁) (fun _ _ => False) s)
    (done : ∀ s, J n s → wpAny (model prog w) A (execs orelse env) Q (fun _ _ => False) s)
    (st : St 0 s.heap) (j : J 0 s) : codeAny (model prog w) A (.forLoop target (.ref I) body orelse env) (fun r s' => match r with | .ok f => Q f s' | .error e => cameBackBy (model prog w) A env E e s') s := by
  refine codeAny_forLoop_any (fun k s => ∃ i, i ≤ n ∧ n - i = k ∧ J i s ∧ St i s.heap) (fun k s hI => ?_) n ⟨0, Nat.zero_le _, rfl, j, st⟩
  obtain ⟨i, hi, hk, hj, hst⟩ := hI
  by_cases hin : i < n
  · refine W.item i s _ _ hin hst fun v h' tk hP hst' hkp => ?_
    obtain ⟨o, ho⟩ := hat _ _ hst'
    have hj' := hup i s h' tk hj fun b o hb e => hkp b o (fun hm => hb (hwr b hm)) e
    refine wpAny_mono (turn i v _ o hin hP hj' ho hst') (fun _ s₁ h₁ => wpAny_mono h₁ (fun _ s₂ h₂ => wpAny_mono h₂ (fun f s₃ h₃ => ?_) fun _ _ x => x.elim) fun _ _ x => x.elim) fun _ _ x => x.elim
    have close : (J (i + 1) s₃ ∧ s₃.heap.get? I = some o) → ∃ m, m < k ∧ ∃ i, i ≤ n ∧ n - i = m ∧ J i s₃ ∧ St i s₃.heap := fun h => by
      refine ⟨n - (i + 1), by omega, i + 1, hin, rfl, h.1, W.frame _ _ _ hst' fun b hb ob e => ?_⟩
      rcases hfp b hb with rfl | ⟨o', ho'⟩
      · rw [ho] at e; cases e; exact h.2
      · have e1 := hJ _ _ hj' b o' ho'
        rw [e1] at e; cases e
        exact hJ _ _ h.1 b _ ho'
    cases f with
    | next => exact close (Halt.go h₃)
    | cont => exact close (Halt.go h₃)
    | brk => exact h₃
    | ret v => exact h₃
  · obtain rfl : i = n := by omega
    refine W.done s _ _ hst fun h' tk hkp => ?_
    exact wpAny_mono (done _ (hup i s h' tk hj fun b o hb e => hkp b o (fun hm => hb (hwr b hm)) e)) (fun f s₃ h₃ => h₃) fun _ _ x => x.elim
end

section
variable {prog : Program} {w : World} {A : Around} {s : Shared} {E : Value → Shared → Prop}
theorem rng_core {a b c : Int} {t u v : Tok} {Q : Value → Shared → Prop} {h : Heap} {tk : Nat} {o : Obj} (ho : o = { cls := .type "range", data := .fields #[.int a t, .int b u, .int c v] }) (hs : Builtin.Range.small a b c = true) {n : Nat} (hn : Builtin.Range.rangeSize a b c = n)
    (hq : ∀ I h' , h.objs.size < I → (∀ b o, h.get? b = some o → h'.get? b = some o) → h'.get? I = some { cls := .type "range_iterator", data := .fields #[rawInt (a + ((0 : Nat) : Int) * c), rawInt ((n : Int) - ((0 : Nat) : Int)), rawInt c] } → h'.objs.size = I + 1 → Q (.ref I) { s with heap := h', toks := tk }) :
    wpAny (model prog w) A (pyIter (.ref h.objs.size)) Q E { s with heap := h.push o, toks := tk } := by
  subst ho
  refine wpAny_pyIter_range (r := h.objs.size) (a := a) (b := b) (c := c) (t := t) (u := u) (v := v) (IsRange.new ..) hs ?_
  refine hq _ _ (by simp [Heap.size_push]) (fun b o e => Heap.get?_push_of_some _ (Heap.get?_push_of_some _ e)) ?_ (by simp [Heap.size_push])
  rw [Heap.get?_push_size _ rfl, hn]
  simp

theorem rng1 {N : Nat} {t : Tok} {Q : Value → Shared → Prop} (hN : N < 2 ^ 60)
    (hq : ∀ I h' tk, s.heap.objs.size < I → (∀ b o, s.heap.get? b = some o → h'.get? b = some o) → IsRangeIter h' I (0 + ((0 : Nat) : Int) * 1) ((N : Int) - ((0 : Nat) : Int)) 1 → h'.objs.size = I + 1 → Q (.ref I) { s with heap := h', toks := tk }) :
    wpAny (model prog w) A (call (.type "range") [.int N t]) (fun x s₁ => wpAny (model prog w) A (pyIter x) Q E s₁) E s := by
  refine call_range_1 ?_
  refine rng_core rfl (small_one (by omega) (by omega) (by omega) (by omega)) (n := N) (by rw [rangeSize_one]; split <;> omega) fun I h' h1 h2 h3 h4 => ?_
  exact hq I h' _ h1 h2 h3 h4
theorem rng2 {a b : Int} {n : Nat} {t u : Tok} {Q : Value → Shared → Prop} (ha : -(2 ^ 60) < a ∧ a < 2 ^ 60) (hb : b = a + n) (hn : n < 2 ^ 60)
    (hq : ∀ I h' tk, s.heap.objs.size < I → (∀ b o, s.heap.get? b = some o → h'.get? b = some o) → IsRangeIter h' I (a + ((0 : Nat) : Int) * 1) ((n : Int) - ((0 : Nat) : Int)) 1 → h'.objs.size = I + 1 → Q (.ref I) { s with heap := h', toks := tk }) :
    wpAny (model prog w) A (call (.type "range") [.int a t, .int b u]) (fun x s₁ => wpAny (model prog w) A (pyIter x) Q E s₁) E s := by
  refine call_range_2 ?_
  refine rng_core rfl (small_one (by omega) (by omega) (by omega) (by omega)) (n := n) (by rw [rangeSize_one]; split <;> omega) fun I h' h1 h2 h3 h4 => ?_
  exact hq I h' _ h1 h2 h3 h4
end

theorem mp_pad (y : Str) (pad : List Str) : ∀ l : List (Str × Option Value), mp (l ++ pad.map fun x => (x, none)) y = mp l y
  | [] => by
    induction pad with
    | nil => rfl
    | cons x r ih => simp only [List.nil_append, List.map_cons, mp] at ih ⊢; split <;> simp [ih]
  | (z, u) :: r => by
    simp only [List.cons_append, mp, mp_pad y pad r]
theorem enterX {K : Frag} {prog : Program} {w : World} {A : Around} {s : Shared} {R : Result → Shared → Prop} {name qual : Str} {params : Arguments} {body : List Stmt} {scope : Scope} {cl : List (Str × Addr)} {dV kV doc pm cdv ct oc : Value} {an od : Option Addr} {osl : Array (Option Value)} {f : Addr} {args : Args} (binds : List (Str × Value)) (pad : List Str)
    (X : K.In s.heap) (hl : s.heap.NoLimit)
    (ho : K.lookup f = some ⟨oc, od, .func (fnX name qual params body scope cl dV kV doc pm an cdv ct), osl⟩) (hcd : codeIn K cdv qual = true) (hroom : A.depth < recursionLimit)
    (hbind : BindsTo s (fnX name qual params body scope cl dV kV doc pm an cdv ct) args binds) (hloc : ∀ y ∈ binds, scope.names.lookup y.1 = some .local)
    (h : ∀ L h₁, Fr s.heap L h₁ (mp ((binds.reverse.map fun p => (p.1, some p.2)) ++ pad.map fun x => (x, none))) →
      wpAny (model prog w) (A.deeper (envX qual scope L f cdv cl)) (execs body (envX qual scope L f cdv cl))
        (fun fl s' => R (.ok (.ret (match fl with | .ret v => v | _ => .none))) s') (fun _ _ => False)
        { s with heap := h₁, toks := s.toks + binds.length })
    (hcell : ∀ x ∈ scope.names, x.2 ≠ .cell) (hco : scope.isCoroutine = false) (hgen : scope.isGenerator = false) (hk : scope.kind = .function) : codeAny (model prog w) A (.call (.ref f) args) R s := by
  refine codeAny_call_def (fd := fnX name qual params body scope cl dV kV doc pm an cdv ct) (body := body) (binds := binds) hroom (X _ _ ho) rfl hl (codeRec_of X hcd) rfl hbind hcell hloc (fun h₁ hns hk₁ => ?_) hco hgen hk
  exact wpAny_mono (h s.heap.objs.size h₁ (Fr.cong ⟨hns, hk₁, Nat.le_refl _⟩ fun y => by rw [mp_pad, ← lookup_mp])) (fun _ _ x => x) fun _ _ x => x.elim


theorem mulok {a b : Int} (h1 : -(2 ^ 64) < a) (h2 : a < 2 ^ 64) : IntMulOk a b := IntMulOk.of_left (intBits_le_64 h1 h2)
theorem keeps_fr {s : Shared} {L : Addr} {h' : Heap} {m : Str → Option Value} {tk : Nat} (F : Fr s.heap L h' m) : Keeps s { s with heap := h', toks := tk } := ⟨h', tk, rfl, F.keep⟩
end
-- B2
section

section
variable {prog : Program} {w : World} {A : Around} {E : Value → Shared → Prop} {env : Env}

/-- one turn's outcome of a comprehension: the iterator and the list as they were, the new objects l -/
noncomputable def TurnOut (hb : Heap) (C I D : Addr) (o : Obj) (ys : List Value) (e : Nat) (s₂ : Shared) (x : Str) (v : Value) (J : List (Addr × Obj) → Prop) (s' : Shared) : Prop :=
  ∃ h' tk' l', s' = { s₂ with heap := h', toks := tk' } ∧ Fr hb C h' (mp [(x, some v)]) ∧ News hb C h' ((I, o) :: (D, listOf ys.toArray e) :: l') ∧ (∀ p ∈ l', p.1 ≠ I ∧ p.1 ≠ D) ∧ J l'
inductive CompI (s₂ : Shared) (hb : Heap) (C D I : Addr) (x : Str) (n : Nat) (St : Nat → Heap → Prop) (J : Nat → List Value → List (Addr × Obj) → Prop) (k : Nat) (s : Shared) : Prop
  | mk (i : Nat) (ys : List Value) (l : List (Addr × Obj)) (h : Heap) (tk : Nat) (ov : Option Value) (e : Nat) : i ≤ n → n - i = k → s = { s₂ with heap := h, toks := tk } → Fr hb C h (mp [(x, ov)]) → News hb C h ((D, listOf ys.toArray e) :: l) → (∀ p ∈ l, p.1 ≠ I) → (∀ p ∈ l, p.1 ≠ D) → St i h → J i ys l → CompI s₂ hb C D I x n St J k s

theorem compFN {elt iter : PySem.Expr} {x : Str} {px : Pos} {ifs : List PySem.Expr} {scope : Scope} {cl : List (Str × Addr)} {pos : Pos} {s₂ : Shared} {I : Addr} {fp wr : List Addr} {n : Nat} {P : Nat → Value → Prop}
    {St : Nat → Heap → Prop} (W : Walks prog w A I fp wr n P St) (hn : n < 1000) (hwr : ∀ b ∈ wr, b = I) (hb : Heap) (hfp : ∀ b ∈ fp, b = I ∨ ∃ o, hb.get? b = some o)
    (hk : ∀ b o, hb.get? b = some o → s₂.heap.get? b = some o) (hbI : hb.get? I = none) (hbs : hb.objs.size ≤ I) (hat : ∀ i h, St i h → ∃ o, h.get? I = some o)
    {RR : Value → Addr → Result → Shared → Prop} (J : Nat → List Value → List (Addr × Obj) → Prop) (j0 : J 0 [] []) (jlen : ∀ i ys l, J i ys l → ys.length ≤ i)
    (hcell : ∀ y ∈ scope.names, y.2 ≠ .cell) (hkind : scope.kind = .function) (hx : scope.names.lookup x = some .local) (hst : St 0 s₂.heap)
    (turn : ∀ i v ys l h tk C D o e, i < n → P i v → J i ys l → @LT.lt Nat _ I D → @LT.lt Nat _ D C → Fr hb C h (mp [(x, some v)]) → News hb C h ((I, o) :: (D, listOf ys.toArray e) :: l) → (∀ p ∈ l, p.1 ≠ I) → (∀ p ∈ l, p.1 ≠ D) →
      wpAny (model prog w) A (forIn ifs true fun c r => if r = true then do let ok ← isTrue c (compEnvC scope cl C env) (eval c (compEnvC scope cl C env)); pure (ForInStep.yield ok) else pure (ForInStep.yield r))
        (fun ok s₃ => if ok = true then wpAny (model prog w) A (eval elt (compEnvC scope cl C env)) (fun y s₄ => Halt (TurnOut hb C I D o ys e s₂ x v (J (i + 1) (ys ++ [y])) s₄)) (fun _ _ => False) s₃
          else Halt (TurnOut hb C I D o ys e s₂ x v (J (i + 1) ys) s₃)) (fun _ _ => False) { s₂ with heap := h, toks := tk })
    (hRR : ∀ D C h' tk m' ys l e, J n ys l → @LT.lt Nat _ I D → @LT.lt Nat _ D C → h'.Ns C m' → h'.get? D = some (listOf ys.toArray e) → (∀ p ∈ l, h'.get? p.1 = some p.2 ∧ p.1 ≠ C ∧ hb.get? p.1 = none ∧ p.1 ≠ I ∧ p.1 ≠ D) → (∀ b o, hb.get? b = some o → h'.get? b = some o) →
      s₂.heap.objs.size ≤ D → RR (.ref D) C (.ok .next) { s₂ with heap := h', toks := tk }) :
    wpAny (model prog w) A (newList []) (fun acc s₃ => wpAny (model prog w) A (newFunctionEnv scope env.globals cl [] env.qual none .none (some env)) (fun cenv s₄ =>
      codeAny (model prog w) A (.compStart (.ListComp elt [⟨.Name x px, iter, ifs, 0⟩] scope pos) 0 (.ref I) acc { cenv with scope := relabel scope env }) (RR acc cenv.locals) s₄) E s₃) E s₂ := by
  refine wpAny_newObj_type (wpAny_newFunctionEnv hcell (by intro y hy; simp at hy) (fun h₁ hns₁ hsb₁ => ?_) hkind)
  dsimp only at hns₁ hsb₁ ⊢
  generalize hH2 : s₂.heap.push { cls := .type "list", dict := none, data := .seq ([] : List Value).toArray } = H2 at hns₁ hsb₁ ⊢
  have hC : H2.objs.size = s₂.heap.objs.size + 1 := by rw [← hH2, Heap.size_push]
  have hDC : s₂.heap.objs.size < H2.objs.size := by rw [hC]; exact Nat.lt_succ_self _
  obtain ⟨oI, hoI⟩ := hat _ _ hst
  have hIlt : I < s₂.heap.objs.size := Heap.lt_size hoI
  have old : ∀ b o, s₂.heap.get? b = some o → h₁.get? b = some o := fun b o e => hsb₁.extBut b o (Nat.ne_of_lt (Nat.lt_trans (Heap.lt_size e) hDC)) (Heap.get?_push_of_some _ (hH2 ▸ Heap.get?_push_of_some _ e))
  have hacc : h₁.get? s₂.heap.objs.size = some (listOf #[] 0) := hsb₁.extBut _ _ (Nat.ne_of_lt hDC) (Heap.get?_push_of_some _ (hH2 ▸ Heap.get?_push_size _ rfl))
  have hst₁ : St 0 h₁ := W.frame _ _ _ hst fun b _ o e => old b o e
  have freshb : ∀ a, s₂.heap.objs.size ≤ a → hb.get? a = none := fun a ha => by
    cases e : hb.get? a with
    | none => rfl
    | some o' => exact absurd (Heap.lt_size (hk _ _ e)) (Nat.not_lt.mpr ha)
  have hbC : hb.objs.size ≤ H2.objs.size := Nat.le_trans hbs (Nat.le_of_lt (Nat.lt_trans hIlt hDC))
  have F₁ : Fr hb H2.objs.size h₁ (mp [(x, none)]) := Fr.cong ⟨hns₁, fun b o e => old b o (hk b o e), hbC⟩ fun y => by simp [mp]
  have N₁ : News hb H2.objs.size h₁ ((s₂.heap.objs.size, listOf #[] 0) :: []) := fun p hp => by
    rcases List.mem_cons.mp hp with rfl | hp
    · exact ⟨hacc, Nat.ne_of_lt hDC, freshb _ (Nat.le_refl _)⟩
    · cases hp
  have hxC : (compEnvC scope cl H2.objs.size env).kindOf x = some .local := lookup_relabel_local hx
  have loop : ∀ tk, codeAny (model prog w) A (.compLoop (.ListComp elt [⟨.Name x px, iter, ifs, 0⟩] scope pos) 0 (.ref I) (.ref s₂.heap.objs.size) (compEnvC scope cl H2.objs.size env))
        (RR (.ref s₂.heap.objs.size) H2.objs.size) { s₂ with heap := h₁, toks := tk } := by
    intro tk
    refine codeAny_compLoop_tests (I := CompI s₂ hb H2.objs.size s₂.heap.objs.size I x n St J)
      (fun k s hI => ?_) n ⟨0, [], [], h₁, tk, none, 0, Nat.zero_le _, rfl, rfl, F₁, N₁, by simp, by simp, hst₁, j0⟩
    obtain ⟨i, ys, l, h, tk, ov, e, hi, hkk, rfl, F, N, hl1, hl2, hSt, hJ⟩ := hI
    have hCI : H2.objs.size ≠ I := Nat.ne_of_gt (Nat.lt_trans hIlt hDC)
    have hDI : ∀ p ∈ (s₂.heap.objs.size, listOf ys.toArray e) :: l, p.1 ≠ I := List.forall_mem_cons.mpr ⟨Nat.ne_of_gt hIlt, hl1⟩
    by_cases hin : i < n
    · refine W.item i _ _ _ hin hSt fun v h' tk' hP hst' hkp => ?_
      have hkp' : ∀ b o, b ≠ I → h.get? b = some o → h'.get? b = some o := fun b o hb' e' => hkp b o (fun hm => hb' (hwr b hm)) e'
      obtain ⟨o, ho⟩ := hat _ _ hst'
      have F' := Fr.but F hkp' hCI hbI
      have N' := News.but N hkp' hDI
      refine wpAny_assign_Name (wpAny_storeName_local hxC F'.ns (fun h₂ hn₂ hs₂ => ?_) (by simp [compEnvC, relabel, hkind]))
      have hs₂' : Heap.SameBut H2.objs.size h' h₂ := hs₂
      have F₂ : Fr hb H2.objs.size h₂ (mp [(x, some v)]) := Fr.cong (F'.set hn₂ hs₂') fun y => by by_cases hy : y = x <;> simp [mp, hy]
      have N₂ : News hb H2.objs.size h₂ ((I, o) :: (s₂.heap.objs.size, listOf ys.toArray e) :: l) := News.set (List.forall_mem_cons.mpr ⟨⟨ho, Ne.symm hCI, hbI⟩, N'⟩) hs₂'
      have back : ∀ {ys' l' h3 e'}, Fr hb H2.objs.size h3 (mp [(x, some v)]) → h3.get? I = some o → News hb H2.objs.size h3 ((s₂.heap.objs.size, listOf ys'.toArray e') :: l') → (∀ p ∈ l', p.1 ≠ I) → (∀ p ∈ l', p.1 ≠ s₂.heap.objs.size) → J (i + 1) ys' l' → ∀ tk3,
          ∃ m, m < k ∧ CompI s₂ hb H2.objs.size s₂.heap.objs.size I x n St J m { s₂ with heap := h3, toks := tk3 } := by
        intro ys' l' h3 e' F3 hI3 N3 a1 a2 hJ3 tk3
        refine ⟨n - (i + 1), by omega, i + 1, ys', l', h3, tk3, _, e', hin, rfl, rfl, F3, N3, a1, a2, W.frame _ _ _ hst' fun b hbf ob eb => ?_, hJ3⟩
        rcases hfp b hbf with rfl | ⟨o', ho'⟩
        · rw [ho] at eb; cases eb; exact hI3
        · have e1 := F'.keep _ _ ho'
          rw [e1] at eb; cases eb
          exact F3.keep _ _ ho'
      refine wpAny_mono (turn i v ys l h₂ _ H2.objs.size s₂.heap.objs.size o e hin hP hJ hIlt hDC F₂ N₂ hl1 hl2) (fun ok s₃ h₃ => ?_) fun _ _ f => f.elim
      cases ok with
      | false =>
        simp only [Bool.false_eq_true, if_false] at h₃ ⊢
        obtain ⟨h3, tk3, l3, rfl, F3, N3, a3, hJ3⟩ := h₃
        exact back F3 (N3 _ (.head _)).1 (fun p hp => N3 p (.tail _ hp)) (fun p hp => (a3 p hp).1) (fun p hp => (a3 p hp).2) hJ3 tk3
      | true =>
        simp only [if_true] at h₃ ⊢
        refine wpAny_mono h₃ (fun y s₄ h₄ => ?_) fun _ _ f => f.elim
        obtain ⟨h3, tk3, l3, rfl, F3, N3, a3, hJ3⟩ := h₄
        have hD := N3 _ (.tail _ (.head _))
        have hyl := jlen _ _ _ hJ
        refine append_at (its := ys.toArray) (n := e) (D := s₂.heap.objs.size) (hsz := by rw [List.size_toArray]; have := sizeLine_eq; omega) hD.1 fun h4 hs4 ho4 => ?_
        have F4 := F3.change hs4 hD.2.1 hD.2.2
        have hI4 : h4.get? I = some o := hs4.extBut _ _ (Nat.ne_of_lt hIlt) (N3 _ (.head _)).1
        refine back (ys' := ys ++ [y]) (l' := l3) (e' := e + 1) F4 hI4 (fun p hp => ?_) (fun p hp => (a3 p hp).1) (fun p hp => (a3 p hp).2) hJ3 tk3
        rcases List.mem_cons.mp hp with rfl | hp
        · exact ⟨by simpa using ho4, hD.2⟩
        · have z := N3 p (.tail _ (.tail _ hp))
          exact ⟨hs4.extBut _ _ (a3 p hp).2 z.1, z.2⟩
    · obtain rfl : i = n := by omega
      refine W.done _ _ _ hSt fun h' tk' hkp => ?_
      have hkp' : ∀ b o, b ≠ I → h.get? b = some o → h'.get? b = some o := fun b o hb' e' => hkp b o (fun hm => hb' (hwr b hm)) e'
      have F' := Fr.but F hkp' hCI hbI
      have N' := News.but N hkp' hDI
      exact hRR _ _ h' tk' _ ys l e hJ hIlt hDC F'.ns (N' _ (.head _)).1 (fun p hp => have z := N' p (.tail _ hp); ⟨z.1, z.2.1, z.2.2, hl1 p hp, hl2 p hp⟩) F'.keep (Nat.le_refl _)
  exact codeAny_compStart_list (loop _) (W.self 0 _ _ _ hst₁ (loop _))
end

section
variable {prog : Program} {w : World} {A : Around} {E : Value → Shared → Prop} {env : Env}
theorem evalComp {s : Shared} {elt iter : PySem.Expr} {x : Str} {px : Pos} {ifs : List PySem.Expr} {scope : Scope} {cl : List (Str × Addr)} {pos : Pos} {Q : Value → Shared → Prop}
    (hclos : closureFor scope env = pure cl) (hkind : scope.kind = .function) (hnames : ∀ x ∈ scope.names, x.2 = .local → scope.names.lookup x.1 = some .local) (hs : ∀ x, foldedSetIterable iter env x = pure x)
    (h : wpAny (model prog w) A (eval iter env) (fun x₁ s₁ => wpAny (model prog w) A (pyIter x₁) (fun it s₂ => wpAny (model prog w) A (newList []) (fun acc s₃ =>
      wpAny (model prog w) A (newFunctionEnv scope env.globals cl [] env.qual none .none (some env)) (fun cenv s₄ =>
        codeAny (model prog w) A (.compStart (.ListComp elt [⟨.Name x px, iter, ifs, 0⟩] scope pos) 0 it acc { cenv with scope := relabel scope env }) (compPost (model prog w) A E none Q acc cenv.locals) s₄) E s₃) E s₂) E s₁) E s) :
    wpAny (model prog w) A (eval (.ListComp elt [⟨.Name x px, iter, ifs, 0⟩] scope pos) env) Q E s := by
  rw [eval_ListComp]
  exact wpAny_comprehension_free (use := none) rfl hs hclos hkind hnames h

theorem compV {elt iter : PySem.Expr} {x : Str} {px : Pos} {ifs : List PySem.Expr} {scope : Scope} {cl : List (Str × Addr)} {pos : Pos} {s : Shared} {h2 : Heap} {tk2 : Nat} {I : Addr} {fp wr : List Addr} {n : Nat} {P : Nat → Value → Prop}
    {St : Nat → Heap → Prop} {h₀ hb : Heap} {L : Addr} {m : Str → Option Value} {news : List (Addr × Obj)} {Q : Value → Shared → Prop} (F : Fr h₀ L hb m) (N : News h₀ L hb news)
    (W : Walks prog w A I fp wr n P St) (hn : n < 1000) (hwr : ∀ b ∈ wr, b = I) (hfp : ∀ b ∈ fp, b = I ∨ ∃ o, hb.get? b = some o)
    (hk : ∀ b o, hb.get? b = some o → h2.get? b = some o) (hbs : hb.objs.size ≤ I) (hat : ∀ i h, St i h → ∃ o, h.get? I = some o)
    (J : Nat → List Value → List (Addr × Obj) → Prop) (j0 : J 0 [] []) (jlen : ∀ i ys l, J i ys l → ys.length ≤ i)
    (hcell : ∀ y ∈ scope.names, y.2 ≠ .cell) (hkind : scope.kind = .function) (hx : scope.names.lookup x = some .local) (hst : St 0 h2)
    (turn : ∀ i v ys l h tk C D o e, i < n → P i v → J i ys l → @LT.lt Nat _ I D → @LT.lt Nat _ D C → Fr hb C h (mp [(x, some v)]) → News hb C h ((I, o) :: (D, listOf ys.toArray e) :: l) → (∀ p ∈ l, p.1 ≠ I) → (∀ p ∈ l, p.1 ≠ D) →
      wpAny (model prog w) A (forIn ifs true fun c r => if r = true then do let ok ← isTrue c (compEnvC scope cl C env) (eval c (compEnvC scope cl C env)); pure (ForInStep.yield ok) else pure (ForInStep.yield r))
        (fun ok s₃ => if ok = true then wpAny (model prog w) A (eval elt (compEnvC scope cl C env)) (fun y s₄ => Halt (TurnOut hb C I D o ys e s x v (J (i + 1) (ys ++ [y])) s₄)) (fun _ _ => False) s₃
          else Halt (TurnOut hb C I D o ys e s x v (J (i + 1) ys) s₃)) (fun _ _ => False) { s with heap := h, toks := tk })
    (hQ : ∀ D h' tk ys l e, J n ys l → Fr h₀ L h' m → News h₀ L h' ((D, listOf ys.toArray e) :: (l ++ news)) → (∀ p ∈ news, @LT.lt Nat _ p.1 D) → (∀ p ∈ l, p.1 ≠ D) → (∀ p ∈ l, hb.get? p.1 = none) → (∀ b o, hb.get? b = some o → h'.get? b = some o) → hb.objs.size ≤ D → Q (.ref D) { s with heap := h', toks := tk }) :
    wpAny (model prog w) A (newList []) (fun acc s₃ => wpAny (model prog w) A (newFunctionEnv scope env.globals cl [] env.qual none .none (some env)) (fun cenv s₄ =>
      codeAny (model prog w) A (.compStart (.ListComp elt [⟨.Name x px, iter, ifs, 0⟩] scope pos) 0 (.ref I) acc { cenv with scope := relabel scope env }) (compPost (model prog w) A E none Q acc cenv.locals) s₄) E s₃) E { s with heap := h2, toks := tk2 } := by
  have hbI : hb.get? I = none := by
    cases q : hb.get? I with
    | none => rfl
    | some o => exact absurd (Heap.lt_size q) (Nat.not_lt.mpr hbs)
  refine compFN (s₂ := { s with heap := h2, toks := tk2 }) (RR := fun acc C => compPost (model prog w) A E none Q acc C) W hn hwr hb hfp hk hbI hbs hat J j0 jlen hcell hkind hx hst
    (fun i v ys l h tk C D o e a1 a2 a3 a4 a5 a6 a7 a8 a9 => ?_) fun D C h' tk m' ys l e hJ hID hDC hns hD hl hkb hsz => ⟨m', hns, fun h'' hs'' => ?_⟩
  · exact turn i v ys l h tk C D o e a1 a2 a3 a4 a5 a6 a7 a8 a9
  · have hbD : hb.objs.size ≤ D := Nat.le_trans hbs (Nat.le_of_lt hID)
    have hkeep : ∀ b o, hb.get? b = some o → h''.get? b = some o := fun b o e => hs''.extBut b o (Nat.ne_of_lt (Nat.lt_of_lt_of_le (Heap.lt_size e) (Nat.le_trans hbD (Nat.le_of_lt hDC)))) (hkb b o e)
    have hsome : ∀ b o, hb.get? b = some o → b ≠ D := fun b o e => Nat.ne_of_lt (Nat.lt_of_lt_of_le (Heap.lt_size e) hbD)
    have h₀none : ∀ b, hb.get? b = none → h₀.get? b = none := fun b e => by
      cases q : h₀.get? b with
      | none => rfl
      | some o => rw [F.keep b o q] at e; cases e
    obtain ⟨oL, es, ep, hL, hr⟩ := id F.ns
    have hDn : hb.get? D = none := by
      cases q : hb.get? D with
      | none => rfl
      | some o => exact absurd (Heap.lt_size q) (Nat.not_lt.mpr hbD)
    refine hQ D h'' tk ys l e hJ ⟨⟨oL, es, ep, hkeep _ _ hL, hr⟩, fun b o q => hkeep b o (F.keep b o q), F.above⟩ (fun p hp => ?_) (fun p hp => Nat.lt_of_lt_of_le (Heap.lt_size (N p hp).1) hbD) (fun p hp => (hl p hp).2.2.2.2) (fun p hp => (hl p hp).2.2.1) hkeep hbD
    rcases List.mem_cons.mp hp with rfl | hp
    · exact ⟨hs''.extBut _ _ (Nat.ne_of_lt hDC) hD, Ne.symm (hsome _ _ hL), h₀none _ hDn⟩
    · rcases List.mem_append.mp hp with hp | hp
      · have z := hl p hp
        exact ⟨hs''.extBut _ _ z.2.1 z.1, (fun q => by rw [q, hL] at z; cases z.2.2.1), h₀none _ z.2.2.1⟩
      · exact ⟨hkeep _ _ (N p hp).1, (N p hp).2⟩
end

section
variable {M : Model} {A : Around} {E : Value → Shared → Prop} {s : Shared} {K : Frag} {h₀ : Heap} {L c : Addr} {m mg mb : Str → Option Value} {env : Env} {p : Program} {loose : List Str} {mean : ExcName → Option Value} {x : Str} {pos : Pos} {v : Value} {o : Obj} {Q : Value → Shared → Prop}
theorem nmL (F : Fr h₀ L s.heap m) (hL : env.locals = L) (hk : env.scope.kind = .function) (hx : env.kindOf x = some .local) (hv : m x = some v) (h : Q v s) (hd : (x == ("__debug__" : Str)) = false := by decide) :
    wpAny M A (eval (.Name x pos) env) Q E s := wpAny_Name (wpAny_loadName_local hk hx (hL ▸ F.ns) hv h) hd
theorem nmC (F : Fr h₀ L s.heap m) (hk : env.scope.kind = .function) (hx : env.kindOf x = some .cell) (hc : env.cells.lookup x = some c) (ho : h₀.get? c = some o) (hv : o.data = .cell (some v)) (h : Q v s) (hd : (x == ("__debug__" : Str)) = false := by decide) :
    wpAny M A (eval (.Name x pos) env) Q E s := wpAny_Name (wpAny_loadName_cell hk hx hc ⟨o, F.keep _ _ ho, hv⟩ h) hd
theorem nmK (F : Fr h₀ L s.heap m) (X : K.In h₀) (T : Top p loose mean mg mb h₀) (hg : env.globals = mainGlobals) (e : nsIn K mainGlobals x = some (some v)) (hk : env.scope.kind = .function) (hx : env.kindOf x = some .globalImplicit) (h : Q v s) (hd : (x == ("__debug__" : Str)) = false := by decide) :
    wpAny M A (eval (.Name x pos) env) Q E s := Name_function_global hk hx (loadGlobal_global (env := env) (hg ▸ T.g.keeps F.keep) (mg_of X T.g e) h) hd
theorem nmB (F : Fr h₀ L s.heap m) (X : K.In h₀) (T : Top p loose mean mg mb h₀) (hg : env.globals = mainGlobals) (hb : env.builtins = builtinsNs) (e : nsIn K mainGlobals x = some none) (hv : bootBuiltins x = some v) (hn : x ≠ "__name__") (hk : env.scope.kind = .function) (hx : env.kindOf x = some .globalImplicit) (h : Q v s) (hd : (x == ("__debug__" : Str)) = false := by decide) :
    wpAny M A (eval (.Name x pos) env) Q E s := Name_function_global hk hx (loadGlobal_builtin (env := env) (hg ▸ T.g.keeps F.keep) (mg_none_of X T.g e) (hb ▸ T.b.keeps F.keep) ((T.builtins x hn).trans hv) h) hd
end

theorem Fr.pad {h₀ h : Heap} {L : Addr} {l : List (Str × Option Value)} (F : Fr h₀ L h (mp l)) (pad : List Str) : Fr h₀ L h (mp (l ++ pad.map fun x => (x, none))) := Fr.cong F fun y => (mp_pad y pad l).symm

theorem enterC {K : Frag} {prog : Program} {w : World} {A : Around} {s : Shared} {R : Result → Shared → Prop} {name qual : Str} {params : Arguments} {body : List Stmt} {scope : Scope} {dV kV doc pm cdv ct oc : Value} {an od : Option Addr} {osl : Array (Option Value)} {f : Addr} {args : Args} (binds : List (Str × Value))
    (X : K.In s.heap) (hl : s.heap.NoLimit)
    (ho : K.lookup f = some ⟨oc, od, .func (fnX name qual params body scope [] dV kV doc pm an cdv ct), osl⟩) (hcd : codeIn K cdv qual = true) (hroom : A.depth < recursionLimit)
    (hbind : BindsTo s (fnX name qual params body scope [] dV kV doc pm an cdv ct) args binds)
    (hkind : (binds.all fun y => scope.names.lookup y.1 == some .local || scope.names.lookup y.1 == some .cell) = true)
    (hnd : ((cellsFrom 0 scope.names []).map (·.1)).Nodup)
    (h : ∀ L h₁ tk cells, Fr s.heap L h₁ (bindL (envOfC qual scope L f cdv).kindOf binds fun _ => none) → News s.heap L h₁ cells →
      CellsAre (bindC (envOfC qual scope L f cdv).kindOf binds fun _ => none) (cellsFrom (L + 1) scope.names []) cells →
      wpAny (model prog w) (A.deeper (envOfC qual scope L f cdv)) (execs body (envOfC qual scope L f cdv))
        (fun fl s' => R (.ok (.ret (match fl with | .ret v => v | _ => .none))) s') (fun _ _ => False)
        { s with heap := h₁, toks := tk })
    (hco : scope.isCoroutine = false) (hgen : scope.isGenerator = false) (hk : scope.kind = .function) : codeAny (model prog w) A (.call (.ref f) args) R s := by
  refine codeAny_call_function hroom (X _ _ ho) rfl hco hgen rfl (codeRec_of X hcd) (hbind _ _ _ _ ?_)
  refine wpAny_newFunctionEnv_cells hk (kindsX hkind _) fun env' he s' x => ?_
  subst he
  refine ⟨hl.keeps x.toInCall.keep, codeAny_func ?_⟩
  obtain ⟨h₁, tk, rfl, _⟩ := x.done
  have hk₁ := x.toInCall.keep
  obtain ⟨cells, NC, Y⟩ := Cl.news (h₀ := s.heap) (Nat.le_refl _) fun n c hm => ⟨x.cell n c (lookup_of_mem_nodup (cellsFrom_names scope.names 0 (s.heap.objs.size + 1) [] [] rfl ▸ hnd) hm), x.above n c hm⟩
  exact wpAny_mono (h s.heap.objs.size h₁ tk cells ⟨x.toInCall.ns, hk₁, Nat.le_refl _⟩ NC Y) (fun _ _ x => x) fun _ _ x => x.elim
end
-- B3
section

/-- the built-ins that may hold a bytearray's buffer -/
noncomputable def holders : List String := ["bytearray.__contains__", "bytearray.__mod__", "bytearray.__rmod__", "_struct.pack_into.held", "bytearray.find.held"] ++ Builtin.Bytes.decodersThatHold
/-- no built-in that holds a buffer -/
noncomputable def nodec : Code → Bool
  | .builtin id _ => !holders.contains id
  | _ => true
noncomputable def Clean (Γ : PySem.Ctx) : Prop := nodec Γ.code = true ∧ ∀ q ∈ Γ.below, nodec q.1 = true
theorem Clean.enter {Γ : PySem.Ctx} (h : Clean Γ) {c : Code} {hd : Option Value} {p : Pos} (hc : nodec c = true) : Clean (Γ.enter c hd p) :=
  ⟨hc, fun q hq => by
    rcases List.mem_cons.mp hq with rfl | hq
    · exact h.1
    · exact h.2 q hq⟩
theorem Clean.goto {Γ : PySem.Ctx} (h : Clean Γ) {c : Code} (hc : nodec c = true) : Clean (Γ.goto c) := ⟨hc, h.2⟩

noncomputable def wpC {α : Type} (M : Model) (A : Around) (t : Sem α) (Q : α → Shared → Prop) (E : Value → Shared → Prop) (s : Shared) : Prop :=
  ∀ Γ p, Γ.In A → Clean Γ → Sem.wp M Γ t (fun a _ s' => Q a s') (fun e _ s' => E e s') p s
noncomputable def codeC (M : Model) (A : Around) (c : Code) (R : Result → Shared → Prop) (s : Shared) : Prop :=
  ∀ Γ p, Γ.code = c → Γ.Below A → Clean Γ → wpCode M Γ R p s

section
variable {α β : Type} {M : Model} {A : Around} {E : Value → Shared → Prop} {s : Shared}
theorem wpC_of_any {t : Sem α} {Q : α → Shared → Prop} (h : wpAny M A t Q E s) : wpC M A t Q E s := fun Γ p hΓ _ => h Γ p hΓ
theorem codeC_of_any {c : Code} {R : Result → Shared → Prop} (h : codeAny M A c R s) : codeC M A c R s := fun Γ p hc hΓ _ => h Γ p hc hΓ
theorem wpC_mono {t : Sem α} {Q Q' : α → Shared → Prop} {E' : Value → Shared → Prop} (h : wpC M A t Q E s) (hQ : ∀ a s, Q a s → Q' a s) (hE : ∀ e s, E e s → E' e s) : wpC M A t Q' E' s :=
  fun Γ p hΓ hc => Sem.wp_mono M Γ t (fun a _ s => hQ a s) (fun e _ s => hE e s) p s (h Γ p hΓ hc)
theorem codeC_mono {c : Code} {R R' : Result → Shared → Prop} (h : codeC M A c R s) (hR : ∀ r s, R r s → R' r s) : codeC M A c R' s := fun Γ p hc hΓ hcl => wpCode_mono hR (h Γ p hc hΓ hcl)
theorem wpC_bind {m : Sem α} {f : α → Sem β} {Q : β → Shared → Prop} (h : wpC M A m (fun a s' => wpC M A (f a) Q E s') E s) : wpC M A (m >>= f) Q E s := fun Γ p hΓ hc => by
  rw [Sem.wp_bind']
  exact Sem.wp_mono M Γ m (fun a p' s' h' => h' Γ p' hΓ hc) (fun _ _ _ h' => h') p s (h Γ p hΓ hc)
theorem wpC_holding {vs : List Value} {m : Sem α} {Q : α → Shared → Prop} (h : wpC M A m Q E s) : wpC M A (holding vs m) Q E s := fun Γ p hΓ hc => by
  rw [Sem.wp_holding]; exact h Γ p hΓ hc
theorem wpC_onRaise {m : Sem α} {k : Value → Sem Unit} {Q : α → Shared → Prop} (h : wpC M A m Q (fun _ _ => False) s) : wpC M A (m.onRaise k) Q E s := fun Γ p hΓ hc => by
  rw [Sem.wp_onRaise]
  exact Sem.wp_mono M Γ m (fun a p' s' h' => h') (fun _ _ _ h' => h'.elim) p s (h Γ p hΓ hc)
theorem wpC_standAt {pos : Pos} {Q : Unit → Shared → Prop} (h : Q () s) : wpC M A (standAt pos) Q E s := wpC_of_any (wpAny_standAt h)
theorem wpC_pure {a : α} {Q : α → Shared → Prop} (h : Q a s) : wpC M A (pure a) Q E s := wpC_of_any (wpAny_pure h)
theorem wpC_of_eq {t t' : Sem α} {Q : α → Shared → Prop} (e : t = t') (h : wpC M A t' Q E s) : wpC M A t Q E s := e ▸ h
theorem wpC_run {c : Code} {h : Option Value} {Q : Flow → Shared → Prop} (hn : nodec c = true)
    (hc : codeC M (A.mark h) c (fun r s' => match r with | .ok f => Q f s' | .error e => E e s') s) (hnb : h ≠ some byPass := by intro x; cases x) :
    wpC M A (run c h) Q E s :=
  fun Γ p hΓ hcl => by rw [Sem.wp_run]; exact hc _ p rfl (hΓ.enter c h p hnb) (hcl.enter hn)
theorem wpC_runValue {c : Code} {Q : Value → Shared → Prop} (hn : nodec c = true)
    (hc : codeC M A c (fun r s' => match r with | .ok (.ret v) => Q v s' | .ok _ => False | .error e => E e s') s) :
    wpC M A (runValue c) Q E s := fun Γ p hΓ hcl => by rw [Sem.wp_runValue]; exact hc _ p rfl (hΓ.enter c none p (by intro x; cases x)) (hcl.enter hn)
theorem wpC_call {f : Value} {pos : List Value} {kw : List (Str × Value)} {Q : Value → Shared → Prop}
    (hc : codeC M A (.call f ⟨pos, kw⟩) (fun r s' => match r with | .ok (.ret v) => Q v s' | .ok _ => False | .error e => E e s') s) :
    wpC M A (call f pos kw) Q E s := wpC_runValue rfl hc
theorem codeC_of_tree {c : Code} {R : Result → Shared → Prop}
    (h : wpC M (A.under c) (M.den c) (fun fin s' => match fin with | .done f => R (.ok f) s' | .again c' => c'.quiet = true ∧ nodec c' = true ∧ codeC M A c' R s')
      (fun e s' => R (.error e) s') s) : codeC M A c R s := fun Γ p hc hΓ hcl => by
  rw [wpCode_iff_wp, hc]
  refine Sem.wp_mono M Γ _ (fun fin p' s' h' => ?_) (fun _ _ _ h' => h') p s (h Γ p (hc ▸ hΓ.in) hcl)
  cases fin with
  | done f => exact h'
  | again c' => exact ⟨h'.1, h'.2.2 (Γ.goto c') p' rfl (hΓ.goto c') (hcl.goto h'.2.1)⟩
end

theorem caller_clean : Clean (⟨.builtin "claim.caller" {}, none, none, [], none⟩ : PySem.Ctx) := ⟨by decide +kernel, fun q hq => (nomatch hq)⟩
theorem wp_of_wpC {M : Model} {t : Sem Fin} {R : Result → Shared → Prop} {s : Shared}
    (h : wpC M callerA t (fun fin s' => ∃ f, fin = .done f ∧ R (.ok f) s') (fun e s' => R (.error e) s') s) (p : PySem.Pos) :
    Sem.wp M ⟨.builtin "claim.caller" {}, none, none, [], none⟩ t (Sem.finPost M ⟨.builtin "claim.caller" {}, none, none, [], none⟩ R) (fun e _ s' => R (.error e) s') p s := by
  refine Sem.wp_mono M _ t (fun fin p' s' h' => ?_) (fun _ _ _ h' => h') p s (h _ p caller_in caller_clean)
  obtain ⟨f, rfl, hf⟩ := h'
  exact hf

theorem ex22 {α β : Type _} {P R : α → β → Prop} {G : Prop} (k : ∀ a b, P a b → R a b → G) (h : ∃ a b, P a b ∧ R a b) : G := let ⟨a, b, x, y⟩ := h; k a b x y
theorem in2 {α β : Type _} {P : α → β → Prop} (a : α) (b : β) (h : P a b) : ∃ a b, P a b := ⟨a, b, h⟩
theorem in3 {α β γ : Type _} {P : α → β → γ → Prop} (a : α) (b : β) (c : γ) (h : P a b c) : ∃ a b c, P a b c := ⟨a, b, c, h⟩
theorem halts_to {M : Model} {t : Sem Fin} {c : Code} {R : Result → Shared → Prop} {p : PySem.Pos} {s : Shared} {G : Prop} (hreg : s.asleep)
    (k : ∀ n r s' s'', schedN M.den M.prog M.w n (.single s ⟨t, c, p, []⟩) = .halted (outcomeOf r) s'' → PySem.runN M.den M.prog M.w n s ⟨t, c, p, []⟩ = .halted (outcomeOf r) s'' → s''.forget = s'.forget → R r s' → G)
    (h : Sem.wp M ⟨c, none, none, [], none⟩ t (Sem.finPost M ⟨c, none, none, [], none⟩ fun r s' => R r s' ∧ leftWithCleanup s'.gens = false)
      (fun e _ s' => R (.error e) s' ∧ leftWithCleanup s'.gens = false) p s) : G :=
  have ⟨n, r, s', s'', a, b, c, d⟩ := wp_halts_full hreg h
  k n r s' s'' a b c d
theorem forget_heap {s s' : Shared} (h : s.forget = s'.forget) : s.heap = s'.heap := (Shared.forget_eq h).1
theorem forget_os {s s' : Shared} (h : s.forget = s'.forget) : s.os = s'.os := (Shared.forget_eq h).2.2.2.1
theorem callFromC {c : ClaimW} {tree : List Value → Sem Fin} {w : World} {s : Shared} {free : Addr → Prop} {gens : Prop} {kept : Heap → Prop} (hz : s.asleep) (hgens : s.gens = #[])
    (hspec : ∀ args, c.pre args = true → WData.layableAll args = true →
      ∀ ord : List DictEntry → List DictEntry, (∀ l, (ord l).Perm l) →
      ∃ vs s₁, layAllW c.records (classAt s.heap) w.params ord args s = some (vs, s₁) ∧
        wpC (model c.prog w) callerA (tree vs) (fun fin s' => ∃ f, fin = .done f ∧ (c.Ends s args vs s₁ (.ok f) s' ∧ s'.os = s.os ∧ AllBare s'.gens ∧ kept s'.heap))
          (fun e s' => c.Ends s args vs s₁ (.error e) s' ∧ s'.os = s.os ∧ AllBare s'.gens ∧ kept s'.heap) s₁) :
    c.CallFrom (fun vs => ⟨tree vs, .builtin "claim.caller" {}, default, []⟩) w free gens kept s := by
  intro args hpre hlay ord hord
  refine ex22 (fun vs s₁ hlaid hcode => in2 vs s₁ ⟨hlaid, ?_⟩) (hspec args hpre hlay ord hord)
  have hal := (layAllW_rest _ _ _ hlaid).2.2.2
  refine halts_to (R := fun r s' => c.Ends s args vs s₁ r s' ∧ s'.os = s.os ∧ kept s'.heap) (Shared.asleep_of_life hal hz) (fun k r s₂ s' hsched hrun hfo hcase => in3 k _ s' ⟨hsched, ?_, fun _ i x hx => absurd (hgens ▸ hx) (by simp), forget_heap hfo ▸ hcase.2.2, congrArg Life.seen ((runN_life _ _ _ hrun).trans hal), Shared.rest_eq ((forget_os hfo).trans hcase.2.1)⟩)
    (wp_of_wpC (wpC_mono hcode (fun fin s' ⟨f, e, h⟩ => ⟨f, e, ⟨h.1, h.2.1, h.2.2.2⟩, leftWithCleanup_false_of_bare h.2.2.1⟩) fun e s' h => ⟨⟨h.1, h.2.1, h.2.2.2⟩, leftWithCleanup_false_of_bare h.2.2.1⟩) default)
  exact Or.imp (Exists.imp fun v => And.imp (congrArg outcomeOf) (And.imp_right (And.imp_right (And.imp_right (And.imp_left fun k b o y _ => k b o y)))))
    (Exists.imp fun e => Exists.imp fun ob => Exists.imp fun cls => And.imp (congrArg outcomeOf) (And.imp_right (And.imp_right (And.imp_right (And.imp_right fun k b o y _ => k b o y))))) (hcase.1.congr (forget_heap hfo))
end
-- Head1
section
set_option maxHeartbeats 8000000

theorem open_anyC {r : RowW} {run : Value → List Value → Sem Value} {tree : List Value → Sem Fin} {q : Program} {loose defs kps : List Str} {writes : Bool} {Xt : Shared → Bool} {XP : (Str → Option Value) → Heap → Prop} {α : Type} {Yf : Shared → α} {Ya : World → α} {YP : World → Heap → Prop} {N : Nat}
    (left : LeftO r.prog q loose Xt Yf Ya N) (hY : ∀ w s, Yf s = Ya w → YP w s.heap) (hYk : ∀ w h h', YP w h → (∀ b o, h.get? b = some o → h'.get? b = some o) → YP w h') (hX : ∀ s, Xt s = true → XP (s.heap.nsMap mainGlobals) s.heap) (hXk : ∀ mg h h', XP mg h → (∀ b o, h.get? b = some o → h'.get? b = some o) → XP mg h')
    (hRf : ∀ s, Xt s = true → RecFacts r.records s.heap) (hwr : (!writes || r.records.isEmpty) = true) (ok : (chainsOk q && opensWell r.prog && (frees r && r.within.isEmpty)) = true) (hb : r.prog.bare) (hw : r.promised)
    (ht : ∀ vs (w : World) (s : Shared) mg f (Q : PySem.Fin → Shared → Prop) (E : Value → Shared → Prop), s.heap.Ns mainGlobals mg → mg r.name = some f → wpC (model r.prog w) callerA (run f vs) (fun v s' => Q (.done (.ret v)) s') E s → wpC (model r.prog w) callerA (tree vs) Q E s)
    (pin : ∀ w s, s.heap.isNs mainGlobals = true → Ground q loose [] XP w s (s.heap.nsMap mainGlobals) (s.heap.nsMap builtinsNs) s.heap → ∀ n ∈ defs, isTheDefsW r.prog s.heap n)
    (call : ∀ (w : World) (s₀ s₁ : Shared) (mg mb : Str → Option Value), Ground q loose r.records XP w s₀ mg mb s₁.heap → YP w s₁.heap → ∀ (args : List WData) (vs : List Value) (as : List Addr),
      r.claim.pre args = true → WData.layableAll args = true → Laid r.records w s₀ s₁ args vs as → sysModules < s₀.heap.objs.size → ∃ f, mg r.name = some f ∧
        wpC (model r.prog w) callerA (run f vs) (fun v s' => GoodWG r.claim (classAt s₀.heap) (ExcName.means s₀.heap) args s₁ (.ok (.ret v)) s')
          (fun e s' => GoodWG r.claim (classAt s₀.heap) (ExcName.means s₀.heap) args s₁ (.error e) s') s₁) : r.claim.HoldsOpenBy (fun vs => ⟨tree vs, .builtin "claim.caller" {}, default, []⟩) defs kps writes := by
  obtain ⟨ok, k5⟩ := Bool.and_eq_true_iff.mp ok
  obtain ⟨hch, o1⟩ := Bool.and_eq_true_iff.mp ok
  obtain ⟨k5, k6⟩ := Bool.and_eq_true_iff.mp k5
  obtain ⟨hsame, hu, ha, hap, hm⟩ := frees_parts k5
  refine ⟨⟨hb, o1, by show r.makers.map _ = []; rw [hm]; rfl⟩, hw.witness, fun w => ⟨(left.behind hX hch w).1, fun s' hs' => ?_⟩⟩
  obtain ⟨s₀, hf, hg0, s, hT, hz, hgens, hg, G00, y⟩ := (left.behind (XP := fun mg h => XP mg h ∧ RecFacts r.records h) (fun s hs => ⟨hX s hs, hRf s hs⟩) hch w).2 s' hs'
  have G0 : Ground q loose [] XP w s (s.heap.nsMap mainGlobals) (s.heap.nsMap builtinsNs) s.heap := ⟨G00.T, G00.B, G00.D, G00.TE, G00.TD, G00.W, G00.X.1, G00.cls, G00.has, G00.apart, G00.once, G00.K⟩
  have RF := G00.X.2
  refine ⟨s₀, hf, hg0, s, hT, pin w s hg G0, RF.1, RF.2.1, ?_⟩
  have hgens : s.gens = #[] := Array.eq_empty_of_size_eq_zero (beq_iff_eq.mp hgens)
  have G : Ground q loose r.records XP w s _ _ s.heap := RF.ground G0
  refine callFromC (c := r.claim) hz hgens fun args hpre hlay ord hord => ?_
  obtain ⟨⟨vs, s₁⟩, hlaid⟩ := Option.isSome_iff_exists.mp (layAllW_isSome (P := w.params) (ord := ord) G.has args r.args s (pre_splitW hpre).1)
  have keeps := layAllW_keeps _ _ _ hlaid
  have hal := layAllW_rest _ _ _ hlaid
  obtain ⟨as, hrd, hin, hold⟩ := reads_layAllW hord _ _ _ hlaid hlay s₁.heap (fun _ _ e => e)
  have L : Laid r.records w s s₁ args vs as := ⟨⟨ord, hord, hlaid⟩, hrd, hin, hold, keeps, hal.1.trans hgens, hal.2.2.1⟩
  have G₁ := G.keeps hXk keeps
  obtain ⟨f, hf, h⟩ := call w s s₁ _ _ G₁ (hYk _ _ _ (hY w s y) keeps) args vs as hpre hlay L G.low
  have hi := ident_freeW hu ha hap
  have hwi : r.claim.within = [] := List.isEmpty_iff.mp k6
  exact ⟨vs, s₁, hlaid, ht vs w s₁ _ f _ _ G₁.T.g hf (wpC_mono h (fun v s' g => ⟨_, rfl, have z := g.laid (c := r.claim) hsame hwi hi L; ⟨z.1, z.2.1, z.2.2, fun q => ⟨namesKept_of hT hg kps keeps g.2.1.old, noTable hwr q⟩⟩⟩) fun e s' g => have z := g.laid (c := r.claim) hsame hwi hi L; ⟨z.1, z.2.1, z.2.2, fun q => ⟨namesKept_of hT hg kps keeps g.2.1.old, noTable hwr q⟩⟩)⟩

noncomputable abbrev WalkC (q : Program) (loose : List Str) (XP : (Str → Option Value) → Heap → Prop) (YP : World → Heap → Prop) (r : RowW) (d : DefRec) (kwd : List (Str × PySem.Expr)) (run : Value → List Value → Sem Value) : Prop :=
  ∀ (w : World) (s₀ s₁ : Shared) (mg mb : Str → Option Value), Ground q loose r.records XP w s₀ mg mb s₁.heap → YP w s₁.heap → ∀ (a : Addr) (o : Obj) (pm cd doc dV kV : Value), s₁.heap.get? a = some o →
    o.data = .func { docDef d.name d.params d.body d.scope pm cd doc with defaults := dV, kwdefaults := kV } → s₁.heap.CodeRec cd d.name → Dflts mg s₁.heap d.params kwd dV kV → mg d.name = some (.ref a) → s₁.gens = #[] →
    ∀ (args : List WData) (vals : List Value) (as : List Addr), r.claim.pre args = true → WData.layableAll args = true → ReadsAllW r.records (classAt s₀.heap) s₁.heap vals args as → WellAll w.params s₁.heap vals args → (∀ a ∈ as, (a == sysModules) = false) →
      wpC (model r.prog w) callerA (run (.ref a) vals) (fun v s' => GoodWG r.claim (classAt s₀.heap) (ExcName.means s₀.heap) args s₁ (.ok (.ret v)) s')
        (fun e s' => GoodWG r.claim (classAt s₀.heap) (ExcName.means s₀.heap) args s₁ (.error e) s') s₁

theorem PySem.W.holds_open {r : OpenRow} {q : Program} {loose : List Str} {Xt : Shared → Bool} {XP : (Str → Option Value) → Heap → Prop} {α : Type} {Yf : Shared → α} {Ya : World → α} {YP : World → Heap → Prop} {d : DefRec} {kwd : List (Str × PySem.Expr)} {N : Nat}
    (left : LeftO r.prog q loose Xt Yf Ya N) (hY : ∀ w s, Yf s = Ya w → YP w s.heap) (hYk : ∀ w h h', YP w h → (∀ b o, h.get? b = some o → h'.get? b = some o) → YP w h')
    (hX : ∀ s, Xt s = true → XP (s.heap.nsMap mainGlobals) s.heap) (hXk : ∀ mg h h', XP mg h → (∀ b o, h.get? b = some o → h'.get? b = some o) → XP mg h')
    (hdef : defOf q r.name = some (d, kwd)) (hp : r.prog.theDef r.name = some (d.params, d.body, d.scope)) (hk : kwWritten? d.params.kwonlyargs d.params.kw_defaults = some kwd) (hRf : ∀ s, Xt s = true → RecFacts r.records s.heap) (hwr : (!r.writes || r.records.isEmpty) = true)
    (k1 : r.wellSaid = true) (ok : (chainsOk q && opensWell r.prog && (frees r.toRowW && r.within.isEmpty)) = true) (hb : r.prog.bare) (hw : r.toRowW.promised)
    (call : WalkC q loose XP YP r.toRowW d kwd fun f vs => _root_.PySem.call f vs) : r.Holds := by
  refine ⟨k1, hw, open_anyC (r := r.toRowW) (run := fun f vs => _root_.PySem.call f vs) (tree := fun vs => do match ← nsGet mainNs r.name with
      | some f => do ret (← _root_.PySem.call f vs)
      | none => unsupported "claim.caller:no-such-global") left hY hYk hX hXk hRf hwr ok hb hw
    (fun vs w s mg f Q E hg hf h => wpC_bind (wpC_of_any (wpAny_nsGet hg (by rw [hf]; exact wpC_bind (wpC_mono h (fun _ _ x => wpC_pure x) fun _ _ x => x)))))
    (fun w s hg G n hn => ?_) fun w s₀ s₁ mg mb G Y args vs as hpre hlay L low => ?_⟩
  · obtain rfl : n = r.name := by split at hn <;> simp_all
    exact pinned_of_view hg G hdef hp hk
  · obtain ⟨a, o, pm, cd, doc, dV, kV, h1, h2, h3, h4, h5⟩ := G.fn hdef
    exact ⟨.ref a, h1, call w s₀ s₁ mg mb G Y a o pm cd doc dV kV h2 h3 h4 h5 (defOf_name hdef ▸ h1) L.gens args vs as hpre hlay L.reads L.well (L.low low)⟩
end
-- Top1
section
set_option maxHeartbeats 8000000
noncomputable abbrev prog9 : Program := _root_.PySem.Challenge.rw_pe0169_01.row.prog
noncomputable abbrev view9 : Program := view prog9 [14]
noncomputable abbrev loose9 : List Str := ["_wall", "NL", "EMPTYSTRING", "_ValueFormatter", "_Accumulator", "_byteswap", "_law_mirrored", "_law_written", "_law_room", "_law_told", "_law_endless"]
noncomputable abbrev xt9 (s : Shared) : Bool := xlAt view9 [] s && recOk (RowW.records _root_.PySem.Challenge.rw_pe0169_01.row.toRowW) s
theorem head9 {d : DefRec} {kwd : List (Str × PySem.Expr)} (H : Hook) (left : LeftO prog9 view9 loose9 xt9 (Hook.obs H) (Hook.val H) 2694) (k1 : _root_.PySem.Challenge.rw_pe0169_01.row.wellSaid = true) (hdef : defOf view9 _root_.PySem.Challenge.rw_pe0169_01.row.name = some (d, kwd))
    (hp : prog9.theDef _root_.PySem.Challenge.rw_pe0169_01.row.name = some (d.params, d.body, d.scope)) (hk : kwWritten? d.params.kwonlyargs d.params.kw_defaults = some kwd)
    (ok : (chainsOk view9 && opensWell prog9 && (frees _root_.PySem.Challenge.rw_pe0169_01.row.toRowW && _root_.PySem.Challenge.rw_pe0169_01.row.within.isEmpty)) = true) (hb : prog9.bare) (hw : _root_.PySem.Challenge.rw_pe0169_01.row.toRowW.promised)
    (hc : WalkC view9 loose9 (XL view9 []) (Hook.says H) _root_.PySem.Challenge.rw_pe0169_01.row.toRowW d kwd fun f vs => _root_.PySem.call f vs) : _root_.PySem.Challenge.rw_pe0169_01.row.Holds :=
  PySem.W.holds_open (q := view9) (loose := loose9) (Xt := xt9) (XP := XL view9 []) (Yf := Hook.obs H) (Ya := Hook.val H) (YP := Hook.says H) (N := 2694) left (Hook.of H) (Hook.keeps H) (fun s e => xl_of s (Bool.and_eq_true_iff.mp e).1) XL.keeps hdef hp hk (fun s e => recFacts_of (Bool.and_eq_true_iff.mp e).2) rfl k1 ok hb hw hc
local macro_rules | `(tactic| o_law) => `(tactic| refine holds_law (by decide +kernel) fun said => ?_)
local macro_rules | `(tactic| o_head ($_:ident $K $as $e)) => do
  let hw := Lean.mkIdent `hw
  let hc := Lean.mkIdent `hc
  `(tactic| refine head9 (kmHook $K $as $e [140, 147]) (by intro w; kernel_rfl) (by assumption) (by rfl) (by rfl) (by rfl) (by decide +kernel) ⟨rfl, rfl, rfl, rfl, rfl, by decide +kernel⟩ ?$hw ?$hc)
open_top hd for PySem.Challenge.rw_pe0169_01
end
-- Room
section
theorem anew_Room : True := by
  w_top off
  exact True.intro
theorem fit_getD {ws : List Str} (hB : ∀ i, (ws.getD i Str.empty).length ≤ 5) {i : Nat} : ¬ ((ws.getD i Str.empty).length : Int) ≥ 2 ^ 63 := by have := hB i; omega
theorem item_strs {prog : Program} {w : World} {A : Around} {E : Value → Shared → Prop} {s : Shared} {h₀ : Heap} {L : Addr} {m : Str → Option Value} {value slice : PySem.Expr} {l : Addr} {vs : List Value} {ys : List Str} {k : Int} {u : Tok} {Q : Value → Shared → Prop}
    (F : Fr h₀ L s.heap m) (hl : h₀.IsList l vs.toArray) (hS : StrsAre vs ys) (h0 : 0 ≤ k) (h1 : k < ys.length) (hb : ys.length < 100) (h : ∀ t, Q (.str (ys.getD k.toNat Str.empty) t) s)
    (hs : subscripted slice false (.ref l) (.int k u) = operate [.ref l, .int k u] (getItem (.ref l) (.int k u)) := by with_unfolding_all rfl) (hg : ∀ r, letTemporaryGo value (.ref l) r = pure () := by intro _; with_unfolding_all rfl) :
    wpAny (model prog w) A (subscriptTail value slice (.ref l) (.int k u)) Q E s := by
  have hlt : k.toNat < ys.length := by omega
  obtain ⟨t, ht⟩ := hS.at (j := k.toNat) (y := ys.getD k.toNat Str.empty) (by rw [List.getD_eq_getElem?_getD, List.getElem?_eq_getElem hlt]; rfl)
  exact item_list (Fr.lst F hl) h0 (by omega) (by simpa using ht) (h t) hs hg
theorem len_strs {prog : Program} {w : World} {A : Around} {E : Value → Shared → Prop} {s : Shared} {h₀ : Heap} {L : Addr} {m : Str → Option Value} {l : Addr} {vs : List Value} {ys : List Str} {Q : Value → Shared → Prop}
    (F : Fr h₀ L s.heap m) (hl : h₀.IsList l vs.toArray) (hS : StrsAre vs ys) (hb : ys.length < 100) (h : ∀ t, Q (.int ys.length t) { s with toks := s.toks + 1 + 1 }) :
    wpAny (model prog w) A (call (.builtin "len") [.ref l]) Q E s := len_strsA (Fr.lst F hl) hS (by omega) (h _)

section
local macro_rules | `(tactic| walk_at "call builtin:len") => `(tactic| (refine len_strs (by assumption) (by assumption) (by assumption) (by assumption) ?_; intro _))
local macro_rules | `(tactic| walk_at "subscriptTail") => `(tactic| (refine item_strs (by assumption) (by assumption) (by assumption) (fmod_lo _ (by omega)) (fmod_hi _ (by omega)) (by assumption) ?_; intro _))
local macro_rules | `(tactic| walk_at "call builtin:len") => `(tactic| (refine PyProof.Rows.len_str (fit_getD (by assumption)) ?_))
local macro_rules | `(tactic| walk_at "exec While") => `(tactic| refine Halt.go ?_)
local macro_rules | `(tactic| walk_at "binaryOp Mult int int") => `(tactic| refine PyProof.Rows.mul_int ?_ (mulok (by omega) (by omega)))

noncomputable def roomGo (l : Nat → Nat) (wd : Int) : Nat → Nat → Int → Nat
  | 0, k, _ => k
  | f + 1, k, t => if t ≤ wd then roomGo l wd f (k + 1) (t + l (k + 1)) else k
noncomputable def wAt (ws : List Str) (i : Int) : Str := ws.getD (i.fmod ws.length).toNat Str.empty
noncomputable def lAt (ws : List Str) (i : Int) : Nat := (wAt ws i).length
noncomputable def roomOf (ws : List Str) (fi wy wd : Int) : Nat := roomGo (fun j => lAt ws (fi + wy * j)) wd 40 1 (lAt ws fi + lAt ws (fi + wy))
theorem roomGo_done {l : Nat → Nat} {wd : Int} {n k : Nat} {t : Int} (h : ¬ t ≤ wd) : roomGo l wd n k t = k := by
  cases n with
  | zero => rfl
  | succ n => simp [roomGo, h]
inductive RoomI (s : Shared) (L wl : Addr) (ws : List Str) (fi wy wd : Int) (t1 t2 t3 : Tok) (n : Nat) (s' : Shared) : Prop
  | mk (k : Nat) (t : Int) (u1 u2 : Tok) (h' : Heap) (tk : Nat) : s' = { s with heap := h', toks := tk } → Fr s.heap L h' (mp [("width", some (.int wd t3)), ("way", some (.int wy t2)), ("first", some (.int fi t1)), ("words", some (.ref wl)), ("most", some (.int k u1)), ("taken", some (.int t u2))]) → 0 ≤ t → (wd + 1 - t).toNat ≤ n → roomGo (fun j => lAt ws (fi + wy * j)) wd n k t = roomOf ws fi wy wd → RoomI s L wl ws fi wy wd t1 t2 t3 n s'
theorem room_spec {w : World} {mean : ExcName → Option Value} {mg mb : Str → Option Value} {p : Program} {loose : List Str} {A : Around} {s : Shared} {E : Value → Shared → Prop}
  (X : Frag.In (hd.heap_1 w.params) s.heap) (T : Top p loose mean mg mb s.heap) (hA : Ok A 10 80) {wl : Addr} {vs : List Value} {ws : List Str} {fi wy wd : Int} {t1 t2 t3 : Tok}
  (hl : s.heap.IsList wl vs.toArray) (hS : StrsAre vs ws) (h3 : 3 ≤ ws.length) (h5 : ws.length < 100) (hB : ∀ i, (ws.getD i Str.empty).length ≤ 5) (hB1 : ∀ i, i < ws.length → 1 ≤ (ws.getD i Str.empty).length) (hwy : -1 ≤ wy ∧ wy ≤ 1) (hwd : wd < 30) :
  wpAny (model PySem.Challenge.rw_pe0169_01.row.prog w) A (call (.ref 208) [.ref wl, .int fi t1, .int wy t2, .int wd t3]) (fun v s' => Halt ((∃ t, v = .int (roomOf ws fi wy wd) t) ∧ Keeps s s')) E s := by
  revert X
  k_fill
  intro X
  refine wpAny_call ?_
  k_dflt (refine' enterX [("words", .ref wl), ("first", .int fi t1), ("way", .int wy t2), ("width", .int wd t3)] ["most", "taken"] ?k1 ?k2 ?k3 ?k4 ?k5 ?k6 ?k7 ?_ ?c1 ?c2 ?c3 ?c4; (case k1 => k_asm); (case k2 => exact T.nolimit); (case k3 => k_is); (case k4 => k_is); (case k5 => exact Nat.lt_of_le_of_lt (Nat.le_add_right _ _) hA.d); (case k6 => exact BindsTo.of_eq rfl); (case k7 => exact locs rfl); (case c1 => decide); (case c2 => exact rfl); (case c3 => exact rfl); (case c4 => exact rfl); k_whole)
  intro L h₁ F
  replace F : Fr s.heap L h₁ (mp [("width", some (.int wd t3)), ("way", some (.int wy t2)), ("first", some (.int fi t1)), ("words", some (.ref wl)), ("most", none), ("taken", none)]) := F
  have N : News s.heap L h₁ [] := News.nil
  have hpos : ∀ i : Int, 1 ≤ lAt ws i := fun i => hB1 _ (by have h1 := fmod_lo i (b := ws.length) (by omega); have h2 := fmod_hi i (b := ws.length) (by omega); omega)
  show wpAny _ _ _ _ _ _
  k_fold
  k_steps
  refine Halt.on (whileH (I := RoomI s L wl ws fi wy wd t1 t2 t3) ?turn 40 ?init)
  case init => 
    rename_i h' F' N'
    simp only [mp_put] at F'
    exact ⟨1, _, _, _, _, _, rfl, F', by omega, by omega, rfl⟩
  case turn =>
    rintro n s' ⟨k, t, u1, u2, h', tk, rfl, F, ht, hn, hr⟩
    k_steps
    · rename_i F1
      have hle : t ≤ wd := by assumption
      have hp := hpos (fi + wy * ((k + 1 : Nat) : Int))
      obtain ⟨n, rfl⟩ : ∃ n', n = n' + 1 := ⟨n - 1, by omega⟩
      simp only [mp_put] at F1
      refine Halt.on ⟨n, Nat.lt_succ_self _, k + 1, _, _, _, _, _, rfl, F1, ?_, ?_, ?_⟩
      · omega
      · have e : (ws.getD ((fi + wy * ((k : Int) + 1)).fmod ws.length).toNat Str.empty).length = lAt ws (fi + wy * ((k + 1 : Nat) : Int)) := by simp [lAt, wAt]
        rw [e]; omega
      · rw [← hr]
        simp only [roomGo, if_pos hle]
        simp [lAt, wAt]
    · rename_i hle
      rw [roomGo_done hle] at hr
      show Halt ((∃ t, Value.int k u1 = Value.int (roomOf ws fi wy wd) t) ∧ Keeps s _)
      rw [← hr]
      exact Halt.on ⟨⟨_, rfl⟩, keeps_fr F⟩
end
end
-- Endless
section
theorem anew_Endless : True := by
  w_top off
  exact True.intro

theorem item_ints {prog : Program} {w : World} {A : Around} {E : Value → Shared → Prop} {s : Shared} {h₀ : Heap} {L : Addr} {m : Str → Option Value} {value slice : PySem.Expr} {l : Addr} {vs : List Value} {ns : List Int} {k : Int} {u : Tok} {Q : Value → Shared → Prop}
    (F : Fr h₀ L s.heap m) (hl : h₀.IsList l vs.toArray) (hS : IntsAre vs ns) (h0 : 0 ≤ k) (h1 : k < ns.length) (hb : ns.length < 100) (h : ∀ t, Q (.int (ns.getD k.toNat 0) t) s)
    (hs : subscripted slice false (.ref l) (.int k u) = operate [.ref l, .int k u] (getItem (.ref l) (.int k u)) := by with_unfolding_all rfl) (hg : ∀ r, letTemporaryGo value (.ref l) r = pure () := by intro _; with_unfolding_all rfl) :
    wpAny (model prog w) A (subscriptTail value slice (.ref l) (.int k u)) Q E s := by
  have hlt : k.toNat < vs.length := hS.length ▸ (Int.toNat_lt h0).mpr h1
  obtain ⟨t, ht⟩ := hS.int_at k.toNat vs[k.toNat] (by simp [hlt])
  exact item_list (Fr.lst F hl) h0 (by omega) (x := .int (ns.getD k.toNat 0) t) (by simp [hlt, ht]) (h t) hs hg
theorem len_ints {prog : Program} {w : World} {A : Around} {E : Value → Shared → Prop} {s : Shared} {h₀ : Heap} {L : Addr} {m : Str → Option Value} {l : Addr} {vs : List Value} {ns : List Int} {Q : Value → Shared → Prop}
    (F : Fr h₀ L s.heap m) (hl : h₀.IsList l vs.toArray) (hS : IntsAre vs ns) (hb : ns.length < 100) (h : ∀ t, Q (.int ns.length t) { s with toks := s.toks + 1 + 1 }) :
    wpAny (model prog w) A (call (.builtin "len") [.ref l]) Q E s := by
  have e : vs.toArray.size = ns.length := by simp [hS.length]
  refine len_list (Fr.lst F hl) (by rw [e]; omega) ?_
  rw [e]; exact h _

noncomputable def endGo (ns : List Int) (way border : Int) : Nat → Int → Int → Int → Int × Int × Int
  | 0, p, r, g => (p, r, g)
  | f + 1, p, r, g => if r < ns.length ∧ (r = 0 ∨ p ≠ border) then endGo ns way border f ((border + way * (g + ns.getD p.toNat 0)).fmod ns.length) (r + 1) (g + ns.getD p.toNat 0) else (p, r, g)
noncomputable def endAt (ns : List Int) (way : Int) (b : Nat) : Int × Int × Int := endGo ns way b (ns.length + 1) b 0 0
noncomputable def endlessTo (ns : List Int) (way : Int) : Nat → List (Int × Int × Int)
  | 0 => []
  | k + 1 => endlessTo ns way k ++ (if (endAt ns way k).1 = k then [((k : Int), (endAt ns way k).2.1, (endAt ns way k).2.2)] else [])
noncomputable def endlessOf (ns : List Int) (way : Int) : List (Int × Int × Int) := endlessTo ns way ns.length

noncomputable abbrev tup3 (b r g : Int) (t1 t2 t3 : Tok) : Obj := { cls := .type "tuple", data := .seq [Value.int b t1, .int r t2, .int g t3].toArray }
inductive Trips : List (Addr × Obj) → List Value → List (Int × Int × Int) → Prop
  | nil : Trips [] [] []
  | snoc {l its res} (a : Addr) (b r g : Int) (t1 t2 t3 : Tok) : Trips l its res → Trips ((a, tup3 b r g t1 t2 t3) :: l) (its ++ [.ref a]) (res ++ [(b, r, g)])

section
local macro_rules | `(tactic| walk_at "call builtin:len") => `(tactic| (refine len_ints (by assumption) (by assumption) (by assumption) (by assumption) ?_; intro _))
local macro_rules | `(tactic| walk_at $s) => if among "exec While|exec For Name Call cons nil|call type:range" s then `(tactic| refine Halt.go ?_) else Lean.Macro.throwUnsupported
local macro_rules | `(tactic| walk_at "binaryOp Mult int int") => `(tactic| refine PyProof.Rows.mul_int ?_ (mulok (by omega) (by omega)))

local macro_rules | `(tactic| k_all) => `(tactic| assumption)
local macro_rules | `(tactic| size_fits) => `(tactic| (rw [List.size_toArray]; assumption))
theorem end_k {k : Nat} {r n : Int} (hk : k + r = n + 1) (h : r < n) : ∃ k', k = k' + 1 := by
  cases k with
  | zero => omega
  | succ k' => exact ⟨k', rfl⟩
theorem end_le {k : Nat} {r n : Int} (hk : ((k + 1 : Nat) : Int) + r = n + 1) : k + (r + 1) = n + 1 := by omega
theorem fits100 {a n : Nat} (h : a ≤ n) (h5 : n < 100) : a ≤ sizeLine := by
  rw [sizeLine_eq]; exact Nat.le_trans h (Nat.le_trans (Nat.le_of_lt h5) (by decide))
theorem endGo_out {ns : List Int} {wy b p r g : Int} {k : Nat} (h : ¬ (r < ns.length ∧ (r = 0 ∨ p ≠ b))) : endGo ns wy b k p r g = (p, r, g) := by
  cases k with
  | zero => rfl
  | succ k => simp only [endGo, if_neg h]
theorem endGo_in {ns : List Int} {wy b p r g : Int} {k : Nat} (h : r < ns.length ∧ (r = 0 ∨ p ≠ b)) : endGo ns wy b (k + 1) p r g = endGo ns wy b k ((b + wy * (g + ns.getD p.toNat 0)).fmod ns.length) (r + 1) (g + ns.getD p.toNat 0) := by
  simp only [endGo, if_pos h]
theorem endless_no {ns : List Int} {wy : Int} {i : Nat} {p r g : Int} (he : (p, r, g) = endAt ns wy i) (h : p ≠ i) : endlessTo ns wy (i + 1) = endlessTo ns wy i := by
  simp only [endlessTo, ← he, if_neg h, List.append_nil]
theorem endless_yes {ns : List Int} {wy : Int} {i : Nat} {p r g : Int} (he : (p, r, g) = endAt ns wy i) (h : p = i) : endlessTo ns wy (i + 1) = endlessTo ns wy i ++ [((i : Int), r, g)] := by
  simp only [endlessTo, ← he, if_pos h]
inductive EndJ (s : Shared) (L sl D I : Addr) (ns : List Int) (wy : Int) (t2 : Tok) (i : Nat) (s' : Shared) : Prop
  | mk (ob op orr og : Option Value) (its : List Value) (n : Nat) (l : List (Addr × Obj)) (h' : Heap) (tk : Nat) : s' = { s with heap := h', toks := tk } → Fr s.heap L h' (mp [("way", some (.int wy t2)), ("steps", some (.ref sl)), ("ends", some (.ref D)), ("border", ob), ("place", op), ("rows", orr), ("gone", og)]) → News s.heap L h' ((D, listOf its.toArray n) :: l) → Trips l its (endlessTo ns wy i) → (∀ p ∈ l, p.1 ≠ I) → (∀ p ∈ l, p.1 ≠ D) → its.length ≤ i → EndJ s L sl D I ns wy t2 i s'
inductive EndI (s : Shared) (L sl D I : Addr) (ns : List Int) (wy : Int) (t2 : Tok) (i : Nat) (o : Obj) (its : List Value) (n : Nat) (l : List (Addr × Obj)) (k : Nat) (s' : Shared) : Prop
  | mk (p r g : Int) (u0 u1 u2 u3 : Tok) (h' : Heap) (tk : Nat) : s' = { s with heap := h', toks := tk } → Fr s.heap L h' (mp [("way", some (.int wy t2)), ("steps", some (.ref sl)), ("ends", some (.ref D)), ("border", some (.int i u0)), ("place", some (.int p u1)), ("rows", some (.int r u2)), ("gone", some (.int g u3))]) → News s.heap L h' ((I, o) :: (D, listOf its.toArray n) :: l) → 0 ≤ p → p < ns.length → 0 ≤ r → r ≤ ns.length → k + r = ns.length + 1 → endGo ns wy i k p r g = endAt ns wy i → EndI s L sl D I ns wy t2 i o its n l k s'
theorem endless_spec {w : World} {mean : ExcName → Option Value} {mg mb : Str → Option Value} {p : Program} {loose : List Str} {A : Around} {s : Shared} {E : Value → Shared → Prop}
  (X : Frag.In (hd.heap_1 w.params) s.heap) (T : Top p loose mean mg mb s.heap) (hA : Ok A 10 80) {sl : Addr} {vs : List Value} {ns : List Int} {wy : Int} {t2 : Tok}
  (hl : s.heap.IsList sl vs.toArray) (hS : IntsAre vs ns) (h3 : 3 ≤ ns.length) (h5 : ns.length < 100) (hwy : -1 ≤ wy ∧ wy ≤ 1) :
  wpAny (model PySem.Challenge.rw_pe0169_01.row.prog w) A (call (.ref 220) [.ref sl, .int wy t2]) (fun v s' => Halt (∃ D its l n, v = .ref D ∧ Keeps s s' ∧ s'.heap.get? D = some (listOf its.toArray n) ∧ Trips l its (endlessOf ns wy) ∧ s.heap.get? D = none ∧ ∀ p ∈ l, s'.heap.get? p.1 = some p.2 ∧ s.heap.get? p.1 = none)) E s := by
  revert X
  k_fill
  intro X
  refine wpAny_call ?_
  k_dflt (refine' enterX [("steps", .ref sl), ("way", .int wy t2)] ["ends", "border", "place", "rows", "gone"] ?k1 ?k2 ?k3 ?k4 ?k5 ?k6 ?k7 ?_ ?c1 ?c2 ?c3 ?c4; (case k1 => k_asm); (case k2 => exact T.nolimit); (case k3 => k_is); (case k4 => k_is); (case k5 => exact Nat.lt_of_le_of_lt (Nat.le_add_right _ _) hA.d); (case k6 => exact BindsTo.of_eq rfl); (case k7 => exact locs rfl); (case c1 => decide); (case c2 => exact rfl); (case c3 => exact rfl); (case c4 => exact rfl); k_whole)
  intro L h₁ F
  replace F : Fr s.heap L h₁ (mp [("way", some (.int wy t2)), ("steps", some (.ref sl)), ("ends", none), ("border", none), ("place", none), ("rows", none), ("gone", none)]) := F
  have N : News s.heap L h₁ [] := News.nil
  show wpAny _ _ _ _ _ _
  k_fold
  k_steps
  refine Halt.on ?_
  refine wpAny_For ?h ?hs
  case hs => intro _; rfl
  k_steps
  rename_i D _ _ h' F' N' _
  refine Halt.on (rng1 (by omega) fun I h₂ tk hI hk hit hsz => ?_)
  dsimp only at hI hk
  have hIL : L ≠ I := Nat.ne_of_lt (Nat.lt_trans F'.ns.lt hI)
  have hI0 : s.heap.get? I = none := by
    cases q : s.heap.get? I with
    | none => rfl
    | some o => exact absurd (Nat.lt_trans (Heap.lt_size (F'.keep _ _ q)) hI) (Nat.lt_irrefl _)
  have hDI : @Ne Nat D I := Nat.ne_of_lt (Nat.lt_trans (Heap.lt_size (N' _ (.head _)).1) hI)
  refine forW (Walks.range (by exact hA.h) I 0 1 ns.length) (fun b hb => List.mem_singleton.mp hb) s.heap (fun b hb => .inl (List.mem_singleton.mp hb))
    (J := EndJ s L sl D I ns wy t2)
    ?hJ ?hup (fun i h st => ⟨_, st⟩) ?turn ?done hit ?start
  case hJ => rintro i s' ⟨ob, op, orr, og, its, n, l, h', tk, rfl, F, N, _⟩; exact F.keep
  case hup =>
    rintro i s' h2 tk2 ⟨ob, op, orr, og, its, n, l, h', tk, rfl, F, N, ht, hne, hne2, hlen⟩ hkp
    exact ⟨ob, op, orr, og, its, n, l, h2, tk2, rfl, Fr.but F hkp hIL hI0, News.but N hkp (List.forall_mem_cons.mpr ⟨hDI, hne⟩), ht, hne, hne2, hlen⟩
  case start =>
    simp only [mp_put] at F'
    exact ⟨none, none, none, none, [], 0, [], _, _, rfl, Fr.but F' (fun b o _ e => hk b o e) hIL hI0, News.but N' (fun b o _ e => hk b o e) (by simpa using hDI), .nil, by simp, by simp, by simp⟩
  case done =>
    rintro s' ⟨ob, op, orr, og, its, n, l, h', tk, rfl, F, N, ht, hne, hne2, hlen⟩
    k_steps
    exact Halt.on ⟨D, its, l, n, rfl, keeps_fr F, (N _ (.head _)).1, ht, (N _ (.head _)).2.2, fun p hp => ⟨(N p (.tail _ hp)).1, (N p (.tail _ hp)).2.2⟩⟩
  case turn =>
    rintro i v s' o hi ⟨t, rfl⟩ ⟨ob, op, orr, og, its, n, l, h', tk, rfl, F, N, ht, hne, hne2, hlen⟩ ho hst
    replace N : News s.heap L h' ((I, o) :: (D, listOf its.toArray n) :: l) := List.forall_mem_cons.mpr ⟨⟨ho, Ne.symm hIL, hI0⟩, N⟩
    rw [Int.mul_one, Int.zero_add]
    have hn0 : (0 : Int) < ns.length := Int.natCast_pos.mpr (Nat.lt_of_lt_of_le (by decide) h3)
    have hfit : its.length ≤ sizeLine := fits100 (Nat.le_trans hlen (Nat.le_of_lt hi)) h5
    refine wpAny_pure ?_
    clear F' N' hk hit ho hst
    k_steps
    rename_i h3' F' N'
    simp only [mp_put] at F'
    refine Halt.on (whileH (I := EndI s L sl D I ns wy t2 i o its n l) ?wturn (ns.length + 1) ?winit)
    case winit => exact ⟨i, 0, 0, _, _, _, _, _, _, rfl, F', N', Int.natCast_nonneg _, Int.ofNat_lt.mpr hi, Int.le_refl _, Int.natCast_nonneg _, Int.add_zero _, rfl⟩
    case wturn =>
      clear F' N' 
      rintro k s' ⟨p, r, g, u0, u1, u2, u3, h', tk, rfl, F, N, hp0, hp1, hr0, hr1, hk, he⟩
      have loopEnd : ∀ {h2 : Heap} {tk2 : Nat} {u1' u2' u3' : Tok}, (r < ns.length ∧ (r = 0 ∨ p ≠ i)) → Fr s.heap L h2 (mp [("way", some (.int wy t2)), ("steps", some (.ref sl)), ("ends", some (.ref D)), ("border", some (.int i u0)), ("place", some (.int ((i + wy * (g + ns.getD p.toNat 0)).fmod ns.length) u1')), ("rows", some (.int (r + 1) u2')), ("gone", some (.int (g + ns.getD p.toNat 0) u3'))]) → News s.heap L h2 ((I, o) :: (D, listOf its.toArray n) :: l) →
          Halt (∃ m, m < k ∧ EndI s L sl D I ns wy t2 i o its n l m { s with heap := h2, toks := tk2 }) := by
        intro h2 tk2 u1' u2' u3' hc F N
        obtain ⟨k', rfl⟩ := end_k hk hc.1
        rw [endGo_in hc] at he
        exact ⟨k', Nat.lt_succ_self _, _, _, _, _, _, _, _, _, _, rfl, F, N, fmod_lo _ hn0, fmod_hi _ hn0, Int.le_add_one hr0, hc.1, end_le hk, he⟩
      have noEnd : ∀ {h2 : Heap} {tk2 : Nat} {u1' u2' u3' : Tok}, ¬ (r < ns.length ∧ (r = 0 ∨ p ≠ i)) → p ≠ i → Fr s.heap L h2 (mp [("way", some (.int wy t2)), ("steps", some (.ref sl)), ("ends", some (.ref D)), ("border", some (.int i u0)), ("place", some (.int p u1')), ("rows", some (.int r u2')), ("gone", some (.int g u3'))]) → News s.heap L h2 ((I, o) :: (D, listOf its.toArray n) :: l) →
          Halt (EndJ s L sl D I ns wy t2 (i + 1) { s with heap := h2, toks := tk2 } ∧ h2.get? I = some o) := by
        intro h2 tk2 u1' u2' u3' hc hpi F N
        rw [endGo_out hc] at he
        exact ⟨⟨_, _, _, _, its, n, l, _, _, rfl, F, fun p hp => N p (.tail _ hp), by rw [endless_no he hpi]; exact ht, hne, hne2, Nat.le_succ_of_le hlen⟩, (N _ (.head _)).1⟩
      have yesEnd : ∀ {h2 : Heap} {tk2 : Nat} {D' : Addr} {u1' u2' u3' : Tok}, ¬ (r < ns.length ∧ (r = 0 ∨ p ≠ i)) → p = i → (I < D' ∧ D < D' ∧ AllLt D' l) → Fr s.heap L h2 (mp [("way", some (.int wy t2)), ("steps", some (.ref sl)), ("ends", some (.ref D)), ("border", some (.int i u0)), ("place", some (.int p u1')), ("rows", some (.int r u2')), ("gone", some (.int g u3'))]) → News s.heap L h2 ((D', tup3 i r g u0 u2' u3') :: (I, o) :: (D, listOf (its.toArray.push (.ref D')) (n + 1)) :: l) →
          Halt (EndJ s L sl D I ns wy t2 (i + 1) { s with heap := h2, toks := tk2 } ∧ h2.get? I = some o) := by
        intro h2 tk2 D' u1' u2' u3' hc hpi hlt F N
        rw [endGo_out hc] at he
        refine ⟨⟨_, _, _, _, its ++ [.ref D'], n + 1, (D', tup3 i r g u0 u2' u3') :: l, _, _, rfl, F, fun q hq => ?_, by rw [endless_yes he hpi]; exact .snoc _ _ _ _ _ _ _ ht, List.forall_mem_cons.mpr ⟨Nat.ne_of_gt hlt.1, hne⟩, List.forall_mem_cons.mpr ⟨Nat.ne_of_gt hlt.2.1, hne2⟩, by rw [List.length_append]; exact Nat.succ_le_succ hlen⟩, (N _ (.tail _ (.head _))).1⟩
        rcases List.mem_cons.mp hq with rfl | hq
        · simpa using N _ (.tail _ (.tail _ (.head _)))
        · rcases List.mem_cons.mp hq with rfl | hq
          · exact N _ (.head _)
          · exact N _ (.tail _ (.tail _ (.tail _ hq)))
      k_steps
      · rename_i hr hz _ _ F' N'
        simp only [mp_put] at F'
        exact loopEnd ⟨by assumption, .inl (by assumption)⟩ F' N'
      · rename_i F' N'
        simp only [mp_put] at F'
        exact loopEnd ⟨by assumption, .inr (by assumption)⟩ F' N'
      · rename_i l1 _ F' N'
        exact yesEnd (fun h => h.2.elim (by assumption) (fun h => h (by assumption))) (by assumption) l1 F' N'
      · exact noEnd (fun h => h.2.elim (by assumption) (fun h => h (by assumption))) (by assumption) F N
      · rename_i l1 _ F' N'
        exact yesEnd (fun h => absurd h.1 (by assumption)) (by assumption) l1 F' N'
      · exact noEnd (fun h => absurd h.1 (by assumption)) (by assumption) F N
end
end
local macro_rules | `(tactic| walk_at "nm0") => `(tactic| k_dflt (refine nmB (by assumption) (by assumption) (by assumption) rfl rfl (by k_is) (by boot_by_name) (by decide) rfl rfl ?_))
local macro_rules | `(tactic| walk_at "nm1") => `(tactic| k_dflt (refine nmC (by assumption) rfl rfl rfl (by assumption) (by assumption) ?_))
local macro_rules | `(tactic| walk_at "nm2") => `(tactic| k_dflt (refine nmL (by assumption) rfl rfl rfl rfl ?_))
-- Told
section
theorem anew_Told : True := by
  w_top off
  exact True.intro
theorem min_ite (a b : Int) : min a b = (if b < a then b else a) := by
  split
  · exact Int.min_eq_right (Int.le_of_lt (by assumption))
  · exact Int.min_eq_left (Int.not_lt.mp (by assumption))
section
local macro_rules | `(tactic| walk_at "call builtin:len") => `(tactic| (refine len_strs (by assumption) (by assumption) (by assumption) (by assumption) ?_; intro _))
local macro_rules | `(tactic| walk_at $s) => if among "exec While|call type:range|eval ListComp|call builtin:str.join" s then `(tactic| refine Halt.go ?_) else Lean.Macro.throwUnsupported
local macro_rules | `(tactic| walk_at "binaryOp Mult int int") => `(tactic| refine PyProof.Rows.mul_int ?_ (mulok (by omega) (by omega)))
noncomputable def rowOf (ws : List Str) (low : Int) (take : Nat) : Str := Txt.join Str.empty ((List.range take).map fun (j : Nat) => wAt ws (low + (j : Int) * 1))
noncomputable def toldGo (ws : List Str) (ns : List Int) (wy : Int) : Nat → Int → Int → List Str
  | 0, _, _ => []
  | f + 1, p, lf => if 0 < lf then rowOf ws (min p (p + wy * min lf (ns.getD (p.fmod ws.length).toNat 0))) (min lf (ns.getD (p.fmod ws.length).toNat 0)).toNat :: toldGo ws ns wy f (p + wy * min lf (ns.getD (p.fmod ws.length).toNat 0)) (lf - min lf (ns.getD (p.fmod ws.length).toNat 0)) else []
noncomputable def toldAll (ws : List Str) (ns : List Int) (bo wy : Int) : List Str := toldGo ws ns wy (2 * ws.length) bo (2 * ws.length)
local macro_rules | `(tactic| walk_at "subscriptTail") => `(tactic| (refine item_ints (by assumption) (by assumption) (by assumption) (fmod_lo _ (by assumption)) (by have := fmod_hi; omega) (by omega) ?_; intro _))
local macro_rules | `(tactic| walk_at "call builtin:min") => `(tactic| (refine min_two_N (by assumption) (by assumption) (by assumption) ?_; intro hq9 tk9 F9 N9; rw [← min_ite]))
local macro_rules | `(tactic| size_fits) => `(tactic| (rw [List.size_toArray]; assumption))
local macro_rules | `(tactic| walk_at "eval Name") => `(tactic| first | walk_at "nm2" | walk_at "nm1" | walk_at "nm0")
local macro_rules | `(tactic| walk_at "subscriptTail") => `(tactic| (refine item_strs (by assumption) (by assumption) (by assumption) (fmod_lo _ (by assumption)) (fmod_hi _ (by assumption)) (by assumption) ?_; intro _))
theorem sum_le5 : ∀ {ys : List Str}, (∀ y ∈ ys, y.length ≤ 5) → (ys.map (·.length)).sum ≤ 5 * ys.length
  | [], _ => by simp
  | y :: r, h => by
    have := sum_le5 (ys := r) fun z hz => h z (.tail _ hz)
    have := h y (.head _)
    simp only [List.map_cons, List.sum_cons, List.length_cons]
    rw [Nat.mul_succ, Nat.add_comm]; exact Nat.add_le_add (by assumption) (by assumption)
theorem pick_one (items : Array Value) : slicePick items none none (some 1) = items := by
  have e : slicePick items none none (some 1) = ((items.toList.drop 0).take (items.size - 0)).toArray := kmk_pick_nat (lo := none) (hi := none) items (by simp [sliceBounds])
  rw [e]; simp [← Array.length_toList]
noncomputable def way_rows (wy : Int) (l : List Str) : List Str := if wy = 1 then l else l.reverse
theorem StrsAre.rev {vs : List Value} {ys : List Str} (h : StrsAre vs ys) : StrsAre vs.reverse ys.reverse := by
  induction h with
  | nil => exact .nil
  | cons y t _ ih => simp only [List.reverse_cons]; exact StrsAre.append' ih (.cons _ _ .nil)
theorem ta1 {lf q : Int} (h : 0 < lf) (hq : 1 ≤ q ∧ q ≤ 100) : min lf q = ((min lf q).toNat : Int) := (Int.toNat_of_nonneg (Int.le_of_lt (Int.lt_min.mpr ⟨h, Int.lt_of_lt_of_le (by decide) hq.1⟩))).symm
theorem ta1b {lf q : Int} {tn : Nat} (hq : 1 ≤ q ∧ q ≤ 100) (e : min lf q = tn) : tn ≤ 100 := Int.ofNat_le.mp (e ▸ Int.le_trans (Int.min_le_right _ _) hq.2)
theorem ta2 {wy lf q : Int} {tn : Nat} (hw : wy = 1 ∨ wy = -1) (hq : 1 ≤ q ∧ q ≤ 100) (e : min lf q = tn) : -100 ≤ wy * tn ∧ wy * tn ≤ 100 := by
  have h : (tn : Int) ≤ 100 := Int.ofNat_le.mpr (ta1b hq e)
  have z := Int.natCast_nonneg tn
  rcases hw with rfl | rfl
  · rw [Int.one_mul]; exact ⟨Int.le_trans (by decide) z, h⟩
  · rw [Int.neg_one_mul]; exact ⟨Int.neg_le_neg h, Int.le_trans (Int.neg_nonpos_of_nonneg z) (by decide)⟩
theorem ta3 {wy : Int} {tn : Nat} (hw : wy = 1 ∨ wy = -1) : -(tn : Int) ≤ wy * tn ∧ wy * tn ≤ tn := by
  have z := Int.natCast_nonneg tn
  have y := Int.le_trans (Int.neg_nonpos_of_nonneg z) z
  rcases hw with rfl | rfl
  · rw [Int.one_mul]; exact ⟨y, Int.le_refl _⟩
  · rw [Int.neg_one_mul]; exact ⟨Int.le_refl _, y⟩
theorem ta4 {k : Nat} {lf : Int} (h : 0 < lf) (h2 : lf ≤ k) : ∃ k', k = k' + 1 := Nat.exists_eq_add_of_le' (Int.natCast_pos.mp (Int.lt_of_lt_of_le h h2))
theorem ta5 {n : Nat} {bo pl wt lo lf : Int} (h5 : n < 100) (hbo : -100 < bo ∧ bo < 100) (p1 : bo - (2 * n - lf) ≤ pl) (p2 : pl ≤ bo + (2 * n - lf)) (h0 : 0 < lf) (hw : -100 ≤ wt ∧ wt ≤ 100) (e : min pl (pl + wt) = lo) : -2 ^ 60 < lo ∧ lo < 2 ^ 60 := by
  have u : pl ≤ 1000 := by omega
  have d : -1000 ≤ pl := by omega
  have l2 : pl + -100 ≤ lo := e ▸ Int.le_min.mpr ⟨Int.le_trans (Int.add_le_add_left (by decide : (-100 : Int) ≤ 0) pl) (Int.le_of_eq (Int.add_zero _)), Int.add_le_add_left hw.1 pl⟩
  exact ⟨Int.lt_of_lt_of_le (by decide) (Int.le_trans (Int.add_le_add_right d (-100)) l2), Int.lt_of_le_of_lt (Int.le_trans (e ▸ Int.min_le_left _ _) u) (by decide)⟩
theorem ta7 {lf q : Int} {tn : Nat} (e : min lf q = tn) : 0 ≤ lf - tn := Int.sub_nonneg_of_le (e ▸ Int.min_le_left _ _)
theorem ta8 {lf q : Int} {tn k : Nat} (hq : 1 ≤ q ∧ q ≤ 100) (e : min lf q = tn) (h : lf ≤ ((k + 1 : Nat) : Int)) : lf - tn ≤ k := by
  rcases Int.le_total lf q with h' | h'
  · rw [← e, Int.min_eq_left h', Int.sub_self]; exact Int.natCast_nonneg k
  · rw [← e, Int.min_eq_right h']; exact Int.le_trans (Int.sub_le_sub h hq.1) (Int.le_of_eq (by rw [Int.natCast_add]; exact Int.add_sub_cancel _ _))
theorem ta9 {bo n lf pl wt : Int} {tn : Nat} (p : bo - (2 * n - lf) ≤ pl) (hw : -(tn : Int) ≤ wt) : bo - (2 * n - (lf - tn)) ≤ pl + wt :=
  Int.le_trans (Int.le_of_eq (by simp only [Int.sub_eq_add_neg, Int.neg_add, Int.neg_neg, Int.add_assoc])) (Int.add_le_add p hw)
theorem ta10 {bo n lf pl wt : Int} {tn : Nat} (p : pl ≤ bo + (2 * n - lf)) (hw : wt ≤ tn) : pl + wt ≤ bo + (2 * n - (lf - tn)) :=
  Int.le_trans (Int.add_le_add p hw) (Int.le_of_eq (by simp only [Int.sub_eq_add_neg, Int.neg_add, Int.neg_neg, Int.add_assoc]))
theorem rows_fit {k a n : Nat} (h : k + a = 2 * n) (h5 : n < 100) : a ≤ sizeLine := by
  rw [sizeLine_eq]; exact Nat.le_trans (Nat.le_trans (Nat.le_add_left _ _) (Nat.le_of_eq h)) (Nat.le_trans (Nat.mul_le_mul_left 2 (Nat.le_of_lt h5)) (by decide))
theorem ws_pos {n : Nat} (h : 3 ≤ n) : (0 : Int) < n := Int.natCast_pos.mpr (Nat.lt_of_lt_of_le (by decide) h)
inductive ToldI (s : Shared) (L wl ml D : Addr) (oc : Obj) (ws : List Str) (ns : List Int) (bo wy : Int) (t1 t2 : Tok) (k : Nat) (s' : Shared) : Prop
  | mk (pl lf : Int) (its : List Value) (dn : List Str) (e : Nat) (otk olw : Option Value) (u1 u2 : Tok) (h' : Heap) (tk : Nat) : s' = { s with heap := h', toks := tk } →
      Fr s.heap L h' (mp [("most", some (.ref ml)), ("border", some (.int bo t1)), ("way", some (.int wy t2)), ("rows", some (.ref D)), ("place", some (.int pl u1)), ("left", some (.int lf u2)), ("take", otk), ("low", olw)]) → News s.heap L h' [(D, listOf its.toArray e), (L + 1, oc)] →
      StrsAre its dn → dn ++ toldGo ws ns wy k pl lf = toldAll ws ns bo wy → 0 ≤ lf → lf ≤ k → k + its.length = 2 * ws.length → bo - (2 * ws.length - lf) ≤ pl → pl ≤ bo + (2 * ws.length - lf) → ToldI s L wl ml D oc ws ns bo wy t1 t2 k s'
theorem told_spec {w : World} {mean : ExcName → Option Value} {mg mb : Str → Option Value} {p : Program} {loose : List Str} {A : Around} {s : Shared} {E : Value → Shared → Prop}
  (X : Frag.In (hd.heap_1 w.params) s.heap) (T : Top p loose mean mg mb s.heap) (hA : Ok A 10 80) {wl ml : Addr} {vs us : List Value} {ws : List Str} {ns : List Int} {bo wy : Int} {t1 t2 : Tok}
  (hl : s.heap.IsList wl vs.toArray) (hS : StrsAre vs ws) (hm : s.heap.IsList ml us.toArray) (hN : IntsAre us ns) (h3 : 3 ≤ ws.length) (h5 : ws.length < 100) (hlen : ns.length = ws.length) (hB : ∀ i, (ws.getD i Str.empty).length ≤ 5) (hwyy : wy = 1 ∨ wy = -1) (hn1 : ∀ i, i < ws.length → 1 ≤ ns.getD i 0 ∧ ns.getD i 0 ≤ 100) (hbo : -100 < bo ∧ bo < 100) :
  wpAny (model PySem.Challenge.rw_pe0169_01.row.prog w) A (call (.ref 213) [.ref wl, .ref ml, .int bo t1, .int wy t2]) (fun v s' => Halt (∃ D its n, v = .ref D ∧ Keeps s s' ∧ s'.heap.get? D = some (listOf its.toArray n) ∧ s.heap.get? D = none ∧ StrsAre its (way_rows wy (toldAll ws ns bo wy)))) E s := by
  have hwy : -1 ≤ wy ∧ wy ≤ 1 := by rcases hwyy with rfl | rfl <;> decide
  have hp3 := ws_pos h3
  have hh := hA.h
  revert X
  k_fill
  intro X
  refine wpAny_call ?_
  k_dflt (refine' enterC [("words", .ref wl), ("most", .ref ml), ("border", .int bo t1), ("way", .int wy t2)] ?k1 ?k2 ?k3 ?k4 ?k5 ?k6 ?k7 ?kn ?_ ?c2 ?c3 ?c4; (case k1 => k_asm); (case k2 => exact T.nolimit); (case k3 => k_is); (case k4 => k_is); (case k5 => exact Nat.lt_of_le_of_lt (Nat.le_add_right _ _) hA.d); (case k6 => exact BindsTo.of_eq rfl); (case k7 => exact rfl); (case kn => decide); (case c2 => exact rfl); (case c3 => exact rfl); (case c4 => exact rfl); k_whole)
  intro L h₁ tk cells F N Y
  obtain ⟨oc, hE, hoc⟩ := CellsAre.one Y
  subst hE
  clear Y
  replace hoc : oc.data = .cell (some (.ref wl)) := hoc
  replace F : Fr s.heap L h₁ (fun y => if y = Str.ofString "way" then some (.int wy t2) else if y = Str.ofString "border" then some (.int bo t1) else if y = Str.ofString "most" then some (.ref ml) else mp [] y) := F
  simp only [mp_put] at F
  replace F : Fr s.heap L h₁ (mp [("most", some (.ref ml)), ("border", some (.int bo t1)), ("way", some (.int wy t2)), ("rows", none), ("place", none), ("left", none), ("take", none), ("low", none)]) := Fr.pad F ["rows", "place", "left", "take", "low"]
  show wpAny _ _ _ _ _ _
  k_fold
  k_steps
  rename_i D _ _ _ _ _ _ h' F' N'
  simp only [mp_put] at F'
  have hns : ∀ i : Int, 1 ≤ ns.getD (i.fmod ws.length).toNat 0 ∧ ns.getD (i.fmod ws.length).toNat 0 ≤ 100 := fun i => hn1 _ (Int.toNat_lt (fmod_lo i (b := ws.length) hp3) |>.mpr (fmod_hi i (b := ws.length) hp3))
  refine Halt.on (whileH (I := ToldI s L wl ml D oc ws ns bo wy t1 t2) ?wturn (2 * ws.length) ?winit)
  case winit => exact ⟨bo, 2 * ws.length, [], [], _, _, _, _, _, _, _, rfl, F', N', .nil, rfl, by omega, by omega, by simp, by omega, by omega⟩
  case wturn =>
    clear F' N'
    rintro k s' ⟨pl, lf, its, dn, e, otk, olw, u1, u2, h', tk, rfl, F, N, hst, hall, hlf, hlk, hki, hp1, hp2⟩
    have hq := hns pl
    have hfit := rows_fit hki h5
    k_steps
    · rename_i h4 F4 N4
      simp only [mp_put] at F4
      refine Halt.on ?_
      refine evalComp (cl := [("words", L + 1)]) rfl rfl (by decide) (by intro _; rfl) ?_
      k_steps
      obtain ⟨tn, htn⟩ : ∃ tn : Nat, min lf (ns.getD (pl.fmod ws.length).toNat 0) = tn := ⟨(min lf (ns.getD (pl.fmod ws.length).toNat 0)).toNat, ta1 (by assumption) hq⟩
      rw [htn] at F4 ⊢
      have hwt : -100 ≤ wy * tn ∧ wy * tn ≤ 100 := ta2 hwyy hq htn
      obtain ⟨lo, hlo⟩ : ∃ lo, min pl (pl + wy * tn) = lo := ⟨_, rfl⟩
      rw [hlo] at F4 ⊢
      refine Halt.on (rng2 (n := tn) (ta5 h5 hbo hp1 hp2 (by assumption) hwt hlo) rfl (Nat.lt_of_le_of_lt (ta1b hq htn) (by decide)) fun I h5 tk5 hI hk5 hit hsz => ?_)
      dsimp only at hI hk5
      have X4 : Frag.In (hd.heap_1 w.params) h4 := fun a o e => F4.keep a o (X a o e)
      have T4 := T.keeps F4.keep
      have hl4 : h4.IsList wl vs.toArray := Fr.lst F4 hl
      have hc4 := (N4 _ (.tail _ (.head _))).1
      refine compV (n := tn) (St := fun i h => IsRangeIter h I (lo + (i : Nat) * 1) ((tn : Int) - (i : Nat)) 1) F4 N4 (Walks.range (by exact hh) I lo 1 tn) (Nat.lt_of_le_of_lt (ta1b hq htn) (by decide)) (fun b hb => List.mem_singleton.mp hb) (fun b hb => .inl (List.mem_singleton.mp hb)) hk5 (Nat.le_of_lt hI) (fun i h st => ⟨_, st⟩)
        (J := fun i ys l => l = [] ∧ StrsAre ys ((List.range i).map fun (j : Nat) => wAt ws (lo + (j : Int) * 1))) ⟨rfl, .nil⟩ (fun i ys l h => by rw [h.2.length]; simp) (by decide) rfl rfl hit ?ct ?cq
      case ct =>
        rintro i v ys l h tk C D' o e' hi ⟨t, rfl⟩ ⟨rfl, hys⟩ hID hDC F N hl1 hl2
        refine wpAny_tests_nil ?_
        simp only [if_true]
        k_steps
        refine Halt.on ⟨_, _, [], rfl, F, N, by simp, rfl, ?_⟩
        rw [List.range_succ, List.map_append]
        exact StrsAre.append' hys (.cons _ _ .nil)
      case cq =>
        rintro D' h6 tk6 ys l e' ⟨rfl, hys⟩ F6 N6 hD1 hD2 _ hk6 _
        simp only [List.nil_append] at N6
        have hl6 : h6.IsList D' ys.toArray := ⟨_, (N6 _ (.head _)).1, rfl, _, rfl⟩
        have hw5 : ∀ i : Int, (wAt ws i).length ≤ 5 := fun i => hB _
        replace hD1 : @LT.lt Nat _ D D' ∧ @LT.lt Nat _ (L + 1) D' := ⟨hD1 _ (.head _), hD1 _ (.tail _ (.head _))⟩
        k_steps
        refine Halt.on ?_
        refine join_list hl6 (ys := (List.range tn).map fun (j : Nat) => wAt ws (lo + (j : Int) * 1)) (by simpa using hys) ?_ ?_
        · have := sum_le5 (ys := (List.range tn).map fun (j : Nat) => wAt ws (lo + (j : Int) * 1)) (by intro y hy; obtain ⟨j, _, rfl⟩ := List.mem_map.mp hy; exact hw5 _)
          simp only [List.length_map, List.length_range] at this ⊢
          have e0 : (Str.ofString "").length = 0 := by decide
          rw [e0, Nat.mul_zero]; exact Nat.le_trans this (Nat.le_trans (Nat.mul_le_mul_left 5 (ta1b hq htn)) (by decide))
        · intro t7 k7
          k_steps
          rename_i F8 N8
          simp only [mp_put] at F8
          obtain ⟨k', rfl⟩ : ∃ k', k = k' + 1 := ta4 (by assumption) hlk
          have hrow : toldGo ws ns wy (k' + 1) pl lf = Txt.join Str.empty ((List.range tn).map fun (j : Nat) => wAt ws (lo + (j : Int) * 1)) :: toldGo ws ns wy k' (pl + wy * tn) (lf - tn) := by
            simp only [toldGo, if_pos (show 0 < lf by assumption), htn, hlo, rowOf, Int.toNat_natCast]
          rw [hrow] at hall
          have hwt2 : -(tn : Int) ≤ wy * tn ∧ wy * tn ≤ tn := ta3 hwyy
          refine Halt.on ⟨k', Nat.lt_succ_self _, pl + wy * tn, lf - tn, its ++ [.str (Txt.join Str.empty ((List.range tn).map fun (j : Nat) => wAt ws (lo + (j : Int) * 1))) t7], dn ++ [Txt.join Str.empty ((List.range tn).map fun (j : Nat) => wAt ws (lo + (j : Int) * 1))], e + 1, _, _, _, _, _, _, rfl, F8, ?_, StrsAre.append' hst (.cons _ _ .nil), ?_, ?_, ?_, ?_, ?_, ?_⟩
          · intro q hq
            rcases List.mem_cons.mp hq with rfl | hq
            · have z := N8 _ (.tail _ (.head _))
              rw [List.push_toArray] at z
              exact z
            · exact N8 _ (.tail _ (.tail _ hq))
          · rw [← hall]; simp
          · exact ta7 htn
          · exact ta8 hq htn hlk
          · rw [List.length_append]; exact (Nat.succ_add_eq_add_succ _ _).symm.trans hki
          · exact ta9 hp1 hwt2.1
          · exact ta10 hp2 hwt2.2
    · have htg : toldGo ws ns wy k pl lf = [] := by
        cases k with
        | zero => rfl
        | succ k => simp only [toldGo, if_neg (show ¬ 0 < lf by assumption)]
      rw [htg, List.append_nil] at hall
      rename_i F9 N9
      refine Halt.on ⟨_, (slicePick its.toArray none none (some wy)).toList, 0, rfl, keeps_fr F9, (N9 _ (.head _)).1, (N9 _ (.head _)).2.2, ?_⟩
      rw [← hall]
      unfold way_rows
      rcases hwyy with rfl | rfl
      · rw [pick_one, if_pos rfl]; exact hst
      · rw [krv_pick, if_neg (by decide)]; exact StrsAre.rev hst
end
end
-- B5
section
namespace FA
theorem mro : mroOf (.type "bytearray") = pure [.type "bytearray", .type "object"] := by rw [mroOf_type]; kernel_rfl
theorem lookup_new : typeLookup (.type "bytearray") "__new__" = pure (some (.builtin "bytearray.__new__")) := by rw [typeLookup_type, builtinLookup_eq_fast]; kernel_rfl
theorem slot_init : Slot "bytearray" "__init__" "bytearray.__init__" :=
  .of (owner := "bytearray") (n := "__init__") (by rw [typeLookup_type, builtinLookup_eq_fast]; kernel_rfl) (by decide +kernel) (by decide +kernel) (by decide +kernel)
    (by first | exact .inl (by decide +kernel) | exact .inr (by decide +kernel)) (by rw [isSubtype_type]; kernel_rfl)
theorem slot_setitem : Slot "bytearray" "__setitem__" "bytearray.__setitem__" :=
  .of (owner := "bytearray") (n := "__setitem__") (by rw [typeLookup_type, builtinLookup_eq_fast]; kernel_rfl) (by decide +kernel) (by decide +kernel) (by decide +kernel)
    (by first | exact .inl (by decide +kernel) | exact .inr (by decide +kernel)) (by rw [isSubtype_type]; kernel_rfl)
theorem called : TypeCalled "bytearray" "bytearray.__new__" "bytearray.__init__" :=
  ⟨by decide +kernel, by decide +kernel, ⟨_, _, mro⟩, madeBy_type mro lookup_new (by decide +kernel), by decide +kernel, by rw [isSubtype_type]; kernel_rfl, slot_init⟩
theorem typeCall (a : Value) : checkTypeCall "bytearray" ⟨[a], []⟩ = pure () := by kernel_rfl
theorem newCall (a : Value) : checkBuiltinCall "bytearray.__new__" ⟨[.type "bytearray", a], []⟩ = pure () := by kernel_rfl
theorem plain_new : plainId "bytearray.__new__" = true := by decide +kernel
theorem plain_init : plainId "bytearray.__init__" = true := by decide +kernel
theorem entry_new : entryFor table "bytearray.__new__" = some Builtin.«list.__new__» := entryFor_alias (id' := "list.__new__") (by rw [fastTable_eq_tree]; kernel_rfl) (by decide +kernel) (by decide +kernel) (by rw [fastTable_eq_tree]; kernel_rfl)
theorem entry_init : entryFor table "bytearray.__init__" = some Builtin.«bytearray.__init__» := by first | exact entryFor_of_fast (by kernel_rfl) | exact entryFor_of_tree (by kernel_rfl)
theorem entry_setitem : entryFor table "bytearray.__setitem__" = some Builtin.«bytearray.__setitem__» := by first | exact entryFor_of_fast (by kernel_rfl) | exact entryFor_of_tree (by kernel_rfl)
theorem args_setitem (a b c : Value) : argsOk "bytearray.__setitem__" ⟨[a, b, c], []⟩ := by unfold argsOk; kernel_rfl
theorem args_init (a b : Value) : argsOk "bytearray.__init__" ⟨[a, b], []⟩ := by unfold argsOk; kernel_rfl
theorem release : typeLookup (.type "bytearray") "__release_buffer__" = pure (some (.builtin "bytearray.__release_buffer__")) := by rw [typeLookup_type, builtinLookup_eq_fast]; kernel_rfl
theorem buffer : typeLookup (.type "bytearray") "__buffer__" = pure (some (.builtin "bytearray.__buffer__")) := by rw [typeLookup_type, builtinLookup_eq_fast]; kernel_rfl
theorem noBytes : typeLookup (.type "bytearray") "__bytes__" = pure none := by rw [typeLookup_type, builtinLookup_eq_fast]; kernel_rfl
theorem noIndex : typeLookup (.type "bytearray") "__index__" = pure none := by rw [typeLookup_type, builtinLookup_eq_fast]; kernel_rfl
theorem sub_self : isSubtype (.type "bytearray") (.type "bytearray") = pure true := by rw [isSubtype_type]; kernel_rfl
theorem bindOpt (v : Value) : Builtin.Bytes.bindOptional "bytearray.__init__" "bytearray" ["source", "encoding", "errors"] [v] [] = pure [some v, none, none] := by kernel_rfl
set_option linter.deprecated false
theorem ends_release : ("bytearray.__release_buffer__".endsWith ("." ++ "__release_buffer__")) = true := by decide +kernel
theorem drop_release : "bytearray.__release_buffer__".dropRight ("__release_buffer__".length + 1) = "bytearray" := by decide +kernel
theorem ends_buffer : ("bytearray.__buffer__".endsWith ("." ++ "__buffer__")) = true := by decide +kernel
theorem drop_buffer : "bytearray.__buffer__".dropRight ("__buffer__".length + 1) = "bytearray" := by decide +kernel
end FA
set_option maxRecDepth 1000000 in
theorem owner_new : ("bytearray.__new__".splitOn ".__new__").headD "" = "bytearray" := by simp +decide [String.splitOn, String.splitOnAux]

noncomputable abbrev barr (b : Array UInt8) : Obj := { cls := .type "bytearray", data := .bytearray b }
section
variable {prog : Program} {w : World} {A : Around} {E : Value → Shared → Prop} {s : Shared}
theorem barr_type {a : Addr} {b : Array UInt8} (h : s.heap.get? a = some (barr b)) : s.TypeIs (.ref a) "bytearray" := ⟨_, h, rfl⟩
theorem code_ba_new (a : Value) {Q₁ : Value → Shared → Prop}
    (h : Q₁ (.ref s.heap.objs.size) { s with heap := s.heap.push (barr #[]) }) :
    codeAny (model prog w) A (.call (.builtin "bytearray.__new__") ⟨[.type "bytearray", a], []⟩) (wants Q₁ E) s := by
  refine codeAny_of_tree ?_
  show wpAny _ A.in1 (do checkBuiltinCall "bytearray.__new__" ⟨[.type "bytearray", a], []⟩; again (.builtin "bytearray.__new__" ⟨[.type "bytearray", a], []⟩)) _ _ s
  refine wpAny_bind (wpAny_of_eq (FA.newCall a) (wpAny_pure ⟨plainId_quiet FA.plain_new _, codeAny_builtin_stack FA.entry_new rfl fun p st => ?_⟩))
  rw [Around.under_plainId FA.plain_new _]
  have hsub := FA.sub_self
  have hown := owner_new
  obtain ⟨hp, g, d, tk, os⟩ := s
  simp only [hown]
  wp_walk
  exact h
end
end
-- B6
section
section
variable {prog : Program} {w : World} {A : Around} {E : Value → Shared → Prop} {s : Shared}
theorem ownRelease_barr {a : Addr} {b : Array UInt8} {Q : Bool → Shared → Prop} (ha : s.heap.get? a = some (barr b)) (h : Q false s) :
    wpAny (model prog w) A (Builtin.Bytes.ownRelease (.ref a)) Q E s := by
  have hT := barr_type ha
  unfold Builtin.Bytes.ownRelease Builtin.Bytes.slotIsOwn
  refine wpAny_bind (wpAny_bind (wpAny_specialOf hT FA.release ?_))
  dsimp only
  refine bm_if_false (by rw [FA.ends_release]; rfl) ?_
  rw [FA.drop_release]
  exact wpAny_isInstance hT FA.sub_self (wpAny_pure h)
theorem setItem_barr {a : Addr} {b : Array UInt8} {k n : Int} {t u : Tok} {Q : Unit → Shared → Prop} (ha : s.heap.get? a = some (barr b)) (h0 : 0 ≤ k) (h1 : k < b.size) (hsz : b.size ≤ sizeLine) (hn0 : 0 ≤ n) (hn1 : n < 256) (hfit : k < 2 ^ 60)
    (h : Q () { s with heap := s.heap.update a (Obj.mapBytearray (·.setIfInBounds k.toNat n.toNat.toUInt8)) }) :
    wpAny (model prog w) A (setItem (.ref a) (.int k t) (.int n u)) Q E s := by
  have hT := barr_type ha
  unfold setItem
  try with_reducible refine wpAny_holding ?_
  first | refine wpAny_bind (wpAny_pure ?_) | skip
  refine wpAny_bind (wpAny_sequenceKey hT (by decide) ?_)
  refine wpAny_bind (wpAny_callSpecial?_slot (name := Str.ofString "__setitem__") hT FA.slot_setitem
    (wpAny_call_entry FA.slot_setitem hT FA.entry_setitem ?_ (FA.args_setitem _ _ _)))
  show wpAny _ _ (Builtin.Bytes.subscript? (.int k t) >>= _) _ _ s
  refine wpAny_bind ?_
  unfold Builtin.Bytes.subscript?
  refine wpAny_bind (wpAny_specialOf (T := "int") (typeIs_int s k t) int_index ?_)
  refine bm_if_false rfl ?_
  refine wpAny_bind (wpAny_of_eq (a := k) rfl ?_)
  refine bm_if_false (by simp only [Builtin.Bytes.fitsIndex]; simp; omega) ?_
  refine wpAny_pure ?_
  dsimp only
  refine wpAny_bind ?_
  unfold Builtin.Bytes.byteValue
  refine wpAny_bind (wpAny_of_eq (a := n) rfl ?_)
  refine bm_if_false (by simp; omega) ?_
  refine wpAny_pure ?_
  refine wpAny_bind ?_
  unfold Builtin.Bytes.payload Builtin.Bytes.payload?
  refine wpAny_bind (wpAny_bind (wpAny_load ha ?_))
  refine wpAny_pure (wpAny_pure ?_)
  have e : seqIndex? k b.size = some k.toNat := by
    have hn : ¬ k < 0 := by omega
    simp [seqIndex?, hn, h0, h1]
  rw [e]
  dsimp only
  refine wpAny_bind ?_
  show wpAny _ _ (updateBytearray a (·.setIfInBounds k.toNat n.toNat.toUInt8)) _ _ _
  unfold updateBytearray
  refine wpAny_bind (wpAny_load ha ?_)
  show wpAny _ _ (update a (Obj.mapBytearray (·.setIfInBounds k.toNat n.toNat.toUInt8)) >>= fun _ => lookBehind a) _ _ _
  refine wpAny_bind (wpAny_update ha ?_)
  have hS₂ : (s.heap.update a (Obj.mapBytearray (·.setIfInBounds k.toNat n.toNat.toUInt8))).get? a = some (barr (b.setIfInBounds k.toNat n.toNat.toUInt8)) :=
    Heap.get?_update_self (Obj.mapBytearray (·.setIfInBounds k.toNat n.toNat.toUInt8)) ha rfl
  refine wpAny_lookBehind hS₂ ?_ ?_
  · show (if (b.setIfInBounds k.toNat n.toNat.toUInt8).size > sizeLine then some "bytearray:memory" else none) = none
    rw [if_neg]
    rw [Array.size_setIfInBounds]
    omega
  · first
      | exact wpAny_bind (wpAny_pure (wpAny_pure ⟨.none, rfl, wpAny_pure h⟩))
      | exact wpAny_pure ⟨.none, rfl, wpAny_pure h⟩

theorem code_bytes_barr {a : Addr} {b : Array UInt8} {Q : Value → Shared → Prop} (ha : s.heap.get? a = some (barr b)) (hsz : b.size ≤ sizeLine) (hQ : ∀ t k, Q (.bytes b t) { s with toks := k }) :
    codeAny (model prog w) A (.call (.builtin "bytes.__new__") ⟨[.type "bytes", .ref a], []⟩) (wants Q E) s := by
  refine codeAny_of_tree ?_
  show wpAny _ A.in1 (do checkBuiltinCall "bytes.__new__" ⟨[.type "bytes", .ref a], []⟩; again (.builtin "bytes.__new__" ⟨[.type "bytes", .ref a], []⟩)) _ _ s
  refine wpAny_bind (wpAny_of_eq (F.bm_newCall _) (wpAny_pure ⟨plainId_quiet F.bm_plain _, codeAny_builtin F.bm_entry ?_⟩))
  rw [Around.under_plainId F.bm_plain _]
  have hT := barr_type ha
  unfold Builtin.«bytes.__new__»
  refine wpAny_bind (wpAny_of_eq (a := true) rfl ?_)
  refine bm_if_false rfl ?_
  refine wpAny_bind (wpAny_of_eq F.bm_sub ?_)
  refine bm_if_false rfl ?_
  refine wpAny_bind (wpAny_of_eq (F.bm_bind _) ?_)
  refine wpAny_bind (wpAny_of_eq (a := ()) rfl ?_)
  refine wpAny_bind (wpAny_of_eq (a := ()) rfl ?_)
  refine bm_if_false rfl ?_
  refine wpAny_bind (wpAny_specialOf hT FA.noBytes ?_)
  refine wpAny_bind (wpAny_bind ?_)
  show wpAny _ _ (load a >>= _) _ _ _
  refine wpAny_bind (wpAny_load ha ?_)
  refine wpAny_pure (wpAny_pure ?_)
  refine bm_if_false rfl ?_
  refine wpAny_bind (wpAny_specialOf hT FA.noIndex ?_)
  refine bm_if_true rfl ?_
  first
    | show wpAny _ _ (Builtin.Bytes.buffer? "bytes.__new__" (.ref a) true >>= _) _ _ _
    | (refine wpAny_bind ?_; show wpAny _ _ (Builtin.Bytes.buffer? "bytes.__new__" (.ref a) true >>= _) _ _ _)
  refine wpAny_bind ?_
  unfold Builtin.Bytes.buffer?
  refine wpAny_bind (wpAny_specialOf hT FA.buffer ?_)
  dsimp only
  refine wpAny_bind ?_
  unfold Builtin.Bytes.slotIsOwn
  refine wpAny_bind (wpAny_specialOf hT FA.buffer ?_)
  dsimp only
  refine bm_if_false (by rw [FA.ends_buffer]; rfl) ?_
  rw [FA.drop_buffer]
  refine wpAny_isInstance hT FA.sub_self ?_
  refine bm_if_false rfl ?_
  refine wpAny_bind (wpAny_specialOf hT FA.buffer ?_)
  refine wpAny_bind (ownRelease_barr ha ?_)
  refine bm_if_false rfl ?_
  refine wpAny_bind ?_
  unfold Builtin.Bytes.payload Builtin.Bytes.payload?
  refine wpAny_bind (wpAny_bind (wpAny_load ha ?_))
  refine wpAny_pure (wpAny_pure (wpAny_pure ?_))
  dsimp only
  refine wpAny_bind (wpAny_rule ?_)
  refine wpAny_bind (wpAny_mkBytes ?_ hsz)
  show wpAny _ _ (if (Value.type "bytes" == Value.type "bytes") = true then _ else _) _ _ _
  refine bm_if_true (by decide) ?_
  first
    | exact wpAny_pure (hQ _ _)
    | exact wpAny_bind (wpAny_pure (wpAny_pure (hQ _ _)))
    | exact wpAny_pure (wpAny_pure (hQ _ _))

theorem call_bytes_barr {a : Addr} {b : Array UInt8} {Q : Value → Shared → Prop} (ha : s.heap.get? a = some (barr b)) (hsz : b.size ≤ sizeLine) (hQ : ∀ t k, Q (.bytes b t) { s with toks := k }) : wpAny (model prog w) A (call (.type "bytes") [.ref a]) Q E s := by
  refine callType_codes (Q₁ := fun obj s₁ => s₁.TypeIs obj "bytes" ∧ Q obj s₁) F.bm_called (F.bm_typeCall _) F.entry_object_init
    (code_bytes_barr ha hsz fun t k => ⟨_root_.PySem.W.typeIs_bytes _ _ _, hQ t k⟩) fun obj s₁ h₁ => ?_
  exact ⟨h₁.1, F.args_object_init_2 obj _, object_init_meets F.bm_called.init.lookup F.bm_called.made (by decide) prog w A.in1 _ s₁ ⟨h₁.1, rfl, h₁.2⟩⟩

theorem wpC_exported {self : Value} {Q : Bool → Shared → Prop} (h : Q false s) : wpC (model prog w) A (Builtin.Bytes.exported self) Q E s := fun Γ p hΓ hc => by
  unfold Builtin.Bytes.exported
  rw [Sem.wp_bind']
  unfold stack
  rw [Sem.wp_stack]
  show Q (List.any ((Γ.code, p) :: Γ.below) _) s
  refine Eq.mpr (congrArg (fun b => Q b s) (?_ : _ = false)) h
  rw [List.any_eq_false]
  rintro ⟨c, q⟩ hq
  have hc : nodec c = true := by
    rcases List.mem_cons.mp hq with e | hq
    · cases e; exact hc.1
    · exact hc.2 _ hq
  have out : ∀ {id : String} {args : Args}, holders.contains id = true → nodec (.builtin id args) = true → False := fun h1 h2 => by
    simp only [nodec, h1] at h2; cases h2
  clear hq
  cases c with
  | builtin id args =>
    have ne : ∀ k : String, holders.contains k = true → id ≠ k := fun k hk e => out hk (e ▸ hc)
    have n1 := ne "bytearray.__contains__" (by decide +kernel)
    have n2 := ne "bytearray.__mod__" (by decide +kernel)
    have n3 := ne "bytearray.__rmod__" (by decide +kernel)
    have n4 := ne "_struct.pack_into.held" (by decide +kernel)
    have n5 := ne "bytearray.find.held" (by decide +kernel)
    have dn : Builtin.Bytes.decodersThatHold.contains id = false := by
      cases q : Builtin.Bytes.decodersThatHold.contains id with
      | false => rfl
      | true => exact (out (id := id) (args := args) (by rw [holders, List.contains_eq_mem] at *; simp only [decide_eq_true_eq, List.mem_append] at *; exact .inr q) hc).elim
    obtain ⟨pos, kw⟩ := args
    unfold Builtin.Bytes.exported.match_1
    dsimp only
    refine fun e => Bool.false_ne_true (Eq.trans (Eq.symm ?_) e)
    cases pos with
    | nil => exact (dif_neg n1).trans ((dif_neg n2).trans ((dif_neg n3).trans ((dif_neg n4).trans (dif_neg n5))))
    | cons v r => exact (dif_neg n1).trans ((dif_neg n2).trans ((dif_neg n3).trans ((dif_neg n4).trans ((dif_neg n5).trans (show (_ && _) = false by rw [dn, Bool.and_false])))))
  | _ => exact Bool.false_ne_true

theorem wpC_if_false {α : Type} {M : Model} {c : Bool} {a b : Sem α} {Q : α → Shared → Prop} (hc : c = false) (h : wpC M A b Q E s) : wpC M A (if c = true then a else b) Q E s := by
  subst hc
  exact h
theorem wpC_if_true {α : Type} {M : Model} {c : Bool} {a b : Sem α} {Q : α → Shared → Prop} (hc : c = true) (h : wpC M A a Q E s) : wpC M A (if c = true then a else b) Q E s := by
  subst hc
  exact h

theorem write_barr {M : Model} {a : Addr} {b : Array UInt8} {f : Array UInt8 → Array UInt8} {Q : Unit → Shared → Prop} (ha : s.heap.get? a = some (barr b)) (hsz : (f b).size ≤ sizeLine) (h : Q () { s with heap := s.heap.update a (Obj.mapBytearray f) }) :
    wpAny M A (Builtin.Bytes.write (.ref a) f) Q E s := by
  show wpAny _ _ (updateBytearray a f) _ _ _
  unfold updateBytearray
  refine wpAny_bind (wpAny_load ha ?_)
  show wpAny _ _ (update a (Obj.mapBytearray f) >>= fun _ => lookBehind a) _ _ _
  refine wpAny_bind (wpAny_update ha ?_)
  have hS₂ : (s.heap.update a (Obj.mapBytearray f)).get? a = some (barr (f b)) := Heap.get?_update_self (Obj.mapBytearray f) ha rfl
  refine wpAny_lookBehind hS₂ ?_ h
  show (if (f b).size > sizeLine then some "bytearray:memory" else none) = none
  rw [if_neg]
  omega

theorem wpAny_eq_bind {α β : Type} {M : Model} {m : Sem α} {a : α} {f : α → Sem β} {Q : β → Shared → Prop} (e : m = pure a) (h : wpAny M A (f a) Q E s) : wpAny M A (m >>= f) Q E s := by
  subst e; exact wpAny_bind (wpAny_pure h)
theorem wpAny_spec_bind {β : Type} {M : Model} {v : Value} {T : String} {name : Str} {r : Option Value} {f : Option Value → Sem β} {Q : β → Shared → Prop} (hT : s.TypeIs v T) (hl : typeLookup (.type T) name = pure r) (h : wpAny M A (f r) Q E s) : wpAny M A (specialOf v name >>= f) Q E s :=
  wpAny_bind (wpAny_specialOf hT hl h)
theorem init_barr {a : Addr} {n : Nat} {t : Tok} {Q : PySem.Fin → Shared → Prop} (ha : s.heap.get? a = some (barr #[])) (h0 : 0 < n) (hn : n < 10000)
    (h : ∀ h', (∀ b o, b ≠ a → s.heap.get? b = some o → h'.get? b = some o) → h'.get? a = some (barr (Array.replicate n 0)) → h'.objs.size = s.heap.objs.size → Q (.done (.ret .none)) { s with heap := h' }) :
    wpC (model prog w) A (Builtin.«bytearray.__init__» ⟨[.ref a, .int n t], []⟩) Q E s := by
  have hT := barr_type ha
  have hline := sizeLine_eq
  unfold Builtin.«bytearray.__init__»
  refine wpC_bind (wpC_of_any (ownRelease_barr ha ?_))
  refine wpC_if_false rfl ?_
  refine wpC_bind (wpC_of_any (wpAny_of_eq (FA.bindOpt _) ?_))
  refine wpC_bind (wpC_of_any (wpAny_of_eq (a := ()) rfl ?_))
  refine wpC_bind (wpC_of_any (wpAny_of_eq (a := ()) rfl ?_))
  refine wpC_bind ?_
  refine wpC_bind (wpC_exported ?_)
  show wpC _ _ (Builtin.Bytes.exportsOf (.ref a) >>= _) _ _ _
  refine wpC_of_any (wpAny_bind ?_)
  refine wpAny_bind (wpAny_load ha ?_)
  refine wpAny_pure (wpAny_pure ?_)
  refine wpC_if_false rfl ?_
  refine wpC_of_any ?_
  refine wpAny_bind (write_barr ha (Nat.zero_le _) ?_)
  have ha1 : (s.heap.update a (Obj.mapBytearray fun _ => #[])).get? a = some (barr #[]) := Heap.get?_update_self (Obj.mapBytearray fun _ => #[]) ha rfl
  dsimp only
  have e2 : Builtin.Bytes.fitsIndex (n : Int) = true := by simp only [Builtin.Bytes.fitsIndex]; simp; omega
  have e3 : ¬ (n : Int) < 0 := by omega
  have e4 : ((n : Int) == 2 ^ 63 - 1) = false := by simp; omega
  have e5 : Builtin.Bytes.tooLong n = false := by simp [Builtin.Bytes.tooLong]; omega
  have e6 : (n : Int) > 0 := by omega
  generalize (2 ^ 63 - 1 : Int) = big at e4 ⊢
  with_reducible refine wpAny_eq_bind (show asStr? (.int (n : Int) t) = pure none from rfl) ?_
  with_reducible refine bm_if_false (c := Option.isSome none) ?_ ?_
  · rfl
  with_reducible refine wpAny_bind ?_
  with_reducible refine bm_if_false (c := Option.isSome none) ?_ ?_
  · rfl
  with_reducible refine bm_if_false (c := Option.isSome none) ?_ ?_
  · rfl
  with_reducible refine wpAny_pure ?_
  with_reducible refine wpAny_spec_bind (T := "int") (typeIs_int _ _ t) int_index ?_
  with_reducible refine bm_if_true (c := Option.isSome (some _)) ?_ ?_
  · rfl
  with_reducible refine wpAny_eq_bind (show (asIndex (.int (n : Int) t)).attempt = pure (Except.ok (n : Int)) from rfl) ?_
  dsimp only
  with_reducible refine bm_if_false (c := !Builtin.Bytes.fitsIndex _) ?_ ?_
  · rw [e2]; rfl
  with_reducible refine wpAny_ite_false (c := (n : Int) < 0) ?_ ?_
  · exact decide_eq_false e3
  with_reducible refine bm_if_false e4 ?_
  with_reducible refine bm_if_false (c := Builtin.Bytes.tooLong _) ?_ ?_
  · exact e5
  with_reducible refine wpAny_bind (wpAny_rule ?_)
  with_reducible refine wpAny_ite_true (c := (n : Int) > 0) ?_ ?_
  · exact decide_eq_true e6
  rw [Int.toNat_natCast]
  refine wpAny_bind (write_barr ha1 (by simp; omega) ?_)
  refine wpAny_pure ?_
  have ho := Heap.get?_update_self (Obj.mapBytearray fun _ => Array.replicate n 0) ha1 rfl
  refine h _ (fun b o hb e => ?_) ho (by simp [Heap.size_update])
  exact (Heap.get?_update_other _ _ (Ne.symm hb)).trans ((Heap.get?_update_other _ _ (Ne.symm hb)).trans e)
end
end
-- B7
section
theorem nodec_of {id : String} {args : Args} (h : holders.contains id = false) : nodec (.builtin id args) = true := by
  simp only [nodec, h, Bool.not_false]
section
variable {prog : Program} {w : World} {A : Around} {E : Value → Shared → Prop} {s : Shared}
theorem codeC_builtin {id : String} {args : Args} {b : Builtin} {R : Result → Shared → Prop} (hb : entryFor table id = some b)
    (h : wpC (model prog w) (A.under (.builtin id args)) (b args) (fun fin s' => match fin with | .done f => R (.ok f) s' | .again c' => c'.quiet = true ∧ nodec c' = true ∧ codeC (model prog w) A c' R s') (fun e s' => R (.error e) s') s) :
    codeC (model prog w) A (.builtin id args) R s := by
  refine codeC_of_tree ?_
  show wpC _ _ (match entryFor table id with | some b => b args | none => unsupported ((withoutEnding? id "#data").getD id)) _ _ s
  rw [hb]
  exact h
theorem codeC_call_builtin {id : String} {args : Args} {R : Result → Shared → Prop}
    (h : wpC (model prog w) A.in1 (do checkBuiltinCall id args; again (.builtin id args)) (fun fin s' => match fin with | .done f => R (.ok f) s' | .again c' => c'.quiet = true ∧ nodec c' = true ∧ codeC (model prog w) A c' R s') (fun e s' => R (.error e) s') s) :
    codeC (model prog w) A (.call (.builtin id) args) R s := codeC_of_tree h
theorem call_bytearray {n : Nat} {t : Tok} {Q : Value → Shared → Prop} (h0 : 0 < n) (hn : n < 10000)
    (h : ∀ D h', (∀ b o, s.heap.get? b = some o → h'.get? b = some o) → s.heap.objs.size ≤ D → h'.get? D = some (barr (Array.replicate n 0)) → Q (.ref D) { s with heap := h' }) :
    wpC (model prog w) A (call (.type "bytearray") [.int n t]) Q E s := by
  have ft := FA.called
  obtain ⟨c, tl, hmro⟩ := ft.mro
  refine wpC_call (codeC_of_tree ?_)
  show wpC _ _ (callAny (.type "bytearray") _) _ _ _
  refine wpC_pure ⟨Code.quiet_builtin _ (by decide +kernel), nodec_of (by decide +kernel), codeC_builtin F.entry_type_call ?_⟩
  rw [Around.under_plain (weight_type_call_type "bytearray" [.int n t] []) rfl]
  unfold Builtin.«type.__call__»
  dsimp only
  refine wpC_if_false ft.notType ?_
  refine wpC_if_false ft.canCreate ?_
  refine wpC_bind (wpC_of_any (wpAny_of_eq (FA.typeCall _) ?_))
  refine wpC_bind (wpC_of_any (wpAny_of_eq hmro ?_))
  refine wpC_if_false rfl ?_
  refine wpC_bind (wpC_of_any (wpAny_of_eq ft.made ?_))
  refine wpC_bind (wpC_pure ?_)
  refine wpC_bind (wpC_holding (wpC_of_any (wpAny_call ?_)))
  refine codeAny_mono (code_ba_new (E := fun _ _ => False) _ (Q₁ := fun v s' => v = .ref s.heap.objs.size ∧ s' = { s with heap := s.heap.push (barr #[]) }) ⟨rfl, rfl⟩) fun r s' hr => ?_
  rcases r with e | fl
  · exact hr.elim
  cases fl with
  | ret v => ?_
  | _ => exact hr.elim
  obtain ⟨rfl, rfl⟩ := hr
  show wpC _ _ _ _ _ _
  have hnew : (s.heap.push (barr #[])).get? s.heap.objs.size = some (barr #[]) := Heap.get?_push_size _ rfl
  have hT : ({ s with heap := s.heap.push (barr #[]) } : Shared).TypeIs (.ref s.heap.objs.size) "bytearray" := ⟨_, hnew, rfl⟩
  refine wpC_bind (wpC_of_any (wpAny_isInstance hT FA.sub_self ?_))
  refine wpC_if_false rfl ?_
  refine wpC_bind (wpC_holding ?_)
  simp only [callSpecial?]
  refine wpC_bind (wpC_of_any (wpAny_specialOf hT ft.init.lookup ?_))
  simp only [ft.init.bind]
  refine wpC_holding (wpC_bind (wpC_pure (wpC_bind (wpC_call (codeC_call_builtin ?_)))))
  refine wpC_bind (wpC_of_any (ft.init.check _ _ _ _ _ _ _ _ hT (FA.args_init _ _) ?_))
  refine wpC_pure ⟨plainId_quiet FA.plain_init _, nodec_of (by decide +kernel), codeC_builtin FA.entry_init ?_⟩
  refine init_barr hnew h0 hn fun h' hk ho hsz => ?_
  show wpC _ _ _ _ _ _
  refine wpC_pure ?_
  show wpC _ _ (if (Value.none != Value.none) = true then _ else _) _ _ _
  refine wpC_if_false (by decide) ?_
  exact wpC_pure (h _ _ (fun b o e => hk b o (Nat.ne_of_lt (Heap.lt_size e)) (Heap.get?_push_of_some _ e)) (Nat.le_refl _) ho)
end
end
-- B8
section
section
variable {α β : Type} {M : Model} {A : Around} {E : Value → Shared → Prop} {s : Shared} {env : Env}
theorem wpC_keep {vs : List Value} {m : Sem α} {Q : α → Shared → Prop} (h : wpC M A m Q E s) : wpC M A (m.keep vs) Q E s :=
  fun Γ p hΓ hc => by rw [Sem.wp_keep]; exact h Γ p hΓ hc
theorem wpC_operate {vs : List Value} {m : Sem Value} {Q : Value → Shared → Prop} (h : wpC M A m Q E s) : wpC M A (operate vs m) Q E s :=
  fun Γ p hΓ hc => by rw [Sem.wp_operate]; exact h Γ p hΓ hc
theorem execsC_nil {Q : Flow → Shared → Prop} (h : Q .next s) : wpC M A (execs [] env) Q E s := fun _ _ _ _ => h
theorem execsC_cons {st rest} {Q : Flow → Shared → Prop}
    (h : wpC M A (exec st env) (fun f s' => match f with | .next => wpC M A (execs rest env) Q E s' | f => Q f s') E s) :
    wpC M A (execs (st :: rest) env) Q E s := fun Γ p hΓ hc => by
  rw [execs_cons, Sem.wp_bind']
  refine Sem.wp_mono M Γ _ (fun f p' s' h' => ?_) (fun _ _ _ h' => h') _ _ (h Γ p hΓ hc)
  cases f <;> first | exact h' Γ p' hΓ hc | exact h'
theorem wp_execs_append {Γ : PySem.Ctx} {b : List Stmt} {Q : Flow → PySem.Pos → Shared → Prop} {E : Value → PySem.Pos → Shared → Prop} : ∀ {a : List Stmt} {p : PySem.Pos} {s : Shared},
    Sem.wp M Γ (execs a env) (fun f p' s' => match f with | .next => Sem.wp M Γ (execs b env) Q E p' s' | f => Q f p' s') E p s → Sem.wp M Γ (execs (a ++ b) env) Q E p s
  | [], p, s, h => h
  | st :: rest, p, s, h => by
    rw [execs_cons, Sem.wp_bind'] at h
    show Sem.wp M Γ (execs (st :: (rest ++ b)) env) Q E p s
    rw [execs_cons, Sem.wp_bind']
    refine Sem.wp_mono M Γ _ (fun f p' s' h' => ?_) (fun _ _ _ h' => h') _ _ h
    cases f with
    | next => exact wp_execs_append h'
    | _ => exact h'
/-- a run of statements off the path, the rest on it -/
theorem execsC_off {a b : List Stmt} {Q : Flow → Shared → Prop}
    (h : wpAny M A (execs a env) (fun f s' => match f with | .next => wpC M A (execs b env) Q E s' | f => Q f s') E s) :
    wpC M A (execs (a ++ b) env) Q E s := fun Γ p hΓ hc => by
  refine wp_execs_append (Sem.wp_mono M Γ _ (fun f p' s' h' => ?_) (fun _ _ _ h' => h') _ _ (h Γ p hΓ))
  cases f with
  | next => exact h' Γ p' hΓ hc
  | _ => exact h'
theorem AssignC_Name {x pos' value pos} {Q : Flow → Shared → Prop}
    (h : wpC M A (eval value env) (fun v s₁ => wpAny M A (storeName env x v) (fun _ => Q .next) E s₁) E s)
    (hs : swapsWith value (some (.Name x pos')) pos.line env = pure false := by rfl) :
    wpC M A (exec (.Assign [.Name x pos'] value pos) env) Q E s := fun Γ p hΓ hc => by
  simp only [exec_Assign_Name env x pos' value pos hs, Sem.wp_bind', Sem.wp_cmd_standAt, Sem.wp_bindName, Sem.wp_pure']
  exact Sem.wp_mono M Γ _ (fun v _ s₁ h₁ => h₁ Γ _ hΓ) (fun _ _ _ h' => h') _ _ (h Γ _ hΓ hc)
theorem ReturnC_some {e pos} {Q : Flow → Shared → Prop} (h : wpC M A (eval e env) (fun v => Q (.ret v)) E s) :
    wpC M A (exec (.Return (some e) pos) env) Q E s := fun Γ p hΓ hc => by
  simp only [exec_Return_some, Sem.wp_bind', Sem.wp_cmd_standAt, Sem.wp_pure']; exact h Γ _ hΓ hc
theorem ExprC {e pos} {Q : Flow → Shared → Prop} (h : wpC M A (eval e env) (fun v s' => match v with | .ref _ => False | _ => Q .next s') E s)
    (hi : interactive env = false := by rfl) (hs : swapsWith e none pos.line env = pure false := by rfl) :
    wpC M A (exec (.Expr e pos) env) Q E s := by
  rw [exec_Expr env e pos hi hs]
  refine wpC_bind (wpC_standAt (wpC_bind (wpC_mono h (fun v s' h' => ?_) fun _ _ x => x)))
  have hv : ∀ a, v ≠ .ref a := fun a hva => by subst hva; exact h'
  rw [dropValue_plain hv]
  refine wpC_pure ?_
  cases v <;> first | exact h' | exact (hv _ rfl).elim
theorem CallC {func : PySem.Expr} {args : List PySem.Expr} {pos : PySem.Pos} {Q : Value → Shared → Prop}
    (h : wpC M A (eval func env) (fun f s₁ => wpC M A (callWith pos f [] (backTo pos (starEach args env)) []) Q E s₁) E s)
    (he : eval (.Call func args [] pos) env = (do callWith pos (← eval func env) [] (backTo pos (starEach args env)) (backToKw pos (keywordEach [] env))) := by rfl) :
    wpC M A (eval (.Call func args [] pos) env) Q E s := by
  rw [he]; exact wpC_bind h
theorem MethodCallC {o : PySem.Expr} {name : Str} {apos pos : PySem.Pos} {args : List PySem.Expr} {pl : Sem Bool} {Q : Value → Shared → Prop}
    (h : wpC M A (eval o env) (fun ov s₁ => wpAny M A (getMethod ov name pl) (fun fx s₂ => wpC M A (callWith pos fx.1 fx.2 (backTo pos (starEach args env)) []) Q E s₂) E s₁) E s)
    (he : eval (.Call (.Attribute o name apos) args [] pos) env = (do
      let ov ← eval o env
      standAt apos.atName
      let (f, first) ← holding [ov] (getMethod ov name pl)
      callWith pos f first (backTo pos (starEach args env)) []) := by rfl) :
    wpC M A (eval (.Call (.Attribute o name apos) args [] pos) env) Q E s := by
  rw [he]
  refine wpC_bind (wpC_mono h (fun ov s₁ h₁ => wpC_bind (wpC_standAt (wpC_bind (wpC_holding (wpC_of_any (wpAny_mono h₁ (fun fx s₂ h₂ => ?_) fun _ _ x => x)))))) fun _ _ x => x)
  exact h₂
theorem splicedC_nil {Q : List Value → Shared → Prop} (h : Q [] s) : wpC M A (spliced []) Q E s := wpC_pure h
theorem splicedC_cons {x : Sem Value} {rest : List (Bool × Sem Value)} {Q : List Value → Shared → Prop}
    (h : wpC M A x (fun v s₁ => wpC M A (spliced rest) (fun vs s₂ => Q (v :: vs) s₂) E s₁) E s) : wpC M A (spliced ((false, x) :: rest)) Q E s := by
  rw [spliced]
  refine wpC_bind (wpC_mono h (fun v s₁ h₁ => ?_) fun _ _ x => x)
  simp only [Bool.false_eq_true, if_false]
  exact wpC_bind (wpC_pure (wpC_bind (wpC_holding (wpC_mono h₁ (fun vs s₂ h₂ => wpC_pure h₂) fun _ _ x => x))))
theorem evalArgsC {f : Value} {x : Sem Value} {rest : List (Bool × Sem Value)} {Q : Args → Shared → Prop}
    (h : wpC M A (spliced ((false, x) :: rest)) (fun vs s' => Q ⟨vs, []⟩ s') E s) : wpC M A (evalArgs f true ((false, x) :: rest) []) Q E s := by
  unfold evalArgs
  show wpC M A (spliced ((false, x) :: rest) >>= _) Q E s
  refine wpC_bind (wpC_mono h (fun vs s' h' => ?_) fun _ _ x => x)
  refine wpC_holding ?_
  exact wpC_bind (wpC_pure (wpC_bind (wpC_pure (wpC_pure h'))))
theorem tailC {t : Sem Value} {Q : Value → Shared → Prop} (ht : wpC M A t Q E s) : wpC M A (t >>= fun r => holding [r] point >>= fun _ => pure r) Q E s :=
  wpC_bind (wpC_mono ht (fun _ _ hr => wpC_bind (wpC_holding (wpC_of_any (wpAny_point (wpC_pure hr))))) fun _ _ x => x)
theorem callWithC_builtin {pos : PySem.Pos} {id : String} {first : List Value} {args : List (Bool × Sem Value)} {Q : Value → Shared → Prop} (hplain : args.any (·.1) = false)
    (h : wpC M A (evalArgs (.builtin id) true args []) (fun a s₁ => wpC M A (call (.builtin id) (first ++ a.pos) a.kw) Q E s₁) E s) :
    wpC M A (callWith pos (.builtin id) first args []) Q E s := by
  unfold callWith
  refine wpC_bind (wpC_holding (wpC_mono h (fun a s₁ h₁ => wpC_bind (wpC_standAt ?_)) fun _ _ x => x))
  simp only [hplain, List.any_nil, Bool.or_false]
  refine wpC_bind (wpC_pure ?_)
  exact tailC h₁
theorem callWithC_type {pos : PySem.Pos} {T : String} {first : List Value} {args : List (Bool × Sem Value)} {Q : Value → Shared → Prop} (hplain : args.any (·.1) = false)
    (h : wpC M A (evalArgs (.type T) true args []) (fun a s₁ => wpC M A (call (.type T) (first ++ a.pos) a.kw) Q E s₁) E s) :
    wpC M A (callWith pos (.type T) first args []) Q E s := by
  unfold callWith
  refine wpC_bind (wpC_holding (wpC_mono h (fun a s₁ h₁ => wpC_bind (wpC_standAt ?_)) fun _ _ x => x))
  simp only [hplain, List.any_nil, Bool.or_false]
  refine wpC_bind (wpC_pure ?_)
  exact tailC h₁
theorem callWithC_function {pos : PySem.Pos} {a : Addr} {o : Obj} {fd : FuncData} {first : List Value} {args : List (Bool × Sem Value)} {Q : Value → Shared → Prop}
    (h : wpC M A (evalArgs (.ref a) true args []) (fun x s₁ => (s₁.heap.get? a = some o ∧ o.data = .func fd) ∧ wpC M A (call (.ref a) (first ++ x.pos) x.kw) Q E s₁) E s) :
    wpC M A (callWith pos (.ref a) first args []) Q E s := by
  unfold callWith
  refine wpC_bind (wpC_holding (wpC_mono h (fun x s₁ h₁ => wpC_bind (wpC_standAt ?_)) fun _ _ x => x))
  cases hs : args.any (·.1) <;> simp only [List.any_nil, Bool.or_false] <;>
    refine wpC_bind (m := keeperOf (.ref a)) ?_ <;> unfold keeperOf <;>
    refine wpC_bind (wpC_of_any (wpAny_load h₁.1.1 ?_)) <;> rw [h₁.1.2] <;> refine wpC_pure ?_
  · dsimp only
    split
    · exact tailC h₁.2
    · unfold callMarked; exact tailC (wpC_keep h₁.2)
  · dsimp only
    unfold callMarked; exact tailC (wpC_keep h₁.2)
theorem argsC_nil {pos : PySem.Pos} {Q : List Value → Shared → Prop} (h : Q [] s) : wpC M A (spliced (backTo pos (starEach [] env))) Q E s := splicedC_nil h
theorem argsC_cons {e : PySem.Expr} {rest : List PySem.Expr} {pos : PySem.Pos} {Q : List Value → Shared → Prop}
    (h : wpC M A (eval e env) (fun v s₁ => wpC M A (spliced (backTo pos (starEach rest env))) (fun vs s₂ => Q (v :: vs) s₂) E s₁) E s)
    (he : starEach (e :: rest) env = (false, eval e env) :: starEach rest env := by rfl) : wpC M A (spliced (backTo pos (starEach (e :: rest) env))) Q E s := by
  rw [he]; exact splicedC_cons h
theorem callC_type1 {pos : PySem.Pos} {T : String} {e : PySem.Expr} {rest : List PySem.Expr} {Q : Value → Shared → Prop}
    (h : wpC M A (spliced (backTo pos (starEach (e :: rest) env))) (fun vs s₁ => wpC M A (call (.type T) vs) Q E s₁) E s)
    (he : starEach (e :: rest) env = (false, eval e env) :: starEach rest env := by rfl)
    (hplain : (backTo pos (starEach rest env)).any (·.1) = false := by rfl) :
    wpC M A (callWith pos (.type T) [] (backTo pos (starEach (e :: rest) env)) []) Q E s := by
  rw [he] at h ⊢
  exact callWithC_type (by show (false || (backTo pos (starEach rest env)).any (·.1)) = false; rw [hplain]; rfl) (evalArgsC h)
theorem callC_builtin1 {pos : PySem.Pos} {id : String} {first : List Value} {e : PySem.Expr} {rest : List PySem.Expr} {Q : Value → Shared → Prop}
    (h : wpC M A (spliced (backTo pos (starEach (e :: rest) env))) (fun vs s₁ => wpC M A (call (.builtin id) (first ++ vs)) Q E s₁) E s)
    (he : starEach (e :: rest) env = (false, eval e env) :: starEach rest env := by rfl)
    (hplain : (backTo pos (starEach rest env)).any (·.1) = false := by rfl) :
    wpC M A (callWith pos (.builtin id) first (backTo pos (starEach (e :: rest) env)) []) Q E s := by
  rw [he] at h ⊢
  exact callWithC_builtin (by show (false || (backTo pos (starEach rest env)).any (·.1)) = false; rw [hplain]; rfl) (evalArgsC h)
theorem callC_def1 {pos : PySem.Pos} {f : Addr} {o : Obj} {fd : FuncData} {e : PySem.Expr} {rest : List PySem.Expr} {Q : Value → Shared → Prop} (hdat : o.data = .func fd)
    (h : wpC M A (spliced (backTo pos (starEach (e :: rest) env))) (fun vs s₁ => s₁.heap.get? f = some o ∧ wpC M A (call (.ref f) vs) Q E s₁) E s)
    (he : starEach (e :: rest) env = (false, eval e env) :: starEach rest env := by rfl) :
    wpC M A (callWith pos (.ref f) [] (backTo pos (starEach (e :: rest) env)) []) Q E s := by
  rw [he] at h ⊢
  exact callWithC_function (o := o) (fd := fd) (evalArgsC (wpC_mono h (fun vs s₁ h₁ => ⟨⟨h₁.1, hdat⟩, h₁.2⟩) fun _ _ x => x))
theorem callC_defK {K : Frag} {h₀ : Heap} {pos : PySem.Pos} {f : Addr} {oc : Value} {od : Option Addr} {osl : Array (Option Value)} {fd : FuncData} {e : PySem.Expr} {rest : List PySem.Expr} {Q : Value → Shared → Prop} (X : K.In h₀) (ho : K.lookup f = some ⟨oc, od, .func fd, osl⟩)
    (h : wpC M A (spliced (backTo pos (starEach (e :: rest) env))) (fun vs s₁ => (∀ b o, h₀.get? b = some o → s₁.heap.get? b = some o) ∧ wpC M A (call (.ref f) vs) Q E s₁) E s)
    (he : starEach (e :: rest) env = (false, eval e env) :: starEach rest env := by rfl) :
    wpC M A (callWith pos (.ref f) [] (backTo pos (starEach (e :: rest) env)) []) Q E s :=
  callC_def1 (o := ⟨oc, od, .func fd, osl⟩) rfl (wpC_mono h (fun vs s₁ h₁ => ⟨h₁.1 _ _ (X _ _ ho), h₁.2⟩) fun _ _ x => x) he
theorem ForC {target iter body orelse pos} {Q : Flow → Shared → Prop}
    (h : wpAny M A (eval iter env) (fun x s₁ => wpAny M A (pyIter x) (fun it s₂ =>
      codeC M A (.forLoop target it body orelse env) (fun r s' => match r with | .ok f => Q f s' | .error _ => False) s₂) E s₁) E s)
    (hs : ∀ x, foldedSetIterable iter env x = pure x := by intro _; rfl) :
    wpC M A (exec (.For target iter body orelse pos) env) Q E s := by
  rw [exec_For]
  refine wpC_bind (wpC_standAt (wpC_bind (wpC_of_any (wpAny_mono h (fun x s₁ h₁ => wpC_bind (wpC_of_any (wpAny_of_eq (hs x) (wpC_bind (wpC_standAt (wpC_bind (wpC_holding (wpC_of_any
    (wpAny_mono h₁ (fun it s₂ h₂ => ?_) fun _ _ h' => h')))))))))  fun _ _ h' => h'))))
  unfold runOwn
  exact wpC_onRaise (wpC_run rfl h₂)
theorem wpC_noted {env : Env} {m : Sem α} {Q : α → Shared → Prop} (h : wpC M A m Q (fun _ _ => False) s) : wpC M A (m.onRaise fun x => do noteFrame x env; theTreesLotGoes x) Q E s := wpC_onRaise h
end

section
variable {prog : Program} {w : World} {A : Around} {E : Value → Shared → Prop} {s : Shared}
theorem forLoopC {R : Result → Shared → Prop} {target it body orelse env} (I : Nat → Shared → Prop)
    (turn : ∀ n s, I n s → wpAny (model prog w) A (pyNext it) (fun r s₁ => match r with
      | none => wpAny (model prog w) A (execs orelse env) (fun f s₃ => R (.ok f) s₃) (fun _ _ => False) s₁
      | some v => wpAny (model prog w) A (letOwnedTupleGo target it v) (fun _ s₁' =>
          wpAny (model prog w) A (assign target env v) (fun _ s₂ => wpC (model prog w) A (execs body env) (fun f s₃ => match f with
            | .next | .cont => ∃ m, m < n ∧ I m s₃
            | .brk => R (.ok .next) s₃
            | .ret v => R (.ok (.ret v)) s₃) (fun _ _ => False) s₂) (fun _ _ => False) s₁') (fun _ _ => False) s₁) (fun _ _ => False) s)
    (n : Nat) (h : I n s) : codeC (model prog w) A (.forLoop target it body orelse env) R s := by
  induction n using Nat.strongRecOn generalizing s with
  | ind n ih =>
    refine codeC_of_tree ?_
    show wpC _ A ((forTurn target it body orelse env).onRaise (fun x => do noteFrame x env; theTreesLotGoes x)) _ _ s
    refine wpC_noted ?_
    simp only [forTurn]
    refine wpC_bind (wpC_standAt (wpC_bind (wpC_onRaise (wpC_of_any (wpAny_mono (turn n s h) (fun r s₁ h₁ => ?_) fun _ _ h' => h')))))
    cases r with
    | none => exact wpC_pure ⟨rfl, rfl, codeC_of_any (codeAny_block (wpAny_mono h₁ (fun _ _ x => x) fun _ _ x => x.elim))⟩
    | some v =>
      refine wpC_bind (wpC_of_any (wpAny_mono h₁ (fun _ s₁' h₁' => ?_) fun _ _ h' => h'))
      refine wpC_bind (wpC_of_any (wpAny_mono h₁' (fun _ s₂ h₂ => wpC_bind (wpC_mono h₂ (fun f s₃ h₃ => ?_) fun _ _ h' => h')) fun _ _ h' => h'))
      cases f with
      | next => obtain ⟨m, hm, hI⟩ := h₃; exact wpC_pure ⟨rfl, rfl, ih m hm hI⟩
      | cont => obtain ⟨m, hm, hI⟩ := h₃; exact wpC_pure ⟨rfl, rfl, ih m hm hI⟩
      | brk => exact wpC_pure h₃
      | ret v => exact wpC_pure h₃

theorem forWC {target : PySem.Expr} {body orelse : List Stmt} {env : Env} {Q : Flow → Shared → Prop} {I : Addr} {fp wr : List Addr} {n : Nat} {P : Nat → Value → Prop} {St : Nat → Heap → Prop}
    (W : Walks prog w A I fp wr n P St) (hwr : ∀ b ∈ wr, b = I) (href : Heap) (hfp : ∀ b ∈ fp, b = I ∨ ∃ o, href.get? b = some o) (J : Nat → Shared → Prop)
    (hJ : ∀ i s, J i s → ∀ b o, href.get? b = some o → s.heap.get? b = some o)
    (hup : ∀ i s h' tk, J i s → (∀ b o, b ≠ I → s.heap.get? b = some o → h'.get? b = some o) → J i { s with heap := h', toks := tk })
    (hat : ∀ i h, St i h → ∃ o, h.get? I = some o)
    (turn : ∀ i v s o, i < n → P i v → J i s → s.heap.get? I = some o → St (i + 1) s.heap → wpAny (model prog w) A (letOwnedTupleGo target (.ref I) v) (fun _ s₁ =>
        wpAny (model prog w) A (assign target env v) (fun _ s₂ => wpC (model prog w) A (execs body env) (fun f s₃ => match f with
            | .next => Halt (J (i + 1) s₃ ∧ s₃.heap.get? I = some o)
            | .cont => Halt (J (i + 1) s₃ ∧ s₃.heap.get? I = some o)
            | .brk => Q .next s₃
            | .ret v => Q (.ret v) s₃) (fun _ _ => False) s₂) (fun _ _ => False) s₁) (fun _ _ => False) s)
    (done : ∀ s, J n s → wpAny (model prog w) A (execs orelse env) Q (fun _ _ => False) s)
    (st : St 0 s.heap) (j : J 0 s) : codeC (model prog w) A (.forLoop target (.ref I) body orelse env) (fun r s' => match r with | .ok f => Q f s' | .error _ => False) s := by
  refine forLoopC (fun k s => ∃ i, i ≤ n ∧ n - i = k ∧ J i s ∧ St i s.heap) (fun k s hI => ?_) n ⟨0, Nat.zero_le _, rfl, j, st⟩
  obtain ⟨i, hi, hk, hj, hst⟩ := hI
  by_cases hin : i < n
  · refine W.item i s _ _ hin hst fun v h' tk hP hst' hkp => ?_
    obtain ⟨o, ho⟩ := hat _ _ hst'
    have hj' := hup i s h' tk hj fun b o hb e => hkp b o (fun hm => hb (hwr b hm)) e
    refine wpAny_mono (turn i v _ o hin hP hj' ho hst') (fun _ s₁ h₁ => wpAny_mono h₁ (fun _ s₂ h₂ => wpC_mono h₂ (fun f s₃ h₃ => ?_) fun _ _ x => x.elim) fun _ _ x => x.elim) fun _ _ x => x.elim
    have close : (J (i + 1) s₃ ∧ s₃.heap.get? I = some o) → ∃ m, m < k ∧ ∃ i, i ≤ n ∧ n - i = m ∧ J i s₃ ∧ St i s₃.heap := fun h => by
      refine ⟨n - (i + 1), by omega, i + 1, hin, rfl, h.1, W.frame _ _ _ hst' fun b hb ob e => ?_⟩
      rcases hfp b hb with rfl | ⟨o', ho'⟩
      · rw [ho] at e; cases e; exact h.2
      · have e1 := hJ _ _ hj' b o' ho'
        rw [e1] at e; cases e
        exact hJ _ _ h.1 b _ ho'
    cases f with
    | next => exact close (Halt.go h₃)
    | cont => exact close (Halt.go h₃)
    | brk => exact h₃
    | ret v => exact h₃
  · obtain rfl : i = n := by omega
    refine W.done s _ _ hst fun h' tk hkp => ?_
    exact wpAny_mono (done _ (hup i s h' tk hj fun b o hb e => hkp b o (fun hm => hb (hwr b hm)) e)) (fun f s₃ h₃ => h₃) fun _ _ x => x.elim

theorem call_functionC {R : Result → Shared → Prop} {a : Addr} {args : Args} {o : Obj} {fd : FuncData} {body : List Stmt} (hroom : A.depth < recursionLimit)
    (ho : s.heap.get? a = some o)
    (hd' : o.data = .func fd) (hco : fd.scope.isCoroutine = false) (hgen : fd.scope.isGenerator = false) (hbody : fd.body = .stmts body) (hcd : s.heap.CodeRec fd.code fd.qualname)
    (h : wpAny (model prog w) A.in1 (bindArgs fd args) (fun binds s₁ =>
      wpAny (model prog w) A.in1 (newFunctionEnv fd.scope fd.globals fd.closure binds (fd.qualname ++ ".<locals>.") (some a) fd.code none fd.builtins)
        (fun env s₂ => s₂.heap.NoLimit ∧ codeC (model prog w) A (.func body env) R s₂) (fun e s' => R (.error e) s') s₁) (fun e s' => R (.error e) s') s) :
    codeC (model prog w) A (.call (.ref a) args) R s := by
  refine codeC_of_tree ?_
  show wpC _ A.in1 (callAny (.ref a) args) _ _ s
  simp only [callAny]
  refine wpC_bind (wpC_of_any (wpAny_load ho ?_))
  obtain ⟨c, oc, vs, tq, hc, hoc, hdc, hq⟩ := hcd
  simp only [hd', callFunction, hco, hgen, hbody, hc]
  rw [hc] at h
  refine wpC_bind (m := field (.ref c) 1) (wpC_of_any (wpAny_field hoc hdc hq (wpC_bind (wpC_pure ?_))))
  exact wpC_bind (wpC_of_any (wpAny_mono h (fun binds s₁ h₁ => wpC_bind (wpC_of_any (wpAny_mono h₁ (fun env s₂ h₂ => wpC_bind (wpC_of_any (wpAny_enterFrame h₂.1 hroom
    (wpC_pure (And.intro rfl (And.intro rfl h₂.2)))))) fun _ _ h' => h'))) fun _ _ h' => h'))
theorem funcC {R : Result → Shared → Prop} {body env}
    (h : wpC (model prog w) (A.deeper env) (execs body env) (fun f s' => R (.ok (.ret (match f with | .ret v => v | _ => .none))) s')
      (fun _ _ => False) s) :
    codeC (model prog w) A (.func body env) R s := by
  refine codeC_of_tree ?_
  show wpC _ (A.deeper env) (do point; match ← (execs body env).onRaise (leaving env) with | .ret v => ret v | _ => ret .none) _ _ s
  refine wpC_bind (wpC_of_any (wpAny_point (wpC_bind (wpC_onRaise (wpC_mono h (fun f s' h' => ?_) fun _ _ h' => h')))))
  cases f <;> exact wpC_pure h'

theorem enterXC {K : Frag} {R : Result → Shared → Prop} {name qual : Str} {params : Arguments} {body : List Stmt} {scope : Scope} {cl : List (Str × Addr)} {dV kV doc pm cdv ct oc : Value} {an od : Option Addr} {osl : Array (Option Value)} {f : Addr} {args : Args} (binds : List (Str × Value)) (pad : List Str)
    (X : K.In s.heap) (hl : s.heap.NoLimit)
    (ho : K.lookup f = some ⟨oc, od, .func (fnX name qual params body scope cl dV kV doc pm an cdv ct), osl⟩) (hcd : codeIn K cdv qual = true) (hroom : A.depth < recursionLimit)
    (hbind : BindsTo s (fnX name qual params body scope cl dV kV doc pm an cdv ct) args binds) (hloc : ∀ y ∈ binds, scope.names.lookup y.1 = some .local)
    (h : ∀ L h₁, Fr s.heap L h₁ (mp ((binds.reverse.map fun p => (p.1, some p.2)) ++ pad.map fun x => (x, none))) →
      wpC (model prog w) (A.deeper (envX qual scope L f cdv cl)) (execs body (envX qual scope L f cdv cl))
        (fun fl s' => R (.ok (.ret (match fl with | .ret v => v | _ => .none))) s') (fun _ _ => False)
        { s with heap := h₁, toks := s.toks + binds.length })
    (hcell : ∀ x ∈ scope.names, x.2 ≠ .cell) (hco : scope.isCoroutine = false) (hgen : scope.isGenerator = false) (hk : scope.kind = .function) : codeC (model prog w) A (.call (.ref f) args) R s := by
  refine call_functionC (fd := fnX name qual params body scope cl dV kV doc pm an cdv ct) (body := body) hroom (X _ _ ho) rfl hco hgen rfl (codeRec_of X hcd) (hbind _ _ _ _ ?_)
  refine wpAny_newFunctionEnv hcell hloc (fun h₀ hns₀ hsb₀ => ⟨hl.fresh _ hsb₀, funcC (h s.heap.objs.size h₀ (Fr.cong ⟨hns₀, fun b o e => ?_, Nat.le_refl _⟩ fun y => by rw [mp_pad, ← lookup_mp]))⟩) hk
  exact hsb₀.extBut b o (Nat.ne_of_lt (Heap.lt_size e)) (Heap.get?_push_of_some _ e)

theorem enterCC {K : Frag} {R : Result → Shared → Prop} {name qual : Str} {params : Arguments} {body : List Stmt} {scope : Scope} {dV kV doc pm cdv ct oc : Value} {an od : Option Addr} {osl : Array (Option Value)} {f : Addr} {args : Args} (binds : List (Str × Value))
    (X : K.In s.heap) (hl : s.heap.NoLimit)
    (ho : K.lookup f = some ⟨oc, od, .func (fnX name qual params body scope [] dV kV doc pm an cdv ct), osl⟩) (hcd : codeIn K cdv qual = true) (hroom : A.depth < recursionLimit)
    (hbind : BindsTo s (fnX name qual params body scope [] dV kV doc pm an cdv ct) args binds)
    (hkind : (binds.all fun y => scope.names.lookup y.1 == some .local || scope.names.lookup y.1 == some .cell) = true)
    (hnd : ((cellsFrom 0 scope.names []).map (·.1)).Nodup)
    (h : ∀ L h₁ tk cells, Fr s.heap L h₁ (bindL (envOfC qual scope L f cdv).kindOf binds fun _ => none) → News s.heap L h₁ cells →
      CellsAre (bindC (envOfC qual scope L f cdv).kindOf binds fun _ => none) (cellsFrom (L + 1) scope.names []) cells →
      wpC (model prog w) (A.deeper (envOfC qual scope L f cdv)) (execs body (envOfC qual scope L f cdv))
        (fun fl s' => R (.ok (.ret (match fl with | .ret v => v | _ => .none))) s') (fun _ _ => False)
        { s with heap := h₁, toks := tk })
    (hco : scope.isCoroutine = false) (hgen : scope.isGenerator = false) (hk : scope.kind = .function) : codeC (model prog w) A (.call (.ref f) args) R s := by
  refine call_functionC hroom (X _ _ ho) rfl hco hgen rfl (codeRec_of X hcd) (hbind _ _ _ _ ?_)
  refine wpAny_newFunctionEnv_cells hk (kindsX hkind _) fun env' he s' x => ?_
  subst he
  refine ⟨hl.keeps x.toInCall.keep, funcC ?_⟩
  obtain ⟨h₁, tk, rfl, _⟩ := x.done
  have hk₁ := x.toInCall.keep
  obtain ⟨cells, NC, Y⟩ := Cl.news (h₀ := s.heap) (Nat.le_refl _) fun n c hm => ⟨x.cell n c (lookup_of_mem_nodup (cellsFrom_names scope.names 0 (s.heap.objs.size + 1) [] [] rfl ▸ hnd) hm), x.above n c hm⟩
  exact h s.heap.objs.size h₁ tk cells ⟨x.toInCall.ns, hk₁, Nat.le_refl _⟩ NC Y
end

section
variable {M : Model} {A : Around} {E : Value → Shared → Prop} {s : Shared} {env : Env}
/-- a list comprehension whose first iterable is on the path -/
theorem compC {elt iter : PySem.Expr} {x : Str} {px : PySem.Pos} {ifs : List PySem.Expr} {scope : Scope} {pos : PySem.Pos} {Q : Value → Shared → Prop} {cl : List (Str × Addr)} (hclos : closureFor scope env = pure cl)
    (h : wpC M A (eval iter env) (fun v s₁ => wpAny M A (comprehension (.ListComp elt [⟨.Name x px, iter, ifs, 0⟩] scope pos) scope env (firstIterPos [⟨.Name x px, iter, ifs, 0⟩] pos) (newList []) false (pure v) none) Q E s₁) E s) :
    wpC M A (eval (.ListComp elt [⟨.Name x px, iter, ifs, 0⟩] scope pos) env) Q E s := by
  rw [eval_ListComp]
  have e : comprehension (.ListComp elt [⟨.Name x px, iter, ifs, 0⟩] scope pos) scope env (firstIterPos [⟨.Name x px, iter, ifs, 0⟩] pos) (newList []) false (eval iter env) none =
      (eval iter env >>= fun v => comprehension (.ListComp elt [⟨.Name x px, iter, ifs, 0⟩] scope pos) scope env (firstIterPos [⟨.Name x px, iter, ifs, 0⟩] pos) (newList []) false (pure v) none) := by
    unfold comprehension
    rw [hclos]
    rfl
  show wpC M A (comprehension (.ListComp elt [⟨.Name x px, iter, ifs, 0⟩] scope pos) scope env (firstIterPos [⟨.Name x px, iter, ifs, 0⟩] pos) (newList []) false (eval iter env) none) Q E s
  rw [e]
  exact wpC_bind (wpC_mono h (fun v s₁ h₁ => wpC_of_any h₁) fun _ _ x => x)
end
end
-- Swap
section
theorem anew_Swap : True := by
  w_top off
  exact True.intro
theorem rng3 {prog : Program} {w : World} {A : Around} {s : Shared} {E : Value → Shared → Prop} {a b c : Int} {n : Nat} {t u v : Tok} {Q : Value → Shared → Prop} (hc0 : c ≠ 0) (hc : c.natAbs < 1073741824) (hs : Builtin.Range.small a b c = true) (hn : Builtin.Range.rangeSize a b c = n)
    (hq : ∀ I h' tk, s.heap.objs.size < I → (∀ b o, s.heap.get? b = some o → h'.get? b = some o) → IsRangeIter h' I (a + ((0 : Nat) : Int) * c) ((n : Int) - ((0 : Nat) : Int)) c → h'.objs.size = I + 1 → Q (.ref I) { s with heap := h', toks := tk }) :
    wpAny (model prog w) A (call (.type "range") [.int a t, .int b u, .int c v]) (fun x s₁ => wpAny (model prog w) A (pyIter x) Q E s₁) E s := by
  refine call_range_3 hc0 ?_ (.inl (PyProof.noPylong_small hc))
  refine rng_core rfl hs hn fun I h' h1 h2 h3 h4 => ?_
  exact hq I h' _ h1 h2 h3 h4
theorem size_once {n : Int} (h : 0 < n) : Builtin.Range.rangeSize 0 n n = ((1 : Nat) : Int) := by
  unfold Builtin.Range.rangeSize
  rw [if_pos h, if_pos h, Int.ediv_eq_zero_of_lt (by omega) (by omega)]
  rfl
theorem small_once {n : Int} (h : 0 < n) (h2 : n < 100000) : Builtin.Range.small 0 n n = true := by
  unfold Builtin.Range.small
  rw [size_once h]
  simp only [Builtin.Range.rangeFitsLong, Bool.and_eq_true, Bool.or_eq_true, decide_eq_true_eq, beq_iff_eq, h, if_true]
  have a : -(2 ^ 63) ≤ n ∧ n < 2 ^ 63 := ⟨Int.le_trans (by decide) (Int.le_of_lt h), Int.lt_trans h2 (by decide)⟩
  exact ⟨⟨⟨⟨by decide, a⟩, a⟩, by decide⟩, .inr ⟨Int.le_trans (by decide) (Int.add_nonneg (Int.le_of_lt h) (Int.sub_nonneg_of_le h)), Int.lt_trans (Int.add_lt_add h2 (Int.lt_trans (Int.sub_lt_self n (by decide)) h2)) (by decide)⟩⟩
theorem nat_sub2 {n x : Nat} (h : x < n) : (n : Int) - 1 - (x : Int) = ((n - 1 - x : Nat) : Int) := by rw [Int.natCast_sub (Nat.le_sub_one_of_lt h), Int.natCast_sub (Nat.succ_le_of_lt (Nat.zero_lt_of_lt h))]; rfl
theorem sub_one_lt {n x : Nat} (h : x < n) : n - 1 - x < n := Nat.lt_of_le_of_lt (Nat.sub_le _ _) (Nat.sub_lt (Nat.zero_lt_of_lt h) (by decide))
noncomputable def swp (b : List UInt8) : Nat → Array UInt8
  | 0 => Array.replicate b.length 0
  | j + 1 => (swp b j).setIfInBounds (b.length - 1 - j) (b.getD j 0)
theorem swp_size (b : List UInt8) : ∀ j, (swp b j).size = b.length
  | 0 => by simp [swp]
  | j + 1 => by simp [swp, swp_size b j]
theorem swp_get (b : List UInt8) : ∀ j, j ≤ b.length → ∀ k, k < b.length → b.length - 1 - k < j → (swp b j)[k]? = some (b.getD (b.length - 1 - k) 0)
  | 0, _, k, _, hk => absurd hk (Nat.not_lt_zero _)
  | j + 1, hj, k, h, hk => by
    have hs := swp_size b j
    simp only [swp, Array.getElem?_setIfInBounds]
    split
    · next e =>
      have : b.length - 1 - k = j := by rw [← e]; exact Nat.sub_sub_self (Nat.le_sub_one_of_lt hj)
      rw [this, if_pos (by rw [e, hs]; exact h)]
    · next e => exact swp_get b j (Nat.le_of_succ_le hj) k h (Nat.lt_of_le_of_ne (Nat.le_of_lt_succ hk) fun q => e (by rw [← q]; exact Nat.sub_sub_self (Nat.le_sub_one_of_lt h)))
theorem swp_all (b : List UInt8) : swp b b.length = b.reverse.toArray := by
  apply Array.ext_getElem?
  intro k
  by_cases hk : k < b.length
  · have hk2 := sub_one_lt hk
    rw [swp_get b _ (Nat.le_refl _) k hk hk2]
    simp [hk, hk2]
  · rw [Array.getElem?_eq_none (by rw [swp_size]; exact Nat.le_of_not_lt hk), Array.getElem?_eq_none (by rw [List.size_toArray, List.length_reverse]; exact Nat.le_of_not_lt hk)]
section
local macro_rules | `(tactic| walk_at $s) => if among "exec For Name Call cons nil|call type:range" s then `(tactic| refine Halt.go ?_) else Lean.Macro.throwUnsupported
inductive SwJ1 (s : Shared) (L D : Addr) (b : List UInt8) (t1 t2 : Tok) (i : Nat) (s' : Shared) : Prop
  | mk (oi oj : Option Value) (h' : Heap) (tk : Nat) : s' = { s with heap := h', toks := tk } → Fr s.heap L h' (mp [("width", some (.int b.length t2)), ("data", some (.bytes b.toArray t1)), ("swapped_data", some (.ref D)), ("i", oi), ("j", oj)]) → News s.heap L h' [(D, barr (swp b (i * b.length)))] → SwJ1 s L D b t1 t2 i s'
inductive SwJ2 (s : Shared) (L D : Addr) (b : List UInt8) (t1 t2 t : Tok) (I : Addr) (o : Obj) (i : Nat) (s' : Shared) : Prop
  | mk (oj : Option Value) (h' : Heap) (tk : Nat) : s' = { s with heap := h', toks := tk } → Fr s.heap L h' (mp [("width", some (.int b.length t2)), ("data", some (.bytes b.toArray t1)), ("swapped_data", some (.ref D)), ("i", some (.int 0 t)), ("j", oj)]) → News s.heap L h' [(I, o), (D, barr (swp b i))] → SwJ2 s L D b t1 t2 t I o i s'
theorem swap_spec {w : World} {mean : ExcName → Option Value} {mg mb : Str → Option Value} {p : Program} {loose : List Str} {A : Around} {s : Shared} {E : Value → Shared → Prop}
  (X : Frag.In (hd.heap_1 w.params) s.heap) (T : Top p loose mean mg mb s.heap) (hA : Ok A 10 80) {b : List UInt8} {n : Nat} {t1 t2 : Tok} (hn : b.length = n) (h0 : 0 < n) (h1 : n < 1000) :
  wpC (model _root_.PySem.Challenge.rw_pe0169_01.row.prog w) A (call (.ref 189) [.bytes b.toArray t1, .int n t2]) (fun v s' => Halt (∃ t, v = .bytes b.reverse.toArray t ∧ Keeps s s')) E s := by
  revert X
  k_fill
  intro X
  refine wpC_call ?_
  k_dflt (refine' enterXC [("data", .bytes b.toArray t1), ("width", .int n t2)] ["swapped_data", "i", "j"] ?k1 ?k2 ?k3 ?k4 ?k5 ?k6 ?k7 ?_ ?c1 ?c2 ?c3 ?c4; (case k1 => k_asm); (case k2 => exact T.nolimit); (case k3 => k_is); (case k4 => k_is); (case k5 => exact Nat.lt_of_le_of_lt (Nat.le_add_right _ _) hA.d); (case k6 => exact BindsTo.of_eq rfl); (case k7 => exact locs rfl); (case c1 => decide); (case c2 => exact rfl); (case c3 => exact rfl); (case c4 => exact rfl); k_whole)
  intro L h₁ F
  replace F : Fr s.heap L h₁ (mp [("width", some (.int n t2)), ("data", some (.bytes b.toArray t1)), ("swapped_data", none), ("i", none), ("j", none)]) := F
  have N : News s.heap L h₁ [] := News.nil
  refine execsC_cons (AssignC_Name (CallC (wpC_of_any ?_)))
  show wpAny _ _ _ _ _ _
  k_fold
  k_steps
  refine callC_type1 (argsC_cons (wpC_of_any ?_))
  k_steps
  refine argsC_nil ?_
  subst hn; rw [List.size_toArray]
  have hn0 : (0 : Int) < b.length := Int.natCast_pos.mpr h0
  have hfit : b.length ≤ sizeLine := by rw [sizeLine_eq]; exact Nat.le_trans (Nat.le_of_lt h1) (by decide)
  rename_i F
  refine call_bytearray h0 (by omega) fun D h₂ hk₂ hD₂ hd₂ => ?_
  dsimp only at hk₂ hD₂
  have hLD : @Ne Nat L D := Nat.ne_of_lt (Nat.lt_of_lt_of_le F.ns.lt hD₂)
  have hD0 : s.heap.get? D = none := by
    cases q : s.heap.get? D with
    | none => rfl
    | some o => exact absurd (Nat.lt_of_lt_of_le (Heap.lt_size (F.keep _ _ q)) hD₂) (Nat.lt_irrefl _)
  have F2 := Fr.but F (fun b o _ e => hk₂ b o e) hLD hD0
  have N2 : News s.heap L h₂ [(D, barr (swp b 0))] := List.forall_mem_cons.mpr ⟨⟨hd₂, Ne.symm hLD, hD0⟩, News.nil⟩
  clear N F hk₂ hd₂
  k_steps
  refine wpC_of_any ?_
  k_steps
  refine Halt.on ?_
  refine wpAny_For ?h ?hs
  case hs => intro _; rfl
  k_steps
  rename_i h' F' N'
  simp only [mp_put] at F'
  rw [List.size_toArray]
  refine Halt.on (rng3 (n := 1) (Int.ne_of_gt hn0) (by rw [Int.natAbs_natCast]; exact Nat.lt_trans h1 (by decide)) (small_once hn0 (Int.ofNat_lt.mpr (Nat.lt_trans h1 (by decide)))) (size_once hn0) fun I h₂ tk hI hk hit hsz => ?_)
  dsimp only at hI hk
  have hIL : L ≠ I := Nat.ne_of_lt (Nat.lt_trans F'.ns.lt hI)
  have hI0 : s.heap.get? I = none := by
    cases q : s.heap.get? I with
    | none => rfl
    | some o => exact absurd (Nat.lt_trans (Heap.lt_size (F'.keep _ _ q)) hI) (Nat.lt_irrefl _)
  have hDI : @Ne Nat D I := Nat.ne_of_lt (Nat.lt_trans (Heap.lt_size (N' _ (.head _)).1) hI)
  refine forW (Walks.range (by exact hA.h) I 0 b.length 1) (fun b hb => List.mem_singleton.mp hb) s.heap (fun b hb => .inl (List.mem_singleton.mp hb))
    (J := SwJ1 s L D b t1 t2)
    ?hJ ?hup (fun i h st => ⟨_, st⟩) ?turn ?done hit ?start
  case hJ => rintro i s' ⟨oi, oj, h', tk, rfl, F, N⟩; exact F.keep
  case hup =>
    rintro i s' h2 tk2 ⟨oi, oj, h', tk, rfl, F, N⟩ hkp
    exact ⟨oi, oj, h2, tk2, rfl, Fr.but F hkp hIL hI0, News.but N hkp (by simpa using hDI)⟩
  case start =>
    exact ⟨none, none, _, _, rfl, Fr.but F' (fun b o _ e => hk b o e) hIL hI0, by simpa using News.but N' (fun b o _ e => hk b o e) (by simpa using hDI)⟩
  case done =>
    rintro s' ⟨oi, oj, h', tk, rfl, F, N⟩
    rw [Nat.one_mul, swp_all] at N
    k_steps
    exact call_bytes_barr (N _ (.head _)).1 (by rw [List.size_toArray, List.length_reverse]; exact hfit) fun t k => Halt.on ⟨t, rfl, keeps_fr F⟩
  case turn =>
    rintro i v s' o hi ⟨t, rfl⟩ ⟨oi, oj, h', tk, rfl, F, N⟩ ho hst
    obtain rfl : i = 0 := Nat.lt_one_iff.mp hi
    replace N : News s.heap L h' ((I, o) :: [(D, barr (swp b (0 * b.length)))]) := List.forall_mem_cons.mpr ⟨⟨ho, Ne.symm hIL, hI0⟩, N⟩
    rw [show (0 + ((0 : Nat) : Int) * (b.length : Int)) = 0 by simp]
    refine wpAny_pure ?_
    clear F' N' hk hit ho hst
    k_steps
    refine Halt.on ?_
    refine wpAny_For ?h ?hs
    case hs => intro _; rfl
    k_steps
    rename_i h' F' N'
    simp only [mp_put] at F'
    refine Halt.on (rng1 (Nat.lt_trans h1 (by decide)) fun I2 h₃ tk3 hI3 hk3 hit3 hsz3 => ?_)
    dsimp only at hI3 hk3
    have hIL3 : L ≠ I2 := Nat.ne_of_lt (Nat.lt_trans F'.ns.lt hI3)
    have hI03 : s.heap.get? I2 = none := by
      cases q : s.heap.get? I2 with
      | none => rfl
      | some o => exact absurd (Nat.lt_trans (Heap.lt_size (F'.keep _ _ q)) hI3) (Nat.lt_irrefl _)
    have hII3 : @Ne Nat I I2 := Nat.ne_of_lt (Nat.lt_trans (Heap.lt_size (N' _ (.head _)).1) hI3)
    have hDI3 : @Ne Nat D I2 := Nat.ne_of_lt (Nat.lt_trans (Heap.lt_size (N' _ (.tail _ (.head _))).1) hI3)
    refine forW (Walks.range (by exact hA.h) I2 0 1 b.length) (fun b hb => List.mem_singleton.mp hb) s.heap (fun b hb => .inl (List.mem_singleton.mp hb))
      (J := SwJ2 s L D b t1 t2 t I o)
      ?hJ ?hup (fun i h st => ⟨_, st⟩) ?turn ?done hit3 ?start
    case hJ => rintro i s' ⟨oj, h', tk, rfl, F, N⟩; exact F.keep
    case hup =>
      rintro i s' h2 tk2 ⟨oj, h', tk, rfl, F, N⟩ hkp
      exact ⟨oj, h2, tk2, rfl, Fr.but F hkp hIL3 hI03, News.but N hkp (by simpa using ⟨hII3, hDI3⟩)⟩
    case start =>
      exact ⟨oj, _, _, rfl, Fr.but F' (fun b o _ e => hk3 b o e) hIL3 hI03, by simpa using News.but N' (fun b o _ e => hk3 b o e) (by simpa using ⟨hII3, hDI3⟩)⟩
    case done =>
      rintro s' ⟨oj, h', tk, rfl, F, N⟩
      k_steps
      exact Halt.on ⟨⟨_, _, _, _, rfl, F, fun p hp => N p (List.mem_cons_of_mem _ (by rw [Nat.zero_add, Nat.one_mul] at hp; exact hp))⟩, (N _ (.head _)).1⟩
    case turn =>
      clear F' N' hk3 hit3
      rintro i v s' o2 hi ⟨t3, rfl⟩ ⟨oj, h', tk, rfl, F, N⟩ ho hst
      replace N : News s.heap L h' [(I2, o2), (I, o), (D, barr (swp b i))] := List.forall_mem_cons.mpr ⟨⟨ho, Ne.symm hIL3, hI03⟩, N⟩
      rw [Int.mul_one, Int.zero_add]
      refine wpAny_pure ?_
      clear ho hst
      k_steps
      rename_i h4 F4 N4
      simp only [mp_put] at F4
      have hD4 := N4 _ (.tail _ (.tail _ (.head _)))
      rw [show (0 + (b.length : Int) - 1 - i) = ((b.length - 1 - i : Nat) : Int) by rw [Int.zero_add, nat_sub2 hi], Int.zero_add, Int.toNat_natCast]
      refine setItem_barr hD4.1 (Int.natCast_nonneg _) (by rw [swp_size]; exact Int.ofNat_lt.mpr (sub_one_lt hi)) (by rw [swp_size]; exact hfit) (Int.natCast_nonneg _) (Int.ofNat_lt.mpr (b.getD i 0).toNat_lt) (Int.lt_trans (Int.ofNat_lt.mpr (Nat.lt_trans (sub_one_lt hi) h1)) (by decide)) ?_
      have e6 : ∀ u : UInt8, u.toNat.toUInt8 = u := fun u => UInt8.ofNat_toNat
      rw [Int.toNat_natCast, Int.toNat_natCast, e6]
      have hs4 : Heap.SameBut D h4 (h4.update D (Obj.mapBytearray (·.setIfInBounds (b.length - 1 - i) (b.getD i 0)))) := Heap.SameBut.update ..
      have hd5 := Heap.get?_update_self (Obj.mapBytearray (·.setIfInBounds (b.length - 1 - i) (b.getD i 0))) hD4.1 rfl
      have F5 := F4.change hs4 hD4.2.1 hD4.2.2
      show wpAny _ _ _ _ _ _
      k_steps
      refine Halt.on ⟨⟨_, _, _, rfl, F5, fun p hp => ?_⟩, hs4.extBut _ _ (Ne.symm hDI3) (N4 _ (.head _)).1⟩
      rcases List.mem_cons.mp hp with rfl | hp
      · have z := N4 _ (.tail _ (.head _))
        exact ⟨hs4.extBut _ _ (Ne.symm hDI) z.1, z.2⟩
      · rcases List.mem_cons.mp hp with rfl | hp
        · exact ⟨hd5, hD4.2⟩
        · cases hp
end
end
-- Mirror
section
theorem anew_Mirror : True := by
  w_top off
  exact True.intro
theorem str_ext {a b : Str} (h : a.cps.toList = b.cps.toList) : a = b := by
  cases a; cases b; simp only [Str.mk.injEq]; exact Array.toList_inj.mp h
theorem fold0 : ∀ (ps : List Str) (acc : Array Nat), (ps.foldl (fun acc p => acc ++ (Str.ofString "").cps ++ p.cps) acc).toList = acc.toList ++ ps.flatMap (·.cps.toList)
  | [], acc => by simp
  | p :: ps, acc => by
    rw [List.foldl_cons, fold0 ps]
    have e : (Str.ofString "").cps = #[] := by decide
    simp [e]
theorem join0 : ∀ (ps : List Str), (Txt.join (Str.ofString "") ps).cps.toList = ps.flatMap (·.cps.toList)
  | [] => rfl
  | p :: ps => by
    show ((ps.foldl (fun acc p => acc ++ (Str.ofString "").cps ++ p.cps) p.cps)).toList = _
    rw [fold0]; rfl
theorem join_signs (l : List Nat) : Txt.join (Str.ofString "") (l.map fun c => (⟨#[c]⟩ : Str)) = ⟨l.toArray⟩ := by
  refine str_ext ?_
  rw [join0]
  simp [List.flatMap_map]
theorem sum_signs : ∀ (l : List UInt8), ((l.map fun (c : UInt8) => (⟨#[c.toNat]⟩ : Str)).map (·.length)).sum = l.length
  | [] => rfl
  | c :: l => by
    rw [List.map_cons, List.map_cons, List.sum_cons, sum_signs l, List.length_cons]
    show 1 + l.length = _
    omega
section
local macro_rules | `(tactic| walk_at $s) => if among "eval ListComp|call type:bytes" s then `(tactic| refine Halt.go ?_) else Lean.Macro.throwUnsupported
local macro_rules | `(tactic| walk_at "eval Name") => `(tactic| first | walk_at "nm2" | walk_at "nm0")
theorem mirror_spec {w : World} {mean : ExcName → Option Value} {mg mb : Str → Option Value} {p : Program} {loose : List Str} {A : Around} {s : Shared} {E : Value → Shared → Prop}
  (X : Frag.In (hd.heap_1 w.params) s.heap) (T : Top p loose mean mg mb s.heap) (hA : Ok A 20 200) {x : Str} {t1 : Tok} (ha : x.cps.all (· < 128) = true) (h0 : 0 < x.cps.size) (h1 : x.cps.size < 1000) :
  wpC (model _root_.PySem.Challenge.rw_pe0169_01.row.prog w) A (call (.ref 194) [.str x t1]) (fun v s' => Halt (∃ t, v = .str ⟨x.cps.reverse⟩ t ∧ Keeps s s')) E s := by
  have hh := hA.h
  revert X
  k_fill
  intro X
  refine wpC_call ?_
  k_dflt (refine' enterXC [("text", .str x t1)] ["octets"] ?k1 ?k2 ?k3 ?k4 ?k5 ?k6 ?k7 ?_ ?c1 ?c2 ?c3 ?c4; (case k1 => k_asm); (case k2 => exact T.nolimit); (case k3 => k_is); (case k4 => k_is); (case k5 => exact Nat.lt_of_le_of_lt (Nat.le_add_right _ _) hA.d); (case k6 => exact BindsTo.of_eq rfl); (case k7 => exact locs rfl); (case c1 => decide); (case c2 => exact rfl); (case c3 => exact rfl); (case c4 => exact rfl); k_whole)
  intro L h₁ F
  replace F : Fr s.heap L h₁ (mp [("text", some (.str x t1)), ("octets", none)]) := F
  have N : News s.heap L h₁ [] := News.nil
  refine execsC_cons (wpC_of_any ?_)
  show wpAny _ _ _ _ _ _
  k_fold
  k_steps
  refine Halt.on ?_
  refine evalComp (cl := []) rfl rfl (by decide) (by intro _; rfl) ?_
  k_steps
  have hx128 : ∀ (i c : Nat), x.cps[i]? = some c → c < 128 := fun i c e => by
    obtain ⟨hi, e⟩ := Array.getElem?_eq_some_iff.mp e
    have := (Array.all_eq_true.mp ha) i hi
    rw [e] at this; simpa using this
  refine wpAny_pyIter_ascii ha ?_
  have X1 : Frag.In (hd.heap_1 w.params) h₁ := fun a o e => F.keep a o (X a o e)
  have T1 := T.keeps F.keep
  refine compV (n := x.cps.size) (St := fun i h => h.IsStrIter h₁.objs.size "str_ascii_iterator" x t1 i) F N (Walks.strAscii (by exact hh) h₁.objs.size x t1) (by omega) (fun b hb => List.mem_singleton.mp hb) (fun b hb => .inl (List.mem_singleton.mp hb)) (fun b o e => Heap.get?_push_of_some _ e) (Nat.le_refl _) (fun i h st => ⟨_, st.choose_spec.1⟩)
        (J := fun i ys l => l = [] ∧ IntsAre ys ((x.cps.toList.take i).map fun (c : Nat) => (c : Int))) ⟨rfl, .nil⟩ (fun i ys l h => by rw [h.2.length]; simp; omega) (by decide) rfl rfl ⟨_, Heap.get?_push_size _ rfl, rfl, rfl⟩ ?ct ?cq
  case ct =>
    rintro i v ys l h tk C D' o e' hi ⟨c, u, hc, rfl⟩ ⟨rfl, hys⟩ hID hDC F N hl1 hl2
    refine wpAny_tests_nil ?_
    simp only [if_true]
    k_steps
    refine Halt.on ⟨_, _, [], rfl, F, N, by simp, rfl, ?_⟩
    rw [List.take_add_one, List.map_append, Array.getElem?_toList, hc]
    exact IntsAre.append hys (.cons _ _ .nil)
  case cq =>
    rintro D' h6 tk6 ys l e' ⟨rfl, hys⟩ F6 N6 hD1 hD2 _ hk6 _
    simp only [List.nil_append] at N6
    k_steps
    rw [show x.cps.size = x.cps.toList.length from (Array.length_toList).symm, List.take_length] at hys
    obtain ⟨ns, hns⟩ : ∃ ns, ns = x.cps.toList.map fun (c : Nat) => (c : Int) := ⟨_, rfl⟩
    rw [← hns] at hys
    have hnl : ns.length = x.cps.size := by rw [hns]; simp
    have hline := sizeLine_eq
    have hD6 : h6.IsList D' ys.toArray := ⟨_, (N6 _ (.head _)).1, rfl, _, rfl⟩
    refine Halt.on ?_
    refine call_bytes_ints hD6 hys (fun n hn => ?_) (by rw [hys.length]; omega) (by exact hh) ?_
    · rw [hns] at hn
      obtain ⟨c, hc, rfl⟩ := List.mem_map.mp hn
      obtain ⟨i, hi⟩ := List.getElem?_of_mem hc
      have := hx128 i c (by rw [← Array.getElem?_toList]; exact hi)
      omega
    intro h7 t7 k7 hk7
    dsimp only at hk7
    have F7 : Fr s.heap L h7 (mp [("text", some (.str x t1)), ("octets", none)]) := ⟨F6.ns.at' fun o e => hk7 _ o e, fun b o e => hk7 b o (F6.keep b o e), F6.above⟩
    have N7 : News s.heap L h7 [] := News.nil
    clear F6 N6 hD1 hD2 hk6 F N hD6 X1 T1
    k_steps
    rename_i h8 F8 N8
    simp only [mp_put] at F8
    obtain ⟨bs, hbs⟩ : ∃ bs : List UInt8, bs = ns.map fun n => n.toNat.toUInt8 := ⟨_, rfl⟩
    have hbl : bs.length = x.cps.size := by rw [hbs]; simp [hnl]
    replace F8 : Fr s.heap L h8 (mp [("text", some (.str x t1)), ("octets", some (.bytes bs.toArray t7))]) := by rw [hbs]; exact F8
    refine execsC_cons (ReturnC_some (MethodCallC (wpC_of_any ?_)))
    k_steps
    refine callC_builtin1 (argsC_cons (compC (cl := []) rfl (CallC (wpC_of_any ?_))))
    k_steps
    k_dflt (refine' callC_defK ?k1 ?k3 ?_; (case k1 => k_asm); (case k3 => k_is); k_whole)
    refine argsC_cons (wpC_of_any ?_)
    k_steps
    refine argsC_cons (wpC_of_any ?_)
    k_steps
    refine argsC_nil ?_
    refine ⟨F8.keep, ?_⟩
    rw [List.size_toArray]
    have X8 : Frag.In (hd.heap_1 w.params) h8 := fun a o e => F8.keep a o (X a o e)
    have T8 := T.keeps F8.keep
    refine wpC_mono (swap_spec (b := bs) X8 T8 ?okA rfl (by omega) (by omega)) (fun v s' h' => ?_) fun _ _ x => x
    case okA => exact ((hA.deeper _).less (by decide) (by decide))
    obtain ⟨t9, rfl, h9, tk9, rfl, hk9⟩ := h'
    dsimp only at hk9
    have F9 : Fr s.heap L h9 (mp [("text", some (.str x t1)), ("octets", some (.bytes bs.toArray t7))]) := ⟨F8.ns.at' fun o e => hk9 _ o e, fun b o e => hk9 b o (F8.keep b o e), F8.above⟩
    have N9 : News s.heap L h9 [] := News.nil
    refine wpAny_comprehension_free (use := none) (cl := []) rfl (by intro _; rfl) rfl rfl (by decide) ?_
    refine wpAny_pure (KBw.pyIter_bytes ?_)
    have X9 : Frag.In (hd.heap_1 w.params) h9 := fun a o e => F9.keep a o (X a o e)
    have T9 := T.keeps F9.keep
    refine compV (n := bs.reverse.toArray.size) (St := fun i h => KBw.IsBytesIter h h9.objs.size bs.reverse.toArray t9 i) F9 N9 (KBw.walks (by exact hh) h9.objs.size bs.reverse.toArray t9) (by simp; omega) (fun b hb => List.mem_singleton.mp hb) (fun b hb => .inl (List.mem_singleton.mp hb)) (fun b o e => Heap.get?_push_of_some _ e) (Nat.le_refl _) (fun i h st => ⟨_, st.choose_spec.1⟩)
        (J := fun i ys l => l = [] ∧ StrsAre ys ((bs.reverse.take i).map fun (c : UInt8) => (⟨#[c.toNat]⟩ : Str))) ⟨rfl, .nil⟩ (fun i ys l h => by rw [h.2.length]; simp; omega) (by decide) rfl rfl ⟨_, Heap.get?_push_size _ rfl, rfl, rfl⟩ ?ct ?cq
    case ct =>
      rintro i v ys l h tk C D' o e' hi ⟨c, u, hc, rfl⟩ ⟨rfl, hys⟩ hID hDC F N hl1 hl2
      have hc256 := c.toNat_lt
      refine wpAny_tests_nil ?_
      simp only [if_true]
      k_steps
      refine Halt.on ⟨_, _, [], rfl, F, N, by simp, rfl, ?_⟩
      rw [List.take_add_one, List.map_append, show bs.reverse[i]? = some c by simpa using hc]
      exact StrsAre.append' hys (.cons _ _ .nil)
    case cq =>
      rintro D' h6 tk6 ys l e' ⟨rfl, hys⟩ F6 N6 hD1 hD2 _ hk6 _
      simp only [List.nil_append] at N6
      rw [List.size_toArray, List.take_length] at hys
      have hl6 : h6.IsList D' ys.toArray := ⟨_, (N6 _ (.head _)).1, rfl, _, rfl⟩
      refine argsC_nil (wpC_of_any ?_)
      refine join_list hl6 (ys := bs.reverse.map fun (c : UInt8) => (⟨#[c.toNat]⟩ : Str)) (by simpa using hys) ?_ ?_
      · have e0 : (Str.ofString "").length = 0 := by decide
        rw [sum_signs, e0]; simp; omega
      · intro t7 k7
        refine Halt.on ⟨t7, ?_, keeps_fr F6⟩
        rw [show (bs.reverse.map fun (c : UInt8) => (⟨#[c.toNat]⟩ : Str)) = (bs.reverse.map (·.toNat)).map fun c => (⟨#[c]⟩ : Str) by simp, join_signs]
        congr 1
        refine str_ext ?_
        rw [hbs, hns]
        simp only [List.map_map, List.map_reverse, Array.toList_reverse]
        congr 1
        refine (List.map_congr_left (g := id) fun c hc => ?_).trans (List.map_id _)
        obtain ⟨i, hi⟩ := List.getElem?_of_mem hc
        have := hx128 i c (by rw [← Array.getElem?_toList]; exact hi)
        show (((c : Int).toNat).toUInt8).toNat = c
        rw [Int.toNat_natCast, Nat.toUInt8, UInt8.toNat_ofNat']
        omega
end
end
-- O1
theorem anew_O1 : True := by
  w_top off
  exact True.intro
/-- the accumulator object -/
noncomputable abbrev accO (d : Addr) (items : List Value) (n : Nat) : Obj := { cls := .ref 178, dict := some d, data := .seq items.toArray n, slots := #[] }
theorem canon_list_ga : (Manifest.canonical "list.__getattribute__" != "object.__getattribute__") = false := by decide +kernel
section
variable {prog : Program} {w : World} {A : Around} {E : Value → Shared → Prop} {s : Shared} {K : Frag} {name : Str} {x C : Addr} {ox : Obj} {od : Option Obj} {pl : Sem Bool} {Q : Value × List Value → Shared → Prop}
theorem accMethod {v : Value} {T : Value} (X : K.In s.heap) (I : W.InstAt s.heap x ox C od) (hga : findIn K (.ref C) "__getattribute__" = some (some (.builtin "list.__getattribute__"))) (hk : findIn K (.ref C) "__getattr__" = some none)
    (hf : findIn K (.ref C) name = some (some v)) (ht : Looks (model prog w) s.heap (typeOf v) T) (hT : (T != .type "function" && T != .type "method_descriptor" && T != .type "wrapper_descriptor") = false) (hs : shadowIn od name = some false) (h : Q (v, [.ref x]) s) :
    wpAny (model prog w) A (getMethod (.ref x) name pl) Q E s := by
  unfold getMethod specialOf
  refine wpAny_bind (wpAny_bind (I.type.here ((looks_findIn X hga).here ?_)))
  dsimp only
  rw [canon_list_ga, if_neg (by decide)]
  refine wpAny_bind (wpAny_bind (I.type.here ((looks_findIn X hk).here ?_)))
  refine wpAny_bind (wpAny_bind (I.type.here ((looks_findIn X hf).here (wpAny_bind (ht.here ?_)))))
  rw [hT, if_neg (by decide)]
  refine wpAny_bind (wpAny_loadPart I.at_ ?_)
  have hd := I.dict
  cases e : ox.dict with
  | none => exact wpAny_bind (wpAny_rule (wpAny_pure h))
  | some dx =>
    cases od with
    | none => rw [e] at hd; exact hd.elim
    | some o =>
      rw [e] at hd
      obtain ⟨r, a, b⟩ := Option.map_eq_some_iff.mp hs
      refine wpAny_bind (wpAny_bind (wpAny_loadPart hd ?_))
      rw [nsLook_of a]
      refine wpAny_pure ?_
      rw [b]
      exact wpAny_bind (wpAny_rule (wpAny_pure h))
end

theorem enterH {K : Frag} {prog : Program} {w : World} {A : Around} {s : Shared} {R : Result → Shared → Prop} {name qual : Str} {params : Arguments} {body : List Stmt} {scope : Scope} {cl : List (Str × Addr)} {dV kV doc pm cdv ct oc : Value} {an od : Option Addr} {osl : Array (Option Value)} {f : Addr} {args : Args} (binds : List (Str × Value)) (pad : List Str) (objs : List (Addr × Obj))
    (X : K.In (hideAll s.heap (objs.map (·.1)))) (hl : s.heap.NoLimit)
    (ho : K.lookup f = some ⟨oc, od, .func (fnX name qual params body scope cl dV kV doc pm an cdv ct), osl⟩) (hcd : codeIn K cdv qual = true) (hroom : A.depth < recursionLimit)
    (hbind : BindsTo s (fnX name qual params body scope cl dV kV doc pm an cdv ct) args binds) (hloc : ∀ y ∈ binds, scope.names.lookup y.1 = some .local) (hobj : ∀ p ∈ objs, s.heap.get? p.1 = some p.2)
    (h : ∀ L h₁, Fr (hideAll s.heap (objs.map (·.1))) L h₁ (mp ((binds.reverse.map fun p => (p.1, some p.2)) ++ pad.map fun x => (x, none))) → News (hideAll s.heap (objs.map (·.1))) L h₁ objs → (∀ p ∈ objs, @LT.lt Nat _ p.1 L) →
      wpAny (model prog w) (A.deeper (envX qual scope L f cdv cl)) (execs body (envX qual scope L f cdv cl))
        (fun fl s' => R (.ok (.ret (match fl with | .ret v => v | _ => .none))) s') (fun _ _ => False)
        { s with heap := h₁, toks := s.toks + binds.length })
    (hcell : ∀ x ∈ scope.names, x.2 ≠ .cell) (hco : scope.isCoroutine = false) (hgen : scope.isGenerator = false) (hk : scope.kind = .function) : codeAny (model prog w) A (.call (.ref f) args) R s := by
  have Xs : K.In s.heap := fun a o e => of_hideAll _ (X a o e)
  refine codeAny_call_def (fd := fnX name qual params body scope cl dV kV doc pm an cdv ct) (body := body) (binds := binds) hroom (Xs _ _ ho) rfl hl (codeRec_of Xs hcd) rfl hbind hcell hloc (fun h₁ hns hk₁ => ?_) hco hgen hk
  exact wpAny_mono (h s.heap.objs.size h₁ (Fr.cong ⟨hns, fun b o e => hk₁ b o (of_hideAll _ e), Nat.le_of_eq (hideAll_size _ _)⟩ fun y => by rw [mp_pad, ← lookup_mp])
    (fun p hp => ⟨hk₁ _ _ (hobj p hp), Nat.ne_of_lt (Heap.lt_size (hobj p hp)), hideAll_none _ (List.mem_map_of_mem hp)⟩) fun p hp => Heap.lt_size (hobj p hp)) (fun _ _ x => x) fun _ _ x => x.elim
theorem Fr.hide {h₀ h : Heap} {L : Addr} {m : Str → Option Value} {news : List (Addr × Obj)} (F : Fr h₀ L h m) (N : News h₀ L h news) {hid : List Addr} (hs : ∀ a ∈ hid, a ∈ news.map (·.1)) : ∀ b o, h₀.get? b = some o → (hideAll h hid).get? b = some o :=
  fun b o e => hideAll_get _ (F.keep b o e) fun hb => by
    obtain ⟨p, hp, rfl⟩ := List.mem_map.mp (hs b hb)
    rw [(N p hp).2.2] at e; cases e

section
variable {prog : Program} {w : World} {A : Around} {E : Value → Shared → Prop} {s : Shared} {K : Frag} {x C : Addr} {ox : Obj} {od : Option Obj}
theorem call_sub {id owner n : String} {b : Builtin} {rest : List Value} {Q : Value → Shared → Prop} (hsplit : splitId id = some (owner, n))
    (hkind : (Manifest.find? owner).bind (·.attrs.lookup n) = some .slot ∨ (Manifest.find? owner).bind (·.attrs.lookup n) = some .method) (hp : plainId id = true) (hb : entryFor table id = some b) (ha : argsOk id ⟨.ref x :: rest, []⟩)
    (X : K.In s.heap) (I : W.InstAt s.heap x ox C od) (hm : mroIn K C (.type owner) = some true)
    (hc : wpAny (model prog w) A.in1 (b ⟨.ref x :: rest, []⟩) (fun fin s' => ∃ v, fin = .done (.ret v) ∧ Q v s') E s) : wpAny (model prog w) A (call (.builtin id) (.ref x :: rest)) Q E s := by
  have hk : builtinKind id = (Manifest.find? owner).bind (·.attrs.lookup n) := by simp only [builtinKind, hsplit]
  refine wpAny_call (codeAny_call_builtin hp hb ?_)
  have hc' := wpAny_mono hc (Q' := fun fin s' => match fin with
      | .done f => (match (Except.ok f : Result) with | .ok (.ret v) => Q v s' | .ok _ => False | .error e => E e s')
      | .again c' => c'.quiet = true ∧ codeAny (model prog w) A c' (fun r s' => match r with | .ok (.ret v) => Q v s' | .ok _ => False | .error e => E e s') s')
    (fun fin s' h' => by obtain ⟨v, rfl, hv⟩ := h'; exact hv) fun _ _ h' => h'
  rcases hkind with h | h <;>
  · simp only [checkBuiltinCall, hk, h, hsplit]
    refine wpAny_bind ?_
    unfold isInstance
    refine wpAny_bind (I.type.here ((looks_mroIn X hm).here ?_))
    refine wpAny_ite_false rfl ?_
    cases hsig : Manifest.signature? id with
    | none => exact wpAny_pure hc'
    | some sig =>
      simp only [argsOk, hsig] at ha
      have h2 : Bind.checkArgs id sig ⟨.ref x :: rest, []⟩ = pure () := ha
      show wpAny _ _ (Bind.checkArgs id sig ⟨.ref x :: rest, []⟩) _ _ s
      rw [h2]; exact wpAny_pure hc'
end
noncomputable abbrev accD (hs : Int) (tk : Tok) (iv : Int) (it : Tok) (e : Nat) : Obj := dictOf [⟨hs, .str "_initial_size" tk, .int iv it⟩] e
section
variable {prog : Program} {w : World} {A : Around} {E : Value → Shared → Prop} {s : Shared} {K : Frag} {a d : Addr} {items : List Value} {n : Nat} {od : Option Obj}
theorem acc_update {M : Model} {f : Array Value → Array Value} {Q : Unit → Shared → Prop} (ha : s.heap.get? a = some (accO d items n)) (hz0 : items.length ≤ sizeLine) (hz : (f items.toArray).size ≤ sizeLine)
    (h : ∀ h' n', Heap.SameBut a s.heap h' → h'.get? a = some (accO d (f items.toArray).toList n') → Q () { s with heap := h' }) : wpAny M A (Builtin.List.listUpdate (.ref a) f) Q E s := by
  show wpAny M A (updateSeq a f) Q E s
  refine wpAny_updateSeq ha rfl ?_ (hz := by simpa using hz0) (_hz' := by omega)
  refine h _ _ (Heap.SameBut.update ..) (Heap.get?_update_self (Obj.mapSeq f) ha rfl)
theorem acc_append {v : Value} {Q : Value → Shared → Prop} (X : K.In s.heap) (I : W.InstAt s.heap a (accO d items n) 178 od) (hm : mroIn K 178 (.type "list") = some true) (hz : items.length < 1000)
    (h : ∀ h' n', Heap.SameBut a s.heap h' → h'.get? a = some (accO d (items ++ [v]) n') → Q .none { s with heap := h' }) : wpAny (model prog w) A (call (.builtin "list.append") [.ref a, v]) Q E s := by
  have hline := sizeLine_eq
  refine call_sub (owner := "list") (n := "append") (by decide +kernel) (.inr (by decide +kernel)) (by decide +kernel) _root_.PySem.F.entry_list_append (_root_.PySem.F.args_list_append_2 _ _) X I hm ?_
  show wpAny _ _ (do Builtin.List.listUpdate (.ref a) (·.push v); ret .none) _ _ _
  refine wpAny_bind (acc_update I.at_ (by omega) (by simp; omega) fun h' n' hs ho => wpAny_pure ⟨_, rfl, h h' n' hs ?_⟩)
  rw [ho]; simp
end
theorem acc_inst {h₀ h : Heap} {L x d : Addr} {news : List (Addr × Obj)} {od : Obj} {items : List Value} {n : Nat} (N : News h₀ L h news) (h1 : (x, accO d items n) ∈ news) (h2 : (d, od) ∈ news) : W.InstAt h x (accO d items n) 178 (some od) := ⟨(N _ h1).1, rfl, rfl, (N _ h2).1⟩
local macro_rules | `(tactic| k_inst) => `(tactic| (refine' acc_inst ?N ?h1 ?h2; (case N => k_asm); (case h1 => k_mem); (case h2 => k_mem)))
/-- all kept but some -/
inductive KeepsBut (hid : List Addr) (s s' : Shared) : Prop
  | mk (h' : Heap) (tk : Nat) : s' = { s with heap := h', toks := tk } → (∀ b o, b ∉ hid → s.heap.get? b = some o → h'.get? b = some o) → KeepsBut hid s s'
theorem keepsBut_fr {s : Shared} {L : Addr} {h' : Heap} {m : Str → Option Value} {tk : Nat} {hid : List Addr} (F : Fr (hideAll s.heap hid) L h' m) : KeepsBut hid s { s with heap := h', toks := tk } :=
  ⟨h', tk, rfl, fun b o hb e => F.keep b o (hideAll_get _ e hb)⟩
/-- what a callee leaves: all but some kept, and these objects laid -/
noncomputable def After (hid : List Addr) (s s' : Shared) (ns : List (Addr × Obj)) : Prop := KeepsBut hid s s' ∧ ∀ p ∈ ns, s'.heap.get? p.1 = some p.2 ∧ (p.1 ∈ hid ∨ s.heap.get? p.1 = none)
theorem fresh_of_hide {h : Heap} {hid : List Addr} {t : Addr} (e : (hideAll h hid).get? t = none) (ht : t ∉ hid) : h.get? t = none := by
  cases q : h.get? t with
  | none => rfl
  | some o => rw [hideAll_get _ q ht] at e; cases e
noncomputable abbrev tupO (vs : List Value) : Obj := { cls := .type "tuple", data := .seq vs.toArray }
local macro_rules | `(tactic| walk_at "getMethod ref") => `(tactic| k_dflt (refine accMethod (Frag.In.keeps (by k_asm) (Fr.keep (by k_asm))) (by k_inst) (by k_is) (by k_is) (by k_is) (by first | exact Looks.of_pure _root_.PySem.F.type_list_append | exact looks_typeIn (Frag.In.keeps (by k_asm) (Fr.keep (by k_asm))) (by k_is)) (by decide +kernel) (by first | exact rfl | k_is) ?_; k_whole))
section
local macro_rules | `(tactic| walk_at "pad") => `(tactic| skip)
local macro_rules | `(tactic| walk_at "call builtin:list.append") => `(tactic| refine Halt.go ?_)
theorem push_code {w : World} {mean : ExcName → Option Value} {mg mb : Str → Option Value} {p : Program} {loose : List Str} {A : Around} {s : Shared} {R : Result → Shared → Prop} {a d : Addr} {items : List Value} {n e : Nat} {hs iv : Int} {tk0 it : Tok} {v1 v2 : Value}
  (X : Frag.In (hd.heap_1 w.params) (hideAll s.heap [a, d])) (T : Top p loose mean mg mb (hideAll s.heap [a, d])) (hA : Ok A 10 80) (ha : s.heap.get? a = some (accO d items n)) (hd : s.heap.get? d = some (accD hs tk0 iv it e)) (hn : items.length < 1000)
  (hR : ∀ s', (∃ t n', After [a, d] s s' [(t, tupO [v1, v2]), (a, accO d (items ++ [.ref t]) n'), (d, accD hs tk0 iv it e)]) → R (.ok (.ret .none)) s') :
  codeAny (model _root_.PySem.Challenge.rw_pe0169_01.row.prog w) A (.call (.ref 122) ⟨[.ref a, v1, v2], []⟩) R s := by
  have hh := hA.h
  revert X
  k_fill
  intro X
  k_dflt (refine' enterH [("self", .ref a), ("fws", v1), ("string", v2)] [] [(a, accO d items n), (d, accD hs tk0 iv it e)] ?k1 ?k2 ?k3 ?k4 ?k5 ?k6 ?k7 ?ko ?_ ?c1 ?c2 ?c3 ?c4; (case k1 => exact X); (case k2 => exact T.nolimit.keeps (fun b o e => of_hideAll _ e)); (case k3 => k_is); (case k4 => k_is); (case k5 => exact Nat.lt_of_le_of_lt (Nat.le_add_right _ _) hA.d); (case k6 => exact BindsTo.of_eq rfl); (case k7 => exact locs rfl); (case ko => simpa using ⟨ha, hd⟩); (case c1 => decide); (case c2 => exact rfl); (case c3 => exact rfl); (case c4 => exact rfl); k_whole)
  intro L h₁ F N hlt
  replace F : Fr (hideAll s.heap [a, d]) L h₁ (mp [("string", some v2), ("fws", some v1), ("self", some (.ref a))]) := F
  replace N : News (hideAll s.heap [a, d]) L h₁ [(a, accO d items n), (d, accD hs tk0 iv it e)] := N
  show wpAny _ _ _ _ _ _
  k_fold
  k_steps
  rename_i t h2 F N hl
  refine Halt.on (acc_append (Frag.In.keeps X F.keep) (acc_inst N (.tail _ (.head _)) (.tail _ (.tail _ (.head _)))) (by k_is) hn fun h3 n' hs ho => ?_)
  have F2 := F.change hs (N _ (.tail _ (.head _))).2.1 (N _ (.tail _ (.head _))).2.2
  have ht : t ∉ [a, d] := by
    simp only [List.mem_cons, List.not_mem_nil, or_false, not_or]
    exact ⟨Nat.ne_of_gt hl.1, Nat.ne_of_gt hl.2⟩
  have hda : d ≠ a := fun q => by rw [q] at N; exact absurd ((N _ (.tail _ (.head _))).1.symm.trans (N _ (.tail _ (.tail _ (.head _)))).1) (by simp)
  k_steps
  refine hR _ ⟨t, n', keepsBut_fr F2, fun p hp => ?_⟩
  rcases List.mem_cons.mp hp with rfl | hp
  · exact ⟨hs.extBut _ _ (Nat.ne_of_gt hl.1) (N _ (.head _)).1, .inr (fresh_of_hide (N _ (.head _)).2.2 ht)⟩
  rcases List.mem_cons.mp hp with rfl | hp
  · exact ⟨ho, .inl (by simp)⟩
  rcases List.mem_cons.mp hp with rfl | hp
  · exact ⟨hs.extBut _ _ hda (N _ (.tail _ (.tail _ (.head _)))).1, .inl (by simp)⟩
  cases hp
theorem push_spec {w : World} {mean : ExcName → Option Value} {mg mb : Str → Option Value} {p : Program} {loose : List Str} {A : Around} {s : Shared} {E : Value → Shared → Prop} {a d : Addr} {items : List Value} {n e : Nat} {hs iv : Int} {tk0 it : Tok} {v1 v2 : Value}
  (X : Frag.In (hd.heap_1 w.params) (hideAll s.heap [a, d])) (T : Top p loose mean mg mb (hideAll s.heap [a, d])) (hA : Ok A 10 80) (ha : s.heap.get? a = some (accO d items n)) (hd : s.heap.get? d = some (accD hs tk0 iv it e)) (hn : items.length < 1000) :
  wpAny (model _root_.PySem.Challenge.rw_pe0169_01.row.prog w) A (call (.ref 122) [.ref a, v1, v2]) (fun v s' => Halt (v = .none ∧ ∃ t n', After [a, d] s s' [(t, tupO [v1, v2]), (a, accO d (items ++ [.ref t]) n'), (d, accD hs tk0 iv it e)])) E s :=
  wpAny_call (push_code X T hA ha hd hn fun s' h => Halt.on ⟨rfl, h⟩)
end
-- O2
section
namespace FA
theorem slot_wd_get : Slot "wrapper_descriptor" "__get__" "wrapper_descriptor.__get__" := .of (owner := "wrapper_descriptor") (n := "__get__") (by rw [typeLookup_type, builtinLookup_eq_fast]; kernel_rfl) (by decide +kernel) (by decide +kernel) (by decide +kernel)
  (by first | exact .inl (by decide +kernel) | exact .inr (by decide +kernel)) (by rw [isSubtype_type]; kernel_rfl)
theorem entry_wd_get : entryFor table "wrapper_descriptor.__get__" = some Builtin.«wrapper_descriptor.__get__» := entryFor_of_tree (by kernel_rfl)
theorem args_wd_get (a b c : Value) : argsOk "wrapper_descriptor.__get__" ⟨[a, b, c], []⟩ := by unfold argsOk; kernel_rfl
theorem slot_md_get : Slot "method_descriptor" "__get__" "method_descriptor.__get__" := .of (owner := "method_descriptor") (n := "__get__") (by rw [typeLookup_type, builtinLookup_eq_fast]; kernel_rfl) (by decide +kernel) (by decide +kernel) (by decide +kernel)
  (by first | exact .inl (by decide +kernel) | exact .inr (by decide +kernel)) (by rw [isSubtype_type]; kernel_rfl)
theorem entry_md_get : entryFor table "method_descriptor.__get__" = some Builtin.«method_descriptor.__get__» := entryFor_of_tree (by kernel_rfl)
theorem args_md_get (a b c : Value) : argsOk "method_descriptor.__get__" ⟨[a, b, c], []⟩ := by unfold argsOk; kernel_rfl
theorem type_list_len : typeOf (.builtin "list.__len__") = pure (.type "wrapper_descriptor") := by show builtinType _ = _; rw [builtinType_eq_fast]; kernel_rfl
theorem type_list_init : typeOf (.builtin "list.__init__") = pure (.type "wrapper_descriptor") := by show builtinType _ = _; rw [builtinType_eq_fast]; kernel_rfl
theorem type_list_pop : typeOf (.builtin "list.pop") = pure (.type "method_descriptor") := by show builtinType _ = _; rw [builtinType_eq_fast]; kernel_rfl
end FA
section
variable {prog : Program} {w : World} {M : Model} {A : Around} {E : Value → Shared → Prop} {h : Heap} {g : Array GenState} {d : Drawn} {t : Nat} {os : OsState} {K : Frag} {x C : Addr} {ox : Obj} {od : Option Obj}
theorem isInst_sub {T : String} {Q : Bool → Shared → Prop} (X : K.In h) (I : W.InstAt h x ox C od) (hm : mroIn K C (.type T) = some true) (hq : Q true ⟨h, g, d, t, os⟩) : wpAny M A (isInstance (.ref x) (.type T)) Q E ⟨h, g, d, t, os⟩ := by
  unfold isInstance
  exact wpAny_bind (Looks.at I.type (Looks.at (looks_mroIn X hm) hq))
theorem own_len : ".".intercalate ("list.__len__".cutAt '.').dropLast = "list" := by decide +kernel
theorem own_init : ".".intercalate ("list.__init__".cutAt '.').dropLast = "list" := by decide +kernel
theorem own_pop : ".".intercalate ("list.pop".cutAt '.').dropLast = "list" := by decide +kernel
theorem told_pop : Manifest.toldItsClass.contains "list.pop" = false := by decide +kernel
theorem wd_get0 {n : String} {Q : PySem.Fin → Shared → Prop} (hn : ".".intercalate (n.cutAt '.').dropLast = "list") (X : K.In h) (I : W.InstAt h x ox C od) (hm : mroIn K C (.type "list") = some true)
    (hq : Q (.done (.ret (.ref h.objs.size))) ⟨h.push { cls := .type "method-wrapper", data := .fields #[.builtin n, .ref x] }, g, d, t, os⟩) :
    wpAny (model prog w) A (Builtin.«wrapper_descriptor.__get__» ⟨[.builtin n, .ref x, .ref C], []⟩) Q E ⟨h, g, d, t, os⟩ := by
  unfold Builtin.«wrapper_descriptor.__get__»
  have hcl := I.cls
  repeat (first
      | (with_reducible refine wpAny_loadPart_at I.at_ ?_; rw [hcl])
      | (rw [hn]; with_reducible refine Looks.at (looks_mroIn X hm) ?_)
      | (with_reducible refine wpAny_newObj_type ?_ (by size_fits))
      | ((with_reducible apply wpAny_ite_false); focus (simp only [Bool.not_true, Bool.false_eq_true, decide_false]; done))
      | (unfold newFields)
      | wp_step | dsimp only)
  all_goals exact hq
theorem wd_own {n : String} (hn : n = "list.__len__" ∨ n = "list.__init__") : ".".intercalate (n.cutAt '.').dropLast = "list" := by
  rcases hn with rfl | rfl
  · exact own_len
  · exact own_init
theorem wd_type {n : String} (hn : n = "list.__len__" ∨ n = "list.__init__") : typeOf (.builtin n) = pure (.type "wrapper_descriptor") := by
  rcases hn with rfl | rfl
  · exact FA.type_list_len
  · exact FA.type_list_init
theorem md_get {Q : PySem.Fin → Shared → Prop} (X : K.In h) (I : W.InstAt h x ox C od) (hm : mroIn K C (.type "list") = some true)
    (hq : Q (.done (.ret (.ref h.objs.size))) ⟨h.push { cls := .type "builtin_function_or_method", data := .fields #[.builtin "list.pop", .ref x] }, g, d, t, os⟩) :
    wpAny (model prog w) A (Builtin.«method_descriptor.__get__» ⟨[.builtin "list.pop", .ref x, .ref C], []⟩) Q E ⟨h, g, d, t, os⟩ := by
  unfold Builtin.«method_descriptor.__get__»
  have hcl := I.cls
  repeat (first
      | (with_reducible refine wpAny_loadPart_at I.at_ ?_; rw [hcl])
      | (rw [own_pop]; with_reducible refine Looks.at (looks_mroIn X hm) ?_)
      | (with_reducible refine wpAny_newObj_type ?_ (by size_fits))
      | ((with_reducible apply wpAny_ite_false); focus (simp only [Bool.not_true, Bool.false_eq_true, told_pop, decide_false]; done))
      | (unfold newFields)
      | wp_step | dsimp only)
  all_goals exact hq
theorem sup_ga0 {id BT DT fid : String} {f : Args → Sem PySem.Fin} (sl : Slot DT "__get__" fid) (t1 : (⟨h, g, d, t, os⟩ : Shared).TypeIs (.builtin id) DT) (en : entryFor table fid = some f) (ar : argsOk fid ⟨[.builtin id, .ref x, .ref C], []⟩)
    (get : ∀ {A : Around} {Q : PySem.Fin → Shared → Prop} {E : Value → Shared → Prop}, Q (.done (.ret (.ref h.objs.size))) ⟨h.push { cls := .type BT, data := .fields #[.builtin id, .ref x] }, g, d, t, os⟩ → wpAny (model prog w) A (f ⟨[.builtin id, .ref x, .ref C], []⟩) Q E ⟨h, g, d, t, os⟩) {so D : Addr} {l₀ l : List Value} {name : Str} {tk : Tok} {Q : PySem.Fin → Shared → Prop}
    (hso : h.get? so = some (ks_superObj D x C)) (hno : Looks (model prog w) h (opaqueClassAbove (.ref C)) none)
    (hC : Looks (model prog w) h (mroOf (.ref C)) l₀) (hl : (l₀.dropWhile (· != .ref D)).drop 1 = l) (X : K.In h) (I : W.InstAt h x ox C od) (hm : mroIn K C (.type "list") = some true)
    (hf : alongIn K name l = some (some (.builtin id))) (hxC : x ≠ C) (hn : (name == ("__class__" : Str)) = false)
    (hq : Q (.done (.ret (.ref h.objs.size))) ⟨h.push { cls := .type BT, data := .fields #[.builtin id, .ref x] }, g, d, t, os⟩) :
    wpAny (model prog w) A (Builtin.«super.__getattribute__» ⟨[.ref so, .str name tk], []⟩) Q E ⟨h, g, d, t, os⟩ := by
  have hlk1 := sl.lookup
  have hne : (Value.ref x == Value.ref C) = false := by simp [hxC]
  have hni : (if (Value.ref x == Value.ref C) = true then Value.none else Value.ref x) = Value.ref x := by rw [hne]; rfl
  have hdt : (ks_superObj D x C : Obj).data = .fields #[.ref D, .ref x, .ref C] := rfl
  have f0 : (#[.ref D, .ref x, .ref C] : Array Value)[0]? = some (.ref D) := rfl
  have f1 : (#[.ref D, .ref x, .ref C] : Array Value)[1]? = some (.ref x) := rfl
  have f2 : (#[.ref D, .ref x, .ref C] : Array Value)[2]? = some (.ref C) := rfl
  unfold Builtin.«super.__getattribute__»
  repeat (first
      | (with_reducible refine wpAny_field hso hdt f0 ?_) | (with_reducible refine wpAny_field hso hdt f1 ?_) | (with_reducible refine wpAny_field hso hdt f2 ?_)
      | (with_reducible refine ks_wpAny_notOpaque hno ?_)
      | (with_reducible refine Looks.at hC ?_; rw [hl])
      | (refine ks_forIn_along X (fun _ _ => rfl) rfl ?_ hf)
      | (with_reducible refine wpAny_typeOf t1 ?_)
      | (rw [hni]; with_reducible refine wpAny_call_entry sl t1 en ?_ ar)
      | (with_reducible refine get ?_)
      | (with_reducible refine ⟨_, rfl, ?_⟩)
      | ((with_reducible apply wpAny_ite_false); focus (simp only [hn, hne, Bool.or_false, Bool.false_eq_true, decide_false]; done))
      | wp_step
      | dsimp only)
  all_goals exact hq
theorem sup_ga {so D : Addr} {id BT : String} {l₀ l : List Value} {name : Str} {tk : Tok} {Q : PySem.Fin → Shared → Prop}
    (hb : (BT = "method-wrapper" ∧ (id = "list.__len__" ∨ id = "list.__init__")) ∨ (BT = "builtin_function_or_method" ∧ id = "list.pop"))
    (hso : h.get? so = some (ks_superObj D x C)) (hno : Looks (model prog w) h (opaqueClassAbove (.ref C)) none)
    (hC : Looks (model prog w) h (mroOf (.ref C)) l₀) (hl : (l₀.dropWhile (· != .ref D)).drop 1 = l) (X : K.In h) (I : W.InstAt h x ox C od) (hm : mroIn K C (.type "list") = some true)
    (hf : alongIn K name l = some (some (.builtin id))) (hxC : x ≠ C) (hn : (name == ("__class__" : Str)) = false)
    (hq : Q (.done (.ret (.ref h.objs.size))) ⟨h.push { cls := .type BT, data := .fields #[.builtin id, .ref x] }, g, d, t, os⟩) :
    wpAny (model prog w) A (Builtin.«super.__getattribute__» ⟨[.ref so, .str name tk], []⟩) Q E ⟨h, g, d, t, os⟩ := by
  rcases hb with ⟨rfl, hi⟩ | ⟨rfl, rfl⟩
  · exact sup_ga0 FA.slot_wd_get (wd_type hi) FA.entry_wd_get (FA.args_wd_get _ _ _) (wd_get0 (wd_own hi) X I hm) hso hno hC hl X I hm hf hxC hn hq
  · exact sup_ga0 FA.slot_md_get FA.type_list_pop FA.entry_md_get (FA.args_md_get _ _ _) (md_get X I hm) hso hno hC hl X I hm hf hxC hn hq
theorem sup_method {so D : Addr} {id BT : String} {l₀ l : List Value} {name : Str} {pl : Sem Bool} {Q : Value × List Value → Shared → Prop}
    (hb : (BT = "method-wrapper" ∧ (id = "list.__len__" ∨ id = "list.__init__")) ∨ (BT = "builtin_function_or_method" ∧ id = "list.pop"))
    (hso : h.get? so = some (ks_superObj D x C)) (hno : Looks (model prog w) h (opaqueClassAbove (.ref C)) none)
    (hC : Looks (model prog w) h (mroOf (.ref C)) l₀) (hl : (l₀.dropWhile (· != .ref D)).drop 1 = l) (X : K.In h) (I : W.InstAt h x ox C od) (hm : mroIn K C (.type "list") = some true)
    (hf : alongIn K name l = some (some (.builtin id))) (hxC : x ≠ C) (hn : (name == ("__class__" : Str)) = false)
    (hq : Q (.ref h.objs.size, []) ⟨h.push { cls := .type BT, data := .fields #[.builtin id, .ref x] }, g, d, t + 1, os⟩) :
    wpAny (model prog w) A (getMethod (.ref so) name pl) Q E ⟨h, g, d, t, os⟩ := by
  have hlk := F.ks_slot_super_ga.lookup
  have hcan := F.ks_canon_super_ga
  have hT : ∀ t', (⟨h, g, d, t', os⟩ : Shared).TypeIs (.ref so) "super" := fun _ => ⟨_, hso, rfl⟩
  unfold getMethod
  refine wpAny_bind (wpAny_specialOf (hT _) hlk ?_)
  show wpAny _ _ (if (Manifest.canonical "super.__getattribute__" != "object.__getattribute__") = true then _ else _) _ _ _
  rw [if_pos hcan]
  unfold getAttr getAttrBy
  refine wpAny_bind (wpAny_bind (wpAny_mkText (wpAny_holding (wpAny_bind (wpAny_typeOf (hT _) (wpAny_bind (wpAny_of_eq hlk ?_)))))))
  show wpAny _ _ (getAttrByItsOwn (.ref so) (.str name t) (.type "super") (.builtin "super.__getattribute__") true false) _ _ _
  unfold getAttrByItsOwn hookBefore callGetattribute boundAndCalled
  refine wpAny_bind (wpAny_of_eq (show (if onTheHeap (.type "super") then typeLookup (.type "super") "__getattr__" else pure none) = pure none from rfl) ?_)
  refine wpAny_bind (wpAny_attempt (wpAny_holding ?_))
  show wpAny _ _ (bindSpecial (.builtin "super.__getattribute__") (.ref so) >>= _) _ _ _
  refine wpAny_bind (wpAny_of_eq (F.ks_slot_super_ga.bind _) ?_)
  refine wpAny_mono (Q := fun v s' => v = .ref h.objs.size ∧ s' = ⟨h.push { cls := .type BT, data := .fields #[.builtin id, .ref x] }, g, d, t + 1, os⟩) (E := fun _ _ => False)
    (wpAny_call_entry F.ks_slot_super_ga (hT _) F.ks_entry_super_ga (sup_ga hb hso hno hC hl X I hm hf hxC hn ⟨_, rfl, rfl, rfl⟩) (F.ks_gaArgs_super _ _)) (fun v s' hv => ?_) fun _ _ z => z.elim
  obtain ⟨rfl, rfl⟩ := hv
  exact wpAny_pure (wpAny_pure hq)
end
section
variable {prog : Program} {w : World} {A : Around} {E : Value → Shared → Prop} {s : Shared} {h₀ : Heap} {L : Addr} {m mg mb : Str → Option Value} {news : List (Addr × Obj)} {K : Frag} {p : Program} {loose : List Str} {mean : ExcName → Option Value} {x C D so : Addr} {ox : Obj} {odx : Option Obj}
theorem supMethod {name : Str} {id BT : String} {pl : Sem Bool} {Q : Value × List Value → Shared → Prop} (F : Fr h₀ L s.heap m) (X₀ : K.In h₀) (N : News h₀ L s.heap news) (hso : (so, ks_superObj D x C) ∈ news) (I : W.InstAt s.heap x ox C odx) (ho : nsIn K cStatics "thirdparty.any" = some none) (hmr : mroIn K C (.type "list") = some true)
    (hm : ks_superIn K C D name = some (some (.builtin id))) (hb : (BT = "method-wrapper" ∧ (id = "list.__len__" ∨ id = "list.__init__")) ∨ (BT = "builtin_function_or_method" ∧ id = "list.pop")) (hn : (name == ("__class__" : Str)) = false)
    (h : ∀ q h', Fr h₀ L h' m → News h₀ L h' ((q, { cls := .type BT, data := .fields #[.builtin id, .ref x] }) :: news) → (∀ p ∈ news, p.1 < q) → Q (.ref q, []) { s with heap := h', toks := s.toks + 1 }) : wpAny (model prog w) A (getMethod (.ref so) name pl) Q E s := by
  have X : K.In s.heap := X₀.keeps F.keep
  obtain ⟨hh, g, d, t, os⟩ := s
  cases hc : clsIn K C with
  | none => unfold ks_superIn at hm; rw [hc] at hm; cases hm
  | some cd =>
    unfold ks_superIn at hm
    rw [hc] at hm
    refine sup_method hb (N _ hso).1 (looks_opaque X ho) (l₀ := cd.mro) ?_ rfl X I hmr hm (ks_ne X I hc) hn ?_
    · exact fun A Q E s k q => wpAny_bind ((looks_clsIn X hc) A _ E s k (wpAny_pure q))
    · obtain ⟨F', N', l'⟩ := ks_newsPush (s := ⟨hh, g, d, t, os⟩) (o := { cls := .type BT, data := .fields #[.builtin id, .ref x] }) F N rfl (Heap.get?_push_at rfl rfl) (fun b o e => Heap.get?_push_of_some _ e)
      exact h _ _ F' N' l'
end
end
-- O3
section
theorem enterS {K : Frag} {prog : Program} {w : World} {A : Around} {s : Shared} {R : Result → Shared → Prop} {name qual : Str} {params : Arguments} {body : List Stmt} {scope : Scope} {cc : Addr} {dV kV doc pm cdv ct oc : Value} {an od : Option Addr} {osl : Array (Option Value)} {f : Addr} {args : Args} (binds : List (Str × Value)) (pad : List Str) (objs : List (Addr × Obj))
    (X : K.In (hideAll s.heap (objs.map (·.1)))) (hl : s.heap.NoLimit)
    (ho : K.lookup f = some ⟨oc, od, .func (ksFn name qual params body scope dV kV doc pm an cdv ct cc), osl⟩) (hcd : codeIn K cdv qual = true) (hroom : A.depth < recursionLimit)
    (hbind : BindsTo s (ksFn name qual params body scope dV kV doc pm an cdv ct cc) args binds) (hloc : ∀ y ∈ binds, scope.names.lookup y.1 = some .local) (hobj : ∀ p ∈ objs, s.heap.get? p.1 = some p.2)
    (h : ∀ L h₁, Fr (hideAll s.heap (objs.map (·.1))) L h₁ (mp ((binds.reverse.map fun p => (p.1, some p.2)) ++ pad.map fun x => (x, none))) → News (hideAll s.heap (objs.map (·.1))) L h₁ objs → (∀ p ∈ objs, @LT.lt Nat _ p.1 L) →
      _root_.PySem.wpAt (model prog w) (A.deeper (ksEnv qual scope L f cdv cc)) (.func body (ksEnv qual scope L f cdv cc)) (execs body (ksEnv qual scope L f cdv cc))
        (fun fl s' => R (.ok (.ret (match fl with | .ret v => v | _ => .none))) s') (fun _ _ => False)
        { s with heap := h₁, toks := s.toks + binds.length })
    (hcell : ∀ x ∈ scope.names, x.2 ≠ .cell) (hco : scope.isCoroutine = false) (hgen : scope.isGenerator = false) (hk : scope.kind = .function) : codeAny (model prog w) A (.call (.ref f) args) R s := by
  have Xs : K.In s.heap := fun a o e => of_hideAll _ (X a o e)
  refine ks_codeAny_call_defAt (fd := ksFn name qual params body scope dV kV doc pm an cdv ct cc) (body := body) (binds := binds) hroom (Xs _ _ ho) rfl hl (codeRec_of Xs hcd) rfl hbind hcell hloc (fun h₁ hns hk₁ => ?_) hco hgen hk
  exact ks_wpAt_mono (h s.heap.objs.size h₁ (Fr.cong ⟨hns, fun b o e => hk₁ b o (of_hideAll _ e), Nat.le_of_eq (hideAll_size _ _)⟩ fun y => by rw [mp_pad, ← lookup_mp])
    (fun p hp => ⟨hk₁ _ _ (hobj p hp), Nat.ne_of_lt (Heap.lt_size (hobj p hp)), hideAll_none _ (List.mem_map_of_mem hp)⟩) fun p hp => Heap.lt_size (hobj p hp)) (fun _ _ x => x) fun _ _ x => x.elim
section
variable {prog : Program} {w : World} {A : Around} {E : Value → Shared → Prop} {s : Shared} {K : Frag} {x C q : Addr} {ox : Obj} {od : Option Obj}
theorem call_bound {id BT : String} {b : Builtin} {rest : List Value} {Q : Value → Shared → Prop} (hBT : BT = "method-wrapper" ∨ BT = "builtin_function_or_method")
    (hq : s.heap.get? q = some { cls := .type BT, data := .fields #[.builtin id, .ref x] }) (hp : plainId id = true) (hb : entryFor table id = some b)
    (hchk : ∀ {Q' : Unit → Shared → Prop} {E' : Value → Shared → Prop}, Q' () s → wpAny (model prog w) A.in1 (checkBoundCall id ⟨.ref x :: rest, []⟩) Q' E' s)
    (hc : wpAny (model prog w) A.in1 (b ⟨.ref x :: rest, []⟩) (fun fin s' => ∃ v, fin = .done (.ret v) ∧ Q v s') E s) : wpAny (model prog w) A (call (.ref q) rest) Q E s := by
  refine wpAny_call (codeAny_of_tree ?_)
  show wpAny _ A.in1 (callAny (.ref q) ⟨rest, []⟩) _ _ _
  unfold callAny
  refine wpAny_bind (wpAny_load hq ?_)
  have hgo : wpAny (model prog w) A.in1 (do checkBoundCall id ⟨.ref x :: rest, []⟩; again (.builtin id ⟨.ref x :: rest, []⟩)) (fun fin s' => match fin with
      | .done f => (match (Except.ok f : Result) with | .ok (.ret v) => Q v s' | .ok _ => False | .error e => E e s')
      | .again c' => c'.quiet = true ∧ codeAny (model prog w) A c' (fun r s' => match r with | .ok (.ret v) => Q v s' | .ok _ => False | .error e => E e s') s') E s := by
    refine wpAny_bind (hchk ?_)
    refine wpAny_pure ⟨plainId_quiet hp _, codeAny_builtin hb ?_⟩
    rw [Around.under_plainId hp _]
    exact wpAny_mono hc (fun fin s' h' => by obtain ⟨v, rfl, hv⟩ := h'; exact hv) fun _ _ h' => h'
  rcases hBT with rfl | rfl <;> exact hgo
end
section
variable {prog : Program} {w : World} {A : Around} {E : Value → Shared → Prop} {s : Shared} {K : Frag} {x a d q : Addr} {items : List Value} {n : Nat} {od : Option Obj}
theorem acc_seqSize {M : Model} {Q : Nat → Shared → Prop} (ha : s.heap.get? a = some (accO d items n)) (h : Q items.length s) : wpAny M A (seqSize a) Q E s := by
  unfold seqSize
  refine wpAny_bind (wpAny_load ha ?_)
  refine wpAny_pure ?_
  simpa using h
theorem acc_items {M : Model} {Q : Array Value → Shared → Prop} (ha : s.heap.get? a = some (accO d items n)) (h : Q items.toArray s) : wpAny M A (Builtin.List.listItems (.ref a)) Q E s := by
  unfold Builtin.List.listItems
  exact wpAny_bind (wpAny_seqItems ha rfl (wpAny_pure h))
theorem len_bound {Q : Value → Shared → Prop}
    (hq : s.heap.get? q = some { cls := .type "method-wrapper", data := .fields #[.builtin "list.__len__", .ref a] }) (ha : s.heap.get? a = some (accO d items n)) (h : ∀ t, Q (.int items.length t) { s with toks := s.toks + 1 }) :
    wpAny (model prog w) A (call (.ref q) []) Q E s := by
  refine call_bound (.inl rfl) hq (by decide +kernel) _root_.PySem.F.entry_list_len (fun {Q' E'} hq' => ?_) ?_
  · have e : checkBoundCall "list.__len__" ⟨[.ref a], []⟩ = pure () := by kernel_rfl
    rw [e]; exact wpAny_pure hq'
  · show wpAny _ _ (do retInt (← seqSize a)) _ _ _
    refine wpAny_bind (acc_seqSize ha (wpAny_bind (wpAny_mkInt (wpAny_pure ⟨_, rfl, h _⟩))))
theorem init_bound {Q : Value → Shared → Prop}
    (hq : s.heap.get? q = some { cls := .type "method-wrapper", data := .fields #[.builtin "list.__init__", .ref a] }) (ha : s.heap.get? a = some (accO d items n)) (hz : items.length < 1000)
    (h : ∀ h' n', Heap.SameBut a s.heap h' → h'.get? a = some (accO d [] n') → Q .none { s with heap := h' }) :
    wpAny (model prog w) A (call (.ref q) []) Q E s := by
  have hline := sizeLine_eq
  refine call_bound (.inl rfl) hq (by decide +kernel) _root_.PySem.F.entry_list_init (fun {Q' E'} hq' => ?_) ?_
  · have e : checkBoundCall "list.__init__" ⟨[.ref a], []⟩ = pure () := by kernel_rfl
    rw [e]; exact wpAny_pure hq'
  · unfold Builtin.«list.__init__»
    show wpAny _ _ (Builtin.List.listItems (.ref a) >>= fun old => Builtin.List.listUpdate (.ref a) (fun _ => #[]) >>= fun _ => letGo old.toList.reverse >>= fun _ => ret .none) _ _ _
    refine wpAny_bind (acc_items ha (wpAny_bind (acc_update ha (by omega) (by simp) fun h' n' hs ho => wpAny_bind (wpAny_letGo (wpAny_pure ⟨_, rfl, h h' n' hs ?_⟩)))))
    rw [ho]
theorem pop_args (a : Value) : ∃ sig, Manifest.signature? "list.pop" = some sig ∧ Bind.checkArgs "list.pop" { sig with full := s!"{("_Accumulator" : Str).toString}.{Bind.lastOf "list.pop"}" } ⟨[a], []⟩ = pure () := by
  rw [signature?_of (id := "list.pop") (n := ['p', 'o', 'p']) (o := ['t', 's', 'i', 'l']) (by kernel_rfl) _root_.PySem.F.owner_list]
  exact ⟨_, rfl, by kernel_rfl⟩
theorem pop_kind : builtinKind "list.pop" = some .method := by decide +kernel
theorem pop_var : Manifest.varargsMethods.contains "list.pop" = false := by decide +kernel
theorem pop_bound {v : Value} {Q : Value → Shared → Prop} (X : K.In s.heap) (I : W.InstAt s.heap a (accO d (items ++ [v]) n) 178 od) (hc : (clsIn K 178).map (·.qualname) = some ("_Accumulator" : Str)) (ht : typeIn K (.ref 178) = some (.type "type"))
    (hq : s.heap.get? q = some { cls := .type "builtin_function_or_method", data := .fields #[.builtin "list.pop", .ref a] }) (hz : items.length < 1000)
    (hm : mroIn K 178 (.type "module") = some false)
    (h : ∀ h' n', Heap.SameBut a s.heap h' → h'.get? a = some (accO d items n') → Q v { s with heap := h' }) :
    wpAny (model prog w) A (call (.ref q) []) Q E s := by
  have hline := sizeLine_eq
  refine call_bound (.inr rfl) hq (by decide +kernel) _root_.PySem.F.entry_list_pop (fun {Q' E'} hq' => ?_) ?_
  · obtain ⟨cd, hcd, hqn⟩ := Option.map_eq_some_iff.mp hc
    obtain ⟨sig, hsg, hca⟩ := pop_args (.ref a)
    unfold checkBoundCall
    obtain ⟨hh, g, dd, t, os⟩ := s
    have hT := I.type (M := model prog w)
    have hty := looks_typeIn (M := model prog w) X ht
    have hcl := looks_clsIn (M := model prog w) X hcd
    have hmo := looks_mroIn (M := model prog w) X hm
    rw [hsg, pop_kind, pop_var]
    show wpAny _ _ (isInstance (.ref a) (.type "module") >>= _) _ _ _
    unfold isInstance
    refine wpAny_bind (wpAny_bind (hT.at (hmo.at ?_)))
    refine wpAny_ite_false rfl ?_
    refine wpAny_bind ?_
    refine ks_wpAny_isType_inst I.at_ (fun c e => by cases e) ?_
    refine wpAny_ite_false rfl ?_
    refine wpAny_bind (hT.at ?_)
    refine wpAny_bind (hcl.at ?_)
    refine wpAny_bind (hty.at ?_)
    refine wpAny_ite_true (decide_eq_true BEq.rfl) ?_
    rw [hqn, hca]
    exact wpAny_pure hq'
  · unfold Builtin.«list.pop»
    refine wpAny_bind (wpAny_pure ?_)
    refine wpAny_bind (wpAny_pure ?_)
    show wpAny _ _ (Builtin.List.listItems (.ref a) >>= _) _ _ _
    refine wpAny_bind (acc_items I.at_ ?_)
    have hne : (items ++ [v]).toArray.isEmpty = false := by simp
    rw [hne]
    have hi : (seqIndex? (-1) (items ++ [v]).toArray.size).bind (fun k => (items ++ [v]).toArray[k]?.map (k, ·)) = some (items.length, v) := by
      have : seqIndex? (-1) (items ++ [v]).toArray.size = some items.length := by
        simp [seqIndex?]; omega
      rw [this]; simp
    simp only [Bool.false_eq_true, if_false]
    rw [hi]
    have her : ((items ++ [v]).toArray.eraseIdxIfInBounds items.length).toList = items := by simp [List.eraseIdx_append_of_length_le]
    refine wpAny_bind (acc_update I.at_ (by simp; omega) (by rw [← Array.length_toList, her]; omega) fun h' n' hs ho => wpAny_pure ⟨_, rfl, h h' n' hs ?_⟩)
    rw [ho, her]
end
end
-- O4
section
theorem refuse_acc (x : Value) : refuseLoop x "__setattr__" [.ref 178, .type "list", .type "object"] = pure () := by
  rw [refuseLoop_ref]; kernel_rfl
theorem entry_list_ga : entryFor table "list.__getattribute__" = some Builtin.«object.__getattribute__» := entryFor_alias (id' := "object.__getattribute__") (by kernel_rfl) (by decide +kernel) (by decide +kernel) (by kernel_rfl)
section
variable {prog : Program} {w : World} {A : Around} {E : Value → Shared → Prop} {s : Shared} {K : Frag} {x C a d q : Addr} {items : List Value} {n : Nat} {ox : Obj} {od : Option Obj}
theorem special_bi {M : Model} {name : Str} {id : String} {args : List Value} {Q : Option Value → Shared → Prop} (X : K.In s.heap) (I : W.InstAt s.heap x ox C od) (hs : findIn K (.ref C) name = some (some (.builtin id)))
    (hb : ∀ self, bindSpecial (.builtin id) self = pure (.builtin id, [self])) (h : wpAny M A (call (.builtin id) (.ref x :: args)) (fun v => Q (some v)) E s) : wpAny M A (callSpecial? (.ref x) name args) Q E s := by
  refine wpAny_bind (wpAny_bind (I.type.here ((looks_findIn X hs).here (wpAny_holding ?_))))
  rw [hb]
  exact wpAny_bind (wpAny_pure (wpAny_bind (wpAny_mono h (fun _ _ z => wpAny_pure z) fun _ _ z => z)))
theorem seqKey {M : Model} {k : Value} {name : Str} {Q : Value → Shared → Prop} (X : K.In s.heap) (I : W.InstAt s.heap x ox C od) (hm : mroIn K C (.type "collections.deque") = some false) (h : Q k s) : wpAny M A (sequenceKey (.ref x) k name) Q E s := by
  unfold sequenceKey
  refine wpAny_bind (I.type.here ?_)
  simp only [seqItemTypes, List.anyM]
  refine wpAny_bind (wpAny_bind ((looks_mroIn X hm).here (wpAny_pure ?_)))
  simp only [Bool.not_false, if_true]
  exact wpAny_pure h
theorem acc_getItem {k : Int} {t : Tok} {v : Value} {Q : Value → Shared → Prop} (X : K.In s.heap) (I : W.InstAt s.heap a (accO d items n) 178 od) (hm : mroIn K 178 (.type "list") = some true) (hq : mroIn K 178 (.type "collections.deque") = some false)
    (hs : findIn K (.ref 178) "__getitem__" = some (some (.builtin "list.__getitem__"))) (h0 : 0 ≤ k) (hfit : k < 2 ^ 63) (hx : items[k.toNat]? = some v) (h : Q v s) : wpAny (model prog w) A (getItem (.ref a) (.int k t)) Q E s := by
  unfold getItem
  try with_reducible refine wpAny_holding ?_
  refine wpAny_bind (seqKey X I hq ?_)
  refine wpAny_bind (special_bi X I hs slot_list_getitem.bind (call_sub (owner := "list") (n := "__getitem__") (by decide +kernel) (.inr (by decide +kernel)) (by decide +kernel) entry_list_getitem (args_list_getitem _ _) X I hm ?_))
  show wpAny _ _ (Builtin.List.listSubscript? (.int k t) >>= _) _ _ s
  refine wpAny_bind (wpAny_listSubscript_int (fitsIndex_of h0 hfit) ?_)
  clear hfit
  obtain ⟨j, rfl⟩ := Int.eq_ofNat_of_zero_le h0
  have hx' : items.toArray[j]? = some v := by simpa using hx
  show wpAny _ _ ((seqItemAt a j >>= fun r => pure (r.map (j, ·))) >>= _) _ _ s
  refine wpAny_bind (wpAny_bind (wpAny_seqItemAt I.at_ rfl (wpAny_pure ?_)))
  rw [hx']
  first
    | exact wpAny_bind (wpAny_pure (wpAny_pure ⟨v, rfl, wpAny_pure h⟩))
    | exact wpAny_pure ⟨v, rfl, wpAny_pure h⟩
theorem acc_getSlice {sl : Addr} {vl vu vs : Value} {lo hi st : Option Int} {Q : Value → Shared → Prop} (X : K.In s.heap) (I : W.InstAt s.heap a (accO d items n) 178 od) (hm : mroIn K 178 (.type "list") = some true) (hq : mroIn K 178 (.type "collections.deque") = some false)
    (hf : findIn K (.ref 178) "__getitem__" = some (some (.builtin "list.__getitem__"))) (hs : s.heap.IsSliceOf sl vl vu vs) (pl : IsPart vl lo) (pu : IsPart vu hi) (ps : IsPart vs st) (h0 : st ≠ some 0) (hz : items.length < 1000)
    (h : Q (.ref s.heap.objs.size) { s with heap := s.heap.push { cls := .type "list", data := .seq (slicePick items.toArray lo hi st) } }) : wpAny (model prog w) A (getItem (.ref a) (.ref sl)) Q E s := by
  have hline := sizeLine_eq
  obtain ⟨os, hos, hcs, hds⟩ := id hs
  have hTs : s.TypeIs (.ref sl) "slice" := ⟨os, hos, hcs⟩
  unfold getItem
  try with_reducible refine wpAny_holding ?_
  refine wpAny_bind (seqKey X I hq ?_)
  refine wpAny_bind (special_bi X I hf slot_list_getitem.bind (call_sub (owner := "list") (n := "__getitem__") (by decide +kernel) (.inr (by decide +kernel)) (by decide +kernel) entry_list_getitem (args_list_getitem _ _) X I hm ?_))
  show wpAny _ _ (Builtin.List.listSubscript? (.ref sl) >>= _) _ _ s
  refine wpAny_bind ?_
  unfold Builtin.List.listSubscript?
  refine wpAny_bind (wpAny_specialOf hTs slice_no_index ?_)
  refine bm_if_true rfl ?_
  refine wpAny_pure ?_
  show wpAny _ _ (typeOf (.ref sl) >>= _) _ _ s
  refine wpAny_bind (wpAny_typeOf hTs ?_)
  refine wpAny_ite_false (by decide) ?_
  rw [listSliceParts_eq]
  have hstep : ¬ ((rawPart st == rawInt 0) = true) := by
    cases st with
    | none => exact Bool.false_ne_true
    | some c =>
      intro hh
      have : c = 0 := by simpa [rawPart, rawInt] using hh
      exact h0 (by rw [this])
  refine wpAny_bind (wpAny_bind (wpAny_field hos hds (x := vs) rfl (wpAny_bind (wpAny_listPart ps ?_))))
  refine wpAny_ite_false (decide_eq_false hstep) ?_
  refine wpAny_bind (wpAny_field hos hds (x := vl) rfl (wpAny_bind (wpAny_listPart pl ?_)))
  refine wpAny_bind (wpAny_field hos hds (x := vu) rfl (wpAny_bind (wpAny_listPart pu (wpAny_pure ?_))))
  refine wpAny_bind (acc_items I.at_ ?_)
  refine wpAny_bind (wpAny_of_eq (sliceIndices_raw lo hi st items.toArray.size h0) ?_)
  refine wpAny_bind (wpAny_newObj_type (wpAny_pure ⟨_, rfl, wpAny_pure h⟩) (Nat.le_trans (slicePick_size_le items.toArray lo hi st) (by simp; omega)))
theorem items_at {M : Model} {o : Obj} {xs : Array Value} {k : Nat} {Q : Array Value → Shared → Prop} (ho : s.heap.get? a = some o) (hd : o.data = .seq xs k) (h : Q xs s) : wpAny M A (Builtin.List.listItems (.ref a)) Q E s := by
  unfold Builtin.List.listItems
  exact wpAny_bind (wpAny_seqItems ho hd (wpAny_pure h))
theorem acc_setSlice {sl r : Addr} {vl : Value} {lo : Option Int} {new : List Value} {nn : Nat} {Q : Unit → Shared → Prop} (X : K.In s.heap) (I : W.InstAt s.heap a (accO d items n) 178 od) (hm : mroIn K 178 (.type "list") = some true) (hq : mroIn K 178 (.type "collections.deque") = some false)
    (hf : findIn K (.ref 178) "__setitem__" = some (some (.builtin "list.__setitem__"))) (hs : s.heap.IsSliceOf sl vl .none .none) (pl : IsPart vl lo) (hlo : lo = none ∨ ∃ k : Nat, lo = some (k : Int) ∧ k ≤ items.length)
    (hr : s.heap.get? r = some { cls := .type "list", data := .seq new.toArray nn }) (hra : r ≠ a) (hz : items.length < 1000) (hz' : new.length < 1000)
    (h : ∀ h' n', Heap.SameBut a s.heap h' → h'.get? a = some (accO d (items.take (lo.elim 0 Int.toNat) ++ new) n') → Q () { s with heap := h' }) : wpAny (model prog w) A (setItem (.ref a) (.ref sl) (.ref r)) Q E s := by
  have hline := sizeLine_eq
  obtain ⟨os, hos, hcs, hds⟩ := id hs
  have hTs : s.TypeIs (.ref sl) "slice" := ⟨os, hos, hcs⟩
  have hTr : s.TypeIs (.ref r) "list" := ⟨_, hr, rfl⟩
  unfold setItem
  try with_reducible refine wpAny_holding ?_
  refine wpAny_bind (seqKey X I hq ?_)
  refine wpAny_bind (special_bi X I hf slot_list_setitem.bind (call_sub (owner := "list") (n := "__setitem__") (by decide +kernel) (.inl (by decide +kernel)) (by decide +kernel) entry_list_setitem (args_list_setitem _ _ _) X I hm ?_))
  show wpAny _ _ (Builtin.List.listSubscript? (.ref sl) >>= _) _ _ s
  refine wpAny_bind ?_
  unfold Builtin.List.listSubscript?
  refine wpAny_bind (wpAny_specialOf hTs slice_no_index ?_)
  refine bm_if_true rfl ?_
  refine wpAny_pure ?_
  show wpAny _ _ (typeOf (.ref sl) >>= _) _ _ s
  refine wpAny_bind (wpAny_typeOf hTs ?_)
  refine wpAny_ite_false (by decide) ?_
  rw [listSliceParts_eq]
  refine wpAny_bind (wpAny_bind (wpAny_field hos hds (x := .none) rfl (wpAny_bind (wpAny_listPart .none ?_))))
  refine wpAny_ite_false rfl ?_
  refine wpAny_bind (wpAny_field hos hds (x := vl) rfl (wpAny_bind (wpAny_listPart pl ?_)))
  refine wpAny_bind (wpAny_field hos hds (x := .none) rfl (wpAny_bind (wpAny_listPart .none (wpAny_pure ?_))))
  have hsame : Builtin.List.listSameRef (.ref a) (.ref r) = false := by
    show (a == r) = false
    simpa using fun e : a = r => hra e.symm
  refine bm_if_false hsame ?_
  refine wpAny_bind ?_
  unfold Builtin.List.listAllItems
  refine wpAny_bind (wpAny_typeOf hTr ?_)
  refine wpAny_ite_true rfl ?_
  first
    | refine items_at hr rfl ?_
    | refine wpAny_bind (items_at hr rfl (wpAny_pure ?_))
    | refine wpAny_bind (wpAny_bind (items_at hr rfl (wpAny_pure ?_)))
    | refine wpAny_bind (items_at hr rfl ?_)
  refine wpAny_bind (items_at I.at_ rfl ?_)
  refine wpAny_bind (wpAny_of_eq (sliceIndices_raw lo none none items.toArray.size (by decide)) ?_)
  obtain ⟨k, hk, hb⟩ : ∃ k : Nat, k ≤ items.length ∧ sliceBounds lo none none items.toArray.size = ((k : Int), (items.length : Int), 1) ∧ lo.elim 0 Int.toNat = k := by
    rcases hlo with rfl | ⟨k, rfl, hk⟩
    · exact ⟨0, Nat.zero_le _, by simp [sliceBounds], rfl⟩
    · refine ⟨k, hk, ?_, by simp⟩
      simp only [sliceBounds, Option.getD_none, List.size_toArray]
      simp
      omega
  rw [hb.1]
  rw [hb.2] at h
  dsimp only
  refine wpAny_ite_true rfl ?_
  refine wpAny_bind (wpAny_rule ?_)
  have htl : Builtin.List.listTooLong (items.toArray.size + new.toArray.size) = false := by simp [Builtin.List.listTooLong]; omega
  refine bm_if_false htl ?_
  have hnew : ∀ xs : Array Value, xs = items.toArray → (xs.extract 0 (Int.toNat (k : Int)) ++ new.toArray ++ xs.extract (max (k : Int) (items.length : Int)).toNat xs.size).toList = items.take k ++ new := by
    rintro _ rfl
    have : (max (k : Int) (items.length : Int)).toNat = items.length := by omega
    simp [this]
  refine wpAny_bind (acc_update I.at_ (by omega) (by rw [← Array.length_toList, hnew _ rfl]; simp; omega) fun h' n' hs ho => ?_)
  refine wpAny_bind (wpAny_letGo (wpAny_pure ⟨_, rfl, ?_⟩))
  rw [hnew _ rfl] at ho
  exact wpAny_pure (h h' n' hs ho)
end
end
-- O5
section
variable {prog : Program} {w : World} {A : Around} {E : Value → Shared → Prop} {R : Result → Shared → Prop} {s : Shared} {K : Frag} {a dx L : Addr} {ox od : Obj} {h₀ : Heap} {m : Str → Option Value} {news news' : List (Addr × Obj)} {es es' : List DictEntry} {n n' : Nat} {name : Str} {v : Value}
theorem lookIn_dict {name : Str} {od : Obj} (hl : (lookIn name od).isSome = true) : ∃ es n, od.data = .dict es n ∧ (!es.any (·.key.isStr name) && es.any (·.refKey)) = false := by
  cases hd : od.data with
  | dict es n =>
    refine ⟨es, n, rfl, ?_⟩
    unfold lookIn at hl
    rw [hd] at hl
    rw [← Array.any_toList, ← Array.any_toList]
    cases hf : es.toList.find? (·.key.isStr name) with
    | some en => rw [List.any_eq_true.mpr ⟨en, List.mem_of_find?_eq_some hf, List.find?_some hf⟩]; rfl
    | none =>
      cases hr : es.toList.any (·.refKey) with
      | false => rw [Bool.and_false]
      | true => dsimp only at hl; rw [hf] at hl; dsimp only at hl; rw [hr] at hl; exact absurd hl Bool.false_ne_true
  | _ => unfold lookIn at hl; rw [hd] at hl; exact absurd hl Bool.false_ne_true
theorem acc_osa {od' : Obj} {tk : Tok} {pre post : List (Addr × Obj)} (F : Fr h₀ L s.heap m) (N : News h₀ L s.heap (pre ++ (dx, od) :: post)) (X : K.In s.heap)
    (I : W.InstAt s.heap a ox 178 (some od)) (hd : ox.dict = some dx) (hmro : (clsIn K 178).map (·.mro) = some [.ref 178, .type "list", .type "object"]) (hob : mroIn K 178 (.type "object") = some true) (ht : takerIn K 178 name = some none) (hh : hasDictIn K 178 = true)
    (hl : (lookIn name od).isSome = true) (h1 : ∀ p ∈ pre, p.1 ≠ dx) (h2 : ∀ p ∈ post, p.1 ≠ dx)
    (e : Obj.putName name (PyData.keyHash w.params name) (.str name s.toks) v od = od') (e' : od'.data = .dict es.toArray n) (hz : es.length ≤ 1000)
    (h : ∀ h', Fr h₀ L h' m → News h₀ L h' (pre ++ (dx, od') :: post) → R (.ok (.ret .none)) { s with heap := h', toks := s.toks + 1 }) :
    codeAny (model prog w) A (.call (.builtin "object.__setattr__") ⟨[.ref a, .str name tk, v], []⟩) R s := by
  have SF := PySem.F.store_object
  obtain ⟨cd, hc, hm⟩ := Option.map_eq_some_iff.mp hmro
  obtain ⟨cd', hc', hd'⟩ := any_some hh
  rw [hc] at hc'; cases hc'
  have sub : Looks (model prog w) s.heap (isInstance (.ref a) (.type "object")) true := I.type.andThen (looks_mroIn X hob)
  refine codeAny_call_builtin SF.slot.plain SF.entry (@check_slot (model prog w) _ _ s "object.__setattr__" "object" "__setattr__" (.ref a) [.str name tk, v] [] _ SF.kind SF.split sub (SF.args (.ref a) (.str name tk) v) ?_)
  obtain ⟨attr, ha, hr⟩ := Option.bind_eq_some_iff.mp ht
  have hmo : Looks (model prog w) s.heap (mroOf (.ref 178)) cd.mro := (looks_clsIn X hc).andThen .now
  have L3 : Looks (model prog w) s.heap (Builtin.ObjectAttr.storeTaker? attr) none := by
    cases attr with
    | none => exact .now
    | some a =>
      obtain ⟨b, hb, hbn⟩ := Option.map_eq_some_iff.mp hr
      refine (looks_takesIn X hb).andThen ?_
      cases b
      · exact .now
      · cases hbn
  rw [osa_eq, refuse_eq]
  refine wpAny_bind (wpAny_bind (I.type.here (wpAny_bind (hmo.here ?_))))
  rw [hm, refuse_acc]
  refine wpAny_pure (wpAny_bind (I.type.here (wpAny_bind ((looks_findIn X ha).here (wpAny_bind (L3.here ?_))))))
  obtain ⟨U1, U2⟩ := news_upd (f := Obj.putName name (PyData.keyHash w.params name) (.str name s.toks) v) F N h1 h2 e (by obtain ⟨_, _, dd, _⟩ := od'; cases e'; rfl)
  have D := (N (dx, od) (by simp)).1
  have D' := (U2 (dx, od') (by simp)).1
  obtain ⟨hx, hcl, hn, -⟩ := I
  obtain ⟨oc, odi, oda, osl⟩ := ox
  dsimp only at hcl hd
  subst hcl hd
  refine wpAny_bind (wpAny_pure (wpAny_bind (wpAny_bind (wpAny_loadPart hx (wpAny_bind ((looks_clsIn X hc).here ?_))))))
  rw [hd']
  refine wpAny_pure (a := some dx) (wpAny_bind (wpAny_pure (wpAny_bind ?_)))
  unfold nsSet
  refine wpAny_bind (wpAny_bind (wpAny_askSetting (wpAny_pure (wpAny_bind (wpAny_mkText (wpAny_bind (wpAny_loadPart D ?_)))))))
  obtain ⟨es₀, n₀, q, c⟩ := lookIn_dict hl
  rw [q]
  dsimp only
  rw [aRefKeyMayBeTheName_at, c]
  refine wpAny_updatePart D ?_
  refine wpAny_bind (wpAny_lookBehind D' (by rw [e']; exact pastItsLine_dict (by rw [List.size_toArray, sizeLine_eq]; omega)) ?_)
  exact wpAny_pure (h _ U1 U2)
theorem acc_set {Q : Unit → Shared → Prop} (F : Fr h₀ L s.heap m) (X₀ : K.In h₀) (N : News h₀ L s.heap news) (I : W.InstAt s.heap a ox 178 (some (dictOf es n))) (hd : ox.dict = some dx)
    (hs : findIn K (.ref 178) "__setattr__" = some (some (.builtin "object.__setattr__"))) (hmro : (clsIn K 178).map (·.mro) = some [.ref 178, .type "list", .type "object"]) (hob : mroIn K 178 (.type "object") = some true) (ht : takerIn K 178 name = some none) (hh : hasDictIn K 178 = true) (hl : (getL name es).isSome = true)
    (e : (putL name (PyData.keyHash w.params name) (.str name (s.toks + 1)) v es, putN name es n) = (es', n')) (U : Upd dx (dictOf es n) (dictOf es' n') news news') (hz : es'.length ≤ 1000)
    (h : ∀ h', Fr h₀ L h' m → News h₀ L h' news' → Q () { s with heap := h', toks := s.toks + 2 }) :
    wpAny (model prog w) A (setAttr (.ref a) name v) Q E s := by
  obtain ⟨pre, post, rfl, rfl, a, b⟩ := U.split
  obtain ⟨e1, e2⟩ := Prod.mk.inj e
  exact set_plain (X₀.keeps F.keep) I hs (acc_osa (s := { s with toks := s.toks + 1 }) F N (X₀.keeps F.keep) I hd hmro hob ht hh hl a b (by rw [putName_dict, e1, e2]) rfl hz fun h' F' N' => h h' F' N')
theorem acc_get {expr : Bool} {Q : Value → Shared → Prop} (X : K.In s.heap) (I : W.InstAt s.heap a ox 178 (some od)) (hga : findIn K (.ref 178) "__getattribute__" = some (some (.builtin "list.__getattribute__"))) (hk : findIn K (.ref 178) "__getattr__" = some none) (hm : mroIn K 178 (.type "list") = some true)
    (hf : findObj K 178 (some od) name = some (.value v)) (hh : handedIn v = true) (h : Q v { s with toks := s.toks + 1 }) : wpAny (model prog w) A (getAttr (.ref a) name expr) Q E s := by
  obtain ⟨hp, g, d, t, os⟩ := s
  have L0 := I.type (M := model prog w)
  have L1 := looks_findIn (M := model prog w) X hga
  have L2 := looks_findIn (M := model prog w) X hk
  have L3 := looks_find (M := model prog w) X I hf
  unfold getAttr getAttrBy
  refine wpAny_bind (wpAny_mkText (wpAny_holding (wpAny_bind (L0.at (wpAny_bind (L1.at ?_))))))
  show wpAny _ _ (getAttrByItsOwn _ _ _ _ _ _) _ _ _
  unfold getAttrByItsOwn hookBefore
  refine wpAny_bind (L2.at ?_)
  have hcall : callGetattribute (.ref a) (.str name t) (.builtin "list.__getattribute__") expr = boundAndCalled (.builtin "list.__getattribute__") (.ref a) (.str name t) := by
    unfold callGetattribute
    rw [if_neg (by cases expr <;> exact Bool.false_ne_true)]
  rw [hcall]
  unfold boundAndCalled
  refine wpAny_bind (wpAny_attempt (wpAny_holding ?_))
  rw [F.slot_list_getattribute.bind]
  refine wpAny_bind (wpAny_pure ?_)
  refine call_sub (owner := "list") (n := "__getattribute__") (by decide +kernel) (.inl (by decide +kernel)) (by decide +kernel) entry_list_ga (F.args_list_getattribute_2 _ _) X I hm ?_
  unfold Builtin.«object.__getattribute__»
  refine wpAny_bind (wpAny_pure ?_)
  refine wpAny_bind (wpAny_pure ?_)
  refine wpAny_bind (L0.at ?_)
  refine wpAny_bind (L3.at ?_)
  refine wpAny_pure ⟨_, rfl, ?_⟩
  show wpAny _ _ (handedOut v) _ _ _
  rw [handedOut_of hh]
  exact wpAny_pure h
end
local macro_rules | `(tactic| walk_at "setAttr ref") => `(tactic| k_dflt (refine acc_set (by k_asm) (by k_asm) (by k_asm) (by k_inst) rfl (by k_is) (by kernel_rfl) (by k_is) (by k_is) (by k_is) (by k_get) (by k_put) (by k_upd) (Nat.le_of_ble_eq_true rfl) ?_; k_whole; intro h' F' N'; (try k_sweep); (try dsimp only)))
local macro_rules | `(tactic| walk_at "getAttr ref") => `(tactic| k_dflt (refine acc_get (Frag.In.keeps (by k_asm) (Fr.keep (by k_asm))) (by k_inst) (by k_is) (by k_is) (by k_is) (findObj_own (by k_is) (by k_is) (by k_is) (by first | exact rfl | k_get)) (by first | exact rfl | k_handed) ?_; k_whole))

/-- what a callee leaves -/
inductive KB (hid : List Addr) (s s' : Shared) : Prop
  | mk (h' : Heap) (tk : Nat) (g' : Array GenState) : s' = { s with heap := h', toks := tk, gens := g' } → (∀ b o, b ∉ hid → s.heap.get? b = some o → h'.get? b = some o) → (AllBare s.gens → AllBare g') → KB hid s s'
inductive Parts (h : Heap) : List Value → List (Str × Str) → Prop
  | nil : Parts h [] []
  | cons {t : Addr} {a b : Tok} {p : Str × Str} {items : List Value} {ps : List (Str × Str)} : h.get? t = some (tupO [.str p.1 a, .str p.2 b]) → Parts h items ps → Parts h (.ref t :: items) (p :: ps)
theorem Parts.keep {h h' : Heap} {items : List Value} {ps : List (Str × Str)} (x : Parts h items ps) (hk : ∀ b o, h.get? b = some o → h'.get? b = some o) : Parts h' items ps := by
  induction x with
  | nil => exact .nil
  | cons ho _ ih => exact .cons (hk _ _ ho) ih
theorem Parts.length {h : Heap} {items : List Value} {ps : List (Str × Str)} (x : Parts h items ps) : items.length = ps.length := by
  induction x with
  | nil => rfl
  | cons ho _ ih => simp [ih]
theorem Parts.append {h : Heap} {i1 i2 : List Value} {p1 p2 : List (Str × Str)} (x : Parts h i1 p1) (y : Parts h i2 p2) : Parts h (i1 ++ i2) (p1 ++ p2) := by
  induction x with
  | nil => exact y
  | cons ho _ ih => exact .cons ho ih
theorem Parts.one {h : Heap} {t : Addr} {a b : Tok} {p : Str × Str} (ho : h.get? t = some (tupO [.str p.1 a, .str p.2 b])) : Parts h [.ref t] [p] := .cons ho .nil
theorem Parts.split {h : Heap} {items : List Value} {p1 p2 : List (Str × Str)} (x : Parts h items (p1 ++ p2)) : ∃ i1 i2, items = i1 ++ i2 ∧ Parts h i1 p1 ∧ Parts h i2 p2 := by
  induction p1 generalizing items with
  | nil => exact ⟨[], items, rfl, .nil, x⟩
  | cons q r ih =>
    cases x with
    | cons ho y => obtain ⟨i1, i2, rfl, a, b⟩ := ih y; exact ⟨_ :: i1, i2, rfl, .cons ho a, b⟩
theorem Parts.snoc {h : Heap} {items : List Value} {ps : List (Str × Str)} {p : Str × Str} (x : Parts h items (ps ++ [p])) : ∃ (i1 : List Value) (t : Addr) (a b : Tok), items = i1 ++ [.ref t] ∧ Parts h i1 ps ∧ h.get? t = some (tupO [.str p.1 a, .str p.2 b]) := by
  obtain ⟨i1, i2, rfl, a, b⟩ := x.split
  cases b with
  | cons ho y => cases y; exact ⟨i1, _, _, _, rfl, a, ho⟩
theorem Parts.get {h : Heap} {items : List Value} {ps : List (Str × Str)} (x : Parts h items ps) : ∀ (i : Nat) (p : Str × Str), ps[i]? = some p → ∃ (t : Addr) (a b : Tok), items[i]? = some (Value.ref t) ∧ h.get? t = some (tupO [.str p.1 a, .str p.2 b]) := by
  induction x with
  | nil => intro i p e; simp at e
  | cons ho _ ih =>
    intro i p e
    cases i with
    | zero => simp at e; subst e; exact ⟨_, _, _, rfl, ho⟩
    | succ i => simpa using ih i p (by simpa using e)
noncomputable def TabOk (l c : Nat) (t : Array Value) : Prop := t = #[] ∨ ∃ c', t = #[rawInt l, rawInt c, .ref c']
noncomputable abbrev accS (a d : Addr) (items : List Value) (n : Nat) (hs : Int) (tk it : Tok) (e : Nat) (t1 t2 : Array Value) : List (Addr × Obj) := [(a, accO d items n), (d, accD hs tk 0 it e), (140, tabObj t1), (147, tabObj t2)]
inductive Acc (a d : Addr) (ps : List (Str × Str)) (h : Heap) : Prop
  | mk (items : List Value) (n : Nat) (hs : Int) (tk it : Tok) (e : Nat) (t1 t2 : Array Value) : (∀ p ∈ accS a d items n hs tk it e t1 t2, h.get? p.1 = some p.2) → Parts (hideAll h [a, d, 140, 147]) items ps → TabOk 93 19 t1 → TabOk 96 32 t2 → Acc a d ps h
theorem hide_mono {h : Heap} {l l' : List Addr} (hs : ∀ b ∈ l, b ∈ l') {b : Addr} {o : Obj} (e : (hideAll h l').get? b = some o) : (hideAll h l).get? b = some o :=
  hideAll_get _ (of_hideAll _ e) fun hb => by rw [hideAll_none _ (hs b hb)] at e; cases e
theorem accS_at {a d : Addr} {items : List Value} {n : Nat} {hs : Int} {tk it : Tok} {e : Nat} {t1 t2 : Array Value} {h : Heap} (h1 : h.get? a = some (accO d items n)) (h2 : h.get? d = some (accD hs tk 0 it e)) (h3 : h.get? 140 = some (tabObj t1)) (h4 : h.get? 147 = some (tabObj t2)) :
    ∀ p ∈ accS a d items n hs tk it e t1 t2, h.get? p.1 = some p.2 := by
  intro p hp
  simp only [List.mem_cons, List.not_mem_nil, or_false] at hp
  rcases hp with rfl | rfl | rfl | rfl
  · exact h1
  · exact h2
  · exact h3
  · exact h4
/-- the end of an accumulator's method -/
theorem acc_end {s : Shared} {L a d : Addr} {h' : Heap} {m : Str → Option Value} {news : List (Addr × Obj)} {items : List Value} {n : Nat} {hs : Int} {tk it : Tok} {e tk' : Nat} {t1 t2 : Array Value} {ps : List (Str × Str)} {g : Array GenState}
    (F : Fr (hideAll s.heap [a, d, 140, 147]) L h' m) (N : News (hideAll s.heap [a, d, 140, 147]) L h' news) (h1 : (a, accO d items n) ∈ news) (h2 : (d, accD hs tk 0 it e) ∈ news) (h3 : (140, tabObj t1) ∈ news) (h4 : (147, tabObj t2) ∈ news)
    (hP : Parts (hideAll h' [a, d, 140, 147]) items ps) (k1 : TabOk 93 19 t1) (k2 : TabOk 96 32 t2) (hg : AllBare s.gens → AllBare g) :
    KB [a, d, 140, 147] s { s with heap := h', toks := tk', gens := g } ∧ Acc a d ps h' :=
  ⟨⟨h', tk', g, rfl, fun b o hb e => F.keep b o (hideAll_get _ e hb), hg⟩, items, n, hs, tk, it, e, t1, t2, accS_at (N _ h1).1 (N _ h2).1 (N _ h3).1 (N _ h4).1, hP, k1, k2⟩
/-- the parts of the start, still there -/
theorem Fr.parts {s : Shared} {L a d : Addr} {h' : Heap} {m : Str → Option Value} {items : List Value} {ps : List (Str × Str)} (F : Fr (hideAll s.heap [a, d, 140, 147]) L h' m) (hP : Parts (hideAll s.heap [a, d, 140, 147]) items ps) : Parts (hideAll h' [a, d, 140, 147]) items ps :=
  hP.keep fun b o e => hideAll_get _ (F.keep b o e) fun hb => by rw [hideAll_none _ hb] at e; cases e
/-- an accumulator's method is entered -/
local macro_rules | `(tactic| walk_at "wpAt") => `(tactic| (ks_step "attributeBase Call"; k_dflt (refine ks_node (by k_asm) (by k_asm) (by k_asm) (by k_asm) (by k_is) (by rfl) (by rfl) (by k_inst) (by k_is) (by rfl) (by first | rfl | decide +kernel) (by k_is) (by k_is) (by k_is) (by k_is) (by decide) (by rfl) (by rfl) (by rfl) (by rfl) (by decide +kernel) (by first | boot_by_name | rfl | kernel_rfl) ?_; intro so' h' F' N' l1; (try k_lt l1); (try dsimp only))))
local macro_rules | `(tactic| walk_at "getMethod ref") => `(tactic| k_dflt (refine supMethod (by k_asm) (by k_asm) (by k_asm) (by k_mem) (by k_inst) (by k_is) (by k_is) (by ks_is) (by first | exact .inl ⟨rfl, .inl rfl⟩ | exact .inl ⟨rfl, .inr rfl⟩ | exact .inr ⟨rfl, rfl⟩) (by decide) ?_; k_whole; intro q' h' F' N' l1; (try k_lt l1); (try dsimp only)))
-- N1
section
noncomputable def makesL (K : Frag) (C : Addr) : Bool := match K.lookup C with
  | some ⟨_, _, .cls cd, sl⟩ => !cd.abstract && !cd.hasDel && (sl.toList[4]?).join == some (.builtin "list.__new__") && !cd.mro.isEmpty && cd.mro.contains (.ref C) && cd.mro.contains (.type "list") &&
      specialIn K (.ref C) "__call__" == some (some (.builtin "type.__call__")) && instIn K (.ref C) (.type "type") == some true
  | _ => false
structure MakesL (M : Model) (h : Heap) (C : Addr) : Prop where
  obj : ∃ oc od cd sl, h.get? C = some ⟨oc, od, .cls cd, sl⟩ ∧ cd.abstract = false ∧ cd.hasDel = false ∧ cd.mro.isEmpty = false
  made : Looks M h (Bind.madeBy (.ref C)) (some "list.__new__")
  base : Looks M h (Bind.staticBase (.ref C)) (.ref C)
  self : Looks M h (isSubtype (.ref C) (.ref C)) true
  top : Looks M h (isSubtype (.ref C) (.type "list")) true
  call : Looks M h (specialOf (.ref C) "__call__") (some (.builtin "type.__call__"))
  typ : Looks M h (isInstance (.ref C) (.type "type")) true
theorem makesL_of {K : Frag} {M : Model} {h : Heap} (X : K.In h) {C : Addr} (e : makesL K C = true) : MakesL M h C := by
  rcases ho : K.lookup C with _ | ⟨oc, od, dt, sl⟩
  · unfold makesL at e; rw [ho] at e; exact absurd e Bool.false_ne_true
  · cases dt with
  | cls cd =>
    unfold makesL at e
    rw [ho] at e
    simp only [Bool.and_eq_true, Bool.not_eq_true', beq_iff_eq] at e
    obtain ⟨⟨⟨⟨⟨⟨⟨e1, e2⟩, e3⟩, e4⟩, e5⟩, e6⟩, e7⟩, e8⟩ := e
    have hc : clsIn K C = some cd := by unfold clsIn; rw [ho]
    have hm : Looks M h (mroOf (.ref C)) cd.mro := (looks_clsIn X hc).andThen .now
    obtain ⟨c, l, hl⟩ : ∃ c l, cd.mro = c :: l := by cases q : cd.mro with | nil => rw [q] at e4; cases e4 | cons c l => exact ⟨c, l, rfl⟩
    have made : Looks M h (Bind.madeBy (.ref C)) (some "list.__new__") := fun A Q E s k q => by
      unfold Bind.madeBy
      refine wpAny_bind (hm A _ E s k ?_)
      rw [hl, List.forIn_cons]
      refine wpAny_bind (wpAny_bind (wpAny_bind (wpAny_bind (wpAny_loadPart (k _ _ (X _ _ ho)) (wpAny_pure ?_)))))
      dsimp only
      rw [← Array.getElem?_toList, e3]
      exact wpAny_pure (wpAny_pure (wpAny_pure q))
    refine ⟨⟨oc, od, cd, sl, X _ _ ho, e1, e2, e4⟩, made, fun A Q E s k q => ?_, looks_mroIn X ?_, looks_mroIn X ?_, looks_specialIn X e7, looks_instIn X e8⟩
    · unfold Bind.staticBase
      refine wpAny_bind (hm A _ E s k ?_)
      rw [hl, List.forIn_cons]
      exact wpAny_bind (wpAny_bind (wpAny_bind (made A _ E s k (wpAny_pure (wpAny_pure (wpAny_pure q))))))
    · unfold mroIn; rw [hc, Option.bind_some, if_neg (by rw [e4]; decide), e5]
    · unfold mroIn; rw [hc, Option.bind_some, if_neg (by rw [e4]; decide), e6]
  | _ => unfold makesL at e; rw [ho] at e; exact absurd e Bool.false_ne_true
theorem kind_list_new : builtinKind "list.__new__" = some .builtinFn := by decide +kernel
theorem split_list_new : splitId "list.__new__" = some ("list", "__new__") := by decide +kernel
theorem args_list_newC (C : Addr) (rest : List Value) : argsOk "list.__new__" ⟨.ref C :: rest, []⟩ := by unfold argsOk; kernel_rfl
theorem quiet_list_new (a : Args) : (Code.builtin "list.__new__" a).quiet = true := Code.quiet_builtin _ (by decide +kernel)
noncomputable abbrev newAcc (C dx : Addr) : Obj := { cls := .ref C, dict := some dx, data := .seq #[] }
section
variable {prog : Program} {w : World} {A : Around} {K : Frag} {C : Addr} {R : Result → Shared → Prop} {h : Heap} {g : Array GenState} {d : Drawn} {t : Nat} {os : OsState}
theorem check_list_new {A : Around} {E : Value → Shared → Prop} {rest : List Value} {Q : Unit → Shared → Prop} (Y : MakesL (model prog w) h C) (q : Q () ⟨h, g, d, t, os⟩) : wpAny (model prog w) A (checkBuiltinCall "list.__new__" ⟨.ref C :: rest, []⟩) Q E ⟨h, g, d, t, os⟩ := by
  obtain ⟨⟨oc, od, cd, sl, hC, e1, e2, e4⟩, made, base, self, top, call, typ⟩ := Y
  unfold checkBuiltinCall
  rw [kind_list_new, split_list_new]
  dsimp only
  refine wpAny_bind (m := isType (.ref C)) (ks_wpAny_isType_cls hC rfl ?_)
  refine wpAny_ite_false rfl ?_
  refine wpAny_bind (top.at ?_)
  refine wpAny_ite_false rfl ?_
  first | refine wpAny_bind (base.at ?_) | (refine wpAny_bind (wpAny_pure ?_); refine wpAny_bind (base.at ?_))
  refine wpAny_bind (made.at ?_)
  dsimp only
  rw [bne_self_eq_false, if_neg (by exact Bool.false_ne_true)]
  have ha := args_list_newC C rest
  cases hsig : Manifest.signature? "list.__new__" with
  | none => exact wpAny_pure q
  | some sig =>
    simp only [argsOk, hsig] at ha
    have h2 : Bind.checkArgs "list.__new__" sig ⟨.ref C :: rest, []⟩ = pure () := ha
    show wpAny _ _ (Bind.checkArgs "list.__new__" sig ⟨.ref C :: rest, []⟩) _ _ _
    rw [h2]; exact wpAny_pure q
theorem new_acc {rest : List Value} (Y : MakesL (model prog w) h C)
    (hq : R (.ok (.ret (.ref (h.objs.size + 1)))) ⟨(h.push emptyDict).push (newAcc C h.objs.size), g, d, t, os⟩) :
    codeAny (model prog w) A (.call (.builtin "list.__new__") ⟨.ref C :: rest, []⟩) R ⟨h, g, d, t, os⟩ := by
  have Y' := Y
  obtain ⟨⟨oc, od, cd, sl, hC, e1, e2, e4⟩, made, base, self, top, call, typ⟩ := Y
  refine codeAny_of_tree ?_
  show wpAny _ A.in1 (do checkBuiltinCall "list.__new__" ⟨.ref C :: rest, []⟩; again (.builtin "list.__new__" ⟨.ref C :: rest, []⟩)) _ _ _
  refine wpAny_bind (check_list_new Y' ?_)
  refine wpAny_pure ⟨quiet_list_new _, codeAny_builtin_stack _root_.PySem.F.entry_list_new rfl fun p st => ?_⟩
  have hown := owner_list_new
  dsimp only
  rw [hown]
  refine wpAny_bind (m := isType (.ref C)) (ks_wpAny_isType_cls hC rfl ?_)
  refine wpAny_ite_false rfl ?_
  refine wpAny_bind (top.at ?_)
  refine wpAny_ite_false rfl ?_
  refine wpAny_bind (wpAny_pure ?_)
  rw [if_neg (by exact Bool.false_ne_true)]
  refine wpAny_bind (m := newDict) (wpAny_newObj_type ?_)
  dsimp only
  refine wpAny_bind (m := newObj _ _ _) ?_
  show wpAny _ _ (newObjAsIs _ _ _) _ _ _
  unfold newObjAsIs classHasDel
  refine wpAny_bind (wpAny_alloc (wpAny_bind (wpAny_bind (wpAny_load (Heap.get?_push_of_some _ (Heap.get?_push_of_some _ hC)) (wpAny_pure ?_)))))
  dsimp only
  rw [e2, if_neg (by exact Bool.false_ne_true)]
  refine wpAny_pure (wpAny_pure ?_)
  show R _ _
  rw [Heap.size_push]
  exact hq
theorem make_acc {rest : List Value} {init : Value} (Y : MakesL (model prog w) h C) (hi : Looks (model prog w) h (typeLookup (.ref C) "__init__") (some init))
    (hb : ∀ self, Looks (model prog w) h (bindSpecial init self) (init, [self]))
    (hq : codeAny (model prog w) (A.under (.builtin "type.__call__" ⟨.ref C :: rest, []⟩)) (.call init ⟨.ref (h.objs.size + 1) :: rest, []⟩) (InitBack (h.objs.size + 1) R) ⟨(h.push emptyDict).push (newAcc C h.objs.size), g, d, t, os⟩) :
    codeAny (model prog w) A (.call (.ref C) ⟨rest, []⟩) R ⟨h, g, d, t, os⟩ := by
  have Y' := Y
  obtain ⟨⟨oc, od, cd, sl, hC, e1, e2, e4⟩, made, base, self, top, call, typ⟩ := Y
  refine codeAny_of_tree ?_
  show wpAny _ _ (callAny (.ref C) _) _ _ _
  refine nd_load hC ?_
  show wpAny _ _ (callAny.viaDunder (.ref C) _) _ _ _
  unfold callAny.viaDunder
  refine wpAny_bind (call.at ?_)
  dsimp only
  rw [tc_bind]
  refine wpAny_bind (wpAny_pure (wpAny_bind (wpAny_pure ?_)))
  refine wpAny_pure (a := Fin.again (.call (.builtin "type.__call__") ⟨.ref C :: rest, []⟩)) (And.intro rfl ?_)
  refine codeAny_call_builtin_at (Code.quiet_builtin _ (by decide +kernel)) entry_typeCall (check_slot tc_kind tc_split typ (tc_args _ _ _) ?_)
  unfold Builtin.«type.__call__»
  have hm : Looks (model prog w) h (mroOf (.ref C)) cd.mro := ((Looks.ld (part := none) hC).andThen .now).andThen .now
  repeat (first | ((with_reducible apply wpAny_ite_false); focus (simp only [e4, Bool.false_eq_true, decide_false]; done)) | with_reducible refine wpAny_call ?_ | lk)
  refine new_acc Y' ?_
  have k : ∀ b o, h.get? b = some o → ((h.push emptyDict).push (newAcc C h.objs.size)).get? b = some o := fun b o e => Heap.get?_push_of_some _ (Heap.get?_push_of_some _ e)
  have hx : ((h.push emptyDict).push (newAcc C h.objs.size)).get? (h.objs.size + 1) = some (newAcc C h.objs.size) := by
    have : ((h.push emptyDict).push (newAcc C h.objs.size)).get? (h.push emptyDict).objs.size = some (newAcc C h.objs.size) := Heap.get?_push_size _ rfl
    rwa [Heap.size_push] at this
  have t1 : Looks (model prog w) ((h.push emptyDict).push (newAcc C h.objs.size)) (typeOf (.ref (h.objs.size + 1))) (.ref C) := (Looks.ld hx).andThen .now
  have s1 := self.keeps k
  have i1 := hi.keeps k
  have b1 := (hb (.ref (h.objs.size + 1))).keeps k
  unfold isInstance callSpecial? specialOf
  repeat (first | with_reducible refine wpAny_call ?_ | lk)
  refine codeAny_mono hq fun r s' z => ?_
  rcases r with e | (v | _ | _ | _) <;> first | exact z | exact z.elim | skip
  obtain ⟨rfl, z⟩ := z
  exact wpAny_pure (wpAny_pure z)
end
theorem call_acc {prog : Program} {w : World} {A : Around} {E : Value → Shared → Prop} {s : Shared} {K : Frag} {L : Addr} {h₀ : Heap} {m : Str → Option Value} {news : List (Addr × Obj)} {rest : List Value} {Q : Value → Shared → Prop} {fI : Addr} (F : Fr h₀ L s.heap m) (X₀ : K.In h₀) (N : News h₀ L s.heap news) (hm : makesL K 178 = true) (hi : findIn K (.ref 178) "__init__" = some (some (.ref fI))) (hf : typeIn K (.ref fI) = some (.type "function"))
    (h : ∀ x dx h', Fr h₀ L h' m → News h₀ L h' ((x, accO dx [] 0) :: (dx, dictOf [] 0) :: news) → (∀ p ∈ news, p.1 < dx) → dx < x →
      codeAny (model prog w) (A.under (.builtin "type.__call__" ⟨.ref 178 :: rest, []⟩)) (.call (.ref fI) ⟨.ref x :: rest, []⟩) (InitBack x fun r s' => match r with | .ok (.ret v) => Q v s' | .ok _ => False | .error e => E e s') { s with heap := h' }) :
    wpAny (model prog w) A (call (.ref 178) rest) Q E s := by
  have X := X₀.keeps F.keep
  obtain ⟨hh, g, d, t, os⟩ := s
  refine wpAny_call (make_acc (makesL_of X hm) (looks_findIn X hi) (fun self => bind_fn X self hf) (h _ hh.objs.size _ ((F.push _).push _) ?_ (fun p hp => Heap.lt_size (N p hp).1) (Nat.lt_succ_self _)))
  have := (N.push F emptyDict).push (F.push _) (newAcc 178 hh.objs.size)
  rwa [Heap.size_push] at this
end
-- G1
local macro_rules | `(tactic| k_mem) => `(tactic| first | exact List.Mem.head _ | (refine' List.Mem.tail _ ?_; k_mem))
/-- a's items, whatever its class -/
noncomputable def HasSeq (h : Heap) (a : Addr) (items : Array Value) : Prop := ∃ o n, h.get? a = some o ∧ o.data = .seq items n
section
variable {prog : Program} {w : World} {A : Around} {E : Value → Shared → Prop} {s : Shared}
theorem next_seq {it l : Addr} {i : Nat} {items : Array Value} {x : Value} {Q : Option Value → Shared → Prop} (hit : s.heap.IsListIter it l i) (hl : HasSeq s.heap l items) (hx : items[i]? = some x)
    (hQ : ∀ h', h'.IsListIter it l (i + 1) → Heap.SameBut it s.heap h' → Q (some x) { s with heap := h' }) : wpAny (model prog w) A (pyNext (.ref it)) Q E s := by
  obtain ⟨o, ho, hc, hd⟩ := id hit
  obtain ⟨ol, nl, hol, hdl⟩ := hl
  unfold pyNext
  refine wpAny_bind (wpAny_attempt (wpAny_callSpecial?_slot (name := Str.ofString "__next__") hit.typeIs slot_listiter_next (wpAny_call_entry slot_listiter_next hit.typeIs entry_listiter_next ?_ (args_listiter_next _))))
  unfold Builtin.«list_iterator.__next__»
  refine wpAny_bind (m := field (.ref it) 0) (wpAny_field ho hd (x := .ref l) rfl ?_)
  rw [if_neg (by exact Bool.false_ne_true)]
  refine wpAny_bind (m := field (.ref it) 1) (wpAny_field ho hd (x := .int i 0) rfl ?_)
  refine wpAny_bind (m := seqItems? (.ref l)) (wpAny_seqItems hol hdl ?_)
  simp only [Int.toNat_natCast, hx]
  refine wpAny_bind (wpAny_setField ho hd (by simp) (wpAny_pure ⟨x, rfl, wpAny_pure (hQ _ ⟨_, Heap.get?_update_self _ ho (Obj.isFreed_of_fields (Obj.data_mapFields hd _)), (Obj.cls_mapFields ..).trans hc, ?_⟩ (Heap.SameBut.update ..))⟩))
  rw [Obj.data_mapFields hd]; simp [rawInt]
theorem next_seq_end {it l : Addr} {i : Nat} {items : Array Value} {Q : Option Value → Shared → Prop} (hh : A.handled = none) (hit : s.heap.IsListIter it l i) (hl : HasSeq s.heap l items) (hx : items[i]? = none)
    (hQ : ∀ h', Heap.ExtBut it s.heap h' → Q none { s with heap := h' }) : wpAny (model prog w) A (pyNext (.ref it)) Q E s := by
  obtain ⟨o, ho, hc, hd⟩ := id hit
  obtain ⟨ol, nl, hol, hdl⟩ := hl
  unfold pyNext
  refine wpAny_bind (wpAny_attempt (wpAny_callSpecial?_slot (name := Str.ofString "__next__") hit.typeIs slot_listiter_next (wpAny_call_entry slot_listiter_next hit.typeIs entry_listiter_next ?_ (args_listiter_next _))))
  unfold Builtin.«list_iterator.__next__»
  refine wpAny_bind (m := field (.ref it) 0) (wpAny_field ho hd (x := .ref l) rfl ?_)
  rw [if_neg (by exact Bool.false_ne_true)]
  refine wpAny_bind (m := field (.ref it) 1) (wpAny_field ho hd (x := .int i 0) rfl ?_)
  refine wpAny_bind (m := seqItems? (.ref l)) (wpAny_seqItems hol hdl ?_)
  simp only [Int.toNat_natCast, hx]
  refine wpAny_bind (wpAny_rule (wpAny_bind (wpAny_setField ho hd (by simp) ?_)))
  refine wpAny_bind (m := newExc (.type "StopIteration") []) ?_
  simp only [newExc, newTuple]
  refine wpAny_bind (wpAny_newObj_type ?_ (by size_fits))
  refine wpAny_bind (m := firstArgMember _ _) (wpAny_of_eq (a := Value.none) (by first | rfl | (simp only [firstArgMember]; rfl)) ?_)
  refine wpAny_newObj_type ?_ (by size_fits)
  simp only [raiseNew]
  refine wpAny_bind (wpAny_handled ?_)
  rw [show A.in1.handled = none from hh]
  refine wpAny_bind (wpAny_pure (wpAny_throw ?_))
  refine wpAny_bind (wpAny_isInstance (T := "StopIteration") (b := true) ⟨_, Heap.get?_push_size _ rfl, rfl⟩ isSubtype_stop ?_)
  exact wpAny_pure (hQ _ (((Heap.SameBut.update ..).extBut.push _).push _))
end

theorem HasSeq.at {h h' : Heap} {a : Addr} {items : Array Value} (x : HasSeq h a items) (hk : ∀ o, h.get? a = some o → h'.get? a = some o) : HasSeq h' a items :=
  let ⟨o, n, e, d⟩ := x; ⟨o, n, hk _ e, d⟩
/-- the pairs of a sequence, one by one -/
theorem walksTups {prog : Program} {w : World} {A : Around} (hh : A.handled = none) (I ax : Addr) (hne : ax ≠ I) (items : Array Value) (Ts : Nat → Addr) (vals : Nat → Array Value)
    (hit : ∀ j, j < items.size → items[j]? = some (.ref (Ts j))) (hTI : ∀ j, j < items.size → Ts j ≠ I) :
    WalksU prog w A I (I :: ax :: (List.range items.size).map Ts) [I] items.size (fun j v => j < items.size ∧ v = vals j)
      (fun j h => h.IsListIter I ax j ∧ HasSeq h ax items ∧ ∀ k, k < items.size → h.IsTuple (Ts k) (vals k))
      (fun j T h => (j < items.size ∧ T = Ts j) ∧ h.IsListIter I ax (j + 1) ∧ HasSeq h ax items ∧ ∀ k, k < items.size → h.IsTuple (Ts k) (vals k)) where
  sub := fun b hb => by rw [List.mem_singleton] at hb; rw [hb]; exact .head _
  frame := fun _ _ _ st hk => by
    refine ⟨st.1.at fun o e => hk I (.head _) o e, st.2.1.at fun o e => hk ax (.tail _ (.head _)) o e, fun k hk' => (st.2.2 k hk').at fun o e => hk (Ts k) ?_ o e⟩
    exact .tail _ (.tail _ (List.mem_map.mpr ⟨k, List.mem_range.mpr hk', rfl⟩))
  item := fun i s Q E hi st hQ => next_seq st.1 st.2.1 (hit i hi) fun h' hit' hs' => by
    have tup : ∀ k, k < items.size → h'.IsTuple (Ts k) (vals k) := fun k hk' => (st.2.2 k hk').extBut hs'.extBut (hTI k hk')
    exact hQ (Ts i) (vals i) h' s.toks ⟨hi, rfl⟩ (tup i hi) ⟨⟨hi, rfl⟩, hit', st.2.1.at fun o e => hs'.extBut _ _ hne e, tup⟩ fun b o hb e => hs'.extBut b o (fun h => hb (List.mem_singleton.mpr h)) e
  go := fun _ _ _ _ _ s Q _ hm hQ => wpAny_letOwnedTupleGo_listiter hm.2.1 (hQ s.heap hm.2 fun _ _ _ e => e)
  apart := fun j T _ hm hmem => hTI j hm.1.1 (hm.1.2 ▸ List.mem_singleton.mp hmem)
  done := fun s Q E st hQ => next_seq_end hh st.1 st.2.1 (Array.getElem?_eq_none (Nat.le_refl _)) fun h' he' => hQ h' s.toks fun b o hb e => he' b o (fun h => hb (List.mem_singleton.mpr h)) e
  self := fun _ _ _ _ st hQ => wpAny_pyIter_listiter st.1 hQ

section
variable {prog : Program} {w : World} {A : Around} {E : Value → Shared → Prop} {s : Shared} {K : Frag} {x C a d : Addr} {ox : Obj} {od : Option Obj} {items : List Value} {n : Nat}
theorem unlessNone_bi {name : Str} {id : String} {refuse : Sem Value} {Q : Option Value → Shared → Prop} (X : K.In s.heap) (I : W.InstAt s.heap x ox C od) (hs : findIn K (.ref C) name = some (some (.builtin id)))
    (hb : ∀ self, bindSpecial (.builtin id) self = pure (.builtin id, [self])) (h : wpAny (model prog w) A (call (.builtin id) [.ref x]) (fun v => Q (some v)) E s) : wpAny (model prog w) A (callSpecialIfBoundUnlessNone? (.ref x) name refuse) Q E s := by
  simp only [callSpecialIfBoundUnlessNone?, bindSpecialIfBound?]
  refine wpAny_holding (wpAny_bind (wpAny_bind (wpAny_bind (I.type.here ((looks_findIn X hs).here ?_)))))
  simp only [hb]
  refine wpAny_bind (wpAny_askSetting (wpAny_ite ?_))
  have fin : wpAny (model prog w) A (if (Value.builtin id == Value.none) = true then (refuse >>= fun v => pure (some v)) else (call (.builtin id) [.ref x] >>= fun v => pure (some v))) Q E s := by
    rw [if_neg (by exact Bool.false_ne_true)]
    exact wpAny_bind (wpAny_mono h (fun v s' h' => wpAny_pure h') fun _ _ h' => h')
  split
  · exact wpAny_bind (wpAny_pure (wpAny_pure fin))
  · exact wpAny_tryCatch (wpAny_bind (wpAny_pure (wpAny_pure fin)))
theorem iter_acc {Q : Value → Shared → Prop} (X : K.In s.heap) (I : W.InstAt s.heap a (accO d items n) 178 od) (hm : mroIn K 178 (.type "list") = some true) (hf : findIn K (.ref 178) "__iter__" = some (some (.builtin "list.__iter__")))
    (hQ : Q (.ref s.heap.objs.size) { s with heap := s.heap.push { cls := .type "list_iterator", data := .fields #[.ref a, .int 0 0] } }) : wpAny (model prog w) A (pyIter (.ref a)) Q E s := by
  unfold pyIter
  refine wpAny_bind (wpAny_bind (I.type.here ((looks_findIn X hf).here ?_)))
  refine wpAny_bind (unlessNone_bi X I hf slot_list_iter.bind (call_sub (owner := "list") (n := "__iter__") (by decide +kernel) (.inl (by decide +kernel)) (by decide +kernel) entry_list_iter (args_list_iter _) X I hm ?_))
  show wpAny _ _ (do ret (← newFields "list_iterator" [.ref a, rawInt 0])) _ _ s
  refine wpAny_bind (wpAny_newObj_type (wpAny_pure ⟨_, rfl, ?_⟩))
  refine wpAny_bind (wpAny_specialOf (T := "list_iterator") ⟨_, Heap.get?_push_size _ rfl, rfl⟩ slot_listiter_next.lookup (wpAny_pure ?_))
  exact hQ
end
theorem Parts.fns {h : Heap} {items : List Value} {ps : List (Str × Str)} (x : Parts h items ps) : ∃ (Ts : Nat → Addr) (ta tb : Nat → Tok), ∀ j p, ps[j]? = some p → items[j]? = some (Value.ref (Ts j)) ∧ h.get? (Ts j) = some (tupO [.str p.1 (ta j), .str p.2 (tb j)]) := by
  have e : ∀ j : Nat, ∃ q : Addr × Tok × Tok, ∀ p : Str × Str, ps[j]? = some p → items[j]? = some (Value.ref q.1) ∧ h.get? q.1 = some (tupO [.str p.1 q.2.1, .str p.2 q.2.2]) := fun j => by
    cases hp : ps[j]? with
    | none => exact ⟨⟨0, 0, 0⟩, fun p e => by cases e⟩
    | some p =>
      obtain ⟨t, a, b, h1, h2⟩ := x.get j p hp
      exact ⟨⟨t, a, b⟩, fun q e => by cases e; exact ⟨h1, h2⟩⟩
  exact ⟨fun j => (e j).choose.1, fun j => (e j).choose.2.1, fun j => (e j).choose.2.2, fun j => (e j).choose_spec⟩
-- G2
section
theorem args_sum2 (a b : Value) : argsOk "sum" ⟨[a, b], []⟩ := by unfold argsOk; kernel_rfl
/-- all below K as it was -/
noncomputable def KeptTo (K : Nat) (s s' : Shared) : Prop := (∃ h' tk g', s' = { s with heap := h', toks := tk, gens := g' }) ∧ (∀ b o, b ≤ K → s.heap.get? b = some o → s'.heap.get? b = some o) ∧ AllBare s'.gens
theorem KeptTo.of {K g : Nat} {wr : List Addr} {s s' : Shared} (hm : Moved wr (GenOnlyQ g) s s') (hwr : ∀ b ∈ wr, K < b) (G : AllBare s.gens) : KeptTo K s s' := by
  refine ⟨?_, fun b o hb e => hm.heap b o (fun hw => Nat.lt_irrefl _ (Nat.lt_of_lt_of_le (hwr b hw) hb)) e, hm.gens.bare G⟩
  obtain ⟨h', g', d', tk', os'⟩ := s'
  obtain ⟨-, -, h3, h4, -⟩ := hm
  cases h3; cases h4
  exact ⟨h', tk', g', rfl⟩
section
variable {prog : Program} {w : World} {A : Around} {E : Value → Shared → Prop} {s : Shared}
theorem sum_gen2 {K n : Nat} {a : Addr} {t : Tok} {V : Nat → Value → Prop} {Q : Value → Shared → Prop} (X : Gen prog w A K a n V s) (G : AllBare s.gens) (val : Nat → Int) (hval : ∀ j v, V j v → ∃ t, v = .int (val j) t)
    (hQ : ∀ s' t', KeptTo K s s' → Q (.int (preSum val n) t') s') : wpAny (model prog w) A (call (.builtin "sum") [.ref a, .int 0 t]) Q E s := by
  obtain ⟨fp, wr, g, St, W, hst, _, _, hfp, hwr⟩ := X
  have W := W.in4_1
  refine call_function_tree F.kind_sum F.plain_sum F.entry_sum (args_sum2 _ _) ?_
  unfold Builtin.«sum»
  refine wpAny_ite_false rfl ?_
  refine wpAny_bind (wpAny_of_eq (show Builtin.Builtins.bindParams "sum" ["start"] 0 ⟨[.int 0 t], []⟩ = pure [some (.int 0 t)] from rfl) ?_)
  refine wpAny_bind (W.self 0 _ _ _ hst ?_)
  refine wpAny_bind (wpAny_rule ?_)
  refine wpAny_bind (wpAny_mkInt (wpAny_bind (wpAny_pure ?_)))
  simp only [List.forIn_cons, List.forIn_nil]
  refine wpAny_bind (wpAny_bind (wpAny_bind (wpAny_isInstance (T := "int") (b := false) (typeIs_int _ _ _) PySem.sub_int_str ?_)))
  refine wpAny_ite_false rfl ?_
  refine wpAny_pure (wpAny_bind (wpAny_bind (wpAny_isInstance (T := "int") (b := false) (typeIs_int _ _ _) sub_int_bytes ?_)))
  refine wpAny_ite_false rfl ?_
  refine wpAny_pure (wpAny_bind (wpAny_bind (wpAny_isInstance (T := "int") (b := false) (typeIs_int _ _ _) sub_int_bytearray ?_)))
  refine wpAny_ite_false rfl ?_
  refine wpAny_pure (wpAny_pure ?_)
  refine wpAny_bind (wpAny_newObj_type ?_)
  have hSf : s.heap.objs.size ∉ fp := fun hm => Nat.lt_irrefl _ (hfp _ hm)
  refine wpAny_pure ⟨plainId_quiet F.plain_sum_loop _, codeAny_sum_loopAnyB W val (fun i v hv => .inl (hval i v hv)) s.heap.objs.size hSf n 0 _ s.toks 0 0 (.inl rfl) rfl (Nat.zero_le _)
    (W.frame 0 s _ _ hst (by first | exact Nat.le_refl _ | exact Nat.le_succ _ | omega) fun b _ o e => Heap.get?_push_of_some _ e) (Heap.get?_push_size _ rfl) fun s' t' hm => ?_⟩
  exact hQ s' t' (KeptTo.of (hm.drop_new (by first | exact Nat.le_refl _ | exact Nat.le_succ _ | omega)) hwr G)
theorem join_gen2 {K n : Nat} {a : Addr} {sep : Str} {t : Tok} {V : Nat → Value → Prop} {Q : Value → Shared → Prop} (X : Gen prog w A K a n V s) (G : AllBare s.gens) (tx : Nat → Str) (htx : ∀ j v, V j v → ∃ u, v = .str (tx j) u)
    (hok : JoinOk sep ((List.range n).map tx) = true) (hQ : ∀ s' t', KeptTo K s s' → Q (.str (Txt.join sep ((List.range n).map tx)) t') s') (hsz : n ≤ sizeLine) : wpAny (model prog w) A (call (.builtin "str.join") [.str sep t, .ref a]) Q E s := by
  obtain ⟨fp, wr, g, St, W, hst, hT, ha, hfp, hwr⟩ := X
  have W := W.in4_2
  refine SC.joinGen W hT hst hfp ha (fun j v hv => let ⟨u, e⟩ := htx j v hv; ⟨_, u, e⟩) (fun s' lt hm hacc => ?_) hsz
  have hl : lt.map (·.1) = (List.range n).map tx := by
    have hsz : lt.length = n := by simpa [strValues] using hacc.1
    refine List.ext_getElem (by simp [hsz]) fun j h1 h2 => ?_
    rw [List.length_map] at h1
    obtain ⟨u, hv⟩ := htx j _ (hacc.2 j (.str lt[j].1 lt[j].2) (by simp [strValues, List.getElem?_eq_getElem h1]))
    injection hv with e1 _
    simp [e1]
  rw [hl]
  refine ⟨hok, fun t' k => hQ _ t' ?_⟩
  obtain ⟨⟨h', tk, g', e⟩, k1, k2⟩ := KeptTo.of hm hwr G
  exact ⟨⟨h', k, g', by rw [e]⟩, k1, k2⟩
end
theorem in9 {α β γ δ ε ζ η θ ι : Sort _} {P : α → β → γ → δ → ε → ζ → η → θ → ι → Prop} (a : α) (b : β) (c : γ) (d : δ) (e : ε) (f : ζ) (g : η) (h : θ) (i : ι) (x : P a b c d e f g h i) : ∃ a b c d e f g h i, P a b c d e f g h i := ⟨a, b, c, d, e, f, g, h, i, x⟩
/-- a generator expression over an accumulator's pairs is made -/
theorem gen_make {prog : Program} {w : World} {A : Around} {E : Value → Shared → Prop} {s : Shared} {K : Frag} {a d c P bm : Addr} {ob : Obj} {mg : Str → Option Value} {items : List Value} {n : Nat} {od : Option Obj} {ps : List (Str × Str)} {t : Array Value} {env : Env} {elt iter : PySem.Expr} {xa xb : Str} {pa pb pt : PySem.Pos} {kt : Nat} {scope : Scope} {pos : PySem.Pos} {Q : Value → Shared → Prop} {V : Nat → Value → Prop}
    (X : K.In s.heap) (I : W.InstAt s.heap a (accO d items n) 178 od) (hP : Parts s.heap items ps) (hm : mroIn K 178 (.type "list") = some true) (hf : findIn K (.ref 178) "__iter__" = some (some (.builtin "list.__iter__")))
    (G : AllBare s.gens) (hlim : s.heap.NoLimit) (C : CodeHd s.heap c P) (hT : s.heap.get? P = some (tabObj t)) (ht : TabOk pos.line pos.col t) (M : BMod s.heap env.globals mg bm ob) (hcode : env.code = .ref c)
    (hev : ∀ (Q : Value → Shared → Prop) (E : Value → Shared → Prop), Q (.ref a) s → wpAny (model prog w) A (eval iter env) Q E s)
    (helt : ∀ (c' : Value) (C : Addr) (A' : Around) (E' : Value → Shared → Prop) i (p : Str × Str) ta tb (s₂ : Shared) m₂, ps[i]? = some p → A'.handled = none → A'.depth ≤ A.depth + 1 → A'.units ≤ A.units + 8 → s₂.heap.Ns C m₂ → m₂ xa = some (.str p.1 ta) → m₂ xb = some (.str p.2 tb) → @LE.le Nat _ s.heap.objs.size C →
      (∀ b o, b ≠ P → s.heap.get? b = some o → s₂.heap.get? b = some o) → wpAny (model prog w) A' (eval elt (genEnv scope [] C c' builtinsNs env)) (fun y s₃ => V i y ∧ Keeps s₂ s₃) E' s₂)
    (hQ : ∀ g h' tk g' t', h'.get? P = some (tabObj t') → TabOk pos.line pos.col t' → (∀ b o, b ≠ P → s.heap.get? b = some o → h'.get? b = some o) → AllBare g' → @LE.le Nat _ s.heap.objs.size g →
      Gen prog w A (s.heap.objs.size - 1) g ps.length (fun j y => V j y) { s with heap := h', toks := tk, gens := g' } → Q (.ref g) { s with heap := h', toks := tk, gens := g' })
    (hh : A.handled = none) (hco : scope.isCoroutine = false) (hclos : closureFor scope env = pure []) (hcell : ∀ y ∈ scope.names, y.2 ≠ .cell) (h0 : scope.names.lookup (".0" : Str) = some NameKind.local)
    (hxa : scope.names.lookup xa = some .local) (hxb : scope.names.lookup xb = some .local) (hab : xa ≠ xb) (hkind : scope.kind = .function) (hroom : A.depth < recursionLimit) (hs : ∀ x, genFold iter env x = pure x) :
    wpAny (model prog w) A (eval (.GeneratorExp elt [⟨.Tuple [.Name xa pa, .Name xb pb] kt pt, iter, [], 0⟩] scope pos) env) Q E s := by
  refine wpAny_GeneratorExp_walksQTD hh hco hclos hcell h0 hxa hxb hab hkind hroom (hev _ _ (iter_acc X I hm hf ?_)) hs
  have hlen := hP.length
  obtain ⟨Ts, ta, tb, hTs⟩ := hP.fns
  have hTs' : ∀ j, j < items.toArray.size → items.toArray[j]? = some (.ref (Ts j)) ∧ s.heap.IsTuple (Ts j) #[.str (ps.getD j ("", "")).1 (ta j), .str (ps.getD j ("", "")).2 (tb j)] := fun j hj => by
    have hj' : j < ps.length := by rw [List.size_toArray] at hj; omega
    obtain ⟨e1, e2⟩ := hTs j ps[j] (List.getElem?_eq_getElem hj')
    rw [List.getD_eq_getElem?_getD, List.getElem?_eq_getElem hj']
    exact ⟨by simpa using e1, ⟨_, e2, rfl, _, rfl⟩⟩
  have hsz : ∀ {b : Addr} {o : Obj}, s.heap.get? b = some o → @LT.lt Nat _ b s.heap.objs.size := fun e => Heap.lt_size e
  have haI : a ≠ s.heap.objs.size := Nat.ne_of_lt (hsz I.at_)
  have hTlt : ∀ j, j < items.toArray.size → @LT.lt Nat _ (Ts j) s.heap.objs.size := fun j hj => by obtain ⟨o, e, _⟩ := (hTs' j hj).2; exact hsz e
  have hPlt := hsz hT
  have hPI : P ≠ s.heap.objs.size := Nat.ne_of_lt hPlt
  have haP : a ≠ P := fun e => by have := I.at_; rw [e, hT] at this; cases this
  have hcP : cStatics ≠ P := fun e => by
    obtain ⟨_, hns, _⟩ := hlim
    obtain ⟨o, es, ep, ho, hd, _⟩ := hns
    rw [e, hT] at ho; cases ho; cases hd
  have hpos : 0 < s.heap.objs.size := Nat.lt_of_le_of_lt (Nat.zero_le _) hPlt
  have push : ∀ {b : Addr} {o o' : Obj}, s.heap.get? b = some o → (s.heap.push o').get? b = some o := fun e => Heap.get?_push_of_some _ e
  refine ⟨hlim.push _, ?_⟩
  -- behind the code object
  have rest : ∀ (c' : Value) (h₃ : Heap) (tk₃ : Nat) (t' : Array Value), h₃.get? P = some (tabObj t') → TabOk pos.line pos.col t' → (s.heap.push { cls := .type "list_iterator", data := .fields #[.ref a, .int 0 0] }).objs.size ≤ h₃.objs.size →
      Heap.ExtBut P (s.heap.push { cls := .type "list_iterator", data := .fields #[.ref a, .int 0 0] }) h₃ →
      wpAny (model prog w) A (builtinsFor env.globals env.builtins) (fun bi s₄ =>
        ∃ I fp wr n₀ Pt St₀ Mid pz F, Value.ref s.heap.objs.size = .ref I ∧ (∀ A' : Around, A'.handled = none → WalksU prog w A' I fp wr n₀ Pt St₀ Mid) ∧ (∀ i vals, Pt i vals → ∃ va vb, vals = #[va, vb]) ∧ St₀ 0 s₄.heap ∧ (∀ b ∈ fp, b < s₄.heap.objs.size) ∧ s₄.heap.NoLimit ∧ cStatics ∉ wr ∧
          (∀ href : Heap, (∀ b o, s₄.heap.get? b = some o → href.get? b = some o) →
            QuietGenTD prog w (genEnv scope [] s₄.heap.objs.size c' bi env) xa xb [] elt (List.range s₄.heap.objs.size) wr Pt pz F href (A.depth + 1) (A.units + 8)) ∧
          (∀ a h₅ tk gs, gs.bare = true → s₄.heap.objs.size < a → h₅.objs.size = a + 1 → (∀ b o, s₄.heap.get? b = some o → h₅.get? b = some o) →
            WalksS prog w A.in4 a (a :: s₄.heap.objs.size :: List.range s₄.heap.objs.size) (s₄.heap.objs.size :: wr) (GenOnlyQ s₄.gens.size) (passing pz n₀ 0).length
              (fun j y => ∃ i, (passing pz n₀ 0)[j]? = some i ∧ F i y) (GenAt prog w A.in4 a s₄.gens.size s₄.heap.objs.size (List.range s₄.heap.objs.size) wr pz n₀ F) →
            GenAt prog w A.in4 a s₄.gens.size s₄.heap.objs.size (List.range s₄.heap.objs.size) wr pz n₀ F 0 { s₄ with gens := s₄.gens.push gs, toks := tk, heap := h₅ } →
            Q (.ref a) { s₄ with gens := s₄.gens.push gs, toks := tk, heap := h₅ })) E { s with heap := h₃, toks := tk₃ } := by
    intro c' h₃ tk₃ t' hP₃ ht' hge hx
    have hge' : s.heap.objs.size + 1 ≤ h₃.objs.size := by rw [Heap.size_push] at hge; exact hge
    have old : ∀ b o, b ≠ P → s.heap.get? b = some o → h₃.get? b = some o := fun b o hb e => hx b o hb (push e)
    have M₃ : BMod h₃ env.globals mg bm ob := by
      refine ⟨M.ns.at' fun o e => old _ o (fun q => ?_) e, M.name, M.ne, old _ _ (fun q => ?_) M.obj, M.cls, M.dict, M.data⟩
      · obtain ⟨o', es, ep, ho, hd, _⟩ := M.ns
        rw [q, hT] at ho; cases ho; cases hd
      · have := M.obj
        have hc := M.cls
        rw [q, hT] at this; cases this; cases hc
    refine wpAny_builtinsFor M₃.ns M₃.name M₃.ne M₃.obj M₃.cls M₃.dict M₃.data ?_
    have hTP : ∀ j, j < items.toArray.size → Ts j ≠ P := fun j hj e => by
      obtain ⟨o, e2, hc, _⟩ := (hTs' j hj).2
      rw [e, hT] at e2; cases e2; cases hc
    have hlen' : items.toArray.size = ps.length := by simp [hlen]
    have hpass : passing (fun _ => true) items.toArray.size 0 = List.range items.toArray.size := by simp [passing]
    refine in9 s.heap.objs.size _ _ _ _ _ _ (fun _ => true) V ⟨rfl,
      fun A' hA => walksTups hA _ a haI items.toArray Ts (fun j => #[.str (ps.getD j ("", "")).1 (ta j), .str (ps.getD j ("", "")).2 (tb j)]) (fun j hj => (hTs' j hj).1) (fun j hj => Nat.ne_of_lt (hTlt j hj)),
      fun i vals hv => ⟨_, _, hv.2⟩, ⟨?i1, ?i2, ?i3⟩, ?fp, ?nl, ?cw, ?qg, ?fin⟩
    case i1 => exact ⟨_, hx _ _ (Ne.symm hPI) (Heap.get?_push_size _ rfl), rfl, rfl⟩
    case i2 => exact ⟨_, _, old _ _ haP I.at_, rfl⟩
    case i3 => exact fun k hk => (hTs' k hk).2.at fun o e => old _ o (hTP k hk) e
    case fp =>
      intro b hb
      rcases List.mem_cons.mp hb with rfl | hb
      · exact hge'
      rcases List.mem_cons.mp hb with rfl | hb
      · exact Nat.lt_of_lt_of_le (hsz I.at_) (Nat.le_trans (Nat.le_succ _) hge')
      obtain ⟨k, hk, rfl⟩ := List.mem_map.mp hb
      exact Nat.lt_of_lt_of_le (hTlt k (List.mem_range.mp hk)) (Nat.le_trans (Nat.le_succ _) hge')
    case nl => exact (hlim.push _).extBut hx hcP
    case cw =>
      intro hm
      rw [List.mem_singleton] at hm
      obtain ⟨_, hns, _⟩ := hlim
      exact Nat.lt_irrefl _ (hm ▸ hns.lt)
    case qg =>
      intro href hhref
      refine ⟨fun A' E' i va vb s₂ m₂ hA hD hU hPt hn hma hmb hkp => wpAny_tests_nil ⟨rfl, _, _, rfl, fun _ _ e => e⟩, fun A' E' i va vb s₂ m₂ hA hD hU hPt _ hn hma hmb hkp => ?_⟩
      obtain ⟨hi, hv⟩ := hPt
      obtain ⟨rfl, rfl⟩ : va = .str (ps.getD i ("", "")).1 (ta i) ∧ vb = .str (ps.getD i ("", "")).2 (tb i) := by simpa using congrArg Array.toList hv
      have hi' : i < ps.length := by omega
      refine helt c' _ A' E' i _ _ _ s₂ m₂ (by rw [List.getD_eq_getElem?_getD, List.getElem?_eq_getElem hi']; rfl) hA hD hU hn hma hmb (Nat.le_trans (Nat.le_succ _) hge') fun b o hb e => ?_
      refine hkp b (List.mem_range.mpr (Heap.lt_size (old b o hb e))) (fun hm => ?_) o (hhref b o (old b o hb e))
      rw [List.mem_singleton] at hm
      exact Nat.lt_irrefl _ (hm ▸ hsz e)
    case fin =>
      intro g h₅ tk gs hgb hag hsz₅ hk₅ W hat
      dsimp only at hag
      refine hQ g h₅ tk _ t' (hk₅ _ _ hP₃) ht' (fun b o hb e => hk₅ b o (old b o hb e)) (G.push hgb) (Nat.le_of_lt (Nat.lt_of_le_of_lt (Nat.le_trans (Nat.le_succ _) hge') hag)) ?_
      rw [hpass, List.length_range] at W
      rw [hlen'] at W hat
      have W' := W
      refine ⟨_, _, _, _, ⟨W.sub, W.grefl, W.gtrans, W.frame, fun j s' Q' E' hj st hQ' => W.item j s' Q' E' hj st fun v s'' hv st' hm => hQ' v s'' ?_ st' hm, W.done, W.self⟩, hat, (fun i s' st => st.1.typeIs), List.mem_cons_self, ?_, ?_⟩
      · obtain ⟨i, hi, hV⟩ := hv
        obtain ⟨_, rfl⟩ : _ ∧ j = i := by simpa [List.getElem?_eq_some_iff] using hi
        exact hV
      · intro b hb
        show b < h₅.objs.size
        rw [hsz₅]
        rcases List.mem_cons.mp hb with rfl | hb
        · exact Nat.lt_succ_self _
        rcases List.mem_cons.mp hb with rfl | hb
        · exact Nat.lt_succ_of_lt hag
        · exact Nat.lt_succ_of_lt (Nat.lt_trans (List.mem_range.mp hb) hag)
      · intro b hb
        rcases List.mem_cons.mp hb with rfl | hb
        · show s.heap.objs.size - 1 < h₃.objs.size
          omega
        · rw [List.mem_singleton] at hb
          subst hb
          show s.heap.objs.size - 1 < s.heap.objs.size
          omega
  have C' : CodeHd (s.heap.push { cls := .type "list_iterator", data := .fields #[.ref a, .int 0 0] }) c P := C.keeps fun b o e => push e
  rcases ht with rfl | ⟨c', rfl⟩
  · refine wpAny_genexprCodeX hcode (C'.code (push hT) trivial) (C'.tab (push hT)) rfl fun c' h₃ tk₃ hx hge hlt _ _ htab _ => ?_
    exact rest _ h₃ tk₃ _ htab.2 (.inr ⟨c', rfl⟩) (Nat.le_trans hge (Nat.le_of_lt hlt)) hx
  · refine wpAny_genexprCode_hit hcode (C'.code (push hT) (by simp [TriplesOk, rawInt])) (c' := .ref c') (by simp [codeAmong, rawInt]) ?_
    exact rest _ _ _ _ (push hT) (.inr ⟨c', rfl⟩) (Nat.le_refl _) (fun b o _ e => e)
end
local macro_rules | `(tactic| walk_at "nm3") => `(tactic| k_dflt (refine nmL (by assumption) rfl rfl rfl (by first | assumption | rfl) ?_))
-- M1
section
theorem anew_M1 : True := by
  w_top off
  exact True.intro
noncomputable abbrev hidA (a d : Addr) : List Addr := [a, d, 140, 147]
inductive AccAt (a d : Addr) (items : List Value) (h : Heap) : Prop
  | mk (n : Nat) (hs : Int) (tk it : Tok) (e : Nat) (t1 t2 : Array Value) : (∀ p ∈ accS a d items n hs tk it e t1 t2, h.get? p.1 = some p.2) → TabOk 93 19 t1 → TabOk 96 32 t2 → AccAt a d items h
theorem bmod_top {h : Heap} {mean : ExcName → Option Value} {mg mb : Str → Option Value} {p : Program} {loose : List Str} (T : Top p loose mean mg mb h) : ∃ bm ob, BMod h mainGlobals mg bm ob := by
  obtain ⟨bm, ob, h1, h2, h3, h4, h5, h6⟩ := T.bmain
  exact ⟨bm, ob, T.g, h1, h2, h3, h4, h5, h6⟩
theorem Gen.toks {prog : Program} {w : World} {A : Around} {K g n : Nat} {V : Nat → Value → Prop} {s : Shared} {h : Heap} {tk : Nat} (X : Gen prog w A K g n V s) (hk : ∀ b o, s.heap.get? b = some o → h.get? b = some o) (hs : s.heap.objs.size ≤ h.objs.size) (htk : s.toks ≤ tk) : Gen prog w A K g n V { s with heap := h, toks := tk } := by
  obtain ⟨fp, wr, g, St, W, hst, hT, ha, hfp, hwr⟩ := X
  exact ⟨fp, wr, g, St, W, W.frame 0 s h tk hst htk fun b _ o e => hk b o e, hT, ha, fun b hb => Nat.lt_of_lt_of_le (hfp b hb) hs, hwr⟩
theorem accS_tab1 {a d : Addr} {items : List Value} {n : Nat} {hs : Int} {tk it : Tok} {e : Nat} {t1 t1' t2 : Array Value} {h₀ h h' : Heap} {L : Addr} (N : News h₀ L h (accS a d items n hs tk it e t1 t2)) (h1 : h'.get? 140 = some (tabObj t1')) (hk : ∀ b o, b ≠ 140 → h.get? b = some o → h'.get? b = some o) :
    News h₀ L h' (accS a d items n hs tk it e t1' t2) := by
  have ne : ∀ {b : Addr} {o : Obj}, h.get? b = some o → o ≠ tabObj t1 → b ≠ 140 := fun e hne q => by
    rw [q, (N _ (.tail _ (.tail _ (.head _)))).1] at e
    exact hne (Option.some.inj e).symm
  intro p hp
  simp only [List.mem_cons, List.not_mem_nil, or_false] at hp
  rcases hp with rfl | rfl | rfl | rfl
  · have z := N _ (.head _); exact ⟨hk _ _ (ne z.1 (by simp)) z.1, z.2⟩
  · have z := N _ (.tail _ (.head _)); exact ⟨hk _ _ (ne z.1 (by simp)) z.1, z.2⟩
  · exact ⟨h1, (N _ (.tail _ (.tail _ (.head _)))).2⟩
  · have z := N _ (.tail _ (.tail _ (.tail _ (.head _)))); exact ⟨hk _ _ (show (147 : Nat) ≠ 140 by decide) z.1, z.2⟩
theorem preSum_list (l : List Int) : preSum (fun j => l.getD j 0) l.length = l.sum := by
  have : ∀ n, n ≤ l.length → preSum (fun j => l.getD j 0) n = (l.take n).sum := by
    intro n
    induction n with
    | zero => intro _; simp [preSum]
    | succ n ih =>
      intro hn
      have hn' : n < l.length := hn
      rw [preSum, ih (Nat.le_of_lt hn'), List.take_add_one, List.getElem?_eq_getElem hn', List.sum_append]
      simp [List.getD_eq_getElem?_getD, List.getElem?_eq_getElem hn']
  rw [this _ (Nat.le_refl _), List.take_length]
theorem accS_lt {a d : Addr} {items : List Value} {n : Nat} {hs : Int} {tk it : Tok} {e : Nat} {t1 t2 : Array Value} {L : Addr} (hlt : ∀ p ∈ accS a d items n hs tk it e t1 t2, @LT.lt Nat _ p.1 L) : ∀ x ∈ hidA a d, @LT.lt Nat _ x L := fun x hx => by
  obtain ⟨p, hp, rfl⟩ := List.mem_map.mp (show x ∈ (accS a d items n hs tk it e t1 t2).map Prod.fst from hx)
  exact hlt p hp
/-- a method of the accumulator has come to its end -/
theorem acc_left {s s₁ : Shared} {L a d : Addr} {h' : Heap} {m : Str → Option Value} {items : List Value} {n : Nat} {hs : Int} {tk it : Tok} {e tk' : Nat} {t1 t2 : Array Value} {g : Array GenState} {K : Nat}
    (F : Fr (hideAll s.heap (hidA a d)) L s₁.heap m) (N : News (hideAll s.heap (hidA a d)) L s₁.heap (accS a d items n hs tk it e t1 t2)) (hk : ∀ b o, b ≤ K - 1 → s₁.heap.get? b = some o → h'.get? b = some o) (hL : @LT.lt Nat _ L K) (hlt : ∀ x ∈ hidA a d, @LT.lt Nat _ x L)
    (hg : AllBare s.gens → AllBare g) (k1 : TabOk 93 19 t1) (k2 : TabOk 96 32 t2) :
    KB (hidA a d) s { s with heap := h', toks := tk', gens := g } ∧ AccAt a d items h' := by
  refine ⟨⟨h', tk', g, rfl, fun b o hb e => ?_, hg⟩, n, hs, tk, it, e, t1, t2, fun p hp => ?_, k1, k2⟩
  · have e' := hideAll_get (hidA a d) e hb
    have := Nat.lt_of_lt_of_le (Heap.lt_size e') F.above
    exact hk b o (by omega) (F.keep b o e')
  · have := hlt p.1 (List.mem_map_of_mem (f := Prod.fst) hp)
    exact hk _ _ (by omega) (N p hp).1
noncomputable def partsLen (ps : List (Str × Str)) : Int := (ps.map fun p => (p.1.length : Int) + p.2.length).sum
section
local macro_rules | `(tactic| walk_at $s) => if among "eval GeneratorExp|call builtin:sum" s then `(tactic| refine Halt.go ?_) else Lean.Macro.throwUnsupported
local macro_rules | `(tactic| walk_at "eval Name") => `(tactic| first | walk_at "nm3" | walk_at "nm0")
local macro_rules | `(tactic| walk_at "call builtin:len") => `(tactic| (refine PyProof.Rows.len_str (by omega) ?_))
theorem accLen_spec {w : World} {mean : ExcName → Option Value} {mg mb : Str → Option Value} {p : Program} {loose : List Str} {A : Around} {s : Shared} {E : Value → Shared → Prop} {a d : Addr} {items : List Value} {ps : List (Str × Str)}
  (X : Frag.In (hd.heap_1 w.params) (hideAll s.heap (hidA a d))) (T : Top p loose mean mg mb (hideAll s.heap (hidA a d))) (hA : Ok A 10 80) (G : AllBare s.gens) (hO : AccAt a d items s.heap) (hP : Parts (hideAll s.heap (hidA a d)) items ps) (hn : ps.length < 100) (hB : ∀ p ∈ ps, p.1.length < 1000 ∧ p.2.length < 1000) :
  wpAny (model _root_.PySem.Challenge.rw_pe0169_01.row.prog w) A (call (.ref 145) [.ref a]) (fun v s' => Halt ((∃ t, v = .int (partsLen ps) t) ∧ KB (hidA a d) s s' ∧ AccAt a d items s'.heap)) E s := by
  have hh := hA.h
  obtain ⟨n, hs, tk0, it, e, t1, t2, hO, k1, k2⟩ := hO
  obtain ⟨bm, ob, BM⟩ := bmod_top T
  revert X
  k_fill
  intro X
  (refine wpAny_call ?_; k_dflt (refine' enterH [("self", .ref a)] [] (accS _ _ _ _ _ _ _ _ _ _) ?k1 ?k2 ?k3 ?k4 ?k5 ?k6 ?k7 ?ko ?_ ?c1 ?c2 ?c3 ?c4; (case ko => assumption); (case k1 => assumption); (case k2 => exact Heap.NoLimit.keeps (Top.nolimit (by assumption)) (fun b o e => of_hideAll _ e)); (case k3 => k_is); (case k4 => k_is); (case k5 => exact Nat.lt_of_le_of_lt (Nat.le_add_right _ _) (Ok.d (by assumption))); (case k6 => exact BindsTo.of_eq rfl); (case k7 => exact locs rfl); (case c1 => decide); (case c2 => exact rfl); (case c3 => exact rfl); (case c4 => exact rfl); k_whole))
  intro L h₁ F N hlt
  replace F : Fr (hideAll s.heap (hidA a d)) L h₁ (mp [("self", some (.ref a))]) := F
  replace N : News (hideAll s.heap (hidA a d)) L h₁ (accS a d items n hs tk0 it e t1 t2) := N
  show wpAny _ _ _ _ _ _
  k_fold
  k_steps
  refine Halt.on ?_
  have hbs : (hideAll s.heap (hidA a d)).objs.size ≤ h₁.objs.size := Nat.le_trans F.above (Nat.le_of_lt F.ns.lt)
  have h140 : (hideAll s.heap (hidA a d)).get? 140 = none := hideAll_none _ (by simp [hidA])
  refine gen_make (K := hd.heap_1 w.params) (V := fun j y => ∃ t, y = .int ((ps.map fun p => (p.1.length : Int) + p.2.length).getD j 0) t) (X.keeps F.keep) (acc_inst N (.head _) (.tail _ (.head _))) (hP.keep F.keep) (by k_is) (by k_is) G (T.nolimit.keeps F.keep) (codeHd_of_K (X.keeps F.keep) (c := 144) (P := 140) (by kernel_rfl)) (N _ (.tail _ (.tail _ (.head _)))).1 k1 (BM.keeps F.keep) rfl ?hev ?helt ?hQ
    (by exact hh) rfl rfl (by decide) rfl rfl rfl (by decide) rfl (by have := hA.d; show A.depth + 1 < 1000; omega) (by intro _; rfl)
  case hev =>
    intro Q E h
    exact nmL F rfl rfl rfl rfl h
  case helt =>
    intro c' C A' E' i q ta tb s₂ m₂ hi hA' hD hU hn₂ hma hmb hC hk
    have F₂ : Fr (hideAll s.heap (hidA a d)) C s₂.heap m₂ := ⟨hn₂, fun b o e => hk b o (fun q => by rw [q, h140] at e; cases e) (F.keep b o e), Nat.le_trans hbs hC⟩
    clear F N hn₂ hk
    have hq := hB q (List.mem_of_getElem? hi)
    have hgd : (ps.map fun p => (p.1.length : Int) + p.2.length).getD i 0 = (q.1.length : Int) + q.2.length := by
      rw [List.getD_eq_getElem?_getD, List.getElem?_map, hi]; rfl
    obtain ⟨h₂, g₂, d₂, tk₂, os₂⟩ := s₂
    refine wpAny_mono (Q := fun (y : Value) (s₃ : Shared) => Halt ((∃ t, y = Value.int ((ps.map fun p => (p.1.length : Int) + p.2.length).getD i 0) t) ∧ Keeps ⟨h₂, g₂, d₂, tk₂, os₂⟩ s₃)) ?_ (fun y s₃ h => h.go) (fun _ _ h => h)
    rw [hgd]
    k_steps
    exact Halt.on ⟨⟨_, rfl⟩, _, _, rfl, fun _ _ e => e⟩
  case hQ =>
    intro g h' tk g' t' hP' ht' hk hG' hg X'
    have F' : Fr (hideAll s.heap (hidA a d)) L h' (mp [("self", some (.ref a))]) := ⟨F.ns.at' fun o e => hk _ _ (fun q => by
      have z := N _ (.tail _ (.tail _ (.head _))); exact z.2.1 q.symm) e, fun b o e => hk b o (fun q => by rw [q, h140] at e; cases e) (F.keep b o e), F.above⟩
    have N' := accS_tab1 N hP' hk
    have hLs := F.ns.lt
    clear F N BM hO
    dsimp only
    k_steps
    refine Halt.on (sum_gen2 (Mine.Gen.toks X' (fun _ _ e => e) (Nat.le_refl _) (Nat.le_succ _)) hG' (fun j => (ps.map fun p => (p.1.length : Int) + p.2.length).getD j 0) (fun j v h => h) ?_)
    rintro s'' t'' ⟨⟨h'', tk'', g'', rfl⟩, hk'', hG''⟩
    have e : preSum (fun j => (ps.map fun p => (p.1.length : Int) + p.2.length).getD j 0) ps.length = partsLen ps := by
      have := preSum_list (ps.map fun p => (p.1.length : Int) + p.2.length)
      rwa [List.length_map] at this
    rw [e]
    refine Halt.on ⟨⟨t'', rfl⟩, acc_left F' N' hk'' hLs (accS_lt hlt) (fun _ => hG'') ht' k2⟩
end
end
local macro_rules | `(tactic| walk_at "nm4") => `(tactic| k_dflt (refine nmK (by assumption) (by assumption) (by assumption) rfl (by k_is) rfl rfl ?_))
-- M2
section
theorem anew_M2 : True := by
  w_top off
  exact True.intro
theorem accS_tab2 {a d : Addr} {items : List Value} {n : Nat} {hs : Int} {tk it : Tok} {e : Nat} {t1 t2 t2' : Array Value} {h₀ h h' : Heap} {L : Addr} (N : News h₀ L h (accS a d items n hs tk it e t1 t2)) (h1 : h'.get? 147 = some (tabObj t2')) (hk : ∀ b o, b ≠ 147 → h.get? b = some o → h'.get? b = some o) :
    News h₀ L h' (accS a d items n hs tk it e t1 t2') := by
  have ne : ∀ {b : Addr} {o : Obj}, h.get? b = some o → o ≠ tabObj t2 → b ≠ 147 := fun e hne q => by
    rw [q, (N _ (.tail _ (.tail _ (.tail _ (.head _))))).1] at e
    exact hne (Option.some.inj e).symm
  intro p hp
  simp only [List.mem_cons, List.not_mem_nil, or_false] at hp
  rcases hp with rfl | rfl | rfl | rfl
  · have z := N _ (.head _); exact ⟨hk _ _ (ne z.1 (by simp)) z.1, z.2⟩
  · have z := N _ (.tail _ (.head _)); exact ⟨hk _ _ (ne z.1 (by simp)) z.1, z.2⟩
  · have z := N _ (.tail _ (.tail _ (.head _))); exact ⟨hk _ _ (show (140 : Nat) ≠ 147 by decide) z.1, z.2⟩
  · exact ⟨h1, (N _ (.tail _ (.tail _ (.tail _ (.head _))))).2⟩
noncomputable def partStr (p : Str × Str) : Str := Txt.join (Str.ofString "") [p.1, p.2]
noncomputable def partsStr (ps : List (Str × Str)) : Str := Txt.join (Str.ofString "") (ps.map partStr)
theorem partStr_length (p : Str × Str) : (partStr p).length = p.1.length + p.2.length := by
  have := congrArg List.length (join0 [p.1, p.2])
  rw [Array.length_toList] at this
  show (Txt.join (Str.ofString "") [p.1, p.2]).cps.size = p.1.cps.size + p.2.cps.size
  rw [this]
  simp
theorem sum_le_mul {α : Type} {f : α → Nat} {B : Nat} : ∀ {l : List α}, (∀ x ∈ l, f x ≤ B) → (l.map f).sum ≤ l.length * B
  | [], _ => by simp
  | x :: l, h => by
    have h1 := sum_le_mul (f := f) (B := B) (l := l) fun y hy => h y (.tail _ hy)
    have h2 := h x (.head _)
    simp only [List.map_cons, List.sum_cons, List.length_cons, Nat.succ_mul]; omega
theorem parts_range (ps : List (Str × Str)) : (List.range ps.length).map (fun j => partStr (ps.getD j ("", ""))) = ps.map partStr := by
  refine List.ext_getElem (by simp) fun j h1 h2 => ?_
  simp at h1
  simp [List.getD_eq_getElem?_getD, h1]
section
local macro_rules | `(tactic| walk_at "pad") => `(tactic| skip)
local macro_rules | `(tactic| walk_at $s) => if among "eval GeneratorExp|eval Tuple|call builtin:str.join" s then `(tactic| refine Halt.go ?_) else Lean.Macro.throwUnsupported
local macro_rules | `(tactic| walk_at "eval Name") => `(tactic| first | walk_at "nm3" | walk_at "nm4")
theorem accStr_spec {w : World} {mean : ExcName → Option Value} {mg mb : Str → Option Value} {p : Program} {loose : List Str} {A : Around} {s : Shared} {E : Value → Shared → Prop} {a d : Addr} {items : List Value} {ps : List (Str × Str)}
  (X : Frag.In (hd.heap_1 w.params) (hideAll s.heap (hidA a d))) (T : Top p loose mean mg mb (hideAll s.heap (hidA a d))) (hA : Ok A 10 80) (G : AllBare s.gens) (hO : AccAt a d items s.heap) (hP : Parts (hideAll s.heap (hidA a d)) items ps) (hn : ps.length < 100) (hB : ∀ p ∈ ps, p.1.length < 1000 ∧ p.2.length < 1000) :
  wpAny (model _root_.PySem.Challenge.rw_pe0169_01.row.prog w) A (call (.ref 152) [.ref a]) (fun v s' => Halt ((∃ t, v = .str (partsStr ps) t) ∧ KB (hidA a d) s s' ∧ AccAt a d items s'.heap)) E s := by
  have hh := hA.h
  obtain ⟨n, hs, tk0, it, e, t1, t2, hO, k1, k2⟩ := hO
  obtain ⟨bm, ob, BM⟩ := bmod_top T
  revert X
  k_fill
  intro X
  (refine wpAny_call ?_; k_dflt (refine' enterH [("self", .ref a)] [] (accS _ _ _ _ _ _ _ _ _ _) ?k1 ?k2 ?k3 ?k4 ?k5 ?k6 ?k7 ?ko ?_ ?c1 ?c2 ?c3 ?c4; (case ko => assumption); (case k1 => assumption); (case k2 => exact Heap.NoLimit.keeps (Top.nolimit (by assumption)) (fun b o e => of_hideAll _ e)); (case k3 => k_is); (case k4 => k_is); (case k5 => exact Nat.lt_of_le_of_lt (Nat.le_add_right _ _) (Ok.d (by assumption))); (case k6 => exact BindsTo.of_eq rfl); (case k7 => exact locs rfl); (case c1 => decide); (case c2 => exact rfl); (case c3 => exact rfl); (case c4 => exact rfl); k_whole))
  intro L h₁ F N hlt
  replace F : Fr (hideAll s.heap (hidA a d)) L h₁ (mp [("self", some (.ref a))]) := F
  replace N : News (hideAll s.heap (hidA a d)) L h₁ (accS a d items n hs tk0 it e t1 t2) := N
  show wpAny _ _ _ _ _ _
  k_fold
  k_steps
  refine Halt.on ?_
  have hbs : (hideAll s.heap (hidA a d)).objs.size ≤ h₁.objs.size := Nat.le_trans F.above (Nat.le_of_lt F.ns.lt)
  have h147 : (hideAll s.heap (hidA a d)).get? 147 = none := hideAll_none _ (by simp [hidA])
  refine gen_make (K := hd.heap_1 w.params) (V := fun j y => ∃ t, y = .str (partStr (ps.getD j ("", ""))) t) (X.keeps F.keep) (acc_inst N (.head _) (.tail _ (.head _))) (hP.keep F.keep) (by k_is) (by k_is) G (T.nolimit.keeps F.keep) (codeHd_of_K (X.keeps F.keep) (c := 151) (P := 147) (by kernel_rfl)) (N _ (.tail _ (.tail _ (.tail _ (.head _))))).1 k2 (BM.keeps F.keep) rfl ?hev ?helt ?hQ
    (by exact hh) rfl rfl (by decide) rfl rfl rfl (by decide) rfl (by have := hA.d; show A.depth + 1 < 1000; omega) (by intro _; rfl)
  case hev =>
    intro Q E h
    exact nmL F rfl rfl rfl rfl h
  case helt =>
    intro c' C A' E' i q ta tb s₂ m₂ hi hA' hD hU hn₂ hma hmb hC hk
    have F₂ : Fr (hideAll s.heap (hidA a d)) C s₂.heap m₂ := ⟨hn₂, fun b o e => hk b o (fun q => by rw [q, h147] at e; cases e) (F.keep b o e), Nat.le_trans hbs hC⟩
    clear F N hn₂ hk
    have hq := hB q (List.mem_of_getElem? hi)
    have hgd : ps.getD i ("", "") = q := by
      rw [List.getD_eq_getElem?_getD, hi]; rfl
    obtain ⟨h₂, g₂, d₂, tk₂, os₂⟩ := s₂
    have N₂ : News (hideAll s.heap (hidA a d)) C h₂ [] := News.nil
    refine wpAny_mono (Q := fun (y : Value) (s₃ : Shared) => Halt ((∃ t, y = Value.str (partStr (ps.getD i ("", ""))) t) ∧ Keeps ⟨h₂, g₂, d₂, tk₂, os₂⟩ s₃)) ?_ (fun y s₃ h => h.go) (fun _ _ h => h)
    rw [hgd]
    k_steps
    refine Halt.on (wpAny_Tuple ?_)
    k_steps
    refine Halt.on (join_tuple (items := #[Value.str q.1 ta, Value.str q.2 tb]) (ys := [q.1, q.2]) ⟨_, Heap.get?_push_size _ rfl, rfl, _, rfl⟩ (.cons _ _ (.cons _ _ .nil)) ?_ fun t' k => Halt.on ⟨⟨t', rfl⟩, _, _, rfl, fun _ _ e => Heap.get?_push_of_some _ e⟩)
    have e0 : (Str.ofString "").length = 0 := by decide
    simp only [List.map_cons, List.map_nil, List.sum_cons, List.sum_nil, List.length_cons, List.length_nil, e0]
    omega
  case hQ =>
    intro g h' tk g' t' hP' ht' hk hG' hg X'
    have F' : Fr (hideAll s.heap (hidA a d)) L h' (mp [("self", some (.ref a))]) := ⟨F.ns.at' fun o e => hk _ _ (fun q => by
      have z := N _ (.tail _ (.tail _ (.tail _ (.head _)))); exact z.2.1 q.symm) e, fun b o e => hk b o (fun q => by rw [q, h147] at e; cases e) (F.keep b o e), F.above⟩
    have N' := accS_tab2 N hP' hk
    have hLs := F.ns.lt
    clear F N BM hO
    dsimp only
    k_steps
    refine Halt.on (join_gen2 X' hG' (fun j => partStr (ps.getD j ("", ""))) (fun j v h => h) ?_ ?_ ?_)
    · have e0 : (Str.ofString "").length = 0 := by decide
      refine joinOk_of ?_
      rw [parts_range, List.map_map, e0]
      have h2 : (List.map ((fun x => x.length) ∘ partStr) ps).sum ≤ ps.length * 2000 := sum_le_mul fun q hq => by
        have := hB q hq
        show (partStr q).length ≤ 2000
        rw [partStr_length]; omega
      omega
    · rintro s'' t'' ⟨⟨h'', tk'', g'', rfl⟩, hk'', hG''⟩
      rw [parts_range]
      refine Halt.on ⟨⟨t'', rfl⟩, acc_left F' N' hk'' hLs (accS_lt hlt) (fun _ => hG'') k1 ht'⟩
    · have := sizeLine_eq; omega
end
end
-- M3
section
theorem anew_M3 : True := by
  w_top off
  exact True.intro
theorem accAt_ne {a d : Addr} {items : List Value} {h : Heap} (x : AccAt a d items h) : a ≠ d ∧ (a ≠ 140 ∧ a ≠ 147) ∧ (d ≠ 140 ∧ d ≠ 147) := by
  obtain ⟨n, hs, tk, it, e, t1, t2, h, _⟩ := x
  have ha := h _ (.head _)
  have hd := h _ (.tail _ (.head _))
  have h1 := h _ (.tail _ (.tail _ (.head _)))
  have h2 := h _ (.tail _ (.tail _ (.tail _ (.head _))))
  dsimp only at ha hd h1 h2
  refine ⟨fun q => ?_, ⟨fun q => ?_, fun q => ?_⟩, fun q => ?_, fun q => ?_⟩
  · rw [q] at ha; exact absurd (ha.symm.trans hd) (by simp)
  · rw [q] at ha; exact absurd (ha.symm.trans h1) (by simp)
  · rw [q] at ha; exact absurd (ha.symm.trans h2) (by simp)
  · rw [q] at hd; exact absurd (hd.symm.trans h1) (by simp)
  · rw [q] at hd; exact absurd (hd.symm.trans h2) (by simp)
theorem KB.ofBut {a d : Addr} {s s' : Shared} {hid : List Addr} (h : KeepsBut hid s s') (hs : ∀ x ∈ hid, x ∈ hidA a d) : KB (hidA a d) s s' := by
  obtain ⟨h', tk, rfl, k⟩ := h
  exact ⟨h', tk, s.gens, rfl, fun b o hb e => k b o (fun q => hb (hs b q)) e, fun g => g⟩
theorem accPush_code {w : World} {mean : ExcName → Option Value} {mg mb : Str → Option Value} {p : Program} {loose : List Str} {A : Around} {s : Shared} {R : Result → Shared → Prop} {a d : Addr} {items : List Value} {v1 v2 : Value}
  (X : Frag.In (hd.heap_1 w.params) (hideAll s.heap (hidA a d))) (T : Top p loose mean mg mb (hideAll s.heap (hidA a d))) (hA : Ok A 10 80) (hO : AccAt a d items s.heap) (hn : items.length < 1000)
  (hR : ∀ s', (∃ t, s.heap.get? t = none ∧ s'.heap.get? t = some (tupO [v1, v2]) ∧ KB (hidA a d) s s' ∧ AccAt a d (items ++ [.ref t]) s'.heap) → R (.ok (.ret .none)) s') :
  codeAny (model _root_.PySem.Challenge.rw_pe0169_01.row.prog w) A (.call (.ref 122) ⟨[.ref a, v1, v2], []⟩) R s := by
  obtain ⟨hne, ⟨ha1, ha2⟩, hd1, hd2⟩ := accAt_ne hO
  obtain ⟨n, hs, tk0, it, e, t1, t2, hO, k1, k2⟩ := hO
  have mono : ∀ b o, (hideAll s.heap (hidA a d)).get? b = some o → (hideAll s.heap [a, d]).get? b = some o := fun b o e => hide_mono (by simp [hidA]) e
  refine push_code (fun b o e => mono b o (X b o e)) (T.keeps mono) hA (hO _ (.head _)) (hO _ (.tail _ (.head _))) hn fun s' h => ?_
  obtain ⟨t, n', kb, hns⟩ := h
  have hk : ∀ b o, b ∉ [a, d] → s.heap.get? b = some o → s'.heap.get? b = some o := by
    obtain ⟨h', tk, rfl, k⟩ := kb
    exact k
  refine hR _ ⟨t, ?_, (hns _ (.head _)).1, KB.ofBut kb (by simp [hidA]), n', hs, tk0, it, e, t1, t2, accS_at (hns _ (.tail _ (.head _))).1 (hns _ (.tail _ (.tail _ (.head _)))).1 ?_ ?_, k1, k2⟩
  · rcases (hns _ (.head _)).2 with ht | ht
    · exfalso
      have htt := (hns _ (.head _)).1
      dsimp only at ht htt
      rcases List.mem_cons.mp ht with q | ht
      · have := (hns _ (.tail _ (.head _))).1
        rw [q] at htt; exact absurd (this.symm.trans htt) (by simp)
      · rw [List.mem_singleton] at ht
        have := (hns _ (.tail _ (.tail _ (.head _)))).1
        rw [ht] at htt; exact absurd (this.symm.trans htt) (by simp)
    · exact ht
  · exact hk _ _ (by simp [Ne.symm ha1, Ne.symm hd1]) (hO _ (.tail _ (.tail _ (.head _))))
  · exact hk _ _ (by simp [Ne.symm ha2, Ne.symm hd2]) (hO _ (.tail _ (.tail _ (.tail _ (.head _)))))
theorem accPush_spec {w : World} {mean : ExcName → Option Value} {mg mb : Str → Option Value} {p : Program} {loose : List Str} {A : Around} {s : Shared} {E : Value → Shared → Prop} {a d : Addr} {items : List Value} {v1 v2 : Value}
  (X : Frag.In (hd.heap_1 w.params) (hideAll s.heap (hidA a d))) (T : Top p loose mean mg mb (hideAll s.heap (hidA a d))) (hA : Ok A 10 80) (hO : AccAt a d items s.heap) (hn : items.length < 1000) :
  wpAny (model _root_.PySem.Challenge.rw_pe0169_01.row.prog w) A (call (.ref 122) [.ref a, v1, v2]) (fun v s' => Halt (v = .none ∧ ∃ t, s.heap.get? t = none ∧ s'.heap.get? t = some (tupO [v1, v2]) ∧ KB (hidA a d) s s' ∧ AccAt a d (items ++ [.ref t]) s'.heap)) E s :=
  wpAny_call (accPush_code X T hA hO hn fun _ h => Halt.on ⟨rfl, h⟩)
noncomputable def BndAt (q : Addr) (BT : String) (vs : Array Value) (h : Heap) : Prop := (BT = "method-wrapper" ∨ BT = "builtin_function_or_method") ∧ h.get? q = some { cls := .type BT, data := .fields vs }
theorem keeps_B {M : Model} {q : Addr} {BT : String} {vs : Array Value} (h : Heap) (X : BndAt q BT vs h) : ∃ k, (k = Keeper.frame ∨ k = Keeper.machine ∨ k = Keeper.boundFrame) ∧ Looks M h (keeperOf (.ref q)) k := by
  obtain ⟨rfl | rfl, e⟩ := X
  · exact ⟨.machine, .inr (.inl rfl), (Looks.ld (part := none) e).andThen .now⟩
  · exact ⟨.machine, .inr (.inl rfl), (Looks.ld (part := none) e).andThen .now⟩
theorem callWith_B0 {M : Model} {A : Around} {E : Value → Shared → Prop} {s : Shared} {env : Env} {pos : PySem.Pos} {Q : Value → Shared → Prop} {q : Addr} {BT : String} {vs : Array Value} (X : BndAt q BT vs s.heap) (h : wpAny M A (call (.ref q) []) Q E s) : wpAny M A (callWith pos (.ref q) [] (backTo pos (starEach [] env)) []) Q E s :=
  callWith_of rfl keeps_B (evalArgs_nil3 ⟨X, h⟩)
/-- what a read-only method leaves -/
theorem acc_same {s : Shared} {L a d : Addr} {h' : Heap} {m : Str → Option Value} {news : List (Addr × Obj)} {items : List Value} {n : Nat} {hs : Int} {tk it : Tok} {e tk' : Nat} {t1 t2 : Array Value}
    (F : Fr (hideAll s.heap (hidA a d)) L h' m) (N : News (hideAll s.heap (hidA a d)) L h' news) (hm : ∀ p ∈ accS a d items n hs tk it e t1 t2, p ∈ news) (k1 : TabOk 93 19 t1) (k2 : TabOk 96 32 t2) :
    KB (hidA a d) s { s with heap := h', toks := tk' } ∧ AccAt a d items h' :=
  ⟨⟨h', tk', s.gens, rfl, fun b o hb e => F.keep b o (hideAll_get (hidA a d) e hb), fun g => g⟩, n, hs, tk, it, e, t1, t2, fun p hp => (N p (hm p hp)).1, k1, k2⟩
section
local macro_rules | `(tactic| walk_at "callWith ref nil nil") => `(tactic| refine Halt.go ?_)


theorem accCount_spec {w : World} {mean : ExcName → Option Value} {mg mb : Str → Option Value} {p : Program} {loose : List Str} {A : Around} {s : Shared} {E : Value → Shared → Prop} {a d : Addr} {items : List Value}
  (X : Frag.In (hd.heap_1 w.params) (hideAll s.heap (hidA a d))) (T : Top p loose mean mg mb (hideAll s.heap (hidA a d))) (hA : Ok A 10 80) (hO : AccAt a d items s.heap) :
  wpAny (model _root_.PySem.Challenge.rw_pe0169_01.row.prog w) A (call (.ref 175) [.ref a]) (fun v s' => Halt ((∃ t, v = .int items.length t) ∧ KB (hidA a d) s s' ∧ AccAt a d items s'.heap)) E s := by
  have hh := hA.h
  obtain ⟨n, hs, tk0, it, e, t1, t2, hO, k1, k2⟩ := hO
  revert X
  k_fill
  intro X
  (refine wpAny_call ?_; k_dflt (refine' enterS [("self", .ref a)] [] (accS _ _ _ _ _ _ _ _ _ _) ?k1 ?k2 ?k3 ?k4 ?k5 ?k6 ?k7 ?ko ?_ ?c1 ?c2 ?c3 ?c4; (case ko => assumption); (case k1 => assumption); (case k2 => exact Heap.NoLimit.keeps (Top.nolimit (by assumption)) (fun b o e => of_hideAll _ e)); (case k3 => k_is); (case k4 => k_is); (case k5 => exact Nat.lt_of_le_of_lt (Nat.le_add_right _ _) (Ok.d (by assumption))); (case k6 => exact BindsTo.of_eq rfl); (case k7 => exact locs rfl); (case c1 => decide); (case c2 => exact rfl); (case c3 => exact rfl); (case c4 => exact rfl); k_whole))
  intro L h₁ F N hlt
  replace F : Fr (hideAll s.heap (hidA a d)) L h₁ (mp [("self", some (.ref a))]) := F
  replace N : News (hideAll s.heap (hidA a d)) L h₁ (accS a d items n hs tk0 it e t1 t2) := N
  show _root_.PySem.wpAt _ _ _ _ _ _ _
  dsimp only
  k_steps
  rename_i q h2 F2 N2 _
  refine Halt.on (callWith_B0 ⟨.inl rfl, (N2 _ (.head _)).1⟩ (len_bound (N2 _ (.head _)).1 (N2 _ (.tail _ (.tail _ (.head _)))).1 fun t => ?_))
  dsimp only
  exact Halt.on ⟨⟨t, rfl⟩, acc_same F2 N2 (fun p hp => .tail _ (.tail _ hp)) k1 k2⟩
end
end
-- M4
section
theorem anew_M4 : True := by
  w_top off
  exact True.intro
inductive AccBk (base : Heap) (L a d : Addr) (items' : List Value) (rest : List (Addr × Obj)) (h' : Heap) : Prop
  | mk (n : Nat) (hs : Int) (tk it : Tok) (e : Nat) (t1 t2 : Array Value) : News base L h' (accS a d items' n hs tk it e t1 t2 ++ rest) → TabOk 93 19 t1 → TabOk 96 32 t2 → AccBk base L a d items' rest h'
theorem acc_back {base h h' : Heap} {L a d : Addr} {m : Str → Option Value} {items items' : List Value} {n : Nat} {hs : Int} {tk it : Tok} {e : Nat} {t1 t2 : Array Value} {rest : List (Addr × Obj)}
    (F : Fr base L h m) (N : News base L h (accS a d items n hs tk it e t1 t2 ++ rest)) (hr : ∀ p ∈ rest, p.1 ∉ hidA a d) (kb : ∀ b o, b ∉ hidA a d → h.get? b = some o → h'.get? b = some o) (x : AccAt a d items' h') :
    Fr base L h' m ∧ AccBk base L a d items' rest h' := by
  have inA : ∀ b ∈ hidA a d, b ≠ L ∧ base.get? b = none := fun b hb => by
    obtain ⟨p, hp, rfl⟩ := List.mem_map.mp (show b ∈ (accS a d items n hs tk it e t1 t2).map Prod.fst from hb)
    exact (N p (List.mem_append_left _ hp)).2
  obtain ⟨n', hs', tk', it', e', t1', t2', hx, k1, k2⟩ := x
  refine ⟨⟨F.ns.at' fun o e => kb _ _ (fun q => (inA _ q).1 rfl) e, fun b o e => kb b o (fun q => by rw [(inA _ q).2] at e; cases e) (F.keep b o e), F.above⟩, n', hs', tk', it', e', t1', t2', fun p hp => ?_, k1, k2⟩
  rcases List.mem_append.mp hp with hp | hp
  · exact ⟨hx p hp, inA p.1 (List.mem_map_of_mem (f := Prod.fst) hp)⟩
  · have z := N p (List.mem_append_right _ hp)
    exact ⟨kb _ _ (hr p hp) z.1, z.2⟩
/-- what the callee of an accumulator's method stands upon -/
theorem acc_in {base h : Heap} {L a d : Addr} {m : Str → Option Value} {items : List Value} {n : Nat} {hs : Int} {tk it : Tok} {e : Nat} {t1 t2 : Array Value} {rest : List (Addr × Obj)}
    (F : Fr base L h m) (N : News base L h (accS a d items n hs tk it e t1 t2 ++ rest)) : ∀ b o, base.get? b = some o → (hideAll h (hidA a d)).get? b = some o :=
  Fr.hide F N fun x hx => by
    rw [List.map_append]
    exact List.mem_append_left _ hx
theorem acc_at {base h : Heap} {L a d : Addr} {items : List Value} {n : Nat} {hs : Int} {tk it : Tok} {e : Nat} {t1 t2 : Array Value} {rest : List (Addr × Obj)} (N : News base L h (accS a d items n hs tk it e t1 t2 ++ rest)) (k1 : TabOk 93 19 t1) (k2 : TabOk 96 32 t2) : AccAt a d items h :=
  ⟨n, hs, tk, it, e, t1, t2, fun p hp => (N p (List.mem_append_left _ hp)).1, k1, k2⟩
/-- what a method leaves that has written its items -/
theorem acc_write {s : Shared} {L a d : Addr} {h' h4 : Heap} {m : Str → Option Value} {news : List (Addr × Obj)} {items items' : List Value} {n n4 : Nat} {hs : Int} {tk it : Tok} {e tk' : Nat} {t1 t2 : Array Value} {g : Array GenState}
    (F : Fr (hideAll s.heap (hidA a d)) L h' m) (N : News (hideAll s.heap (hidA a d)) L h' news) (hm : ∀ p ∈ accS a d items n hs tk it e t1 t2, p ∈ news) (hs4 : Heap.SameBut a h' h4) (ho : h4.get? a = some (accO d items' n4)) (hg : AllBare s.gens → AllBare g) (k1 : TabOk 93 19 t1) (k2 : TabOk 96 32 t2) :
    KB (hidA a d) s { s with heap := h4, toks := tk', gens := g } ∧ AccAt a d items' h4 := by
  have hx : AccAt a d items h' := ⟨n, hs, tk, it, e, t1, t2, fun p hp => (N p (hm p hp)).1, k1, k2⟩
  obtain ⟨hne, ⟨ha1, ha2⟩, _⟩ := accAt_ne hx
  refine ⟨⟨h4, tk', g, rfl, fun b o hb e => hs4.extBut _ _ (fun q => hb (by rw [q]; simp)) (F.keep b o (hideAll_get (hidA a d) e hb)), hg⟩, n4, hs, tk, it, e, t1, t2, accS_at ho ?_ ?_ ?_, k1, k2⟩
  · exact hs4.extBut _ _ (Ne.symm hne) (N _ (hm _ (.tail _ (.head _)))).1
  · exact hs4.extBut _ _ (Ne.symm ha1) (N _ (hm _ (.tail _ (.tail _ (.head _))))).1
  · exact hs4.extBut _ _ (Ne.symm ha2) (N _ (hm _ (.tail _ (.tail _ (.tail _ (.head _)))))).1
section
local macro_rules | `(tactic| walk_at "callWith ref nil nil") => `(tactic| ((with_reducible show wpAny _ _ (callWith _ _ [] _ _) _ _ _); refine Halt.go ?_))
local macro_rules | `(tactic| walk_at "call ref") => `(tactic| refine Halt.go ?_)
theorem accPop_spec {w : World} {mean : ExcName → Option Value} {mg mb : Str → Option Value} {p : Program} {loose : List Str} {A : Around} {s : Shared} {E : Value → Shared → Prop} {a d : Addr} {items : List Value} {v : Value}
  (X : Frag.In (hd.heap_1 w.params) (hideAll s.heap (hidA a d))) (T : Top p loose mean mg mb (hideAll s.heap (hidA a d))) (hA : Ok A 20 160) (hO : AccAt a d (items ++ [v]) s.heap) (hz : items.length < 1000) :
  wpAny (model _root_.PySem.Challenge.rw_pe0169_01.row.prog w) A (call (.ref 138) [.ref a]) (fun r s' => Halt (r = v ∧ KB (hidA a d) s s' ∧ AccAt a d items s'.heap)) E s := by
  have hh := hA.h
  obtain ⟨n, hs, tk0, it, e, t1, t2, hO, k1, k2⟩ := hO
  revert X
  k_fill
  intro X
  (refine wpAny_call ?_; k_dflt (refine' enterS [("self", .ref a)] [] (accS _ _ _ _ _ _ _ _ _ _) ?k1 ?k2 ?k3 ?k4 ?k5 ?k6 ?k7 ?ko ?_ ?c1 ?c2 ?c3 ?c4; (case ko => assumption); (case k1 => assumption); (case k2 => exact Heap.NoLimit.keeps (Top.nolimit (by assumption)) (fun b o e => of_hideAll _ e)); (case k3 => k_is); (case k4 => k_is); (case k5 => exact Nat.lt_of_le_of_lt (Nat.le_add_right _ _) (Ok.d (by assumption))); (case k6 => exact BindsTo.of_eq rfl); (case k7 => exact locs rfl); (case c1 => decide); (case c2 => exact rfl); (case c3 => exact rfl); (case c4 => exact rfl); k_whole))
  intro L h₁ F N hlt
  replace F : Fr (hideAll s.heap (hidA a d)) L h₁ (mp [("self", some (.ref a))]) := F
  replace N : News (hideAll s.heap (hidA a d)) L h₁ (accS a d (items ++ [v]) n hs tk0 it e t1 t2) := N
  show _root_.PySem.wpAt _ _ _ _ _ _ _
  dsimp only
  have hlen : ((items ++ [v]).length : Int) ≠ 0 := by simp; omega
  refine ks_wpAt_execs_cons (wpAt_of_wpAny (wpAny_mono (Q := fun f s' => Halt (f = .next ∧ KB (hidA a d) { s with heap := h₁, toks := s.toks + 1 } s' ∧ AccAt a d (items ++ [v]) s'.heap)) ?cond (fun f s' hr => ?rest) (fun _ _ x => x)))
  case cond =>
    k_steps
    refine Halt.on ?_
    refine wpAny_mono (accCount_spec (items := items ++ [v]) (fun b o e => acc_in F (rest := []) N b o (X b o e)) (T.keeps (acc_in F (rest := []) N)) ((hA.deeper _).less (by decide) (by decide)) (acc_at (rest := []) N k1 k2)) (fun r s' hr => ?_) fun _ _ x => x
    obtain ⟨⟨t, rfl⟩, ⟨h2, tk2, g2, rfl, hk2, hg2⟩, hAt⟩ := hr.go
    obtain ⟨F2, n2, hs2, tk02, it2, e2, t12, t22, N2, k12, k22⟩ := acc_back F (rest := []) N (by simp) hk2 hAt
    dsimp only at F2 N2 hg2 ⊢
    clear F N
    k_steps
    · exact absurd (by assumption) hlen
    · refine Halt.on ⟨rfl, ⟨h2, _, g2, rfl, hk2, hg2⟩, hAt⟩
  case rest =>
    obtain ⟨rfl, ⟨h2, tk2, g2, rfl, hk2, hg2⟩, hAt⟩ := hr.go
    obtain ⟨F2, n2, hs2, tk02, it2, e2, t12, t22, N2, k12, k22⟩ := acc_back F (rest := []) N (by simp) hk2 hAt
    dsimp only at F2 N2 hg2 hAt ⊢
    clear F N hr
    k_steps
    rename_i q h3 F3 N3 _
    clear hAt
    refine Halt.on (callWith_B0 ⟨.inr rfl, (N3 _ (.head _)).1⟩ (pop_bound (X.keeps F3.keep) (acc_inst N3 (.tail _ (.tail _ (.head _))) (.tail _ (.tail _ (.tail _ (.head _))))) (by kernel_rfl) (by k_is) (N3 _ (.head _)).1 hz (by k_is) fun h4 n4 hs4 ho4 => ?_))
    dsimp only
    exact Halt.on ⟨rfl, acc_write F3 N3 (fun p hp => .tail _ (.tail _ (List.mem_append_left _ hp))) hs4 ho4 hg2 k12 k22⟩
end
end
-- M5
section
theorem anew_M5 : True := by
  w_top off
  exact True.intro
theorem acc_tail {prog : Program} {w : World} {A : Around} {E : Value → Shared → Prop} {s : Shared} {K : Frag} {a d : Addr} {items : List Value} {n : Nat} {od : Option Obj} {value slice : PySem.Expr} {i : Value} {ops : List Value} {Q : Value → Shared → Prop}
    (X : K.In s.heap) (I : W.InstAt s.heap a (accO d items n) 178 od) (hf : findIn K (.ref 178) "__getitem__" = some (some (.builtin "list.__getitem__"))) (hg : wpAny (model prog w) A (getItem (.ref a) i) Q E s)
    (hs : subscripted slice false (.ref a) i = operate ops (getItem (.ref a) i)) : wpAny (model prog w) A (subscriptTail value slice (.ref a) i) Q E s := by
  unfold subscriptTail getitemInPython
  refine wpAny_bind (wpAny_bind (wpAny_bind (I.type.here ((looks_findIn X hf).here ?_))))
  refine wpAny_pure ?_
  rw [hs]
  exact wpAny_bind (wpAny_operating (wpAny_mono hg (fun r s₃ h₃ => wpAny_bind (wpAny_letTemporaryGo (wpAny_pure h₃))) fun _ _ x => x))
theorem pick_drop (items : List Value) (k : Nat) (hk : k ≤ items.length) : slicePick items.toArray (some (k : Int)) none none = (items.drop k).toArray := by
  have e : slicePick items.toArray (some (k : Int)) none none = ((items.toArray.toList.drop k).take (items.toArray.size - k)).toArray := kmk_pick_nat (lo := some (k : Int)) (hi := none) items.toArray (by simp [sliceBounds]; omega)
  rw [e]; simp [List.take_of_length_le]
section
local macro_rules | `(tactic| walk_at $s) => if among "subscriptTail Name Slice ref ref|setItem ref ref ref" s then `(tactic| refine Halt.go ?_) else Lean.Macro.throwUnsupported
theorem accPopFrom_spec {w : World} {mean : ExcName → Option Value} {mg mb : Str → Option Value} {p : Program} {loose : List Str} {A : Around} {s : Shared} {E : Value → Shared → Prop} {a d : Addr} {items : List Value} {k : Nat} {ti : Tok}
  (X : Frag.In (hd.heap_1 w.params) (hideAll s.heap (hidA a d))) (T : Top p loose mean mg mb (hideAll s.heap (hidA a d))) (hA : Ok A 10 80) (hO : AccAt a d items s.heap) (hz : items.length < 1000) (hk : k ≤ items.length) :
  wpAny (model _root_.PySem.Challenge.rw_pe0169_01.row.prog w) A (call (.ref 130) [.ref a, .int k ti]) (fun r s' => Halt ((∃ R c, r = .ref R ∧ s.heap.get? R = none ∧ s'.heap.get? R = some (listOf (items.drop k).toArray c)) ∧ KB (hidA a d) s s' ∧ AccAt a d (items.take k) s'.heap)) E s := by
  have hh := hA.h
  obtain ⟨n, hs, tk0, it, e, t1, t2, hO, k1, k2⟩ := hO
  revert X
  k_fill
  intro X
  refine wpAny_call ?_
  k_dflt (refine' enterH [("self", .ref a), ("i", .int k ti)] ["popped"] (accS a d items n hs tk0 it e t1 t2) ?k1 ?k2 ?k3 ?k4 ?k5 ?k6 ?k7 ?ko ?_ ?c1 ?c2 ?c3 ?c4; (case ko => assumption); (case k1 => assumption); (case k2 => exact Heap.NoLimit.keeps (Top.nolimit (by assumption)) (fun b o e => of_hideAll _ e)); (case k3 => k_is); (case k4 => k_is); (case k5 => exact Nat.lt_of_le_of_lt (Nat.le_add_right _ _) (Ok.d (by assumption))); (case k6 => exact binds_K (show Frag.In (hd.heap_1 w.params) s.heap from fun a o e => of_hideAll _ (X a o e)) rfl (by k_is) rfl rfl rfl); (case k7 => exact locs rfl); (case c1 => decide); (case c2 => exact rfl); (case c3 => exact rfl); (case c4 => exact rfl); k_whole)
  intro L h₁ F N hlt
  replace F : Fr (hideAll s.heap (hidA a d)) L h₁ (mp [("i", some (.int k ti)), ("self", some (.ref a)), ("popped", none)]) := F
  replace N : News (hideAll s.heap (hidA a d)) L h₁ (accS a d items n hs tk0 it e t1 t2) := N
  show wpAny _ _ _ _ _ _
  k_fold
  (try dsimp only)
  k_steps
  refine Halt.on ?_
  dsimp only
  have N2 := N.push F ({ cls := .type "slice", data := .fields #[.int k ti, .none, .none] })
  have F2 := F.push ({ cls := .type "slice", data := .fields #[.int k ti, .none, .none] })
  refine acc_tail (X.keeps F2.keep) (acc_inst N2 (.tail _ (.head _)) (.tail _ (.tail _ (.head _)))) (by k_is) (acc_getSlice (X.keeps F2.keep) (acc_inst N2 (.tail _ (.head _)) (.tail _ (.tail _ (.head _)))) (by k_is) (by k_is) (by k_is) ⟨_, Heap.get?_push_size _ rfl, rfl, rfl⟩ (.int _ _) .none .none (by decide) hz ?_) rfl
  rw [pick_drop items k hk]
  have N3 := N2.push F2 ({ cls := .type "list", data := .seq (items.drop k).toArray })
  have F3 := F2.push ({ cls := .type "list", data := .seq (items.drop k).toArray })
  dsimp only at N3 F3 ⊢
  have hRn : (h₁.push { cls := Value.type "slice", data := Data.fields #[Value.int (↑k) ti, Value.none, Value.none] }).objs.size ∉ hidA a d := fun q => by
    have h1 := accS_lt hlt _ q
    have h2 := F.ns.lt
    rw [Heap.size_push] at h1
    exact Nat.lt_irrefl _ (Nat.lt_trans h1 (Nat.lt_succ_of_lt h2))
  clear F N F2 N2
  k_steps
  rename_i h4 tk4 l h5 F5 N5 hl
  refine Halt.on ?_
  dsimp only
  have N6 := N5.push F5 ({ cls := .type "slice", data := .fields #[.int k ti, .none, .none] })
  have F6 := F5.push ({ cls := .type "slice", data := .fields #[.int k ti, .none, .none] })
  clear F5 N5
  refine acc_setSlice (lo := some (k : Int)) (new := []) (X.keeps F6.keep) (acc_inst N6 (.tail _ (.tail _ (.tail _ (.tail _ (.head _))))) (.tail _ (.tail _ (.tail _ (.tail _ (.tail _ (.head _))))))) (by k_is) (by k_is) (by k_is) ⟨_, Heap.get?_push_size _ rfl, rfl, rfl⟩ (.int _ _) (.inr ⟨k, rfl, hk⟩) (N6 _ (.tail _ (.head _))).1 ?_ hz (by decide) fun h7 n7 hs7 ho7 => ?_
  · exact fun q => Nat.lt_irrefl _ (q ▸ hl.2.2.1)
  have ha7 := N6 _ (.tail _ (.tail _ (.tail _ (.tail _ (.head _)))))
  have F7 := F6.change hs7 ha7.2.1 ha7.2.2
  have hR := N6 _ (.tail _ (.tail _ (.head _)))
  have hRa : a ≠ (h₁.push { cls := Value.type "slice", data := Data.fields #[Value.int (↑k) ti, Value.none, Value.none] }).objs.size := fun q => hRn (q ▸ List.mem_cons_self)
  have w7 := acc_write (tk' := tk) (g := s.gens) F6 N6 (fun p hp => .tail _ (.tail _ (.tail _ (.tail _ hp)))) hs7 ho7 (fun g => g) k1 k2
  rw [List.append_nil, show (some (k : Int)).elim 0 Int.toNat = k by simp] at w7
  have hR7 := hs7.extBut _ _ (Ne.symm hRa) hR.1
  have hR0 := fresh_of_hide hR.2.2 hRn
  clear ho7 hs7 N6 F6
  dsimp only at F7 ⊢
  k_steps
  exact Halt.on ⟨⟨_, _, rfl, hR0, hR7⟩, w7⟩
end
end
-- M6
section
theorem anew_M6 : True := by
  w_top off
  exact True.intro
theorem accS_write {base h h4 : Heap} {L a d : Addr} {items items' : List Value} {n n4 : Nat} {hs : Int} {tk it : Tok} {e : Nat} {t1 t2 : Array Value} (N : News base L h (accS a d items n hs tk it e t1 t2)) (hs4 : Heap.SameBut a h h4) (ho : h4.get? a = some (accO d items' n4)) (k1 : TabOk 93 19 t1) (k2 : TabOk 96 32 t2) :
    News base L h4 (accS a d items' n4 hs tk it e t1 t2) := by
  obtain ⟨hne, ⟨ha1, ha2⟩, _⟩ := accAt_ne (⟨n, hs, tk, it, e, t1, t2, fun p hp => (N p hp).1, k1, k2⟩ : AccAt a d items h)
  intro p hp
  simp only [List.mem_cons, List.not_mem_nil, or_false] at hp
  rcases hp with rfl | rfl | rfl | rfl
  · exact ⟨ho, (N _ (.head _)).2⟩
  · have z := N _ (.tail _ (.head _)); exact ⟨hs4.extBut _ _ (Ne.symm hne) z.1, z.2⟩
  · have z := N _ (.tail _ (.tail _ (.head _))); exact ⟨hs4.extBut _ _ (Ne.symm ha1) z.1, z.2⟩
  · have z := N _ (.tail _ (.tail _ (.tail _ (.head _)))); exact ⟨hs4.extBut _ _ (Ne.symm ha2) z.1, z.2⟩
section
local macro_rules | `(tactic| walk_at "pad") => `(tactic| skip)
local macro_rules | `(tactic| walk_at "setItem ref ref ref") => `(tactic| refine Halt.go ?_)
theorem accReset_spec {w : World} {mean : ExcName → Option Value} {mg mb : Str → Option Value} {p : Program} {loose : List Str} {A : Around} {s : Shared} {E : Value → Shared → Prop} {a d R : Addr} {items xs : List Value} {c : Nat}
  (X : Frag.In (hd.heap_1 w.params) (hideAll s.heap (hidA a d))) (T : Top p loose mean mg mb (hideAll s.heap (hidA a d))) (hA : Ok A 10 80) (hO : AccAt a d items s.heap) (hz : items.length < 1000) (hR : (hideAll s.heap (hidA a d)).get? R = some (listOf xs.toArray c)) (hx : xs.length < 1000) :
  wpAny (model _root_.PySem.Challenge.rw_pe0169_01.row.prog w) A (call (.ref 160) [.ref a, .ref R]) (fun r s' => Halt (r = .none ∧ KB (hidA a d) s s' ∧ AccAt a d xs s'.heap)) E s := by
  have hh := hA.h
  obtain ⟨n, hs, tk0, it, e, t1, t2, hO, k1, k2⟩ := hO
  revert X
  k_fill
  intro X
  refine wpAny_call ?_
  k_dflt (refine' enterH [("self", .ref a), ("startval", .ref R)] [] (accS a d items n hs tk0 it e t1 t2) ?k1 ?k2 ?k3 ?k4 ?k5 ?k6 ?k7 ?ko ?_ ?c1 ?c2 ?c3 ?c4; (case ko => assumption); (case k1 => assumption); (case k2 => exact Heap.NoLimit.keeps (Top.nolimit (by assumption)) (fun b o e => of_hideAll _ e)); (case k3 => k_is); (case k4 => k_is); (case k5 => exact Nat.lt_of_le_of_lt (Nat.le_add_right _ _) (Ok.d (by assumption))); (case k6 => exact binds_K (show Frag.In (hd.heap_1 w.params) s.heap from fun a o e => of_hideAll _ (X a o e)) rfl (by k_is) rfl rfl rfl); (case k7 => exact locs rfl); (case c1 => decide); (case c2 => exact rfl); (case c3 => exact rfl); (case c4 => exact rfl); k_whole)
  intro L h₁ F N hlt
  replace F : Fr (hideAll s.heap (hidA a d)) L h₁ (mp [("startval", some (.ref R)), ("self", some (.ref a))]) := F
  replace N : News (hideAll s.heap (hidA a d)) L h₁ (accS a d items n hs tk0 it e t1 t2) := N
  show wpAny _ _ _ _ _ _
  k_fold
  (try dsimp only)
  k_steps
  refine Halt.on ?_
  dsimp only
  have N2 := N.push F ({ cls := .type "slice", data := .fields #[.none, .none, .none] })
  have F2 := F.push ({ cls := .type "slice", data := .fields #[.none, .none, .none] })
  clear F N
  have hRa : R ≠ a := fun q => by rw [q, (N2 _ (.tail _ (.head _))).2.2] at hR; cases hR
  refine acc_setSlice (lo := none) (new := xs) (X.keeps F2.keep) (acc_inst N2 (.tail _ (.head _)) (.tail _ (.tail _ (.head _)))) (by k_is) (by k_is) (by k_is) ⟨_, Heap.get?_push_size _ rfl, rfl, rfl⟩ .none (.inl rfl) (F2.keep _ _ hR) hRa hz hx fun h7 n7 hs7 ho7 => ?_
  have ha7 := N2 _ (.tail _ (.head _))
  have F7 := F2.change hs7 ha7.2.1 ha7.2.2
  have N7 := accS_write (fun p hp => N2 p (.tail _ hp)) hs7 ho7 k1 k2
  rw [show items.take ((none : Option Int).elim 0 Int.toNat) ++ xs = xs by simp] at N7
  clear N2 F2 hs7 ho7 ha7
  dsimp only at F7 N7 ⊢
  k_steps
  dsimp only
  obtain ⟨hne, ⟨ha1, ha2⟩, hd1, hd2⟩ := accAt_ne (⟨n7, hs, tk0, it, e, t1, t2, fun p hp => (N7 p hp).1, k1, k2⟩ : AccAt a d xs h7)
  k_dflt (refine' acc_set (es' := [⟨hs, .str "_initial_size" tk0, .int 0 tk⟩]) (n' := e) F7 X N7 ?k4 ?k5 ?k6 ?km ?ko ?k8 ?k9 ?k10 ?k11 ?k12 ?k13 ?_)
  case k4 => exact acc_inst N7 (.head _) (.tail _ (.head _))
  case k5 => exact rfl
  case k6 => k_is
  case km => kernel_rfl
  case ko => k_is
  case k8 => k_is
  case k9 => k_is
  case k10 => k_get
  case k11 => rfl
  case k12 => exact Upd.tail hne (Upd.head (by simp [Ne.symm hd1, Ne.symm hd2]))
  case k13 => exact Nat.le_of_ble_eq_true rfl
  k_whole
  intro h' F' N'
  dsimp only
  k_steps
  exact Halt.on ⟨rfl, acc_same F' N' (fun p hp => hp) k1 k2⟩
theorem accReset0_spec {w : World} {mean : ExcName → Option Value} {mg mb : Str → Option Value} {p : Program} {loose : List Str} {A : Around} {s : Shared} {E : Value → Shared → Prop} {a d : Addr} {items : List Value}
  (X : Frag.In (hd.heap_1 w.params) (hideAll s.heap (hidA a d))) (T : Top p loose mean mg mb (hideAll s.heap (hidA a d))) (hA : Ok A 10 80) (hO : AccAt a d items s.heap) (hz : items.length < 1000) :
  wpAny (model _root_.PySem.Challenge.rw_pe0169_01.row.prog w) A (call (.ref 160) [.ref a]) (fun r s' => Halt (r = .none ∧ KB (hidA a d) s s' ∧ AccAt a d [] s'.heap)) E s := by
  have hh := hA.h
  obtain ⟨n, hs, tk0, it, e, t1, t2, hO, k1, k2⟩ := hO
  revert X
  k_fill
  intro X
  refine wpAny_call ?_
  k_dflt (refine' enterH [("self", .ref a), ("startval", .none)] [] (accS a d items n hs tk0 it e t1 t2) ?k1 ?k2 ?k3 ?k4 ?k5 ?k6 ?k7 ?ko ?_ ?c1 ?c2 ?c3 ?c4; (case ko => assumption); (case k1 => assumption); (case k2 => exact Heap.NoLimit.keeps (Top.nolimit (by assumption)) (fun b o e => of_hideAll _ e)); (case k3 => k_is); (case k4 => k_is); (case k5 => exact Nat.lt_of_le_of_lt (Nat.le_add_right _ _) (Ok.d (by assumption))); (case k6 => exact binds_K (show Frag.In (hd.heap_1 w.params) s.heap from fun a o e => of_hideAll _ (X a o e)) rfl (by k_is) rfl rfl rfl); (case k7 => exact locs rfl); (case c1 => decide); (case c2 => exact rfl); (case c3 => exact rfl); (case c4 => exact rfl); k_whole)
  intro L h₁ F N hlt
  replace F : Fr (hideAll s.heap (hidA a d)) L h₁ (mp [("startval", some .none), ("self", some (.ref a))]) := F
  replace N : News (hideAll s.heap (hidA a d)) L h₁ (accS a d items n hs tk0 it e t1 t2) := N
  show wpAny _ _ _ _ _ _
  k_fold
  (try dsimp only)
  k_steps
  rename_i l _ hl h5 F5 N5
  refine Halt.on ?_
  dsimp only
  have N2 := N5.push F5 ({ cls := .type "slice", data := .fields #[.none, .none, .none] })
  have F2 := F5.push ({ cls := .type "slice", data := .fields #[.none, .none, .none] })
  clear F5 N5
  refine acc_setSlice (lo := none) (new := []) (X.keeps F2.keep) (acc_inst N2 (.tail _ (.tail _ (.head _))) (.tail _ (.tail _ (.tail _ (.head _))))) (by k_is) (by k_is) (by k_is) ⟨_, Heap.get?_push_size _ rfl, rfl, rfl⟩ .none (.inl rfl) (N2 _ (.tail _ (.head _))).1 (Nat.ne_of_gt hl.1) hz (by decide) fun h7 n7 hs7 ho7 => ?_
  have ha7 := N2 _ (.tail _ (.tail _ (.head _)))
  have F7 := F2.change hs7 ha7.2.1 ha7.2.2
  have N7 := accS_write (fun p hp => N2 p (.tail _ (.tail _ hp))) hs7 ho7 k1 k2
  rw [show items.take ((none : Option Int).elim 0 Int.toNat) ++ [] = [] by simp] at N7
  clear N2 F2 hs7 ho7 ha7
  dsimp only at F7 N7 ⊢
  k_steps
  dsimp only
  obtain ⟨hne, ⟨ha1, ha2⟩, hd1, hd2⟩ := accAt_ne (⟨n7, hs, tk0, it, e, t1, t2, fun p hp => (N7 p hp).1, k1, k2⟩ : AccAt a d [] h7)
  k_dflt (refine' acc_set (es' := [⟨hs, .str "_initial_size" tk0, .int 0 tk⟩]) (n' := e) F7 X N7 ?k4 ?k5 ?k6 ?km ?ko ?k8 ?k9 ?k10 ?k11 ?k12 ?k13 ?_)
  case k4 => exact acc_inst N7 (.head _) (.tail _ (.head _))
  case k5 => exact rfl
  case k6 => k_is
  case km => kernel_rfl
  case ko => k_is
  case k8 => k_is
  case k9 => k_is
  case k10 => k_get
  case k11 => rfl
  case k12 => exact Upd.tail hne (Upd.head (by simp [Ne.symm hd1, Ne.symm hd2]))
  case k13 => exact Nat.le_of_ble_eq_true rfl
  k_whole
  intro h' F' N'
  dsimp only
  k_steps
  exact Halt.on ⟨rfl, acc_same F' N' (fun p hp => hp) k1 k2⟩
end
end
-- M7
section
theorem anew_M7 : True := by
  w_top off
  exact True.intro
theorem Ok.in1 {A : Around} {D U : Nat} (o : Ok A D (U + 1)) : Ok A.in1 D U := ⟨o.h, o.d, by have := o.u; show A.units + 1 + U < 9900; omega⟩
theorem truthy_len {prog : Program} {w : World} {A : Around} {E : Value → Shared → Prop} {s : Shared} {K : Frag} {x C f : Addr} {ox : Obj} {od : Option Obj} {Q : Bool → Shared → Prop}
    (X : K.In s.heap) (I : W.InstAt s.heap x ox C od) (hb : findIn K (.ref C) "__bool__" = some none) (hs : findIn K (.ref C) "__len__" = some (some (.ref f))) (hf : isFn K (.ref f) = true)
    (h : wpAny (model prog w) A.in1 (call (.ref f) [.ref x]) (fun v s' => ∃ (n : Int) (t : Tok), v = .int n t ∧ 0 ≤ n ∧ n < 2 ^ 63 ∧ Q (n != 0) { s' with toks := s'.toks + 1 }) E s) : wpAny (model prog w) A (truthy (.ref x)) Q E s := by
  unfold truthy
  refine wpAny_bind (m := callSpecial? (.ref x) (Str.ofString "__bool__")) (wpAny_bind (wpAny_bind (I.type.here ((looks_findIn X hb).here (wpAny_pure ?_)))))
  refine wpAny_bind (wpAny_bind (I.type.here ((looks_findIn X hs).here ?_)))
  rw [if_neg (by simp)]
  refine wpAny_bind (wpAny_runValue (codeAny_builtin PySem.entry_len ?_))
  rw [Around.under_plainId PySem.plain_len _]
  unfold Builtin.«len»
  refine wpAny_bind (wpAny_pure ?_)
  refine wpAny_bind (m := callSpecial? (.ref x) (Str.ofString "__len__")) (special_fn X I hs (beq_iff_eq.mp hf) (wpAny_mono h (fun r s' hr => ?_) fun _ _ y => y))
  obtain ⟨n, t, rfl, h0, h1, hq⟩ := hr
  refine wpAny_bind (wpAny_holding (wpAny_pure ?_))
  refine wpAny_bind (wpAny_letGo ?_)
  rw [if_neg (by omega)]
  rw [if_neg (by omega)]
  exact wpAny_bind (wpAny_mkInt (wpAny_pure (wpAny_pure hq)))
section
local macro_rules | `(tactic| walk_at $s) => if among "truthy ref|call type:str" s then `(tactic| refine Halt.go ?_) else Lean.Macro.throwUnsupported
theorem accWs_spec {w : World} {mean : ExcName → Option Value} {mg mb : Str → Option Value} {p : Program} {loose : List Str} {A : Around} {s : Shared} {E : Value → Shared → Prop} {a d : Addr} {items : List Value} {ps : List (Str × Str)}
  (X : Frag.In (hd.heap_1 w.params) (hideAll s.heap (hidA a d))) (T : Top p loose mean mg mb (hideAll s.heap (hidA a d))) (hA : Ok A 20 160) (G : AllBare s.gens) (hO : AccAt a d items s.heap) (hP : Parts (hideAll s.heap (hidA a d)) items ps) (hn : ps.length < 100) (hB : ∀ p ∈ ps, p.1.length < 1000 ∧ p.2.length < 1000)
  (hpos : 0 < partsLen ps) (hsp : Txt.isspace (partsStr ps) = false) :
  wpAny (model _root_.PySem.Challenge.rw_pe0169_01.row.prog w) A (call (.ref 167) [.ref a]) (fun v s' => Halt (v = .bool false ∧ KB (hidA a d) s s' ∧ AccAt a d items s'.heap)) E s := by
  have hh := hA.h
  have hO' := hO
  obtain ⟨n, hs, tk0, it, e, t1, t2, hO, k1, k2⟩ := hO
  revert X
  k_fill
  intro X
  (refine wpAny_call ?_; k_dflt (refine' enterH [("self", .ref a)] [] (accS _ _ _ _ _ _ _ _ _ _) ?k1 ?k2 ?k3 ?k4 ?k5 ?k6 ?k7 ?ko ?_ ?c1 ?c2 ?c3 ?c4; (case ko => assumption); (case k1 => assumption); (case k2 => exact Heap.NoLimit.keeps (Top.nolimit (by assumption)) (fun b o e => of_hideAll _ e)); (case k3 => k_is); (case k4 => k_is); (case k5 => exact Nat.lt_of_le_of_lt (Nat.le_add_right _ _) (Ok.d (by assumption))); (case k6 => exact BindsTo.of_eq rfl); (case k7 => exact locs rfl); (case c1 => decide); (case c2 => exact rfl); (case c3 => exact rfl); (case c4 => exact rfl); k_whole))
  intro L h₁ F N hlt
  replace F : Fr (hideAll s.heap (hidA a d)) L h₁ (mp [("self", some (.ref a))]) := F
  replace N : News (hideAll s.heap (hidA a d)) L h₁ (accS a d items n hs tk0 it e t1 t2) := N
  show wpAny _ _ _ _ _ _
  k_fold
  (try dsimp only)
  k_steps
  refine Halt.on ?_
  have bound : partsLen ps < 2 ^ 63 := by
    have h1 : ∀ l : List (Str × Str), (∀ p ∈ l, p.1.length < 1000 ∧ p.2.length < 1000) → partsLen l ≤ 2000 * l.length := by
      intro l
      induction l with
      | nil => intro _; simp [partsLen]
      | cons q r ih =>
        intro hl
        have h2 := ih fun x hx => hl x (.tail _ hx)
        have h3 := hl q (.head _)
        simp only [partsLen, List.map_cons, List.sum_cons, List.length_cons] at h2 ⊢
        omega
    have := h1 ps hB
    omega
  refine truthy_len (K := hd.heap_1 w.params) (X.keeps F.keep) (acc_inst N (.head _) (.tail _ (.head _))) (by k_is) (by k_is) (f := 145) (by k_is) ?_
  have ok1 : Ok (A.deeper (envX "_Accumulator.is_onlyws" { kind := ScopeKind.function, names := [("self", NameKind.local), ("str", NameKind.globalImplicit)], isGenerator := false, isCoroutine := false } L 167 (.ref 166) [])).in1.in1 10 80 :=
    ⟨hA.h, by have := hA.d; show A.depth + 1 + 10 < 1000; omega, by have := hA.u; show A.units + 3 + 1 + 1 + 80 < 9900; omega⟩
  refine wpAny_mono (accLen_spec (items := items) (ps := ps) (fun b o e => acc_in F (rest := []) N b o (X b o e)) (T.keeps (acc_in F (rest := []) N)) ⟨hA.h, by have := hA.d; show A.depth + 1 + 10 < 1000; omega, by have := hA.u; show A.units + 3 + 1 + 80 < 9900; omega⟩ G (acc_at (rest := []) N k1 k2) (hP.keep (acc_in F (rest := []) N)) hn hB) (fun r s' hr => ?_) fun _ _ x => x
  obtain ⟨⟨t, rfl⟩, ⟨h2, tk2, g2, rfl, hk2, hg2⟩, hAt⟩ := hr.go
  obtain ⟨F2, n2, hs2, tk02, it2, e2, t12, t22, N2, k12, k22⟩ := acc_back F (rest := []) N (by simp) hk2 hAt
  refine ⟨_, _, rfl, by omega, bound, ?_⟩
  rw [show (partsLen ps != 0) = true by simp; omega]
  dsimp only at F2 N2 hg2 ⊢
  clear F N hAt hr
  k_steps
  refine Halt.on ?_
  (try dsimp only)
  refine kso_call (K := hd.heap_1 w.params) (by have := hA.u; show A.units + 3 + 1 + 1 < 9900; omega) (X.keeps F2.keep) (acc_inst N2 (.head _) (.tail _ (.head _))) (by k_is) (f := 152) (by k_is) ?_
  refine wpAny_mono (accStr_spec (items := items) (ps := ps) (fun b o e => acc_in F2 (rest := []) N2 b o (X b o e)) (T.keeps (acc_in F2 (rest := []) N2)) ok1 (hg2 G) (acc_at (rest := []) N2 k12 k22) (hP.keep (acc_in F2 (rest := []) N2)) hn hB) (fun r s' hr => ?_) fun _ _ x => x
  obtain ⟨⟨t, rfl⟩, ⟨h3, tk3, g3, rfl, hk3, hg3⟩, hAt⟩ := hr.go
  obtain ⟨F3, n3, hs3, tk03, it3, e3, t13, t23, N3, k13, k23⟩ := acc_back F2 (rest := []) N2 (by simp) hk3 hAt
  dsimp only at F3 N3 hg3 hAt ⊢
  clear F2 N2 hr
  show wpAny _ _ _ _ _ _
  k_steps
  rw [hsp]
  exact Halt.on ⟨rfl, ⟨h3, _, g3, rfl, fun b o hb e => F3.keep b o (hideAll_get (hidA a d) e hb), fun g => hg3 (hg2 g)⟩, hAt⟩
end
end
-- N2
section
theorem anew_N2 : True := by
  w_top off
  exact True.intro
section
local macro_rules | `(tactic| walk_at "callWith ref nil nil") => `(tactic| ((with_reducible show wpAny _ _ (callWith _ _ [] _ _) _ _ _); refine Halt.go ?_))
local macro_rules | `(tactic| walk_at "setAttr ref") => `(tactic| refine Halt.go ?_)
theorem accInit_spec {w : World} {mean : ExcName → Option Value} {mg mb : Str → Option Value} {p : Program} {loose : List Str} {A : Around} {s : Shared} {R : Result → Shared → Prop} {a d : Addr} {t1 t2 : Array Value} {ti : Tok}
  (X : Frag.In (hd.heap_1 w.params) (hideAll s.heap (hidA a d))) (T : Top p loose mean mg mb (hideAll s.heap (hidA a d))) (hA : Ok A 10 80) (ho : ∀ p ∈ [(a, accO d [] 0), (d, dictOf [] 0), (140, tabObj t1), (147, tabObj t2)], s.heap.get? p.1 = some p.2) (k1 : TabOk 93 19 t1) (k2 : TabOk 96 32 t2)
  (hR : ∀ s', KB (hidA a d) s s' → AccAt a d [] s'.heap → R (.ok (.ret .none)) s') :
  codeAny (model _root_.PySem.Challenge.rw_pe0169_01.row.prog w) A (.call (.ref 115) ⟨[.ref a, .int 0 ti], []⟩) R s := by
  have hh := hA.h
  revert X
  k_fill
  intro X
  k_dflt (refine' enterS [("self", .ref a), ("initial_size", .int 0 ti)] [] [(a, accO d [] 0), (d, dictOf [] 0), (140, tabObj t1), (147, tabObj t2)] ?k1 ?k2 ?k3 ?k4 ?k5 ?k6 ?k7 ?ko ?_ ?c1 ?c2 ?c3 ?c4; (case ko => assumption); (case k1 => assumption); (case k2 => exact Heap.NoLimit.keeps (Top.nolimit (by assumption)) (fun b o e => of_hideAll _ e)); (case k3 => k_is); (case k4 => k_is); (case k5 => exact Nat.lt_of_le_of_lt (Nat.le_add_right _ _) (Ok.d (by assumption))); (case k6 => exact binds_K (show Frag.In (hd.heap_1 w.params) s.heap from fun a o e => of_hideAll _ (X a o e)) rfl (by k_is) rfl rfl rfl); (case k7 => exact locs rfl); (case c1 => decide); (case c2 => exact rfl); (case c3 => exact rfl); (case c4 => exact rfl); k_whole)
  intro L h₁ F N hlt
  replace F : Fr (hideAll s.heap (hidA a d)) L h₁ (mp [("initial_size", some (.int 0 ti)), ("self", some (.ref a))]) := F
  replace N : News (hideAll s.heap (hidA a d)) L h₁ [(a, accO d [] 0), (d, dictOf [] 0), (140, tabObj t1), (147, tabObj t2)] := N
  show _root_.PySem.wpAt _ _ _ _ _ _ _
  (try dsimp only)
  refine ks_wpAt_execs_cons (wpAt_of_wpAny (wpAny_mono (Q := fun f s' => Halt (f = .next ∧ ∃ h' tk e hs tk0, s' = { s with heap := h', toks := tk } ∧ Fr (hideAll s.heap (hidA a d)) L h' (mp [("initial_size", some (.int 0 ti)), ("self", some (.ref a))]) ∧ News (hideAll s.heap (hidA a d)) L h' (accS a d [] 0 hs tk0 ti e t1 t2))) ?first (fun f s' hr => ?rest) (fun _ _ x => x)))
  case first =>
    have hne : a ≠ d := fun q => by
      have h1 := (N _ (.head _)).1; have h2 := (N _ (.tail _ (.head _))).1
      dsimp only at h1 h2; rw [q] at h1; exact absurd (h1.symm.trans h2) (by simp)
    have hd1 : d ≠ 140 := fun q => by
      have h1 := (N _ (.tail _ (.tail _ (.head _)))).1; have h2 := (N _ (.tail _ (.head _))).1
      dsimp only at h1 h2; rw [q] at h2; exact absurd (h2.symm.trans h1) (by simp)
    have hd2 : d ≠ 147 := fun q => by
      have h1 := (N _ (.tail _ (.tail _ (.tail _ (.head _))))).1; have h2 := (N _ (.tail _ (.head _))).1
      dsimp only at h1 h2; rw [q] at h2; exact absurd (h2.symm.trans h1) (by simp)
    k_steps
    refine Halt.on ?_
    (try dsimp only)
    k_dflt (refine' acc_set (es := []) (n := 0) (es' := [⟨PyData.keyHash w.params "_initial_size", .str "_initial_size" _, .int 0 ti⟩]) (n' := 1) F X N ?k4 ?k5 ?k6 ?km ?ko ?k8 ?k9 ?k10 ?k11 ?k12 ?k13 ?_)
    case k4 => exact acc_inst N (.head _) (.tail _ (.head _))
    case k5 => exact rfl
    case k6 => k_is
    case km => kernel_rfl
    case ko => k_is
    case k8 => k_is
    case k9 => k_is
    case k10 => k_get
    case k11 => rfl
    case k12 => exact Upd.tail hne (Upd.head (by simp [Ne.symm hd1, Ne.symm hd2]))
    case k13 => exact Nat.le_of_ble_eq_true rfl
    k_whole
    intro h' F' N'
    exact Halt.on ⟨rfl, h', _, _, _, _, rfl, F', N'⟩
  case rest =>
    obtain ⟨rfl, h', tk, e, hs, tk0, rfl, F', N'⟩ := hr.go
    clear F N hr
    dsimp only
    k_steps
    rename_i q h3 F3 N3 _
    refine Halt.on (callWith_B0 ⟨.inl rfl, (N3 _ (.head _)).1⟩ (init_bound (N3 _ (.head _)).1 (N3 _ (.tail _ (.tail _ (.head _)))).1 (by decide) fun h4 n4 hs4 ho4 => ?_))
    have w4 := acc_write (tk' := tk + 1) (g := s.gens) F3 N3 (fun p hp => .tail _ (.tail _ hp)) hs4 ho4 (fun g => g) k1 k2
    clear hs4 ho4 N3 F3
    dsimp only at w4 ⊢
    exact wpAt_of_wpAny (wpAny_execs_nil (hR _ w4.1 w4.2))
end
end
-- V0
section
theorem partsLen_le : ∀ {l : List (Str × Str)}, (∀ p ∈ l, p.1.length < 1000 ∧ p.2.length < 1000) → 0 ≤ partsLen l ∧ partsLen l ≤ 2000 * l.length
  | [], _ => by simp [partsLen]
  | q :: r, hl => by
    have h2 := partsLen_le fun x hx => hl x (.tail _ hx)
    have h3 := hl q (.head _)
    simp only [partsLen, List.map_cons, List.sum_cons, List.length_cons] at h2 ⊢
    omega
/-- an object that no accumulator's part is -/
noncomputable def alien (o : Obj) : Bool := match o.cls with
  | .type n => n != "dict"
  | _ => false
theorem alien_out {h : Heap} {a d x : Addr} {o : Obj} {items : List Value} (hA : AccAt a d items h) (hx : h.get? x = some o) (ha : alien o = true) : x ∉ hidA a d := by
  obtain ⟨n, hs, tk, it, e, t1, t2, hp, _⟩ := hA
  intro hm
  obtain ⟨p, hp', hq⟩ := List.mem_map.mp (show x ∈ (accS a d items n hs tk it e t1 t2).map Prod.fst from hm)
  have h1 := hp p hp'
  rw [hq, hx] at h1
  cases h1
  simp only [List.mem_cons, List.not_mem_nil, or_false] at hp'
  rcases hp' with rfl | rfl | rfl | rfl <;> simp [alien, accO, accD, dictOf, tabObj] at ha
theorem rest_out {base h : Heap} {L a d : Addr} {items : List Value} {n : Nat} {hs : Int} {tk it : Tok} {e : Nat} {t1 t2 : Array Value} {rest : List (Addr × Obj)} (N : News base L h (accS a d items n hs tk it e t1 t2 ++ rest)) (k1 : TabOk 93 19 t1) (k2 : TabOk 96 32 t2) (hr : rest.all (fun p => alien p.2) = true) : ∀ p ∈ rest, p.1 ∉ hidA a d :=
  fun p hp => alien_out (acc_at N k1 k2) (N p (List.mem_append_right _ hp)).1 (List.all_eq_true.mp hr p hp)
theorem parts_now {base h : Heap} {L a d : Addr} {m : Str → Option Value} {items : List Value} {n : Nat} {hs : Int} {tk it : Tok} {e : Nat} {t1 t2 : Array Value} {its0 : List Value} {rest : List (Addr × Obj)} {ps : List (Str × Str)} (F : Fr base L h m) (N : News base L h (accS a d items n hs tk it e t1 t2 ++ rest)) (hP : Parts base its0 ps) : Parts (hideAll h (hidA a d)) its0 ps :=
  hP.keep (acc_in F N)
theorem part_one {base h : Heap} {L a d t : Addr} {items : List Value} {n : Nat} {hs : Int} {tk it : Tok} {e : Nat} {t1 t2 : Array Value} {rest : List (Addr × Obj)} {f b : Str} {tf tb : Tok} (N : News base L h (accS a d items n hs tk it e t1 t2 ++ rest)) (k1 : TabOk 93 19 t1) (k2 : TabOk 96 32 t2) (ht : (t, tupO [.str f tf, .str b tb]) ∈ rest) : Parts (hideAll h (hidA a d)) [.ref t] [(f, b)] :=
  Parts.one (hideAll_get _ (N _ (List.mem_append_right _ ht)).1 (alien_out (acc_at N k1 k2) (N _ (List.mem_append_right _ ht)).1 rfl))
noncomputable abbrev Res (s : Shared) (base : Heap) (L : Addr) (m : Str → Option Value) (a d : Addr) (items : List Value) (rest : List (Addr × Obj)) (Q : Shared → Prop) : Prop :=
  ∀ h' tk' g' n hs tk it e t1 t2, AllBare g' → Fr base L h' m → News base L h' (accS a d items n hs tk it e t1 t2 ++ rest) → TabOk 93 19 t1 → TabOk 96 32 t2 → Q { s with heap := h', toks := tk', gens := g' }
section
variable {w : World} {mean : ExcName → Option Value} {mg mb : Str → Option Value} {p : Program} {loose : List Str} {A : Around} {s : Shared} {E : Value → Shared → Prop} {base : Heap} {L : Addr} {m : Str → Option Value} {a d : Addr} {items : List Value} {n : Nat} {hs : Int} {tk it : Tok} {e : Nat} {t1 t2 : Array Value} {rest : List (Addr × Obj)} {Q : Value → Shared → Prop}
theorem res_of {items' : List Value} {s' : Shared} {Q : Shared → Prop} (F : Fr base L s.heap m) (N : News base L s.heap (accS a d items n hs tk it e t1 t2 ++ rest)) (hr : ∀ p ∈ rest, p.1 ∉ hidA a d) (G : AllBare s.gens) (kb : KB (hidA a d) s s') (hA : AccAt a d items' s'.heap) (h : Res s base L m a d items' rest Q) : Q s' := by
  obtain ⟨h', tk', g', rfl, hk, hg⟩ := kb
  obtain ⟨F', n', hs', tk0', it', e', t1', t2', N', k1', k2'⟩ := acc_back F N hr hk hA
  exact h _ _ _ _ _ _ _ _ _ _ (hg G) F' N' k1' k2'
theorem cPushC {R : Result → Shared → Prop} {v1 v2 : Value} (F : Fr base L s.heap m) (X : Frag.In (hd.heap_1 w.params) base) (T : Top p loose mean mg mb base) (N : News base L s.heap (accS a d items n hs tk it e t1 t2 ++ rest)) (k1 : TabOk 93 19 t1) (k2 : TabOk 96 32 t2) (hr : ∀ p ∈ rest, p.1 ∉ hidA a d) (G : AllBare s.gens) (hA : Ok A 10 80) (hn : items.length < 1000)
    (h : ∀ t, t ∉ hidA a d → s.heap.get? t = none → Res s base L m a d (items ++ [.ref t]) ((t, tupO [v1, v2]) :: rest) (R (.ok (.ret .none)))) :
    codeAny (model _root_.PySem.Challenge.rw_pe0169_01.row.prog w) A (.call (.ref 122) ⟨[.ref a, v1, v2], []⟩) R s := by
  refine accPush_code (fun b o e => acc_in F N b o (X b o e)) (T.keeps (acc_in F N)) hA (acc_at N k1 k2) hn fun s' hr' => ?_
  obtain ⟨t, ht0, ht, kb, hAt⟩ := hr'
  obtain ⟨h', tk', g', rfl, hk, hg⟩ := kb
  have htA : t ∉ hidA a d := alien_out hAt ht rfl
  obtain ⟨F', n', hs', tk0', it', e', t1', t2', N', k1', k2'⟩ := acc_back F N hr hk hAt
  have htL : t ≠ L := fun q => by
    obtain ⟨oL, _, _, hL, _⟩ := F.ns
    rw [q] at ht0; exact absurd (hL.symm.trans ht0) (by simp)
  have htb : base.get? t = none := by
    cases q : base.get? t with
    | none => rfl
    | some o => exact absurd ((F.keep _ _ q).symm.trans ht0) (by simp)
  refine h t htA ht0 h' tk' g' n' hs' tk0' it' e' t1' t2' (hg G) F' (fun p hp => ?_) k1' k2'
  rcases List.mem_append.mp hp with hp | hp
  · exact N' p (List.mem_append_left _ hp)
  · rcases List.mem_cons.mp hp with rfl | hp
    · exact ⟨ht, htL, htb⟩
    · exact N' p (List.mem_append_right _ hp)
theorem cPush {v1 v2 : Value} (F : Fr base L s.heap m) (X : Frag.In (hd.heap_1 w.params) base) (T : Top p loose mean mg mb base) (N : News base L s.heap (accS a d items n hs tk it e t1 t2 ++ rest)) (k1 : TabOk 93 19 t1) (k2 : TabOk 96 32 t2) (hr : ∀ p ∈ rest, p.1 ∉ hidA a d) (G : AllBare s.gens) (hA : Ok A 10 80) (hn : items.length < 1000)
    (h : ∀ t, t ∉ hidA a d → s.heap.get? t = none → Res s base L m a d (items ++ [.ref t]) ((t, tupO [v1, v2]) :: rest) (Q .none)) :
    wpAny (model _root_.PySem.Challenge.rw_pe0169_01.row.prog w) A (call (.ref 122) [.ref a, v1, v2]) Q E s :=
  wpAny_call (cPushC F X T N k1 k2 hr G hA hn h)
theorem cLen {ps : List (Str × Str)} (F : Fr base L s.heap m) (X : Frag.In (hd.heap_1 w.params) base) (T : Top p loose mean mg mb base) (N : News base L s.heap (accS a d items n hs tk it e t1 t2 ++ rest)) (k1 : TabOk 93 19 t1) (k2 : TabOk 96 32 t2) (hr : ∀ p ∈ rest, p.1 ∉ hidA a d) (G : AllBare s.gens) (hA : Ok A 10 90) (hP : Parts (hideAll s.heap (hidA a d)) items ps) (hn : ps.length < 100) (hB : ∀ p ∈ ps, p.1.length < 1000 ∧ p.2.length < 1000)
    (h : ∀ t, Res s base L m a d items rest (Q (.int (partsLen ps) t))) :
    wpAny (model _root_.PySem.Challenge.rw_pe0169_01.row.prog w) A (call (.builtin "len") [.ref a]) Q E s := by
  revert X
  k_fill
  intro X
  refine len_K (K := hd.heap_1 w.params) F X (acc_inst N (.head _) (.tail _ (.head _))) (by k_is) (f := 145) (by k_is) ?_
  refine wpAny_mono (accLen_spec (items := items) (ps := ps) (fun b o e => acc_in F N b o (X b o e)) (T.keeps (acc_in F N)) ⟨hA.h, hA.d, by have := hA.u; show A.units + 1 + 80 < 9900; omega⟩ G (acc_at N k1 k2) hP hn hB) (fun r s' hr' => ?_) fun _ _ x => x
  obtain ⟨⟨t3, rfl⟩, kb, hAt⟩ := hr'.go
  have := partsLen_le hB
  refine ⟨⟨this.1, by omega⟩, ?_⟩
  obtain ⟨h', tk', g', rfl, hk, hg⟩ := kb
  obtain ⟨F', n', hs', tk0', it', e', t1', t2', N', k1', k2'⟩ := acc_back F N hr hk hAt
  exact h _ _ _ _ _ _ _ _ _ _ _ (hg G) F' N' k1' k2'
theorem cStr {ps : List (Str × Str)} (F : Fr base L s.heap m) (X : Frag.In (hd.heap_1 w.params) base) (T : Top p loose mean mg mb base) (N : News base L s.heap (accS a d items n hs tk it e t1 t2 ++ rest)) (k1 : TabOk 93 19 t1) (k2 : TabOk 96 32 t2) (hr : ∀ p ∈ rest, p.1 ∉ hidA a d) (G : AllBare s.gens) (hA : Ok A 10 90) (hP : Parts (hideAll s.heap (hidA a d)) items ps) (hn : ps.length < 100) (hB : ∀ p ∈ ps, p.1.length < 1000 ∧ p.2.length < 1000)
    (h : ∀ t, Res s base L m a d items rest (Q (.str (partsStr ps) t))) :
    wpAny (model _root_.PySem.Challenge.rw_pe0169_01.row.prog w) A (call (.type "str") [.ref a]) Q E s := by
  revert X
  k_fill
  intro X
  refine kso_call (K := hd.heap_1 w.params) (by have := hA.u; show A.units + 1 + 1 < 9900; omega) (X.keeps F.keep) (acc_inst N (.head _) (.tail _ (.head _))) (by k_is) (f := 152) (by k_is) ?_
  refine wpAny_mono (accStr_spec (items := items) (ps := ps) (fun b o e => acc_in F N b o (X b o e)) (T.keeps (acc_in F N)) ⟨hA.h, hA.d, by have := hA.u; show A.units + 1 + 1 + 80 < 9900; omega⟩ G (acc_at N k1 k2) hP hn hB) (fun r s' hr' => ?_) fun _ _ x => x
  obtain ⟨⟨t3, rfl⟩, kb, hAt⟩ := hr'.go
  obtain ⟨h', tk', g', rfl, hk, hg⟩ := kb
  obtain ⟨F', n', hs', tk0', it', e', t1', t2', N', k1', k2'⟩ := acc_back F N hr hk hAt
  exact h _ _ _ _ _ _ _ _ _ _ _ (hg G) F' N' k1' k2'
theorem cCount (F : Fr base L s.heap m) (X : Frag.In (hd.heap_1 w.params) base) (T : Top p loose mean mg mb base) (N : News base L s.heap (accS a d items n hs tk it e t1 t2 ++ rest)) (k1 : TabOk 93 19 t1) (k2 : TabOk 96 32 t2) (hr : ∀ p ∈ rest, p.1 ∉ hidA a d) (G : AllBare s.gens) (hA : Ok A 10 80)
    (h : ∀ t, Res s base L m a d items rest (Q (.int items.length t))) :
    wpAny (model _root_.PySem.Challenge.rw_pe0169_01.row.prog w) A (call (.ref 175) [.ref a]) Q E s := by
  refine wpAny_mono (accCount_spec (items := items) (fun b o e => acc_in F N b o (X b o e)) (T.keeps (acc_in F N)) hA (acc_at N k1 k2)) (fun r s' hr' => ?_) fun _ _ x => x
  obtain ⟨⟨t, rfl⟩, kb, hAt⟩ := hr'.go
  exact res_of F N hr G kb hAt (h t)
theorem cPop {v : Value} (F : Fr base L s.heap m) (X : Frag.In (hd.heap_1 w.params) base) (T : Top p loose mean mg mb base) (N : News base L s.heap (accS a d (items ++ [v]) n hs tk it e t1 t2 ++ rest)) (k1 : TabOk 93 19 t1) (k2 : TabOk 96 32 t2) (hr : ∀ p ∈ rest, p.1 ∉ hidA a d) (G : AllBare s.gens) (hA : Ok A 20 160) (hn : items.length < 1000)
    (h : Res s base L m a d items rest (Q v)) :
    wpAny (model _root_.PySem.Challenge.rw_pe0169_01.row.prog w) A (call (.ref 138) [.ref a]) Q E s := by
  refine wpAny_mono (accPop_spec (fun b o e => acc_in F N b o (X b o e)) (T.keeps (acc_in F N)) hA (acc_at N k1 k2) hn) (fun r s' hr' => ?_) fun _ _ x => x
  obtain ⟨rfl, kb, hAt⟩ := hr'.go
  exact res_of F N hr G kb hAt h
theorem cPopFrom {k : Nat} {ti : Tok} (F : Fr base L s.heap m) (X : Frag.In (hd.heap_1 w.params) base) (T : Top p loose mean mg mb base) (N : News base L s.heap (accS a d items n hs tk it e t1 t2 ++ rest)) (k1 : TabOk 93 19 t1) (k2 : TabOk 96 32 t2) (hr : ∀ p ∈ rest, p.1 ∉ hidA a d) (G : AllBare s.gens) (hA : Ok A 10 80) (hn : items.length < 1000) (hk : k ≤ items.length)
    (h : ∀ R c, R ∉ hidA a d → s.heap.get? R = none → Res s base L m a d (items.take k) ((R, listOf (items.drop k).toArray c) :: rest) (Q (.ref R))) :
    wpAny (model _root_.PySem.Challenge.rw_pe0169_01.row.prog w) A (call (.ref 130) [.ref a, .int k ti]) Q E s := by
  refine wpAny_mono (accPopFrom_spec (fun b o e => acc_in F N b o (X b o e)) (T.keeps (acc_in F N)) hA (acc_at N k1 k2) hn hk) (fun r s' hr' => ?_) fun _ _ x => x
  obtain ⟨⟨R, c, rfl, hR0, hR⟩, kb, hAt⟩ := hr'.go
  obtain ⟨h', tk', g', rfl, hk, hg⟩ := kb
  have hRA : R ∉ hidA a d := alien_out hAt hR rfl
  obtain ⟨F', n', hs', tk0', it', e', t1', t2', N', k1', k2'⟩ := acc_back F N hr hk hAt
  have htL : R ≠ L := fun q => by
    obtain ⟨oL, _, _, hL, _⟩ := F.ns
    rw [q] at hR0; exact absurd (hL.symm.trans hR0) (by simp)
  have htb : base.get? R = none := by
    cases q : base.get? R with
    | none => rfl
    | some o => exact absurd ((F.keep _ _ q).symm.trans hR0) (by simp)
  refine h R c hRA hR0 h' tk' g' n' hs' tk0' it' e' t1' t2' (hg G) F' (fun p hp => ?_) k1' k2'
  rcases List.mem_append.mp hp with hp | hp
  · exact N' p (List.mem_append_left _ hp)
  · rcases List.mem_cons.mp hp with rfl | hp
    · exact ⟨hR, htL, htb⟩
    · exact N' p (List.mem_append_right _ hp)
theorem cReset {R : Addr} {xs : List Value} {c : Nat} (F : Fr base L s.heap m) (X : Frag.In (hd.heap_1 w.params) base) (T : Top p loose mean mg mb base) (N : News base L s.heap (accS a d items n hs tk it e t1 t2 ++ rest)) (k1 : TabOk 93 19 t1) (k2 : TabOk 96 32 t2) (hr : ∀ p ∈ rest, p.1 ∉ hidA a d) (G : AllBare s.gens) (hA : Ok A 10 80) (hn : items.length < 1000) (hR : (R, listOf xs.toArray c) ∈ rest) (hx : xs.length < 1000)
    (h : Res s base L m a d xs rest (Q .none)) :
    wpAny (model _root_.PySem.Challenge.rw_pe0169_01.row.prog w) A (call (.ref 160) [.ref a, .ref R]) Q E s := by
  refine wpAny_mono (accReset_spec (xs := xs) (c := c) (fun b o e => acc_in F N b o (X b o e)) (T.keeps (acc_in F N)) hA (acc_at N k1 k2) hn (hideAll_get _ (N _ (List.mem_append_right _ hR)).1 (hr _ hR)) hx) (fun r s' hr' => ?_) fun _ _ x => x
  obtain ⟨rfl, kb, hAt⟩ := hr'.go
  exact res_of F N hr G kb hAt h
theorem cReset0 (F : Fr base L s.heap m) (X : Frag.In (hd.heap_1 w.params) base) (T : Top p loose mean mg mb base) (N : News base L s.heap (accS a d items n hs tk it e t1 t2 ++ rest)) (k1 : TabOk 93 19 t1) (k2 : TabOk 96 32 t2) (hr : ∀ p ∈ rest, p.1 ∉ hidA a d) (G : AllBare s.gens) (hA : Ok A 10 80) (hn : items.length < 1000)
    (h : Res s base L m a d [] rest (Q .none)) :
    wpAny (model _root_.PySem.Challenge.rw_pe0169_01.row.prog w) A (call (.ref 160) [.ref a]) Q E s := by
  refine wpAny_mono (accReset0_spec (fun b o e => acc_in F N b o (X b o e)) (T.keeps (acc_in F N)) hA (acc_at N k1 k2) hn) (fun r s' hr' => ?_) fun _ _ x => x
  obtain ⟨rfl, kb, hAt⟩ := hr'.go
  exact res_of F N hr G kb hAt h
theorem cWs {ps : List (Str × Str)} (F : Fr base L s.heap m) (X : Frag.In (hd.heap_1 w.params) base) (T : Top p loose mean mg mb base) (N : News base L s.heap (accS a d items n hs tk it e t1 t2 ++ rest)) (k1 : TabOk 93 19 t1) (k2 : TabOk 96 32 t2) (hr : ∀ p ∈ rest, p.1 ∉ hidA a d) (G : AllBare s.gens) (hA : Ok A 20 160) (hP : Parts (hideAll s.heap (hidA a d)) items ps) (hn : ps.length < 100) (hB : ∀ p ∈ ps, p.1.length < 1000 ∧ p.2.length < 1000) (hpos : 0 < partsLen ps) (hsp : Txt.isspace (partsStr ps) = false)
    (h : Res s base L m a d items rest (Q (.bool false))) :
    wpAny (model _root_.PySem.Challenge.rw_pe0169_01.row.prog w) A (call (.ref 167) [.ref a]) Q E s := by
  refine wpAny_mono (accWs_spec (fun b o e => acc_in F N b o (X b o e)) (T.keeps (acc_in F N)) hA G (acc_at N k1 k2) hP hn hB hpos hsp) (fun r s' hr' => ?_) fun _ _ x => x
  obtain ⟨rfl, kb, hAt⟩ := hr'.go
  exact res_of F N hr G kb hAt h
theorem cApp {ll : Addr} {vs : List Value} {c : Nat} {x : Value} (rest' : List (Addr × Obj)) (F : Fr base L s.heap m) (N : News base L s.heap (accS a d items n hs tk it e t1 t2 ++ rest)) (k1 : TabOk 93 19 t1) (k2 : TabOk 96 32 t2) (hm : (ll, listOf vs.toArray c) ∈ rest) (hr : ∀ p ∈ rest', p ∈ rest ∧ p.1 ≠ ll) (hz : vs.length < 1000)
    (h : ∀ h', Fr base L h' m → News base L h' (accS a d items n hs tk it e t1 t2 ++ (ll, listOf (vs ++ [x]).toArray (c + 1)) :: rest') → Q .none { s with heap := h' }) :
    wpAny (model _root_.PySem.Challenge.rw_pe0169_01.row.prog w) A (call (.builtin "list.append") [.ref ll, x]) Q E s := by
  have z := N _ (List.mem_append_right _ hm)
  have hout := alien_out (acc_at N k1 k2) z.1 rfl
  have hline := sizeLine_eq
  refine append_at (its := vs.toArray) (n := c) (D := ll) (hsz := by rw [List.size_toArray]; omega) z.1 fun h' hs' ho' => h h' (F.change hs' z.2.1 z.2.2) fun p hp => ?_
  rcases List.mem_append.mp hp with hp | hp
  · have y := N p (List.mem_append_left _ hp)
    exact ⟨hs'.extBut _ _ (fun q => hout (q ▸ List.mem_map_of_mem (f := Prod.fst) hp)) y.1, y.2⟩
  · rcases List.mem_cons.mp hp with rfl | hp
    · exact ⟨by simpa using ho', z.2⟩
    · obtain ⟨h1, h2⟩ := hr p hp
      have y := N p (List.mem_append_right _ h1)
      exact ⟨hs'.extBut _ _ h2 y.1, y.2⟩
end
end
-- V1
section
theorem anew_V1 : True := by
  w_top off
  exact True.intro
noncomputable abbrev hidL (ll a d : Addr) : List Addr := [ll, a, d, 140, 147]
inductive VFAt (ll a d : Addr) (ps : List (Str × Str)) (lines : List Str) (h : Heap) : Prop
  | mk (items vs : List Value) (k : Nat) : AccAt a d items h → h.get? ll = some (listOf vs.toArray k) → StrsAre vs lines → Parts (hideAll h (hidL ll a d)) items ps → VFAt ll a d ps lines h
theorem inst_keep {h h' : Heap} {x C : Addr} {ox : Obj} {od : Option Obj} (I : W.InstAt h x ox C od) (k : ∀ b o, h.get? b = some o → h'.get? b = some o) : W.InstAt h' x ox C od := by
  obtain ⟨i1, i2, i3, i4⟩ := I
  refine ⟨k _ _ i1, i2, i3, ?_⟩
  revert i4
  cases ox.dict <;> cases od <;> first | exact fun e => e | exact fun e => k _ _ e
theorem vo_get {prog : Program} {w : World} {A : Around} {E : Value → Shared → Prop} {s : Shared} {K : Frag} {h₀ : Heap} {L : Addr} {m : Str → Option Value} {x dv : Addr} {od : Obj} {name : Str} {v : Value} {attr : Option Value} {expr : Bool} {Q : Value → Shared → Prop} (F : Fr h₀ L s.heap m) (X : K.In h₀) (I : W.InstAt h₀ x (instObj 94 dv) 94 (some od)) (hq : lookIn name od = some (some v))
    (hga : findIn K (.ref 94) "__getattribute__" = some (some (.builtin "object.__getattribute__"))) (hh : hasDictIn K 94 = true) (ha : findIn K (.ref 94) name = some attr) (hn : noGet K attr = true) (hv : handedIn v = true) (h : Q v { s with toks := s.toks + 1 }) :
    wpAny (model prog w) A (getAttr (.ref x) name expr) Q E s :=
  get_value (X.keeps F.keep) (inst_keep I F.keep) hga (findObj_own hh ha hn hq) hv h
theorem size_down (m : Nat) : Builtin.Range.rangeSize (m : Int) 0 (-1) = m := by
  unfold Builtin.Range.rangeSize
  rw [if_neg (by decide)]
  split
  · rw [show -(-1 : Int) = 1 from rfl, Int.ediv_one]; omega
  · omega
theorem small_down (m : Nat) (h : m < 100000) : Builtin.Range.small (m : Int) 0 (-1) = true := by
  unfold Builtin.Range.small
  rw [size_down]
  simp [Builtin.Range.rangeFitsLong]
  omega
theorem callA {M : Model} {A : Around} {E : Value → Shared → Prop} {s : Shared} {env : Env} {func : PySem.Expr} {args : List PySem.Expr} {pos : PySem.Pos} {Q : Value → Shared → Prop}
    (h : wpAny M A (eval func env) (fun f s₁ => wpAny M A (callWith pos f [] (backTo pos (starEach args env)) []) Q E s₁) E s)
    (he : eval (.Call func args [] pos) env = (do callWith pos (← eval func env) [] (backTo pos (starEach args env)) (backToKw pos (keywordEach [] env))) := by rfl) :
    wpAny M A (eval (.Call func args [] pos) env) Q E s := by
  rw [he]; exact wpAny_bind h
theorem methodA {M : Model} {A : Around} {E : Value → Shared → Prop} {s : Shared} {env : Env} {o : PySem.Expr} {name : Str} {apos pos : PySem.Pos} {args : List PySem.Expr} {pl : Sem Bool} {Q : Value → Shared → Prop}
    (h : wpAny M A (eval o env) (fun ov s₁ => wpAny M A (getMethod ov name pl) (fun fx s₂ => wpAny M A (callWith pos fx.1 fx.2 (backTo pos (starEach args env)) []) Q E s₂) E s₁) E s)
    (he : eval (.Call (.Attribute o name apos) args [] pos) env = (do
      let ov ← eval o env
      standAt apos.atName
      let (f, first) ← holding [ov] (getMethod ov name pl)
      callWith pos f first (backTo pos (starEach args env)) []) := by rfl) :
    wpAny M A (eval (.Call (.Attribute o name apos) args [] pos) env) Q E s := by
  rw [he]
  exact wpAny_bind (wpAny_mono h (fun ov s₁ h₁ => wpAny_bind (wpAny_standAt (wpAny_bind (wpAny_holding (wpAny_mono h₁ (fun fx s₂ h₂ => h₂) fun _ _ x => x))))) fun _ _ x => x)
theorem callMeth0 {M : Model} {A : Around} {E : Value → Shared → Prop} {s : Shared} {K : Frag} {h₀ : Heap} {env : Env} {f : Addr} {oc : Value} {od : Option Addr} {fd : FuncData} {sl : Array (Option Value)} {pos : PySem.Pos} {first : List Value} {Q : Value → Shared → Prop} (X : K.In h₀) (k : ∀ b o, h₀.get? b = some o → s.heap.get? b = some o) (ho : K.lookup f = some ⟨oc, od, .func fd, sl⟩) (h : wpAny M A (call (.ref f) (first ++ [])) Q E s) :
    wpAny M A (callWith pos (.ref f) first (backTo pos (starEach [] env)) []) Q E s := callWith_F0 ⟨oc, od, fd, sl, k _ _ (X _ _ ho)⟩ h
theorem news_cons {h₀ h : Heap} {L I : Addr} {o : Obj} {l : List (Addr × Obj)} (ho : h.get? I = some o) (hIL : L ≠ I) (hI0 : h₀.get? I = none) (N : News h₀ L h l) : News h₀ L h ((I, o) :: l) :=
  List.forall_mem_cons.mpr ⟨⟨ho, Ne.symm hIL, hI0⟩, N⟩
theorem acc_getInt {prog : Program} {w : World} {A : Around} {E : Value → Shared → Prop} {s : Shared} {K : Frag} {a d : Addr} {items : List Value} {n : Nat} {od : Option Obj} {k : Int} {u : Tok} {v : Value} {Q : Value → Shared → Prop} (X : K.In s.heap) (I : W.InstAt s.heap a (accO d items n) 178 od) (hm : mroIn K 178 (.type "list") = some true) (hq : mroIn K 178 (.type "collections.deque") = some false)
    (hf : findIn K (.ref 178) "__getitem__" = some (some (.builtin "list.__getitem__"))) (h0 : 0 ≤ k) (hfit : k < 2 ^ 63) (hx : items[k.toNat]? = some v) (h : Q v s) : wpAny (model prog w) A (getItem (.ref a) (.int k u)) Q E s := by
  unfold getItem
  try with_reducible refine wpAny_holding ?_
  refine wpAny_bind (seqKey X I hq ?_)
  refine wpAny_bind (special_bi X I hf slot_list_getitem.bind (call_sub (owner := "list") (n := "__getitem__") (by decide +kernel) (.inr (by decide +kernel)) (by decide +kernel) entry_list_getitem (args_list_getitem _ _) X I hm ?_))
  show wpAny _ _ (Builtin.List.listSubscript? (.int k u) >>= _) _ _ s
  refine wpAny_bind (wpAny_listSubscript_int (fitsIndex_of h0 hfit) ?_)
  clear hfit
  obtain ⟨j, rfl⟩ := Int.eq_ofNat_of_zero_le h0
  have hx' : items.toArray[j]? = some v := by simpa using hx
  show wpAny _ _ ((seqItemAt a j >>= fun r => pure (r.map (j, ·))) >>= _) _ _ s
  refine wpAny_bind (wpAny_bind (wpAny_seqItemAt I.at_ rfl (wpAny_pure ?_)))
  rw [hx']
  first
    | exact wpAny_bind (wpAny_pure (wpAny_pure ⟨v, rfl, wpAny_pure h⟩))
    | exact wpAny_pure ⟨v, rfl, wpAny_pure h⟩
theorem back_pos {x : Str} {c : Nat} (h : x.cps.back? = some c) : 0 < x.length := by
  rw [Array.back?_eq_getElem?] at h
  obtain ⟨h, -⟩ := Array.getElem?_eq_some_iff.mp h
  show 0 < x.cps.size
  omega
theorem item_last {x : Str} {c : Nat} (h : x.cps.back? = some c) : Txt.item x (-1) = ⟨#[c]⟩ := by
  have h0 := back_pos h
  rw [Array.back?_eq_getElem?] at h
  unfold Txt.item Txt.charAt
  rw [seqIndex?_neg_one h0]
  show (⟨#[(x.cps[x.length - 1]?).getD 0]⟩ : Str) = _
  rw [show x.cps[x.length - 1]? = some c from h]; rfl
/-- one chunk, in plain words -/
noncomputable def chunk (wd : Int) (st : List (Str × Str) × List Str) (q : Str × Str) : List (Str × Str) × List Str :=
  if wd < partsLen (st.1 ++ [q]) ∧ st.1 ≠ [] then ([q], st.2 ++ [partsStr st.1]) else (st.1 ++ [q], st.2)
theorem vf_end {s : Shared} {L ll a d : Addr} {h' : Heap} {tk' : Nat} {g' : Array GenState} {m : Str → Option Value} {items vs : List Value} {n k : Nat} {hs : Int} {tk it : Tok} {e : Nat} {t1 t2 : Array Value} {rest : List (Addr × Obj)} {ps : List (Str × Str)} {lines : List Str} (g : AllBare g') (F : Fr (hideAll s.heap (hidL ll a d)) L h' m) (N : News (hideAll s.heap (hidL ll a d)) L h' (accS a d items n hs tk it e t1 t2 ++ rest)) (k1 : TabOk 93 19 t1) (k2 : TabOk 96 32 t2)
    (hl : (ll, listOf vs.toArray k) ∈ rest) (hS : StrsAre vs lines) (hP : Parts (hideAll h' (hidA a d)) items ps) : KB (hidL ll a d) s { s with heap := h', toks := tk', gens := g' } ∧ VFAt ll a d ps lines h' := by
  refine ⟨⟨h', tk', g', rfl, fun b o hb e => F.keep b o (hideAll_get (hidL ll a d) e hb), fun _ => g⟩, items, vs, k, acc_at N k1 k2, (N _ (List.mem_append_right _ hl)).1, hS, ?_⟩
  have hll := (N _ (List.mem_append_right _ hl)).1
  clear N
  induction hP with
  | nil => exact .nil
  | cons ho _ ih =>
    rename_i t _ _ _ _ _ _
    refine .cons (hideAll_get _ (of_hideAll _ ho) fun hm => ?_) ih
    rcases List.mem_cons.mp hm with rfl | hm
    · have := (of_hideAll _ ho).symm.trans hll
      simp [tupO, W.listOf] at this
    · rw [hideAll_none _ hm] at ho; cases ho
section
local macro_rules | `(tactic| size_fits) => `(tactic| (rw [List.size_toArray]; have := sizeLine_eq; omega))
local macro_rules | `(tactic| walk_at $s) => if among "subscriptTail Name UnaryOp str int|subscriptTail Attribute Name Name ref int|subscriptTail Attribute Name BinOp ref int|call ref|call builtin:len|exec For Name Attribute cons cons|exec For Name Call cons cons|pyIter str|call type:range|call type:str" s then `(tactic| refine Halt.go ?_) else Lean.Macro.throwUnsupported
local macro_rules | `(tactic| walk_at "assign Tuple") => `(tactic| (k_dflt (refine unpackN_ (by k_asm) (by k_asm) (News.isTup (by k_asm) (by k_mem)) (by assumption) rfl rfl ?_); intro h' F' N'; (try k_sweep)))
local macro_rules | `(tactic| walk_at "getAttr ref") => `(tactic| k_dflt (refine vo_get (by k_asm) (by k_asm) (by with_reducible assumption) (by with_reducible assumption) (by k_is) (by k_is) (by k_is) (by k_is) (by k_handed) ?_; k_whole))
theorem gen_post {α : Type} {M : Model} {A : Around} {t : Sem α} {Q : α → Shared → Prop} {E : Value → Shared → Prop} {s : Shared} (h : ∀ Q' : α → Shared → Prop, (∀ a s', Q a s' → Q' a s') → wpAny M A t Q' E s) : wpAny M A t Q E s := h Q fun _ _ x => x
inductive ChJ1 (s : Shared) (base : Heap) (L vo ll a d : Addr) (f b : Str) (tf tb : Tok) (ps : List (Str × Str)) (items vs : List Value) (t : Addr) (k : Nat) (i : Nat) (s' : Shared) : Prop
  | mk (hi : i = 0 ∨ ps = []) (och : Option Value) (h' : Heap) (tk : Nat) (g : Array GenState) (n : Nat) (hs : Int) (tk0 it : Tok) (e : Nat) (t1 t2 : Array Value) : s' = { s with heap := h', toks := tk, gens := g } → AllBare g → Fr base L h' (mp [("string", some (.str b tb)), ("fws", some (.str f tf)), ("self", some (.ref vo)), ("ch", och), ("i", none), ("prevpart", none), ("part", none), ("remainder", none)]) → News base L h' (accS a d (items ++ [.ref t]) n hs tk0 it e t1 t2 ++ [(t, tupO [.str f tf, .str b tb]), (ll, listOf vs.toArray k)]) → TabOk 93 19 t1 → TabOk 96 32 t2 → ChJ1 s base L vo ll a d f b tf tb ps items vs t k i s'
inductive ChJ2 (s : Shared) (base : Heap) (L vo ll a d : Addr) (f b : Str) (tf tb : Tok) (items vs : List Value) (t : Addr) (k : Nat) (g7 : Array GenState) (u : Tok) (n7 : Nat) (hs7 : Int) (tk07 it7 : Tok) (e7 : Nat) (t17 t27 : Array Value) (I : Addr) (o : Obj) (i : Nat) (s' : Shared) : Prop
  | mk (hi : i = 0) (h' : Heap) (tk : Nat) : s' = { s with heap := h', toks := tk, gens := g7 } → Fr base L h' (mp [("string", some (.str b tb)), ("fws", some (.str f tf)), ("self", some (.ref vo)), ("ch", some (.str " " u)), ("i", none), ("prevpart", none), ("part", none), ("remainder", none)]) → News base L h' (accS a d (items ++ [.ref t]) n7 hs7 tk07 it7 e7 t17 t27 ++ [(t, tupO [.str f tf, .str b tb]), (ll, listOf vs.toArray k), (I, o)]) → ChJ2 s base L vo ll a d f b tf tb items vs t k g7 u n7 hs7 tk07 it7 e7 t17 t27 I o i s'
theorem chunk_spec {w : World} {mean : ExcName → Option Value} {mg mb : Str → Option Value} {p : Program} {loose : List Str} {A : Around} {s : Shared} {E : Value → Shared → Prop} {vo dv ll a d : Addr} {od : Obj} {wd : Int} {items vs : List Value} {k : Nat} {ps : List (Str × Str)} {lines : List Str} {f b : Str} {tf tb tw ts : Tok}
  (X : Frag.In (hd.heap_1 w.params) (hideAll s.heap (hidL ll a d))) (T : Top p loose mean mg mb (hideAll s.heap (hidL ll a d))) (hA : Ok A 40 400) (G : AllBare s.gens) (I0 : W.InstAt (hideAll s.heap (hidL ll a d)) vo (instObj 94 dv) 94 (some od))
  (q1 : lookIn "_maxlen" od = some (some (.int wd tw))) (q2 : lookIn "_splitchars" od = some (some (.str " " ts))) (q3 : lookIn "_lines" od = some (some (.ref ll))) (q4 : lookIn "_current_line" od = some (some (.ref a)))
  (hO : AccAt a d items s.heap) (hl : s.heap.get? ll = some (listOf vs.toArray k)) (hS : StrsAre vs lines) (hP : Parts (hideAll s.heap (hidL ll a d)) items ps) (hn : ps.length < 50) (hn2 : lines.length < 50) (hB : ∀ p ∈ ps, p.1.length < 1000 ∧ p.2.length < 1000) (hf : f.length < 1000) (hb : b.length < 1000)
  (mode : f = " " ∨ (f = "" ∧ ∀ q ∈ ps, q.2.cps.back? = some 32)) :
  wpAny (model _root_.PySem.Challenge.rw_pe0169_01.row.prog w) A (call (.ref 91) [.ref vo, .str f tf, .str b tb]) (fun v s' => Halt (v = .none ∧ KB (hidL ll a d) s s' ∧ VFAt ll a d (chunk wd (ps, lines) (f, b)).1 (chunk wd (ps, lines) (f, b)).2 s'.heap)) E s := by
  have hh := hA.h
  have hz : items.length = ps.length := hP.length
  have hvl : vs.length = lines.length := hS.length
  have hi50 : items.length < 50 := hz ▸ hn
  have hv50 : vs.length < 50 := hvl ▸ hn2
  obtain ⟨n, hs, tk0, it, e, t1, t2, hO, k1, k2⟩ := hO
  revert X
  k_fill
  intro X
  refine wpAny_call ?_
  k_dflt (refine' enterH [("self", .ref vo), ("fws", .str f tf), ("string", .str b tb)] ["ch", "i", "prevpart", "part", "remainder"] ((ll, listOf vs.toArray k) :: accS a d items n hs tk0 it e t1 t2) ?k1 ?k2 ?k3 ?k4 ?k5 ?k6 ?k7 ?ko ?_ ?c1 ?c2 ?c3 ?c4; (case ko => exact List.forall_mem_cons.mpr ⟨hl, hO⟩); (case k1 => assumption); (case k2 => exact Heap.NoLimit.keeps (Top.nolimit (by assumption)) (fun b o e => of_hideAll _ e)); (case k3 => k_is); (case k4 => k_is); (case k5 => exact Nat.lt_of_le_of_lt (Nat.le_add_right _ _) (Ok.d (by assumption))); (case k6 => exact BindsTo.of_eq rfl); (case k7 => exact locs rfl); (case c1 => decide); (case c2 => exact rfl); (case c3 => exact rfl); (case c4 => exact rfl); k_whole)
  intro L h₁ F N hlt
  obtain ⟨base, hbase⟩ : ∃ base, base = hideAll s.heap (hidL ll a d) := ⟨_, rfl⟩
  rw [show (List.map (fun x => x.1) ((ll, listOf vs.toArray k) :: accS a d items n hs tk0 it e t1 t2)) = hidL ll a d from rfl, ← hbase] at F N
  rw [← hbase] at X T I0 hP
  replace F : Fr base L h₁ (mp [("string", some (.str b tb)), ("fws", some (.str f tf)), ("self", some (.ref vo)), ("ch", none), ("i", none), ("prevpart", none), ("part", none), ("remainder", none)]) := F
  replace N : News base L h₁ (accS a d items n hs tk0 it e t1 t2 ++ [(ll, listOf vs.toArray k)]) := fun p hp => by
    rcases List.mem_append.mp hp with h | h
    · exact N p (.tail _ h)
    · rcases List.mem_singleton.mp h with rfl; exact N _ (.head _)
  show wpAny _ _ _ _ _ _
  k_fold
  (try dsimp only)
  k_steps
  refine Halt.on ?_
  refine cPush F X T N k1 k2 (rest_out N k1 k2 rfl) G ((hA.deeper _).less (by decide) (by decide)) (Nat.lt_trans hi50 (by decide)) fun t htA ht0 h2 tk2 g2 n2 hs2 tk02 it2 e2 t12 t22 G2 F2 N2 k12 k22 => ?_
  have hB2 : ∀ q ∈ ps ++ [(f, b)], q.1.length < 1000 ∧ q.2.length < 1000 := fun q hq => by
    rcases List.mem_append.mp hq with h | h
    · exact hB q h
    · rcases List.mem_singleton.mp h with rfl; exact ⟨hf, hb⟩
  have hPt : Parts base [] [] := .nil
  clear F N
  dsimp only
  k_steps
  refine Halt.on ?_
  refine cLen F2 X T N2 k12 k22 (rest_out N2 k12 k22 rfl) G2 ((hA.deeper _).less (by decide) (by decide)) ((parts_now F2 N2 hP).append (part_one N2 k12 k22 (.head _))) (by rw [List.length_append]; exact Nat.lt_of_le_of_lt (Nat.succ_le_of_lt hn) (by decide)) hB2 fun t3 h3 tk3 g3 n3 hs3 tk03 it3 e3 t13 t23 G3 F3 N3 k13 k23 => ?_
  clear F2 N2 ht0 hO hlt hPt
  dsimp only
  k_steps
  · rename_i hgt
    refine Halt.on ?_
    refine wpAny_For ?h ?hs
    case hs => intro _; rfl
    k_steps
    refine Halt.on (wpAny_pyIter_ascii (by decide +kernel) ?_)
    obtain ⟨I, hI⟩ : ∃ I, I = h3.objs.size := ⟨_, rfl⟩
    have F4 := F3.push ({ cls := .type "str_ascii_iterator", data := .fields #[.str " " ts, .int 0 0] })
    have N4 := N3.push F3 ({ cls := .type "str_ascii_iterator", data := .fields #[.str " " ts, .int 0 0] })
    (try dsimp only at F4 N4)
    have hist : (h3.push { cls := .type "str_ascii_iterator", data := .fields #[.str " " ts, .int 0 0] }).IsStrIter I "str_ascii_iterator" " " ts 0 := ⟨_, hI ▸ Heap.get?_push_size _ rfl, rfl, rfl⟩
    rw [← hI] at N4 ⊢
    have hIb := (N4 _ (.head _)).2
    have hIL : L ≠ I := Ne.symm hIb.1
    have hI0 := hIb.2
    have hNI : ∀ x ∈ hidA a d, x ≠ I := fun x hx q => by
      obtain ⟨p, hp, hq⟩ := List.mem_map.mp (show x ∈ (accS a d (items ++ [.ref t]) n3 hs3 tk03 it3 e3 t13 t23).map Prod.fst from hx)
      have := Heap.lt_size (N3 p (List.mem_append_left _ hp)).1
      rw [hq, q, hI] at this
      exact Nat.lt_irrefl _ this
    have hNI2 : ∀ x ∈ [t, ll], x ≠ I := fun x hx q => by
      have : x ∈ [(t, tupO [.str f tf, .str b tb]), (ll, listOf vs.toArray k)].map Prod.fst := hx
      obtain ⟨p, hp, hq⟩ := List.mem_map.mp this
      have := Heap.lt_size (N3 p (List.mem_append_right _ hp)).1
      rw [hq, q, hI] at this
      exact Nat.lt_irrefl _ this
    replace N4 : News base L _ (accS a d (items ++ [.ref t]) n3 hs3 tk03 it3 e3 t13 t23 ++ [(t, tupO [.str f tf, .str b tb]), (ll, listOf vs.toArray k)]) := fun p hp => N4 p (.tail _ hp)
    refine forW (Walks.strAscii (by exact hh) I " " ts) (fun b hb => List.mem_singleton.mp hb) base (fun b hb => .inl (List.mem_singleton.mp hb))
      (J := ChJ1 s base L vo ll a d f b tf tb ps items vs t k)
      ?hJ ?hup (fun i h st => ⟨_, st.choose_spec.1⟩) ?turn ?done hist ⟨.inl rfl, _, _, _, _, _, _, _, _, _, _, _, rfl, G3, F4, N4, k13, k23⟩
    case hJ => rintro i s' ⟨_, och, h', tk, g, n, hs, tk0, it, e, t1, t2, rfl, _, F, N, _⟩; exact F.keep
    case hup =>
      rintro i s' h2 tk2 ⟨hi, och, h', tk, g, n, hs, tk0, it, e, t1, t2, rfl, hg, F, N, hk1, hk2⟩ hkp
      refine ⟨hi, och, h2, tk2, g, n, hs, tk0, it, e, t1, t2, rfl, hg, Fr.but F hkp hIL hI0, News.but N hkp fun p hp => ?_, hk1, hk2⟩
      rcases List.mem_append.mp hp with h | h
      · exact hNI _ (List.mem_map_of_mem (f := Prod.fst) h)
      · exact hNI2 _ (List.mem_map_of_mem (f := Prod.fst) h)
    case done =>
      rintro s' ⟨hi, och, h', tk, g, n, hs, tk0, it, e, t1, t2, rfl, hg, F, N, hk1, hk2⟩
      have hps : ps = [] := by rcases hi with h | h; exact absurd h (by decide); exact h
      subst hps
      clear F3 N3 F4 N4 hist
      k_steps
      refine Halt.on ?_
      have hi0 : items = [] := List.length_eq_zero_iff.mp hz
      subst hi0
      refine cPop F X T N hk1 hk2 (rest_out N hk1 hk2 rfl) hg ((hA.deeper _).less (by decide) (by decide)) (by decide) fun h5 tk5 g5 n5 hs5 tk05 it5 e5 t15 t25 G5 F5 N5 k15 k25 => ?_
      clear F N hk1 hk2
      dsimp only
      replace N5 : News base L h5 [(a, accO d [] n5), (d, accD hs5 tk05 0 it5 e5), (140, tabObj t15), (147, tabObj t25), (t, tupO [.str f tf, .str b tb]), (ll, listOf vs.toArray k)] := N5
      k_steps
      rename_i h6 F6 N6 _
      replace F6 : Fr base L h6 (mp [("string", some (.str b tb)), ("fws", some (.str f tf)), ("self", some (.ref vo)), ("ch", och), ("i", none), ("prevpart", none), ("part", some (.str b tb)), ("remainder", none)]) := by
        simp only [mp_put] at F6; exact F6
      replace N6 : News base L h6 (accS a d [] n5 hs5 tk05 it5 e5 t15 t25 ++ [(t, tupO [.str f tf, .str b tb]), (ll, listOf vs.toArray k)]) := N6
      refine Halt.on ?_
      refine cPush F6 X T N6 k15 k25 (rest_out N6 k15 k25 rfl) G5 ((hA.deeper _).less (by decide) (by decide)) (by decide) fun t7 htA7 ht07 h7 tk7 g7 n7 hs7 tk07 it7 e7 t17 t27 G7 F7 N7 k17 k27 => ?_
      clear F6 N6
      dsimp only
      k_steps
      have hP' := part_one N7 k17 k27 (.head _)
      refine Halt.on ⟨rfl, ?_⟩
      rw [show chunk wd ([], lines) (f, b) = ([(f, b)], lines) from if_neg fun q => q.2 rfl]
      subst hbase
      exact vf_end G7 F7 N7 k17 k27 (.tail _ (.tail _ (.head _))) hS hP'
    case turn =>
      clear F3 N3 F4 N4 hist
      rintro i v s' o hi ⟨c, u, hc, rfl⟩ ⟨hi0, och, h', tk, g, n, hs, tk0, it, e, t1, t2, rfl, hg, F, N, hk1, hk2⟩ ho hst
      have hi' : i = 0 := by
        have : (Str.ofString " ").cps.size = 1 := by decide +kernel
        omega
      subst hi'
      have h32 : (Str.ofString " ").cps[0]? = some 32 := by decide +kernel
      rw [h32] at hc
      cases hc
      have N5 := news_cons ho hIL hI0 N
      clear hst ho hi N h32
      refine wpAny_pure ?_
      k_steps
      rename_i h5 F5 N5
      simp only [mp_put] at F5
      refine Halt.on ?_
      refine wpAny_For ?_ (by intro _; rfl)
      refine callA ?_
      walk1
      walk1
      walk1
      walk1
      refine methodA ?_
      walk1
      walk1
      walk1
      walk1
      dsimp only
      refine callMeth0 X F5.keep (f := 175) (by k_is) ?_
      have N6 : News base L h5 (accS a d (items ++ [.ref t]) n hs tk0 it e t1 t2 ++ [(t, tupO [.str f tf, .str b tb]), (ll, listOf vs.toArray k), (I, o)]) := fun p hp => N5 p (by
        rcases List.mem_append.mp hp with h | h
        · exact .tail _ (List.mem_append_left _ h)
        · simp only [List.mem_cons, List.not_mem_nil, or_false] at h
          rcases h with rfl | rfl | rfl
          · exact .tail _ (List.mem_append_right _ (.head _))
          · exact .tail _ (List.mem_append_right _ (.tail _ (.head _)))
          · exact .head _)
      have hIA : I ∉ hidA a d := fun hm => hNI _ hm rfl
      have hrest : ∀ {o1 o2 o3 : Obj}, ∀ q ∈ [(t, o1), (ll, o2), (I, o3)], q.1 ∉ hidA a d := by
        intro o1 o2 o3 q hq
        have h1 : ll ∉ hidA a d := alien_out (acc_at N6 hk1 hk2) (N6 _ (List.mem_append_right _ (.tail _ (.head _)))).1 rfl
        simp only [List.mem_cons, List.not_mem_nil, or_false] at hq
        rcases hq with rfl | rfl | rfl
        · exact htA
        · exact h1
        · exact hIA
      clear N5
      replace F5 : Fr base L h5 (mp [("string", some (.str b tb)), ("fws", some (.str f tf)), ("self", some (.ref vo)), ("ch", some (.str " " u)), ("i", none), ("prevpart", none), ("part", none), ("remainder", none)]) := F5
      refine cCount F5 X T N6 hk1 hk2 hrest hg ((hA.deeper _).less (by decide) (by decide)) fun t7 h7 tk7 g7 n7 hs7 tk07 it7 e7 t17 t27 G7 F7 N7 k17 k27 => ?_
      clear F5 N6 hk1 hk2
      dsimp only
      k_steps
      rename_i tk8
      refine Halt.on ?_
      have hlen : ((items ++ [Value.ref t]).length : Int) - 1 = (ps.length : Int) := by rw [List.length_append, hz]; exact Int.add_sub_cancel (ps.length : Int) 1
      rw [hlen]
      refine rng3 (n := ps.length) (by decide) (by decide) (small_down _ (Nat.lt_trans hn (by decide))) (size_down _) fun I2 h9 tk9 hI2 hk9 hit9 hsz9 => ?_
      dsimp only at hI2 hk9 ⊢
      have hI2L : L ≠ I2 := Nat.ne_of_lt (Nat.lt_trans F7.ns.lt hI2)
      have hbI2 : base.get? I2 = none := by
        cases q : base.get? I2 with
        | none => rfl
        | some o => exact absurd (Heap.lt_size (F7.keep _ _ q)) (Nat.not_lt.mpr (Nat.le_of_lt hI2))
      have hNI3 : ∀ p ∈ accS a d (items ++ [.ref t]) n7 hs7 tk07 it7 e7 t17 t27 ++ [(t, tupO [.str f tf, .str b tb]), (ll, listOf vs.toArray k), (I, o)], p.1 ≠ I2 := fun p hp => Nat.ne_of_lt (Nat.lt_trans (Heap.lt_size (N7 p hp).1) hI2)
      have F9 : Fr base L h9 (mp [("string", some (.str b tb)), ("fws", some (.str f tf)), ("self", some (.ref vo)), ("ch", some (.str " " u)), ("i", none), ("prevpart", none), ("part", none), ("remainder", none)]) := ⟨F7.ns.at' fun o e => hk9 _ o e, fun b o e => hk9 b o (F7.keep b o e), F7.above⟩
      have N9 : News base L h9 (accS a d (items ++ [.ref t]) n7 hs7 tk07 it7 e7 t17 t27 ++ [(t, tupO [.str f tf, .str b tb]), (ll, listOf vs.toArray k), (I, o)]) := fun p hp => ⟨hk9 _ _ (N7 p hp).1, (N7 p hp).2⟩
      clear F7 N7 hk9
      refine forW (Walks.range (by exact hh) I2 ps.length (-1) ps.length) (fun b hb => List.mem_singleton.mp hb) base (fun b hb => .inl (List.mem_singleton.mp hb))
        (J := ChJ2 s base L vo ll a d f b tf tb items vs t k g7 u n7 hs7 tk07 it7 e7 t17 t27 I o)
        ?jJ ?jup (fun i h st => ⟨_, st⟩) ?jturn ?jdone hit9 ⟨rfl, _, _, rfl, F9, N9⟩
      case jJ => rintro i s' ⟨_, h', tk, rfl, F, N⟩; exact F.keep
      case jup =>
        rintro i s' h2 tk2 ⟨hi, h', tk, rfl, F, N⟩ hkp
        exact ⟨hi, h2, tk2, rfl, Fr.but F hkp hI2L hbI2, News.but N hkp hNI3⟩
      case jdone =>
        rintro s' ⟨hi, h', tk, rfl, F, N⟩
        have hps : ps = [] := List.length_eq_zero_iff.mp hi
        have N' : News base L h' (accS a d (items ++ [.ref t]) n7 hs7 tk07 it7 e7 t17 t27 ++ [(t, tupO [.str f tf, .str b tb]), (ll, listOf vs.toArray k)]) := fun p hp => N p (by
          rcases List.mem_append.mp hp with h | h
          · exact List.mem_append_left _ h
          · simp only [List.mem_cons, List.not_mem_nil, or_false] at h
            rcases h with rfl | rfl
            · exact List.mem_append_right _ (.head _)
            · exact List.mem_append_right _ (.tail _ (.head _)))
        k_steps
        exact Halt.on ⟨⟨.inr hps, _, _, _, _, _, _, _, _, _, _, _, rfl, G7, F, N', k17, k27⟩, (N _ (List.mem_append_right _ (.tail _ (.tail _ (.head _))))).1⟩
      case jturn =>
        rintro i v s' o2 hi ⟨tv, rfl⟩ ⟨rfl, h', tk, rfl, F, N⟩ ho2 hst2
        rw [show (ps.length : Int) + ((0 : Nat) : Int) * -1 = ps.length by simp]
        have N5 := news_cons ho2 hI2L hbI2 N
        clear ho2 hst2 N N9 F9 hit9 hNI3
        refine wpAny_pure ?_
        have hps : 0 < ps.length := hi
        walk1
        walk1
        refine gen_post ?_
        intro Q0 hQ0
        have hbrk : ∀ (pv : Option Value) (h11 : Heap) (tk11 : Nat), Fr base L h11 (mp [("string", some (.str b tb)), ("fws", some (.str f tf)), ("self", some (.ref vo)), ("ch", some (.str " " u)), ("i", some (.int ps.length tv)), ("prevpart", pv), ("part", none), ("remainder", none)]) → News base L h11 (accS a d (items ++ [.ref t]) n7 hs7 tk07 it7 e7 t17 t27 ++ [(t, tupO [.str f tf, .str b tb]), (ll, listOf vs.toArray k)]) → Q0 .brk { s with heap := h11, toks := tk11, gens := g7 } := by
          intro pv h11 tk11 F11 N11
          refine hQ0 _ _ ?_
          clear hQ0 Q0
          (try dsimp only)
          k_steps
          refine Halt.on ?_
          refine cPopFrom F11 X T N11 k17 k27 (rest_out N11 k17 k27 rfl) G7 ((hA.deeper _).less (by decide) (by decide)) (by rw [List.length_append]; exact Nat.lt_of_le_of_lt (Nat.succ_le_of_lt hi50) (by decide)) (by rw [List.length_append, hz]; exact Nat.le_succ _) fun R c hRA hR0 h12 tk12 g12 n12 hs12 tk012 it12 e12 t112 t212 G12 F12 N12 k112 k212 => ?_
          have hRl : R ≠ ll := fun q => by
            rw [q] at hR0
            exact absurd ((N11 _ (List.mem_append_right _ (.tail _ (.head _)))).1.symm.trans hR0) (by simp)
          have htl : t ≠ ll := fun q => by
            have y1 := (N11 _ (List.mem_append_right _ (.tail _ (.head _)))).1
            have y2 := (N11 _ (List.mem_append_right _ (.head _))).1
            rw [← q] at y1
            exact absurd (y1.symm.trans y2) (by simp [tupO, W.listOf])
          clear F11 N11
          rw [show (items ++ [Value.ref t]).take ps.length = items by rw [← hz]; simp, show (items ++ [Value.ref t]).drop ps.length = [.ref t] by rw [← hz]; simp] at N12
          dsimp only
          replace N12 : News base L h12 [(a, accO d items n12), (d, accD hs12 tk012 0 it12 e12), (140, tabObj t112), (147, tabObj t212), (R, listOf [Value.ref t].toArray c), (t, tupO [.str f tf, .str b tb]), (ll, listOf vs.toArray k)] := N12
          k_steps
          refine Halt.on ?_
          rename_i h13 F13 N13
          (try dsimp only)
          replace F13 : Fr base L h13 (mp [("string", some (.str b tb)), ("fws", some (.str f tf)), ("self", some (.ref vo)), ("ch", some (.str " " u)), ("i", some (.int ps.length tv)), ("prevpart", pv), ("part", none), ("remainder", some (.ref R))]) := by
            simp only [mp_put] at F13; exact F13
          replace N13 : News base L h13 (accS a d items n12 hs12 tk012 it12 e12 t112 t212 ++ [(R, listOf [Value.ref t].toArray c), (t, tupO [.str f tf, .str b tb]), (ll, listOf vs.toArray k)]) := N13
          refine cStr F13 X T N13 k112 k212 (rest_out N13 k112 k212 rfl) G12 ((hA.deeper _).less (by decide) (by decide)) (parts_now F13 N13 hP) (Nat.lt_trans hn (by decide)) hB fun t14 h14 tk14 g14 n14 hs14 tk014 it14 e14 t114 t214 G14 F14 N14 k114 k214 => ?_
          clear F13 N13
          dsimp only
          k_steps
          refine cApp (vs := vs) (c := k) [(R, listOf [Value.ref t].toArray c), (t, tupO [.str f tf, .str b tb])] F14 N14 k114 k214 (.tail _ (.tail _ (.head _))) (fun p hp => ?_) (Nat.lt_trans hv50 (by decide)) fun h15 F15 N15 => ?_
          · simp only [List.mem_cons, List.not_mem_nil, or_false] at hp
            rcases hp with rfl | rfl
            · exact ⟨.head _, hRl⟩
            · exact ⟨.tail _ (.head _), htl⟩
          clear F14 N14
          dsimp only
          k_steps
          refine Halt.on (cReset F15 X T N15 k114 k214 (rest_out N15 k114 k214 rfl) G14 ((hA.deeper _).less (by decide) (by decide)) (Nat.lt_trans hi50 (by decide)) (.tail _ (.head _)) (show 1 < 1000 by decide) fun h16 tk16 g16 n16 hs16 tk016 it16 e16 t116 t216 G16 F16 N16 k116 k216 => ?_)
          clear F15 N15
          dsimp only
          k_steps
          have hP' := part_one N16 k116 k216 (.tail _ (.tail _ (.head _)))
          refine Halt.on ⟨rfl, ?_⟩
          rw [show chunk wd (ps, lines) (f, b) = ([(f, b)], lines ++ [partsStr ps]) from if_pos ⟨hgt, List.ne_nil_of_length_pos hps⟩]
          subst hbase
          exact vf_end G16 F16 N16 k116 k216 (.head _) (StrsAre.append' hS (.cons _ _ .nil)) hP'
        clear hQ0
        k_steps
        refine Halt.on ?_
        rename_i h10 F10 N10
        dsimp only
        replace F10 : Fr base L h10 (mp [("string", some (.str b tb)), ("fws", some (.str f tf)), ("self", some (.ref vo)), ("ch", some (.str " " u)), ("i", some (.int ps.length tv)), ("prevpart", none), ("part", none), ("remainder", none)]) := by
          simp only [mp_put] at F10; exact F10
        have hI10 : W.InstAt h10 a (accO d (items ++ [.ref t]) n7) 178 (some (accD hs7 tk07 0 it7 e7)) := acc_inst N10 (.tail _ (.head _)) (.tail _ (.tail _ (.head _)))
        replace N10 : News base L h10 [(a, accO d (items ++ [.ref t]) n7), (d, accD hs7 tk07 0 it7 e7), (140, tabObj t17), (147, tabObj t27), (t, tupO [.str f tf, .str b tb]), (ll, listOf vs.toArray k)] := fun p hp => N10 p (by
          simp only [List.mem_cons, List.not_mem_nil, or_false] at hp
          rcases hp with rfl | rfl | rfl | rfl | rfl | rfl
          · exact .tail _ (.head _)
          · exact .tail _ (.tail _ (.head _))
          · exact .tail _ (.tail _ (.tail _ (.head _)))
          · exact .tail _ (.tail _ (.tail _ (.tail _ (.head _))))
          · exact .tail _ (.tail _ (.tail _ (.tail _ (.tail _ (.head _)))))
          · exact .tail _ (.tail _ (.tail _ (.tail _ (.tail _ (.tail _ (.head _)))))))
        refine acc_tail (X.keeps F10.keep) hI10 (by k_is) (acc_getInt (v := .ref t) (X.keeps F10.keep) hI10 (by k_is) (by k_is) (by k_is) (Int.natCast_nonneg _) (Int.lt_trans (Int.ofNat_lt.mpr hn) (by decide)) (by simp [hz]) ?_) rfl
        rcases mode with rfl | ⟨rfl, hmode⟩
        · k_steps
          rename Fr base L _ _ => F11
          rename News base L _ _ => N11
          (try simp only [mp_put] at F11)
          exact hbrk _ _ _ F11 N11
        · k_steps
          refine Halt.on ?_
          rename_i h11 F11 N11 _
          dsimp only
          replace F11 : Fr base L h11 (mp [("string", some (.str b tb)), ("fws", some (.str "" tf)), ("self", some (.ref vo)), ("ch", some (.str " " u)), ("i", some (.int ps.length tv)), ("prevpart", none), ("part", none), ("remainder", none)]) := by
            simp only [mp_put] at F11; exact F11
          obtain ⟨q, hq⟩ : ∃ q, ps[ps.length - 1]? = some q := ⟨ps[ps.length - 1], by simp⟩
          obtain ⟨tq, ta, tb', hit, hto⟩ := hP.get _ _ hq
          have hq32 := hmode q (List.mem_of_getElem? hq)
          have hI11 : W.InstAt h11 a (accO d (items ++ [.ref t]) n7) 178 (some (accD hs7 tk07 0 it7 e7)) := acc_inst N11 (.head _) (.tail _ (.head _))
          refine acc_tail (X.keeps F11.keep) hI11 (by k_is) (acc_getInt (v := .ref tq) (X.keeps F11.keep) hI11 (by k_is) (by k_is) (by k_is) (by omega) (Int.lt_trans (Int.sub_lt_self _ (by decide)) (Int.lt_trans (Int.ofNat_lt.mpr hn) (by decide))) (by rw [show ((ps.length : Int) - 1).toNat = ps.length - 1 from Int.toNat_sub ps.length 1, List.getElem?_append_left (by omega)]; exact hit) ?_) rfl
          walk1
          refine item_tupleT (l := [.str q.1 ta, .str q.2 tb']) ⟨_, F11.keep _ _ hto, rfl, _, rfl⟩ (by decide) (by decide) (j := 1) rfl rfl ?_
          clear hI10
          k_steps
          rename_i h11 F11 N11
          refine P.truthy_str (by have := hB q (List.mem_of_getElem? hq); omega) ?_
          rw [show ((q.2.length : Int) != 0) = true by have := back_pos hq32; simp; omega]
          dsimp only
          simp only [if_true]
          k_steps
          refine Halt.on ?_
          have hql := back_pos hq32
          refine item_str (by decide) (by omega) (by omega) (fun _ => ?_) rfl (fun _ => rfl)
          rw [item_last hq32]
          dsimp only
          clear hI11
          k_steps
          rename Fr base L _ _ => F11
          rename News base L _ _ => N11
          (try simp only [mp_put] at F11)
          exact hbrk _ _ _ F11 N11
  · rename_i hle
    have hP' := (parts_now F3 N3 hP).append (part_one N3 k13 k23 (.head _))
    refine Halt.on ⟨rfl, ?_⟩
    rw [show chunk wd (ps, lines) (f, b) = (ps ++ [(f, b)], lines) from if_neg fun q => hle q.1]
    subst hbase
    exact vf_end G3 F3 N3 k13 k23 (.tail _ (.head _)) hS hP'
end
end
-- V2
section
theorem anew_V2 : True := by
  w_top off
  exact True.intro
theorem star_base {prog : Program} {w : World} {A : Around} {E : Value → Shared → Prop} {s : Shared} {h₀ : Heap} {L t : Addr} {m : Str → Option Value} {news : List (Addr × Obj)} {vs : List Value} {Q : List Value → Shared → Prop} (F : Fr h₀ L s.heap m) (N : News h₀ L s.heap news) (ht : h₀.get? t = some (tupO vs)) (hz : vs.length ≤ 1000)
    (h : ∀ h', Fr h₀ L h' m → News h₀ L h' news → Q vs { s with heap := h' }) : StarOf (model prog w) A E (.ref t) Q s := by
  have hline := sizeLine_eq
  have htL : t ≠ L := Nat.ne_of_lt (Nat.lt_of_lt_of_le (Heap.lt_size ht) F.above)
  have F' : Fr (hideAll h₀ [t]) L s.heap m := ⟨F.ns, fun b o e => F.keep b o (of_hideAll _ e), by rw [hideAll_size]; exact F.above⟩
  have N' : News (hideAll h₀ [t]) L s.heap ((t, tupO vs) :: news) := List.forall_mem_cons.mpr ⟨⟨F.keep _ _ ht, htL, hideAll_none _ (by simp)⟩, fun p hp => ⟨(N p hp).1, (N p hp).2.1, by
    cases q : (hideAll h₀ [t]).get? p.1 with
    | none => rfl
    | some o => exact absurd (of_hideAll _ q) (by rw [(N p hp).2.2]; simp)⟩⟩
  refine star_seq (T := "tuple") (ws := vs) F' N' (.head _) rfl rfl (.inr rfl) (by simp) (by rw [List.size_toArray]; omega) fun h' F2 N2 => h h' ⟨F2.ns, fun b o e => ?_, F.above⟩ fun p hp => ⟨(N2 p (.tail _ hp)).1, (N p hp).2⟩
  by_cases hb : b = t
  · subst hb
    rw [ht] at e; cases e
    exact (N2 _ (.head _)).1
  · exact F2.keep b o (hideAll_get _ e (by simpa using hb))
section
variable {prog : Program} {w : World} {A : Around} {E : Value → Shared → Prop} {s : Shared} {K : Frag} {a d f L : Addr} {ox od : Obj} {h₀ : Heap} {m : Str → Option Value} {news : List (Addr × Obj)} {name : Str}
theorem acc_bound {expr : Bool} {Q : Value → Shared → Prop} (Fm : Fr h₀ L s.heap m) (X₀ : K.In h₀) (N : News h₀ L s.heap news) (I : W.InstAt s.heap a ox 178 (some od)) (hga : findIn K (.ref 178) "__getattribute__" = some (some (.builtin "list.__getattribute__"))) (hk : findIn K (.ref 178) "__getattr__" = some none) (hm : mroIn K 178 (.type "list") = some true)
    (hh : hasDictIn K 178 = true) (ha : findIn K (.ref 178) name = some (some (.ref f))) (hf : isFn K (.ref f) = true) (hgf : specialIn K (.ref f) "__get__" = some (some (.builtin "function.__get__"))) (ht : takesIn K (.ref f) = some false) (hc : copiedNames.contains name = false) (hl : lookIn name od = some none)
    (h : ∀ q h', Fr h₀ L h' m → News h₀ L h' ((q, methodObj (.ref f) (.ref a)) :: news) → Q (.ref q) { s with heap := h', toks := s.toks + 1 }) : wpAny (model prog w) A (getAttr (.ref a) name expr) Q E s := by
  have X := X₀.keeps Fm.keep
  have hfo := findObj_fn (name := name) hh ha hgf ht hc hl
  have hq : Q (.ref s.heap.objs.size) { s with heap := s.heap.push (methodObj (.ref f) (.ref a)), toks := s.toks + 1 } := h s.heap.objs.size _ (Fm.push _) (N.push Fm _)
  obtain ⟨hp, g, dd, t, os⟩ := s
  have L0 := I.type (M := model prog w)
  have L1 := looks_findIn (M := model prog w) X hga
  have L2 := looks_findIn (M := model prog w) X hk
  have L3 := looks_find (M := model prog w) X I hfo
  unfold getAttr getAttrBy
  refine wpAny_bind (wpAny_mkText (wpAny_holding (wpAny_bind (L0.at (wpAny_bind (L1.at ?_))))))
  show wpAny _ _ (getAttrByItsOwn _ _ _ _ _ _) _ _ _
  unfold getAttrByItsOwn hookBefore
  refine wpAny_bind (L2.at ?_)
  have hcall : callGetattribute (.ref a) (.str name t) (.builtin "list.__getattribute__") expr = boundAndCalled (.builtin "list.__getattribute__") (.ref a) (.str name t) := by
    unfold callGetattribute
    rw [if_neg (by cases expr <;> exact Bool.false_ne_true)]
  rw [hcall]
  unfold boundAndCalled
  refine wpAny_bind (wpAny_attempt (wpAny_holding ?_))
  rw [F.slot_list_getattribute.bind]
  refine wpAny_bind (wpAny_pure ?_)
  refine call_sub (owner := "list") (n := "__getattribute__") (by decide +kernel) (.inl (by decide +kernel)) (by decide +kernel) entry_list_ga (F.args_list_getattribute_2 _ _) X I hm ?_
  unfold Builtin.«object.__getattribute__»
  refine wpAny_bind (wpAny_pure ?_)
  refine wpAny_bind (wpAny_pure ?_)
  refine wpAny_bind (L0.at ?_)
  refine wpAny_bind (L3.at ?_)
  try refine wpAny_bind (L2.at ?_)
  show wpAny _ _ (holding [.ref f] (call (.builtin "function.__get__") [.ref f, .ref a, .ref 178]) >>= ret) _ _ _
  refine wpAny_bind (wpAny_holding (wpAny_call (fn_get X (beq_iff_eq.mp hf) ?_)))
  refine wpAny_pure ⟨_, rfl, ?_⟩
  refine handed_on rfl ?_
  exact hq
end
theorem callWith_SM {M : Model} {A : Around} {E : Value → Shared → Prop} {s : Shared} {K : Frag} {env : Env} {pos p : PySem.Pos} {q g : Addr} {self : Value} {Q : Value → Shared → Prop} {e : PySem.Expr} (hf : fnIn K g = true)
    (h : wpAny M A (eval e env) (fun v s₁ => StarOf M A E v (fun vs s₂ => MethP K q g self s₂.heap ∧ wpAny M A (call (.ref q) vs) Q E s₂) s₁) E s)
    (he : starEach [.Starred e p] env = [(true, eval e env)] := by rfl) :
    wpAny M A (callWith pos (.ref q) [] (backTo pos (starEach [.Starred e p] env)) []) Q E s := by
  rw [he]
  exact ks_call rfl (keeps_M hf) (ks_lone h)
theorem methodS {M : Model} {A : Around} {E : Value → Shared → Prop} {s : Shared} {env : Env} {o : PySem.Expr} {name : Str} {apos pos : PySem.Pos} {args : List PySem.Expr} {Q : Value → Shared → Prop}
    (h : wpAny M A (eval o env) (fun ov s₁ => wpAny M A (getAttr ov name true) (fun f s₂ => wpAny M A (callWith pos f [] (backTo pos (starEach args env)) []) Q E s₂) E s₁) E s)
    (he : eval (.Call (.Attribute o name apos) args [] pos) env = (do
      let ov ← eval o env
      standAt apos.atName
      let (f, first) ← holding [ov] (do pure (← getAttr ov name true, []))
      callWith pos f first (backTo pos (starEach args env)) []) := by rfl) :
    wpAny M A (eval (.Call (.Attribute o name apos) args [] pos) env) Q E s := by
  rw [he]
  exact wpAny_bind (wpAny_mono h (fun ov s₁ h₁ => wpAny_bind (wpAny_standAt (wpAny_bind (wpAny_holding (wpAny_bind (wpAny_mono h₁ (fun fx s₂ h₂ => wpAny_pure h₂) fun _ _ x => x)))))) fun _ _ x => x)
section
local macro_rules | `(tactic| size_fits) => `(tactic| (rw [List.size_toArray]; have := sizeLine_eq; omega))
local macro_rules | `(tactic| walk_at $s) => if among "call ref|call builtin:len|call type:str|compareOp NotEq ref ref|StarOf ref" s then `(tactic| refine Halt.go ?_) else Lean.Macro.throwUnsupported
local macro_rules | `(tactic| walk_at "getAttr ref") => `(tactic| k_dflt (refine vo_get (by k_asm) (by k_asm) (by with_reducible assumption) (by with_reducible assumption) (by k_is) (by k_is) (by k_is) (by k_is) (by k_handed) ?_; k_whole))
theorem newline_spec {w : World} {mean : ExcName → Option Value} {mg mb : Str → Option Value} {p : Program} {loose : List Str} {A : Around} {s : Shared} {E : Value → Shared → Prop} {vo dv ll a d : Addr} {od : Obj} {items vs : List Value} {k : Nat} {ps : List (Str × Str)} {q : Str × Str} {lines : List Str}
  (X : Frag.In (hd.heap_1 w.params) (hideAll s.heap (hidL ll a d))) (T : Top p loose mean mg mb (hideAll s.heap (hidL ll a d))) (hA : Ok A 40 400) (G : AllBare s.gens) (I0 : W.InstAt (hideAll s.heap (hidL ll a d)) vo (instObj 94 dv) 94 (some od))
  (q3 : lookIn "_lines" od = some (some (.ref ll))) (q4 : lookIn "_current_line" od = some (some (.ref a)))
  (hO : AccAt a d items s.heap) (hl : s.heap.get? ll = some (listOf vs.toArray k)) (hS : StrsAre vs lines) (hP : Parts (hideAll s.heap (hidL ll a d)) items (ps ++ [q])) (hn : ps.length < 50) (hn2 : lines.length < 50) (hB : ∀ p ∈ ps ++ [q], p.1.length < 1000 ∧ p.2.length < 1000)
  (hq : q.2.length ≠ 0) (hok : PyData.strOk q.1 = true ∧ PyData.strOk q.2 = true) (hpos : 0 < partsLen (ps ++ [q])) (hsp : Txt.isspace (partsStr (ps ++ [q])) = false) :
  wpAny (model _root_.PySem.Challenge.rw_pe0169_01.row.prog w) A (call (.ref 56) [.ref vo]) (fun v s' => Halt (v = .none ∧ KB (hidL ll a d) s s' ∧ VFAt ll a d [] (lines ++ [partsStr (ps ++ [q])]) s'.heap)) E s := by
  have hh := hA.h
  have hz : items.length = (ps ++ [q]).length := hP.length
  have hvl : vs.length = lines.length := hS.length
  obtain ⟨n, hs, tk0, it, e, t1, t2, hO, k1, k2⟩ := hO
  revert X
  k_fill
  intro X
  refine wpAny_call ?_
  k_dflt (refine' enterH [("self", .ref vo)] ["end_of_line"] ((ll, listOf vs.toArray k) :: accS a d items n hs tk0 it e t1 t2) ?k1 ?k2 ?k3 ?k4 ?k5 ?k6 ?k7 ?ko ?_ ?c1 ?c2 ?c3 ?c4; (case ko => exact List.forall_mem_cons.mpr ⟨hl, hO⟩); (case k1 => assumption); (case k2 => exact Heap.NoLimit.keeps (Top.nolimit (by assumption)) (fun b o e => of_hideAll _ e)); (case k3 => k_is); (case k4 => k_is); (case k5 => exact Nat.lt_of_le_of_lt (Nat.le_add_right _ _) (Ok.d (by assumption))); (case k6 => exact BindsTo.of_eq rfl); (case k7 => exact locs rfl); (case c1 => decide); (case c2 => exact rfl); (case c3 => exact rfl); (case c4 => exact rfl); k_whole)
  intro L h₁ F N hlt
  obtain ⟨base, hbase⟩ : ∃ base, base = hideAll s.heap (hidL ll a d) := ⟨_, rfl⟩
  rw [show (List.map (fun x => x.1) ((ll, listOf vs.toArray k) :: accS a d items n hs tk0 it e t1 t2)) = hidL ll a d from rfl, ← hbase] at F N
  rw [← hbase] at X T I0 hP
  obtain ⟨its0, tq, ta, tb, rfl, hP0, hto⟩ := hP.snoc
  replace F : Fr base L h₁ (mp [("self", some (.ref vo)), ("end_of_line", none)]) := F
  replace N : News base L h₁ (accS a d (its0 ++ [.ref tq]) n hs tk0 it e t1 t2 ++ [(ll, listOf vs.toArray k)]) := fun p hp => by
    rcases List.mem_append.mp hp with h | h
    · exact N p (.tail _ h)
    · rcases List.mem_singleton.mp h with rfl; exact N _ (.head _)
  have hz0 : its0.length = ps.length := hP0.length
  clear hO hlt
  show wpAny _ _ _ _ _ _
  k_fold
  (try dsimp only)
  k_steps
  refine Halt.on ?_
  refine cPop F X T N k1 k2 (rest_out N k1 k2 rfl) G ((hA.deeper _).less (by decide) (by decide)) (by omega) fun h2 tk2 g2 n2 hs2 tk02 it2 e2 t12 t22 G2 F2 N2 k12 k22 => ?_
  clear F N
  dsimp only
  replace N2 : News base L h2 [(a, accO d its0 n2), (d, accD hs2 tk02 0 it2 e2), (140, tabObj t12), (147, tabObj t22), (ll, listOf vs.toArray k)] := N2
  k_steps
  rename_i h3 _ D h4 F4 N4 hD
  refine Halt.on ?_
  refine ne_dataH (da := .tuple [.str q.1, .str q.2]) (db := .tuple [.str " ", .str ""]) (reads_tuple_at (F4.keep _ _ hto) rfl rfl (ReadsAll.cons (Reads.str _ _) (ReadsAll.cons (Reads.str _ _) .nil))) (reads_tuple_at (N4 _ (.head _)).1 rfl rfl (ReadsAll.cons (Reads.str _ _) (ReadsAll.cons (Reads.str _ _) .nil))) (by simpa [SeqAt.shaped, PyData.canLay0, PyData.canLayAll0, PyData.depth, PyData.depthAll] using hok) (by simp [SeqAt.shaped, PyData.canLay0, PyData.canLayAll0, PyData.depth, PyData.depthAll]; decide +kernel) (by have := hA.u; have := cLine_is; show A.units + 3 + 64 < cLine; omega) ?_
  have hqe : (q.2 == ("" : Str)) = false := by
    rw [beq_eq_false_iff_ne]
    intro e
    rw [e] at hq
    exact hq (by decide +kernel)
  rw [show PyData.eqv (.tuple [.str q.1, .str q.2]) (.tuple [.str " ", .str ""]) = false by simp only [PyData.eqv, PyData.eqvAll, hqe, Bool.false_and, Bool.and_false]]
  simp only [Bool.not_false]
  (try dsimp only)
  replace F4 : Fr base L h4 (mp [("self", some (.ref vo)), ("end_of_line", some (.ref tq))]) := by
    simp only [mp_put] at F4; exact F4
  replace N4 : News base L h4 [(a, accO d its0 n2), (d, accD hs2 tk02 0 it2 e2), (140, tabObj t12), (147, tabObj t22), (ll, listOf vs.toArray k)] := fun p hp => N4 p (.tail _ hp)
  k_steps
  refine methodS ?_
  walk1
  walk1
  walk1
  refine acc_bound (K := hd.heap_1 w.params) F4 X N4 (acc_inst N4 (.head _) (.tail _ (.head _))) (by k_is) (by k_is) (by k_is) (by k_is) (by k_is) (by k_is) (by k_is) (by k_is) (by decide +kernel) rfl fun bm h5 F5 N5 => ?_
  dsimp only
  refine callWith_SM (K := hd.heap_1 w.params) (self := .ref a) (g := 122) (by k_is) ?_
  clear F4 N4
  walk1
  refine star_base F5 N5 hto (by simp) fun h6 F6 N6 => ⟨methP N6 (.head _) (X.keeps F6.keep), call_meth N6 (.head _) ?_⟩
  clear F5 N5
  replace N6 : News base L h6 (accS a d its0 n2 hs2 tk02 it2 e2 t12 t22 ++ [(ll, listOf vs.toArray k)]) := fun p hp => N6 p (.tail _ hp)
  refine cPushC F6 X T N6 k12 k22 (rest_out N6 k12 k22 rfl) G2 ((hA.deeper _).less (by decide) (by decide)) (by omega) fun t htA ht0 h7 tk7 g7 n7 hs7 tk07 it7 e7 t17 t27 G7 F7 N7 k17 k27 => ?_
  clear F6 N6 hP hto
  dsimp only
  show wpAny _ _ _ _ _ _
  k_steps
  refine Halt.on ?_
  have hP7 := (parts_now F7 N7 hP0).append (part_one N7 k17 k27 (.head _))
  refine cLen F7 X T N7 k17 k27 (rest_out N7 k17 k27 rfl) G7 ((hA.deeper _).less (by decide) (by decide)) hP7 (by simp; omega) hB fun t3 h8 tk8 g8 n8 hs8 tk08 it8 e8 t18 t28 G8 F8 N8 k18 k28 => ?_
  clear F7 N7 hP7
  dsimp only
  k_steps
  refine Halt.on ?_
  dsimp only [List.append_nil]
  have okL : ∀ {D U : Nat}, D ≤ 20 → U ≤ 200 → Ok (A.deeper (envX "_ValueFormatter.newline" { kind := ScopeKind.function, names := [("self", NameKind.local), ("end_of_line", NameKind.local), ("len", NameKind.globalImplicit), ("str", NameKind.globalImplicit)], isGenerator := false, isCoroutine := false } L 56 (.ref 55) [])) D U := fun {D U} h1 h2 => (hA.deeper _).less (Nat.le_trans h1 (by decide)) (Nat.le_trans h2 (by decide))
  refine cWs F8 X T N8 k18 k28 (rest_out N8 k18 k28 rfl) G8 (okL (by decide) (by decide)) ((parts_now F8 N8 hP0).append (part_one N8 k18 k28 (.head _))) (by simp; omega) hB hpos hsp fun h9 tk9 g9 n9 hs9 tk09 it9 e9 t19 t29 G9 F9 N9 k19 k29 => ?_
  clear F8 N8
  dsimp only
  k_steps
  refine Halt.on ?_
  refine cStr F9 X T N9 k19 k29 (rest_out N9 k19 k29 rfl) G9 (okL (by decide) (by decide)) ((parts_now F9 N9 hP0).append (part_one N9 k19 k29 (.head _))) (by simp; omega) hB fun t14 h14 tk14 g14 n14 hs14 tk014 it14 e14 t114 t214 G14 F14 N14 k114 k214 => ?_
  clear F9 N9
  dsimp only
  k_steps
  refine cApp (vs := vs) (c := k) [] F14 N14 k114 k214 (.tail _ (.head _)) (fun p hp => by cases hp) (by omega) fun h15 F15 N15 => ?_
  clear F14 N14
  dsimp only
  k_steps
  refine Halt.on (cReset0 F15 X T N15 k114 k214 (rest_out N15 k114 k214 rfl) G14 (okL (by decide) (by decide)) (by simp; omega) fun h16 tk16 g16 n16 hs16 tk016 it16 e16 t116 t216 G16 F16 N16 k116 k216 => ?_)
  clear F15 N15
  dsimp only
  k_steps
  refine Halt.on ⟨rfl, ?_⟩
  subst hbase
  exact vf_end G16 F16 N16 k116 k216 (.head _) (StrsAre.append' hS (.cons _ _ .nil)) .nil
end
end
-- V3
section
theorem anew_V3 : True := by
  w_top off
  exact True.intro
theorem kb_back {base h h' : Heap} {L ll a d : Addr} {m : Str → Option Value} {rest : List (Addr × Obj)} {items : List Value} {n : Nat} {hs : Int} {tk it : Tok} {e : Nat} {t1 t2 : Array Value} {l0 : Obj} (F : Fr base L h m) (N : News base L h (accS a d items n hs tk it e t1 t2 ++ (ll, l0) :: rest)) (kb : ∀ b o, b ∉ hidL ll a d → h.get? b = some o → h'.get? b = some o) : Fr base L h' m := by
  have inA : ∀ b ∈ hidL ll a d, b ≠ L ∧ base.get? b = none := fun b hb => by
    rcases List.mem_cons.mp hb with rfl | hb
    · exact (N _ (List.mem_append_right _ (.head _))).2
    · obtain ⟨p, hp, rfl⟩ := List.mem_map.mp (show b ∈ (accS a d items n hs tk it e t1 t2).map Prod.fst from hb)
      exact (N p (List.mem_append_left _ hp)).2
  exact ⟨F.ns.at' fun o e => kb _ _ (fun q => (inA _ q).1 rfl) e, fun b o e => kb b o (fun q => by rw [(inA _ q).2] at e; cases e) (F.keep b o e), F.above⟩
/-- what a callee that writes a maker stands upon -/
theorem vf_in {base h : Heap} {L ll a d : Addr} {m : Str → Option Value} {rest : List (Addr × Obj)} {items : List Value} {n : Nat} {hs : Int} {tk it : Tok} {e : Nat} {t1 t2 : Array Value} {l0 : Obj} (F : Fr base L h m) (N : News base L h (accS a d items n hs tk it e t1 t2 ++ (ll, l0) :: rest)) : ∀ b o, base.get? b = some o → (hideAll h (hidL ll a d)).get? b = some o :=
  Fr.hide F N fun x hx => by
    rw [List.map_append]
    rcases List.mem_cons.mp hx with rfl | hx
    · exact List.mem_append_right _ (.head _)
    · exact List.mem_append_left _ hx
section
local macro_rules | `(tactic| walk_at "call ref") => `(tactic| refine Halt.go ?_)
local macro_rules | `(tactic| walk_at "getMethod ref") => `(tactic| k_dflt (refine method_fn (Frag.In.keeps (by k_asm) (Fr.keep (by k_asm))) (inst_keep (by with_reducible assumption) (Fr.keep (by k_asm))) (by k_is) (by k_is) (by k_is) (by k_is) (by with_reducible assumption) ?_; k_whole))
local macro_rules | `(tactic| walk_at "getAttr ref") => `(tactic| k_dflt (refine vo_get (by k_asm) (by k_asm) (by with_reducible assumption) (by with_reducible assumption) (by k_is) (by k_is) (by k_is) (by k_is) (by k_handed) ?_; k_whole))
theorem vstr_spec {w : World} {mean : ExcName → Option Value} {mg mb : Str → Option Value} {p : Program} {loose : List Str} {A : Around} {s : Shared} {E : Value → Shared → Prop} {vo dv ll a d : Addr} {od : Obj} {items vs : List Value} {k : Nat} {ps : List (Str × Str)} {q : Str × Str} {lines : List Str} {sep : Str} {ts : Tok}
  (X : Frag.In (hd.heap_1 w.params) (hideAll s.heap (hidL ll a d))) (T : Top p loose mean mg mb (hideAll s.heap (hidL ll a d))) (hA : Ok A 50 500) (G : AllBare s.gens) (I0 : W.InstAt (hideAll s.heap (hidL ll a d)) vo (instObj 94 dv) 94 (some od))
  (q3 : lookIn "_lines" od = some (some (.ref ll))) (q4 : lookIn "_current_line" od = some (some (.ref a))) (q5 : shadowIn (some od) "newline" = some false)
  (hO : AccAt a d items s.heap) (hl : s.heap.get? ll = some (listOf vs.toArray k)) (hS : StrsAre vs lines) (hP : Parts (hideAll s.heap (hidL ll a d)) items (ps ++ [q])) (hn : ps.length < 50) (hn2 : lines.length < 50) (hB : ∀ p ∈ ps ++ [q], p.1.length < 1000 ∧ p.2.length < 1000)
  (hq : q.2.length ≠ 0) (hok : PyData.strOk q.1 = true ∧ PyData.strOk q.2 = true) (hpos : 0 < partsLen (ps ++ [q])) (hsp : Txt.isspace (partsStr (ps ++ [q])) = false)
  (hsum : ((lines ++ [partsStr (ps ++ [q])]).map (·.length)).sum ≤ 100000) (hsep : sep.length ≤ 10) :
  wpAny (model _root_.PySem.Challenge.rw_pe0169_01.row.prog w) A (call (.ref 42) [.ref vo, .str sep ts]) (fun v s' => Halt ((∃ t, v = .str (Txt.join sep (lines ++ [partsStr (ps ++ [q])])) t) ∧ KB (hidL ll a d) s s' ∧ VFAt ll a d [] (lines ++ [partsStr (ps ++ [q])]) s'.heap)) E s := by
  have hh := hA.h
  obtain ⟨n, hs, tk0, it, e, t1, t2, hO, k1, k2⟩ := hO
  revert X
  k_fill
  intro X
  refine wpAny_call ?_
  k_dflt (refine' enterH [("self", .ref vo), ("linesep", .str sep ts)] [] ((ll, listOf vs.toArray k) :: accS a d items n hs tk0 it e t1 t2) ?k1 ?k2 ?k3 ?k4 ?k5 ?k6 ?k7 ?ko ?_ ?c1 ?c2 ?c3 ?c4; (case ko => exact List.forall_mem_cons.mpr ⟨hl, hO⟩); (case k1 => assumption); (case k2 => exact Heap.NoLimit.keeps (Top.nolimit (by assumption)) (fun b o e => of_hideAll _ e)); (case k3 => k_is); (case k4 => k_is); (case k5 => exact Nat.lt_of_le_of_lt (Nat.le_add_right _ _) (Ok.d (by assumption))); (case k6 => exact BindsTo.of_eq rfl); (case k7 => exact locs rfl); (case c1 => decide); (case c2 => exact rfl); (case c3 => exact rfl); (case c4 => exact rfl); k_whole)
  intro L h₁ F N hlt
  obtain ⟨base, hbase⟩ : ∃ base, base = hideAll s.heap (hidL ll a d) := ⟨_, rfl⟩
  rw [show (List.map (fun x => x.1) ((ll, listOf vs.toArray k) :: accS a d items n hs tk0 it e t1 t2)) = hidL ll a d from rfl, ← hbase] at F N
  rw [← hbase] at X T I0 hP
  replace F : Fr base L h₁ (mp [("linesep", some (.str sep ts)), ("self", some (.ref vo))]) := F
  replace N : News base L h₁ (accS a d items n hs tk0 it e t1 t2 ++ [(ll, listOf vs.toArray k)]) := fun p hp => by
    rcases List.mem_append.mp hp with h | h
    · exact N p (.tail _ h)
    · rcases List.mem_singleton.mp h with rfl; exact N _ (.head _)
  clear hO hlt
  show wpAny _ _ _ _ _ _
  k_fold
  (try dsimp only)
  k_steps
  refine Halt.on ?_
  have hin := vf_in F N
  refine wpAny_mono (newline_spec (ll := ll) (a := a) (d := d) (fun b o e => hin b o (X b o e)) (T.keeps hin) ((hA.deeper _).less (by decide) (by decide)) G (inst_keep I0 hin) q3 q4 (acc_at N k1 k2) (N _ (List.mem_append_right _ (.head _))).1 hS (hP.keep hin) hn hn2 hB hq hok hpos hsp) (fun r s' hr => ?_) fun _ _ x => x
  obtain ⟨rfl, ⟨h', tk', g', rfl, hk, hg⟩, items', vs', k', hO', hl', hS', hP'⟩ := hr.go
  have F' := kb_back F N hk
  dsimp only at F' hO' hl' hP' ⊢
  clear F N hr
  k_steps
  have hl2 : h'.IsList ll vs'.toArray := ⟨_, hl', rfl, _, rfl⟩
  have hlen := hS'.length
  refine join_list hl2 (ys := lines ++ [partsStr (ps ++ [q])]) (by simpa using hS') ?_ ?_
  · have : (lines ++ [partsStr (ps ++ [q])]).length ≤ 50 := by simp; omega
    have h2 : (lines ++ [partsStr (ps ++ [q])]).length * sep.length ≤ 50 * 10 := Nat.mul_le_mul this hsep
    omega
  · intro t6 k6
    refine Halt.on ⟨⟨t6, rfl⟩, ⟨h', k6, g', rfl, fun b o hb e => ?_, fun _ => hg G⟩, items', vs', k', hO', hl', hS', hP'⟩
    subst hbase
    exact F'.keep b o (hideAll_get (hidL ll a d) e hb)
end
end
-- V4
section
theorem anew_V4 : True := by
  w_top off
  exact True.intro
inductive TabAt (h : Heap) : Prop
  | mk (t1 t2 : Array Value) : h.get? 140 = some (tabObj t1) → h.get? 147 = some (tabObj t2) → TabOk 93 19 t1 → TabOk 96 32 t2 → TabAt h
theorem acc_back0 {base h h' : Heap} {L a d : Addr} {m : Str → Option Value} {items' : List Value} {oa od o1 o2 : Obj} {rest : List (Addr × Obj)}
    (F : Fr base L h m) (N : News base L h ((a, oa) :: (d, od) :: (140, o1) :: (147, o2) :: rest)) (hr : ∀ p ∈ rest, p.1 ∉ hidA a d) (kb : ∀ b o, b ∉ hidA a d → h.get? b = some o → h'.get? b = some o) (x : AccAt a d items' h') :
    Fr base L h' m ∧ AccBk base L a d items' rest h' := by
  have inA : ∀ b ∈ hidA a d, b ≠ L ∧ base.get? b = none := fun b hb => by
    simp only [List.mem_cons, List.not_mem_nil, or_false] at hb
    rcases hb with rfl | rfl | rfl | rfl
    · exact (N _ (.head _)).2
    · exact (N _ (.tail _ (.head _))).2
    · exact (N _ (.tail _ (.tail _ (.head _)))).2
    · exact (N _ (.tail _ (.tail _ (.tail _ (.head _))))).2
  obtain ⟨n', hs', tk', it', e', t1', t2', hx, k1, k2⟩ := x
  refine ⟨⟨F.ns.at' fun o e => kb _ _ (fun q => (inA _ q).1 rfl) e, fun b o e => kb b o (fun q => by rw [(inA _ q).2] at e; cases e) (F.keep b o e), F.above⟩, n', hs', tk', it', e', t1', t2', fun p hp => ?_, k1, k2⟩
  rcases List.mem_append.mp hp with hp | hp
  · exact ⟨hx p hp, inA p.1 (List.mem_map_of_mem (f := Prod.fst) hp)⟩
  · have z := N p (.tail _ (.tail _ (.tail _ (.tail _ hp))))
    exact ⟨kb _ _ (hr p hp) z.1, z.2⟩
theorem news5 {base h : Heap} {L a d ll x dx : Addr} {o1 o2 o3 o4 o5 o6 o7 : Obj} (N : News base L h [(a, o1), (d, o2), (ll, o3), (x, o4), (dx, o5), (140, o6), (147, o7)]) : News base L h ((a, o1) :: (d, o2) :: (140, o6) :: (147, o7) :: [(ll, o3), (x, o4), (dx, o5)]) := fun p hp => N p (by
  simp only [List.mem_cons, List.not_mem_nil, or_false] at hp ⊢
  rcases hp with h | h | h | h | h | h | h <;> simp [h])
theorem flat3 {base h : Heap} {L a d : Addr} {items : List Value} {n : Nat} {hs : Int} {tk it : Tok} {e : Nat} {t1 t2 : Array Value} {p1 p2 p3 : Addr × Obj} (N : News base L h (accS a d items n hs tk it e t1 t2 ++ [p1, p2, p3])) : News base L h [(a, accO d items n), (d, accD hs tk 0 it e), (140, tabObj t1), (147, tabObj t2), p1, p2, p3] := N
/-- a maker as it was made -/
inductive VFMade (x dx : Addr) (wd : Int) (h0 h : Heap) : Prop
  | mk (ll a d : Addr) (od : Obj) (tw ts : Tok) (k : Nat) : h.get? x = some (instObj 94 dx) → h.get? dx = some od → AccAt a d [] h → h.get? ll = some (listOf #[] k) →
  lookIn "_maxlen" od = some (some (.int wd tw)) → lookIn "_splitchars" od = some (some (.str " " ts)) → lookIn "_lines" od = some (some (.ref ll)) → lookIn "_current_line" od = some (some (.ref a)) →
  shadowIn (some od) "newline" = some false → shadowIn (some od) "_append_chunk" = some false → shadowIn (some od) "_str" = some false → (∀ b ∈ [ll, a, d], h0.get? b = none) → VFMade x dx wd h0 h
section
local macro_rules | `(tactic| walk_at "call ref") => `(tactic| ((with_reducible show wpAny _ _ (call (Value.ref 178) _) _ _ _); refine Halt.go ?_))
theorem vfInit_spec {w : World} {mean : ExcName → Option Value} {mg mb : Str → Option Value} {p : Program} {loose : List Str} {A : Around} {s : Shared} {R : Result → Shared → Prop} {x dx : Addr} {t1 t2 : Array Value} {wd : Int} {ta tw tb tc : Tok}
  (X : Frag.In (hd.heap_1 w.params) (hideAll s.heap [x, dx, 140, 147])) (T : Top p loose mean mg mb (hideAll s.heap [x, dx, 140, 147])) (hA : Ok A 40 400) (G : AllBare s.gens)
  (ho : ∀ p ∈ [(x, instObj 94 dx), (dx, dictOf [] 0), (140, tabObj t1), (147, tabObj t2)], s.heap.get? p.1 = some p.2) (k1 : TabOk 93 19 t1) (k2 : TabOk 96 32 t2) (l1 : @LT.lt Nat _ 140 dx ∧ @LT.lt Nat _ 147 dx) (l2 : @LT.lt Nat _ dx x)
  (hR : ∀ s', KB [x, dx, 140, 147] s s' → VFMade x dx wd s.heap s'.heap → R (.ok (.ret .none)) s') :
  codeAny (model _root_.PySem.Challenge.rw_pe0169_01.row.prog w) A (.call (.ref 35) ⟨[.ref x, .int 0 ta, .int wd tw, .str " " tb, .str " " tc], []⟩) R s := by
  have hh := hA.h
  revert X
  k_fill
  intro X
  k_dflt (refine' enterH [("self", .ref x), ("headerlen", .int 0 ta), ("maxlen", .int wd tw), ("continuation_ws", .str " " tb), ("splitchars", .str " " tc)] [] [(x, instObj 94 dx), (dx, dictOf [] 0), (140, tabObj t1), (147, tabObj t2)] ?k1 ?k2 ?k3 ?k4 ?k5 ?k6 ?k7 ?ko ?_ ?c1 ?c2 ?c3 ?c4; (case ko => exact ho); (case k1 => assumption); (case k2 => exact Heap.NoLimit.keeps (Top.nolimit (by assumption)) (fun b o e => of_hideAll _ e)); (case k3 => k_is); (case k4 => k_is); (case k5 => exact Nat.lt_of_le_of_lt (Nat.le_add_right _ _) (Ok.d (by assumption))); (case k6 => exact BindsTo.of_eq rfl); (case k7 => exact locs rfl); (case c1 => decide); (case c2 => exact rfl); (case c3 => exact rfl); (case c4 => exact rfl); k_whole)
  intro L h₁ F N hlt
  obtain ⟨base, hbase⟩ : ∃ base, base = hideAll s.heap [x, dx, 140, 147] := ⟨_, rfl⟩
  rw [show (List.map (fun x => x.1) [(x, instObj 94 dx), (dx, dictOf [] 0), ((140 : Nat), tabObj t1), (147, tabObj t2)]) = [x, dx, 140, 147] from rfl, ← hbase] at F N
  rw [← hbase] at X T
  replace F : Fr base L h₁ (mp [("splitchars", some (.str " " tc)), ("continuation_ws", some (.str " " tb)), ("maxlen", some (.int wd tw)), ("headerlen", some (.int 0 ta)), ("self", some (.ref x))]) := F
  clear hlt
  show wpAny _ _ _ _ _ _
  k_fold
  (try dsimp only)
  k_steps
  refine Halt.on ?_
  rename_i _ _ _ _ _ ll _ lll h2 F2 N2
  refine call_acc (K := hd.heap_1 w.params) (fI := 115) F2 X N2 (by kernel_rfl) (by k_is) (by k_is) fun a d h3 F3 N3 hd1 hd2 => ?_
  have ld := allLt_of hd1
  dsimp only [AllLt] at ld
  replace hd2 : @LT.lt Nat _ d a := hd2
  have N4 := news5 N3
  clear N3 N2 F2
  have hin : ∀ b o, base.get? b = some o → (hideAll h3 (hidA a d)).get? b = some o := Fr.hide F3 N4 fun y hy => by
    simp only [List.mem_cons, List.not_mem_nil, or_false] at hy
    simp only [List.map_cons, List.mem_cons]
    rcases hy with h | h | h | h <;> simp [h]
  refine accInit_spec (t1 := t1) (t2 := t2) (fun b o e => hin b o (X b o e)) (T.keeps hin) ⟨hA.h, by have := hA.d; rw [depth_under_make]; show A.depth + 1 + 1 + 10 < 1000; omega, by have := hA.u; rw [units_under_make]; show A.units + 3 + 1 + 80 < 9900; omega⟩ (fun p hp => (N4 p (by
    simp only [List.mem_cons, List.not_mem_nil, or_false] at hp ⊢
    rcases hp with h | h | h | h <;> simp [h])).1) k1 k2 fun s' kb hAt => ⟨rfl, ?_⟩
  obtain ⟨h4, tk4, g4, rfl, hk4, hg4⟩ := kb
  obtain ⟨F5, n5, hs5, tk5, it5, e5, t15, t25, N5, k15, k25⟩ := acc_back0 F3 N4 (fun p hp => by
    simp only [List.mem_cons, List.not_mem_nil, or_false, not_or] at hp ⊢
    rcases hp with rfl | rfl | rfl <;> exact ⟨neN (by omega), neN (by omega), neN (by omega), neN (by omega)⟩) hk4 hAt
  replace N5 := flat3 N5
  dsimp only at F5 N5 hAt ⊢
  clear F3 N4 hin hAt
  show wpAny _ _ _ _ _ _
  k_steps
  rename_i h5 F6 N6
  have f1 := (N6 _ (.head _)).2.2
  have f2 := (N6 _ (.tail _ (.head _))).2.2
  have f3 := (N6 _ (.tail _ (.tail _ (.tail _ (.tail _ (.head _)))))).2.2
  subst hbase
  refine hR _ ⟨h5, _, g4, rfl, fun b o hb e => F6.keep b o (hideAll_get _ e hb), fun _ => hg4 G⟩ ⟨ll, a, d, _, tw, tc, 0, (N6 _ (.tail _ (.tail _ (.tail _ (.tail _ (.tail _ (.head _))))))).1, (N6 _ (.tail _ (.tail _ (.tail _ (.tail _ (.tail _ (.tail _ (.head _)))))))).1,
    ⟨n5, hs5, tk5, it5, e5, t15, t25, accS_at (N6 _ (.head _)).1 (N6 _ (.tail _ (.head _))).1 (N6 _ (.tail _ (.tail _ (.head _)))).1 (N6 _ (.tail _ (.tail _ (.tail _ (.head _))))).1, k15, k25⟩, (N6 _ (.tail _ (.tail _ (.tail _ (.tail _ (.head _)))))).1, ?_, ?_, ?_, ?_, ?_, ?_, ?_, ?_⟩
  · rfl
  · rfl
  · rfl
  · rfl
  · rfl
  · rfl
  · rfl
  · intro b hb
    simp only [List.mem_cons, List.not_mem_nil, or_false] at hb
    rcases hb with rfl | rfl | rfl
    · exact fresh_of_hide f3 (by
        simp only [List.mem_cons, List.not_mem_nil, or_false, not_or]
        exact ⟨neN (by omega), neN (by omega), neN (by omega), neN (by omega)⟩)
    · exact fresh_of_hide f1 (by
        simp only [List.mem_cons, List.not_mem_nil, or_false, not_or]
        exact ⟨neN (by omega), neN (by omega), neN (by omega), neN (by omega)⟩)
    · exact fresh_of_hide f2 (by
        simp only [List.mem_cons, List.not_mem_nil, or_false, not_or]
        exact ⟨neN (by omega), neN (by omega), neN (by omega), neN (by omega)⟩)
end
end
-- V5
section
theorem snocRec {α : Type} {P : List α → Prop} (nil : P []) (snoc : ∀ l q, P l → P (l ++ [q])) (l : List α) : P l := by
  have : ∀ n (l : List α), l.length = n → P l := by
    intro n
    induction n with
    | zero => intro l h; rw [List.length_eq_zero_iff.mp h]; exact nil
    | succ n ih =>
      intro l h
      have hne : l ≠ [] := List.ne_nil_of_length_pos (by omega)
      rw [← List.dropLast_concat_getLast hne]
      exact snoc _ _ (ih _ (by simp [h]))
  exact this _ l rfl
noncomputable def chunks (wd : Int) (qs : List (Str × Str)) : List (Str × Str) × List Str := qs.foldl (chunk wd) ([], [])
noncomputable def writtenL (wd : Int) (qs : List (Str × Str)) : List Str := (chunks wd qs).2 ++ [partsStr (chunks wd qs).1]
structure GoodQ (q : Str × Str) : Prop where
  f : q.1.length ≤ 1
  b : q.2.length ≤ 10
  ok : PyData.strOk q.1 = true ∧ PyData.strOk q.2 = true
  vis : ∃ c ∈ q.2.cps.toList, Unicode.isSpace c = false
theorem GoodQ.pos {q : Str × Str} (g : GoodQ q) : 1 ≤ q.2.length := by
  obtain ⟨c, hc, _⟩ := g.vis
  have := List.length_pos_of_mem hc
  rw [Array.length_toList] at this; exact this
theorem chunks_snoc (wd : Int) (l : List (Str × Str)) (q : Str × Str) : chunks wd (l ++ [q]) = chunk wd (chunks wd l) q := by simp [chunks]
theorem chunks_inv (wd : Int) (l : List (Str × Str)) : (∀ q ∈ (chunks wd l).1, q ∈ l) ∧ (chunks wd l).1.length ≤ l.length ∧ (chunks wd l).2.length ≤ l.length ∧ (l ≠ [] → (chunks wd l).1 ≠ []) := by
  induction l using snocRec with
  | nil => exact ⟨fun q h => h, Nat.le_refl _, Nat.le_refl _, fun h => absurd rfl h⟩
  | snoc l q ih =>
    obtain ⟨h1, h2, h3, h4⟩ := ih
    rw [chunks_snoc]
    unfold chunk
    split
    · refine ⟨fun x hx => ?_, ?_, ?_, fun _ => by simp⟩
      · rcases List.mem_singleton.mp hx with rfl; simp
      · simp
      · simp; omega
    · refine ⟨fun x hx => ?_, ?_, ?_, fun _ => by simp⟩
      · rcases List.mem_append.mp hx with hx | hx
        · exact List.mem_append_left _ (h1 x hx)
        · exact List.mem_append_right _ hx
      · simp; omega
      · simp; omega
theorem parts_list (ps : List (Str × Str)) : (partsStr ps).cps.toList = ps.flatMap fun p => p.1.cps.toList ++ p.2.cps.toList := by
  unfold partsStr
  rw [join0]
  simp only [List.flatMap_map]
  congr 1
  funext p
  show (Txt.join (Str.ofString "") [p.1, p.2]).cps.toList = _
  rw [join0]; simp
theorem parts_len (ps : List (Str × Str)) : ((partsStr ps).length : Int) = partsLen ps := by
  show ((partsStr ps).cps.size : Int) = _
  rw [← Array.length_toList, parts_list]
  induction ps with
  | nil => rfl
  | cons q r ih =>
    simp only [List.flatMap_cons, List.length_append, Array.length_toList, partsLen, List.map_cons, List.sum_cons] at ih ⊢
    push_cast
    rw [ih]
    rfl
theorem parts_vis {ps : List (Str × Str)} {q : Str × Str} (hq : q ∈ ps) (g : GoodQ q) : Txt.isspace (partsStr ps) = false := by
  obtain ⟨c, hc, hv⟩ := g.vis
  unfold Txt.isspace
  rw [show (partsStr ps).cps.all Unicode.isSpace = false by
    rw [← Array.all_toList, parts_list, List.all_eq_false]
    exact ⟨c, List.mem_flatMap.mpr ⟨q, hq, List.mem_append_right _ hc⟩, by rw [hv]; exact Bool.false_ne_true⟩, Bool.and_false]
theorem parts_pos {ps : List (Str × Str)} {q : Str × Str} (hq : q ∈ ps) (g : GoodQ q) : 0 < partsLen ps := by
  have h := g.pos
  have : 1 ≤ ((ps.flatMap fun p => p.1.cps.toList ++ p.2.cps.toList)).length := by
    obtain ⟨c, hc, _⟩ := g.vis
    exact List.length_pos_of_mem (List.mem_flatMap.mpr ⟨q, hq, List.mem_append_right _ hc⟩)
  rw [← parts_list, Array.length_toList] at this
  have e := parts_len ps
  change 1 ≤ (partsStr ps).length at this
  omega
theorem lines_le (wd : Int) (l : List (Str × Str)) (hl : ∀ q ∈ l, GoodQ q) : (((chunks wd l).2 ++ [partsStr (chunks wd l).1]).map (·.length)).sum ≤ 11 * l.length := by
  induction l using snocRec with
  | nil => simp [chunks, partsStr, Txt.join]; decide
  | snoc l q ih =>
    have ih := ih fun x hx => hl x (List.mem_append_left _ hx)
    have g := hl q (by simp)
    have hqf := g.f
    have hqb := g.b
    have one : ∀ a : List (Str × Str), (partsStr (a ++ [q])).length = (partsStr a).length + (q.1.length + q.2.length) := fun a => by
      have e1 := parts_len (a ++ [q])
      have e2 := parts_len a
      simp only [partsLen, List.map_append, List.sum_append, List.map_cons, List.map_nil, List.sum_cons, List.sum_nil] at e1 e2
      omega
    have z : (partsStr []).length = 0 := by decide
    rw [chunks_snoc]
    unfold chunk
    split
    · have := one []
      simp only [List.nil_append] at this
      simp only [List.map_append, List.sum_append, List.map_cons, List.map_nil, List.sum_cons, List.sum_nil, List.length_append, List.length_singleton] at ih ⊢
      omega
    · have := one (chunks wd l).1
      simp only [List.map_append, List.sum_append, List.map_cons, List.map_nil, List.sum_cons, List.sum_nil, List.length_append, List.length_singleton] at ih ⊢
      omega
theorem Parts.keepT {h h' : Heap} {items : List Value} {ps : List (Str × Str)} (x : Parts h items ps) (hk : ∀ b vs, h.get? b = some (tupO vs) → h'.get? b = some (tupO vs)) : Parts h' items ps := by
  induction x with
  | nil => exact .nil
  | cons ho _ ih => exact .cons (hk _ _ ho) ih
theorem Parts.at_ {h : Heap} {items : List Value} {ps : List (Str × Str)} (x : Parts h items ps) {i : Nat} {v : Value} (hv : items[i]? = some v) : ∃ (t : Addr) (a b : Tok) (q : Str × Str), ps[i]? = some q ∧ v = .ref t ∧ h.get? t = some (tupO [.str q.1 a, .str q.2 b]) := by
  induction x generalizing i with
  | nil => simp at hv
  | cons ho _ ih =>
    cases i with
    | zero => simp at hv; subst hv; exact ⟨_, _, _, _, rfl, rfl, ho⟩
    | succ i => simpa using ih (by simpa using hv)
theorem Parts.hideOne {h : Heap} {I : Addr} {hid : List Addr} {items : List Value} {ps : List (Str × Str)} {o : Obj} (x : Parts (hideAll h hid) items ps) (ho : h.get? I = some o) (hc : o.cls ≠ .type "tuple") : Parts (hideAll h (I :: hid)) items ps :=
  x.keepT fun b vs e => by
    have hb : b ∉ hid := fun hm => by rw [hideAll_none _ hm] at e; cases e
    refine hideAll_get _ (of_hideAll _ e) fun hm => ?_
    rcases List.mem_cons.mp hm with rfl | hm
    · rw [of_hideAll _ e] at ho; cases ho; exact hc rfl
    · exact hb hm
inductive VfBk (base : Heap) (L ll a d : Addr) (rest : List (Addr × Obj)) (ps : List (Str × Str)) (lines : List Str) (h' : Heap) : Prop
  | mk (items vs : List Value) (k n : Nat) (hs : Int) (tk it : Tok) (e : Nat) (t1 t2 : Array Value) : News base L h' (accS a d items n hs tk it e t1 t2 ++ (ll, listOf vs.toArray k) :: rest) → TabOk 93 19 t1 → TabOk 96 32 t2 → StrsAre vs lines → Parts (hideAll h' (hidL ll a d)) items ps → VfBk base L ll a d rest ps lines h'
theorem vf_back {base h h' : Heap} {L ll a d : Addr} {m : Str → Option Value} {rest : List (Addr × Obj)} {items : List Value} {n : Nat} {hs : Int} {tk it : Tok} {e : Nat} {t1 t2 : Array Value} {l0 : Obj} {ps : List (Str × Str)} {lines : List Str} (F : Fr base L h m) (N : News base L h (accS a d items n hs tk it e t1 t2 ++ (ll, l0) :: rest)) (hr : ∀ p ∈ rest, p.1 ∉ hidL ll a d) (kb : ∀ b o, b ∉ hidL ll a d → h.get? b = some o → h'.get? b = some o) (v : VFAt ll a d ps lines h') :
    Fr base L h' m ∧ VfBk base L ll a d rest ps lines h' := by
  have inA : ∀ b ∈ hidL ll a d, b ≠ L ∧ base.get? b = none := fun b hb => by
    rcases List.mem_cons.mp hb with rfl | hb
    · exact (N _ (List.mem_append_right _ (.head _))).2
    · obtain ⟨p, hp, rfl⟩ := List.mem_map.mp (show b ∈ (accS a d items n hs tk it e t1 t2).map Prod.fst from hb)
      exact (N p (List.mem_append_left _ hp)).2
  obtain ⟨items', vs, k, ⟨n', hs', tk', it', e', t1', t2', hx, k1, k2⟩, hl, hS, hP⟩ := v
  refine ⟨kb_back F N kb, items', vs, k, n', hs', tk', it', e', t1', t2', fun p hp => ?_, k1, k2, hS, hP⟩
  rcases List.mem_append.mp hp with hp | hp
  · exact ⟨hx p hp, inA p.1 (List.mem_cons_of_mem _ (List.mem_map_of_mem (f := Prod.fst) hp))⟩
  · rcases List.mem_cons.mp hp with rfl | hp
    · exact ⟨hl, inA _ (.head _)⟩
    · have z := N p (List.mem_append_right _ (.tail _ hp))
      exact ⟨kb _ _ (hr p hp) z.1, z.2⟩
theorem assign2 {prog : Program} {w : World} {A : Around} {E : Value → Shared → Prop} {s : Shared} {env : Env} {base : Heap} {L t : Addr} {m : Str → Option Value} {n1 n2 : Str} {p1 p2 pos : PySem.Pos} {x1} {v1 v2 : Value} {Q : Unit → Shared → Prop} (hh : A.handled = none) (hL : env.locals = L) (F : Fr base L s.heap m) (ht : IsTup s.heap t #[v1, v2]) (hk1 : env.kindOf n1 = some .local) (hk2 : env.kindOf n2 = some .local)
    (hp : (env.scope.kind == .class || (env.scope.kind == .module && env.locals != env.globals)) = false)
    (h : ∀ h' tk, (∀ b o, b ≠ L → s.heap.get? b = some o → h'.get? b = some o) → Fr base L h' (fun x => if x = n2 then some v2 else if x = n1 then some v1 else m x) → Q () { s with heap := h', toks := tk }) :
    wpAny (model prog w) A (assign (.Tuple [.Name n1 p1, .Name n2 p2] x1 pos) env (.ref t)) Q E s := by
  subst hL
  refine assign_Tuple_tuple hh ht rfl rfl fun h1 he => ?_
  have he' : ∀ b o, s.heap.get? b = some o → h1.get? b = some o := fun b o e => he b o (Nat.ne_of_lt (Heap.lt_size e)) e
  have F1 : Fr base env.locals h1 m := ⟨F.ns.at' fun o e => he' _ o e, fun b o e => he' _ _ (F.keep b o e), F.above⟩
  refine assignInOrder_cons (wpAny_assign_Name (wpAny_storeName_local hk1 F1.ns (fun h2 hn2 hs2 => ?_) hp))
  have F2 := F1.set hn2 hs2
  refine assignInOrder_cons (wpAny_assign_Name (wpAny_storeName_local hk2 F2.ns (fun h3 hn3 hs3 => ?_) hp))
  have F3 := F2.set hn3 hs3
  refine assignInOrder_nil (h h3 _ (fun b o hb e => hs3.extBut b o hb (hs2.extBut b o hb (he' b o e))) F3)
end
-- V6
section
theorem anew_V6 : True := by
  w_top off
  exact True.intro
section
local macro_rules | `(tactic| walk_at "getMethod ref") => `(tactic| k_dflt (refine method_fn (Frag.In.keeps (by k_asm) (Fr.keep (by k_asm))) (by with_reducible assumption) (by k_is) (by k_is) (by k_is) (by k_is) (by with_reducible assumption) ?_; k_whole))
local macro_rules | `(tactic| walk_at $s) => if among "call ref|exec For Tuple Name cons nil" s then `(tactic| refine Halt.go ?_) else Lean.Macro.throwUnsupported
inductive WrJ (s : Shared) (base : Heap) (L pl x dx ll a d I : Addr) (od : Obj) (wd : Int) (tw : Tok) (qs : List (Str × Str)) (i : Nat) (s' : Shared) : Prop
  | mk (ob op : Option Value) (h' : Heap) (tk : Nat) (g : Array GenState) (its vs : List Value) (k n : Nat) (hs : Int) (tk0 it : Tok) (e : Nat) (t1 t2 : Array Value) : s' = { s with heap := h', toks := tk, gens := g } → AllBare g → Fr base L h' (mp [("width", some (.int wd tw)), ("pieces", some (.ref pl)), ("maker", some (.ref x)), ("blank", ob), ("part", op)]) → News base L h' (accS a d its n hs tk0 it e t1 t2 ++ [(ll, listOf vs.toArray k), (x, instObj 94 dx), (dx, od)]) → TabOk 93 19 t1 → TabOk 96 32 t2 → StrsAre vs (chunks wd (qs.take i)).2 → Parts (hideAll h' (I :: hidL ll a d)) its (chunks wd (qs.take i)).1 → WrJ s base L pl x dx ll a d I od wd tw qs i s'
theorem written_spec {w : World} {mean : ExcName → Option Value} {mg mb : Str → Option Value} {p : Program} {loose : List Str} {A : Around} {s : Shared} {E : Value → Shared → Prop} {pl : Addr} {items : List Value} {c : Nat} {qs : List (Str × Str)} {wd : Int} {tw : Tok}
  (X : Frag.In (hd.heap_1 w.params) (hideAll s.heap [140, 147])) (T : Top p loose mean mg mb (hideAll s.heap [140, 147])) (hA : Ok A 60 600) (G : AllBare s.gens) (hT : TabAt s.heap)
  (hl : (hideAll s.heap [140, 147]).get? pl = some (listOf items.toArray c)) (hP : Parts (hideAll s.heap [140, 147]) items qs) (hne : qs ≠ []) (hn : qs.length < 40) (hg : ∀ q ∈ qs, GoodQ q) (hmode : (∀ q ∈ qs, q.1 = " ") ∨ (∀ q ∈ qs, q.1 = "" ∧ q.2.cps.back? = some 32)) :
  wpAny (model _root_.PySem.Challenge.rw_pe0169_01.row.prog w) A (call (.ref 201) [.ref pl, .int wd tw]) (fun v s' => Halt ((∃ t, v = .str (Txt.join "\n" (writtenL wd qs)) t) ∧ KB [140, 147] s s' ∧ TabAt s'.heap)) E s := by
  have hh := hA.h
  obtain ⟨t1, t2, ht1, ht2, k1, k2⟩ := hT
  revert X
  k_fill
  intro X
  refine wpAny_call ?_
  k_dflt (refine' enterH [("pieces", .ref pl), ("width", .int wd tw)] ["maker", "blank", "part"] [(140, tabObj t1), (147, tabObj t2)] ?k1 ?k2 ?k3 ?k4 ?k5 ?k6 ?k7 ?ko ?_ ?c1 ?c2 ?c3 ?c4; (case ko => exact List.forall_mem_cons.mpr ⟨ht1, List.forall_mem_cons.mpr ⟨ht2, List.forall_mem_nil _⟩⟩); (case k1 => assumption); (case k2 => exact Heap.NoLimit.keeps (Top.nolimit (by assumption)) (fun b o e => of_hideAll _ e)); (case k3 => k_is); (case k4 => k_is); (case k5 => exact Nat.lt_of_le_of_lt (Nat.le_add_right _ _) (Ok.d (by assumption))); (case k6 => exact BindsTo.of_eq rfl); (case k7 => exact locs rfl); (case c1 => decide); (case c2 => exact rfl); (case c3 => exact rfl); (case c4 => exact rfl); k_whole)
  intro L h₁ F N hlt
  obtain ⟨base, hbase⟩ : ∃ base, base = hideAll s.heap [140, 147] := ⟨_, rfl⟩
  rw [show (List.map (fun x => x.1) [((140 : Nat), tabObj t1), (147, tabObj t2)]) = [140, 147] from rfl, ← hbase] at F N
  rw [← hbase] at X T hl hP
  replace F : Fr base L h₁ (mp [("width", some (.int wd tw)), ("pieces", some (.ref pl)), ("maker", none), ("blank", none), ("part", none)]) := F
  clear hlt
  show wpAny _ _ _ _ _ _
  k_fold
  (try dsimp only)
  k_steps
  refine Halt.on ?_
  refine call_cls (K := hd.heap_1 w.params) (fI := 35) F X N (by k_is) (by k_is) (by k_is) fun x dx h3 F3 N3 hd1 hd2 => ?_
  have ld := allLt_of hd1
  dsimp only [AllLt] at ld
  replace hd2 : @LT.lt Nat _ dx x := hd2
  have hin : ∀ b o, base.get? b = some o → (hideAll h3 [x, dx, 140, 147]).get? b = some o := Fr.hide F3 N3 fun y hy => hy
  refine vfInit_spec (t1 := t1) (t2 := t2) (fun b o e => hin b o (X b o e)) (T.keeps hin) ⟨hA.h, by have := hA.d; rw [depth_under_make]; show A.depth + 1 + 1 + 40 < 1000; omega, by have := hA.u; rw [units_under_make]; show A.units + 3 + 1 + 400 < 9900; omega⟩ G (fun p hp => (N3 p hp).1) k1 k2 ⟨ld.1, ld.2.1⟩ hd2 fun s' kb made => ⟨rfl, ?_⟩
  obtain ⟨h4, tk4, g4, rfl, hk4, hg4⟩ := kb
  replace hg4 := hg4 G
  obtain ⟨ll, a, d, od, tw', ts, k, m1, m2, m3, m4, q1, q2, q3, q4, q5, q6, q7, hfr⟩ := made
  dsimp only at m1 m2 m3 m4 hfr ⊢
  obtain ⟨n, hs, tk0, it, e, t1', t2', hO, k1', k2'⟩ := m3
  have F4 : Fr base L h4 (mp [("width", some (.int wd tw)), ("pieces", some (.ref pl)), ("maker", none), ("blank", none), ("part", none)]) := by
    have inA : ∀ b ∈ [x, dx, 140, 147], b ≠ L ∧ base.get? b = none := fun b hb => by
      obtain ⟨p, hp, rfl⟩ := List.mem_map.mp (show b ∈ [(x, instObj 94 dx), (dx, dictOf [] 0), ((140 : Nat), tabObj t1), (147, tabObj t2)].map Prod.fst from hb)
      exact (N3 p hp).2
    exact ⟨F3.ns.at' fun o e => hk4 _ _ (fun q => (inA _ q).1 rfl) e, fun b o e => hk4 b o (fun q => by rw [(inA _ q).2] at e; cases e) (F3.keep b o e), F3.above⟩
  have hf3 : ∀ b, h3.get? b = none → b ≠ L ∧ base.get? b = none := fun b hb => ⟨fun q => by
      obtain ⟨oL, _, _, hL, _⟩ := F3.ns
      rw [q] at hb; exact absurd (hL.symm.trans hb) (by simp), by
      cases q : base.get? b with
      | none => rfl
      | some o => exact absurd ((F3.keep _ _ q).symm.trans hb) (by simp)⟩
  have N4 : News base L h4 (accS a d [] n hs tk0 it e t1' t2' ++ [(ll, listOf ([] : List Value).toArray k), (x, instObj 94 dx), (dx, od)]) := by
    intro p hp
    rcases List.mem_append.mp hp with hp | hp
    · refine ⟨hO p hp, ?_⟩
      simp only [List.mem_cons, List.not_mem_nil, or_false] at hp
      rcases hp with rfl | rfl | rfl | rfl
      · exact hf3 _ (hfr _ (by simp))
      · exact hf3 _ (hfr _ (by simp))
      · exact (N3 _ (.tail _ (.tail _ (.head _)))).2
      · exact (N3 _ (.tail _ (.tail _ (.tail _ (.head _))))).2
    · simp only [List.mem_cons, List.not_mem_nil, or_false] at hp
      rcases hp with rfl | rfl | rfl
      · exact ⟨m4, hf3 _ (hfr _ (by simp))⟩
      · exact ⟨m1, (N3 _ (.head _)).2⟩
      · exact ⟨m2, (N3 _ (.tail _ (.head _))).2⟩
  have hxo : x ∉ hidL ll a d ∧ dx ∉ hidL ll a d := by
    have hx3 := (N3 _ (.head _)).1
    have hd3 := (N3 _ (.tail _ (.head _))).1
    constructor
    · intro hm
      simp only [List.mem_cons, List.not_mem_nil, or_false] at hm
      rcases hm with h | h | h | h | h
      · rw [h, hfr _ (by simp)] at hx3; cases hx3
      · rw [h, hfr _ (by simp)] at hx3; cases hx3
      · rw [h, hfr _ (by simp)] at hx3; cases hx3
      · exact neN (by omega) h
      · exact neN (by omega) h
    · intro hm
      simp only [List.mem_cons, List.not_mem_nil, or_false] at hm
      rcases hm with h | h | h | h | h
      · rw [h, hfr _ (by simp)] at hd3; cases hd3
      · rw [h, hfr _ (by simp)] at hd3; cases hd3
      · rw [h, hfr _ (by simp)] at hd3; cases hd3
      · exact neN (by omega) h
      · exact neN (by omega) h
  clear F F3 N N3 hin hd1 ld hd2 hk4 hf3 hfr hO m1 m2 m4
  show wpAny _ _ _ _ _ _
  k_steps
  refine Halt.on ?_
  rename_i h5 F5 N5
  replace F5 : Fr base L h5 (mp [("width", some (.int wd tw)), ("pieces", some (.ref pl)), ("maker", some (.ref x)), ("blank", none), ("part", none)]) := by
    simp only [mp_put] at F5; exact F5
  replace N5 : News base L h5 (accS a d [] n hs tk0 it e t1' t2' ++ [(ll, listOf ([] : List Value).toArray k), (x, instObj 94 dx), (dx, od)]) := N5
  refine wpAny_For ?_ (by intro _; rfl)
  walk1
  have hpl : ∀ {h' : Heap} {m : Str → Option Value}, Fr base L h' m → h'.IsList pl items.toArray := fun F => ⟨_, F.keep _ _ hl, rfl, _, rfl⟩
  refine wpAny_pyIter_list (hpl F5) ?_
  dsimp only
  obtain ⟨I, hI⟩ : ∃ I, I = h5.objs.size := ⟨_, rfl⟩
  have F6 := F5.push ({ cls := .type "list_iterator", data := .fields #[.ref pl, .int 0 0] })
  have N6 := N5.push F5 ({ cls := .type "list_iterator", data := .fields #[.ref pl, .int 0 0] })
  have hist : (h5.push { cls := .type "list_iterator", data := .fields #[.ref pl, .int 0 0] }).IsListIter I pl 0 := ⟨_, hI ▸ Heap.get?_push_size _ rfl, rfl, rfl⟩
  rw [← hI] at N6 ⊢
  have hIb := (N6 _ (.head _)).2
  have hIL : L ≠ I := Ne.symm hIb.1
  have hI0 : base.get? I = none := hIb.2
  have hpI : pl ≠ I := fun q => by rw [← q, hl] at hI0; cases hI0
  have hNI : ∀ b ∈ hidL ll a d ++ [x, dx], b ≠ I := fun b hb q => by
    have : b ∈ (accS a d [] n hs tk0 it e t1' t2' ++ [(ll, listOf ([] : List Value).toArray k), (x, instObj 94 dx), (dx, od)]).map Prod.fst := by
      simp only [List.map_append, List.map_cons, List.map_nil, List.mem_append, List.mem_cons, List.not_mem_nil, or_false] at hb ⊢
      rcases hb with (h | h | h | h | h) | h | h <;> simp [h]
    obtain ⟨p, hp, hq⟩ := List.mem_map.mp this
    have := Heap.lt_size (N5 p hp).1
    rw [hq, q, hI] at this
    exact Nat.lt_irrefl _ this
  replace N6 : News base L _ (accS a d [] n hs tk0 it e t1' t2' ++ [(ll, listOf ([] : List Value).toArray k), (x, instObj 94 dx), (dx, od)]) := fun p hp => N6 p (.tail _ hp)
  refine forW (Walks.list (by exact hh) I pl hpI items.toArray) (fun b hb => List.mem_singleton.mp hb) base (fun b hb => by
      rcases List.mem_cons.mp hb with rfl | hb
      · exact .inl rfl
      · rcases List.mem_singleton.mp hb with rfl; exact .inr ⟨_, hl⟩)
    (J := WrJ s base L pl x dx ll a d I od wd tw qs)
    ?hJ ?hup (fun i h st => ⟨_, st.1.choose_spec.1⟩) ?turn ?done ⟨hist, hpl F6⟩ ⟨_, _, _, _, _, _, _, _, _, _, _, _, _, _, _, rfl, hg4, F6, N6, k1', k2', .nil, .nil⟩
  case hJ => rintro i s' ⟨ob, op, h', tk, g, its, vs, k, n, hs, tk0, it, e, t1, t2, rfl, _, F, N, _⟩; exact F.keep
  case hup =>
    rintro i s' h2 tk2 ⟨ob, op, h', tk, g, its, vs, k, n, hs, tk0, it, e, t1, t2, rfl, hg, F, N, hk1, hk2, hS, hP⟩ hkp
    refine ⟨ob, op, h2, tk2, g, its, vs, k, n, hs, tk0, it, e, t1, t2, rfl, hg, Fr.but F hkp hIL hI0, News.but N hkp fun p hp => ?_, hk1, hk2, hS, hP.keep fun b o e => ?_⟩
    · refine hNI p.1 ?_
      have : p.1 ∈ (accS a d its n hs tk0 it e t1 t2 ++ [(ll, listOf vs.toArray k), (x, instObj 94 dx), (dx, od)]).map Prod.fst := List.mem_map_of_mem hp
      simp only [List.map_append, List.map_cons, List.map_nil, List.mem_append, List.mem_cons, List.not_mem_nil, or_false] at this ⊢
      rcases this with (h | h | h | h) | h | h | h <;> simp [h]
    · have hb : b ∉ I :: hidL ll a d := fun hm => by rw [hideAll_none _ hm] at e; cases e
      exact hideAll_get _ (hkp b o (fun q => hb (q ▸ .head _)) (of_hideAll _ e)) hb
  case done =>
    rintro s' ⟨ob, op, h', tk, g, its, vs, k, n, hs, tk0, it, e, t1, t2, rfl, hg', F, N, hk1, hk2, hS, hP⟩
    have hsz : items.toArray.size = qs.length := by rw [List.size_toArray]; exact ‹Parts base items qs›.length
    rw [hsz, List.take_length] at hS hP
    obtain ⟨c1, c2, c3, c4⟩ := chunks_inv wd qs
    have hcn := c4 hne
    obtain ⟨ps, q, hpq⟩ : ∃ ps q, (chunks wd qs).1 = ps ++ [q] := ⟨_, _, (List.dropLast_concat_getLast hcn).symm⟩
    have hw : writtenL wd qs = (chunks wd qs).2 ++ [partsStr (ps ++ [q])] := by rw [← hpq]; rfl
    have hsum := lines_le wd qs hg
    rw [hpq] at hP c1 c2 hsum
    have gq := hg q (c1 q (by simp))
    simp only [List.length_append, List.length_singleton] at c2
    have hI' : W.InstAt h' x (instObj 94 dx) 94 (some od) := ⟨(N _ (List.mem_append_right _ (.tail _ (.head _)))).1, rfl, rfl, (N _ (List.mem_append_right _ (.tail _ (.tail _ (.head _))))).1⟩
    clear F5 N5 F6 N6 hist
    k_steps
    refine Halt.on ?_
    have hin := vf_in F N
    have hPl : Parts (hideAll h' (hidL ll a d)) its (ps ++ [q]) := hP.keep fun b o e => hide_mono (fun y hy => .tail _ hy) e
    have hIl : W.InstAt (hideAll h' (hidL ll a d)) x (instObj 94 dx) 94 (some od) := ⟨hideAll_get _ (N _ (List.mem_append_right _ (.tail _ (.head _)))).1 hxo.1, rfl, rfl, hideAll_get _ (N _ (List.mem_append_right _ (.tail _ (.tail _ (.head _))))).1 hxo.2⟩
    refine wpAny_mono (vstr_spec (ll := ll) (a := a) (d := d) (fun b o e => hin b o (X b o e)) (T.keeps hin) ((hA.deeper _).less (by decide) (by decide)) hg' hIl q3 q4 q5 (acc_at N hk1 hk2) (N _ (List.mem_append_right _ (.head _))).1 hS hPl (by omega) (by omega) (fun p hp => ?_) (by have := gq.pos; omega) gq.ok (parts_pos (by simp) gq) (parts_vis (by simp) gq) (by omega) (by decide +kernel)) (fun r s' hr => ?_) fun _ _ x => x
    · have := hg p (c1 p hp)
      have h1 := this.f
      have h2 := this.b
      exact ⟨by omega, by omega⟩
    obtain ⟨⟨t, rfl⟩, ⟨h2, tk2, g2, rfl, hk, hg2⟩, vf⟩ := hr.go
    obtain ⟨F', its', vs', k', n', hs', tk0', it', e', t1'', t2'', N', z1, z2, _, _⟩ := vf_back F N (fun p hp => by
      simp only [List.mem_cons, List.not_mem_nil, or_false] at hp
      rcases hp with rfl | rfl
      · exact hxo.1
      · exact hxo.2) hk vf
    refine Halt.on ⟨⟨t, by rw [hw]⟩, ⟨h2, _, g2, rfl, fun b o hb e => ?_, fun _ => hg2 hg'⟩, t1'', t2'', (N' _ (List.mem_append_left _ (.tail _ (.tail _ (.head _))))).1, (N' _ (List.mem_append_left _ (.tail _ (.tail _ (.tail _ (.head _)))))).1, z1, z2⟩
    subst hbase
    exact F'.keep b o (hideAll_get _ e hb)
  case turn =>
    clear F5 N5 F6 N6 hist
    rintro i v s' o hi hv ⟨ob, op, h', tk, g, its, vs, k, n, hs, tk0, it, e, t1, t2, rfl, hg', F, N, hk1, hk2, hS, hP'⟩ ho hst
    obtain ⟨t, ta, tb, q, hqi, rfl, hto⟩ := ‹Parts base items qs›.at_ (by simpa using hv)
    have hqm : q ∈ qs := List.mem_of_getElem? hqi
    obtain ⟨ho1, ho2⟩ : o.cls ≠ .type "tuple" ∧ hst.1.choose = o := by
      have hz := hst.1.choose_spec
      have e : hst.1.choose = o := Option.some.inj (hz.1.symm.trans ho)
      rw [e] at hz
      exact ⟨by rw [hz.2.1]; decide, e⟩
    refine wpAny_letOwnedTupleGo_listiter hst.1 ?_
    refine assign2 (by exact hh) rfl F ⟨_, F.keep _ _ hto, rfl, _, rfl⟩ rfl rfl rfl fun h2 tk2 hk2' F2 => ?_
    have N2 : News base L h2 (accS a d its n hs tk0 it e t1 t2 ++ [(ll, listOf vs.toArray k), (x, instObj 94 dx), (dx, od)]) := fun p hp => ⟨hk2' _ _ (N p hp).2.1 (N p hp).1, (N p hp).2⟩
    have P2 : Parts (hideAll h2 (I :: hidL ll a d)) its (chunks wd (qs.take i)).1 := hP'.keepT fun b vs e => by
      have hb : b ∉ I :: hidL ll a d := fun hm => by rw [hideAll_none _ hm] at e; cases e
      refine hideAll_get _ (hk2' b _ (fun q => ?_) (of_hideAll _ e)) hb
      obtain ⟨oL, es, ep, hL, hdL, _⟩ := F.ns
      have e' := of_hideAll _ e
      rw [q] at e'
      rw [hL] at e'
      cases e'
      cases hdL
    have hoI : h2.get? I = some o := hk2' _ _ (Ne.symm hIL) ho
    replace F2 : Fr base L h2 (mp [("width", some (.int wd tw)), ("pieces", some (.ref pl)), ("maker", some (.ref x)), ("blank", some (.str q.1 ta)), ("part", some (.str q.2 tb))]) := by
      simp only [mp_put] at F2; exact F2
    clear F N hP' ho hst ho2 hk2'
    have hI' : W.InstAt h2 x (instObj 94 dx) 94 (some od) := ⟨(N2 _ (List.mem_append_right _ (.tail _ (.head _)))).1, rfl, rfl, (N2 _ (List.mem_append_right _ (.tail _ (.tail _ (.head _))))).1⟩
    dsimp only
    k_steps
    refine Halt.on ?_
    have hin := vf_in F2 N2
    have hPl : Parts (hideAll h2 (hidL ll a d)) its (chunks wd (qs.take i)).1 := P2.keep fun b o e => hide_mono (fun y hy => .tail _ hy) e
    have hIl : W.InstAt (hideAll h2 (hidL ll a d)) x (instObj 94 dx) 94 (some od) := ⟨hideAll_get _ (N2 _ (List.mem_append_right _ (.tail _ (.head _)))).1 hxo.1, rfl, rfl, hideAll_get _ (N2 _ (List.mem_append_right _ (.tail _ (.tail _ (.head _))))).1 hxo.2⟩
    obtain ⟨c1, c2, c3, c4⟩ := chunks_inv wd (qs.take i)
    have c1' : ∀ y ∈ (chunks wd (qs.take i)).1, y ∈ qs := fun y hy => List.mem_of_mem_take (c1 y hy)
    have hti : (qs.take i).length ≤ qs.length := by simp; omega
    have gq := hg q hqm
    have gf := gq.f
    have gb := gq.b
    refine wpAny_mono (chunk_spec (ll := ll) (a := a) (d := d) (ps := (chunks wd (qs.take i)).1) (lines := (chunks wd (qs.take i)).2) (fun b o e => hin b o (X b o e)) (T.keeps hin) ((hA.deeper _).less (by decide) (by decide)) hg' hIl q1 q2 q3 q4 (acc_at N2 hk1 hk2) (N2 _ (List.mem_append_right _ (.head _))).1 hS hPl (by omega) (by omega) (fun p hp => ?_) (by omega) (by omega) ?_) (fun r s' hr => ?_) fun _ _ x => x
    · have := hg p (c1' p hp)
      have h1 := this.f
      have h2 := this.b
      exact ⟨by omega, by omega⟩
    · rcases hmode with h | h
      · exact .inl (h q hqm)
      · exact .inr ⟨(h q hqm).1, fun y hy => (h y (c1' y hy)).2⟩
    obtain ⟨rfl, ⟨h3, tk3, g3, rfl, hk, hg2⟩, vf⟩ := hr.go
    obtain ⟨F', its', vs', k', n', hs', tk0', it', e', t1'', t2'', N', z1, z2, zS, zP⟩ := vf_back F2 N2 (fun p hp => by
      simp only [List.mem_cons, List.not_mem_nil, or_false] at hp
      rcases hp with rfl | rfl
      · exact hxo.1
      · exact hxo.2) hk vf
    have hoI3 : h3.get? I = some o := hk _ _ (fun hm => hNI I (List.mem_append_left _ hm) rfl) hoI
    rw [← chunks_snoc, show qs.take i ++ [q] = qs.take (i + 1) by rw [List.take_add_one, hqi]; rfl] at zS zP
    clear F2 N2 P2 hPl hin hI' hIl vf hr hk
    dsimp only
    k_steps
    exact Halt.on ⟨⟨_, _, h3, _, g3, its', vs', k', n', hs', tk0', it', e', t1'', t2'', rfl, hg2 hg', F', N', z1, z2, zS, zP.hideOne hoI3 ho1⟩, hoI3⟩
end
end
-- K0
section
section
variable {prog : Program} {w : World} {A : Around} {E : Value → Shared → Prop} {R : Result → Shared → Prop} {s : Shared} {env : Env}
theorem codeAny_compLoop_gen {elt target iter : PySem.Expr} {ifs : List PySem.Expr} {scope : Scope} {pos : PySem.Pos} {it acc : Value} {env : Env} (I : Nat → Shared → Prop)
    (turn : ∀ n s, I n s → wpAny (model prog w) A (pyNext it) (fun r s₁ => match r with
      | none => R (.ok .next) s₁
      | some v => wpAny (model prog w) A (letOwnedTupleGo target it v) (fun _ s₁' => wpAny (model prog w) A (assign target env v) (fun _ s₂ =>
          wpAny (model prog w) A (forIn ifs true fun c r => if r = true then do let ok ← isTrue c env (eval c env); pure (ForInStep.yield ok) else pure (ForInStep.yield r)) (fun ok s₃ =>
            if ok = true then wpAny (model prog w) A (eval elt env) (fun x s₄ =>
              wpAny (model prog w) A (call (.builtin "list.append") [acc, x]) (fun _ s₅ => ∃ m, m < n ∧ I m s₅) (fun _ _ => False) s₄) (fun _ _ => False) s₃
            else ∃ m, m < n ∧ I m s₃) (fun _ _ => False) s₂) (fun _ _ => False) s₁') (fun _ _ => False) s₁) (fun _ _ => False) s)
    (n : Nat) (h : I n s) :
    codeAny (model prog w) A (.compLoop (.ListComp elt [⟨target, iter, ifs, 0⟩] scope pos) 0 it acc env) R s := by
  refine codeAny_loop rfl I (fun n s hI => ?_) n h
  show wpAny _ A ((compTurn (.ListComp elt [⟨target, iter, ifs, 0⟩] scope pos) 0 it acc env).onRaise (fun x => do noteFrame x env; theTreesLotGoes x)) _ _ s
  refine wpAny_noted ?_
  rw [compTurn_list]
  refine wpAny_bind (wpAny_standAt (wpAny_bind (wpAny_mono (turn n s hI) (fun r s₁ h₁ => ?_) fun _ _ h' => h'.elim)))
  cases r with
  | none => exact wpAny_pure h₁
  | some v =>
    refine wpAny_bind (wpAny_mono h₁ (fun _ s₁' h₁' => ?_) fun _ _ h' => h'.elim)
    refine wpAny_bind (wpAny_mono h₁' (fun _ s₂ h₂ => wpAny_bind (wpAny_mono h₂ (fun ok s₃ h₃ => ?_) fun _ _ h' => h'.elim)) fun _ _ h' => h'.elim)
    cases ok with
    | false => exact wpAny_pure ⟨rfl, h₃⟩
    | true =>
      exact wpAny_bind (wpAny_bind (wpAny_mono h₃ (fun x s₄ h₄ => wpAny_bind (wpAny_mono h₄ (fun _ s₅ h₅ => wpAny_pure (wpAny_pure ⟨rfl, h₅⟩)) fun _ _ h' => h'.elim)) fun _ _ h' => h'.elim))
/-- how an iterator goes on, its item laid in the target -/
structure Adv (prog : Program) (w : World) (A : Around) (target : PySem.Expr) (env : Env) (scope : Scope) (cl : List (Str × Addr)) (I : Addr) (wr : List Addr) (n : Nat) (St : Nat → Heap → Prop) (hb : Heap) (Bound : Nat → (Str → Option Value) → Prop) : Prop where
  step : ∀ C i (s : Shared) m' (Q : Shared → Prop), (∀ b ∈ wr, @LT.lt Nat _ b C) → i < n → St i s.heap → s.heap.Ns C m' → (∀ b o, hb.get? b = some o → s.heap.get? b = some o) → hb.objs.size ≤ C →
    (∀ h' tk m'', (∀ b o, b ≠ C → b ∉ wr → s.heap.get? b = some o → h'.get? b = some o) → h'.Ns C m'' → Bound i m'' → St (i + 1) h' → Q { s with heap := h', toks := tk }) →
    wpAny (model prog w) A (pyNext (.ref I)) (fun r s₁ => match r with
      | none => False
      | some v => wpAny (model prog w) A (letOwnedTupleGo target (.ref I) v) (fun _ s₁' => wpAny (model prog w) A (assign target (compEnvC scope cl C env) v) (fun _ s₂ => Q s₂) (fun _ _ => False) s₁') (fun _ _ => False) s₁) (fun _ _ => False) s
  fin : ∀ (s : Shared) (Q : Shared → Prop), St n s.heap → (∀ h' tk, (∀ b o, b ∉ wr → s.heap.get? b = some o → h'.get? b = some o) → Q { s with heap := h', toks := tk }) →
    wpAny (model prog w) A (pyNext (.ref I)) (fun r s₁ => match r with | none => Q s₁ | some _ => False) (fun _ _ => False) s
  frame : ∀ i h h', St i h → (∀ b o, hb.get? b = some o → h.get? b = some o) → (∀ b o, (b ∈ wr ∨ hb.get? b = some o) → h.get? b = some o → h'.get? b = some o) → St i h'
  inn : I ∈ wr
  live : ∀ i h, St i h → ∀ b ∈ wr, ∃ o, h.get? b = some o
  self : ∀ i (s : Shared) (Q : Value → Shared → Prop) (E : Value → Shared → Prop), St i s.heap → Q (.ref I) s → wpAny (model prog w) A (pyIter (.ref I)) Q E s
/-- one turn's outcome of a comprehension: the iterators and the list as they were, the new objects l -/
noncomputable def TurnG (hb : Heap) (C D : Addr) (wo : List (Addr × Obj)) (ys : List Value) (e : Nat) (s : Shared) (Jn : List (Addr × Obj) → Prop) (s' : Shared) : Prop :=
  ∃ h' tk' l' m', s' = { s with heap := h', toks := tk' } ∧ Fr hb C h' m' ∧ News hb C h' (wo ++ (D, listOf ys.toArray e) :: l') ∧ (∀ p ∈ l', p.1 ∉ wo.map (·.1) ∧ p.1 ≠ D) ∧ Jn l'
inductive CompG (s : Shared) (hb : Heap) (C D : Addr) (wr : List Addr) (n : Nat) (St : Nat → Heap → Prop) (J : Nat → List Value → List (Addr × Obj) → Prop) (k : Nat) (s' : Shared) : Prop
  | mk (i : Nat) (ys : List Value) (l : List (Addr × Obj)) (h : Heap) (tk : Nat) (e : Nat) (m' : Str → Option Value) : i ≤ n → n - i = k → s' = { s with heap := h, toks := tk } → Fr hb C h m' → News hb C h ((D, listOf ys.toArray e) :: l) → (∀ p ∈ l, p.1 ∉ wr ∧ p.1 ≠ D) → St i h → J i ys l → CompG s hb C D wr n St J k s'
theorem get_objs {h : Heap} : ∀ {wr : List Addr}, (∀ b ∈ wr, ∃ o, h.get? b = some o) → ∃ wo : List (Addr × Obj), wo.map (·.1) = wr ∧ ∀ p ∈ wo, h.get? p.1 = some p.2
  | [], _ => ⟨[], rfl, fun p hp => by cases hp⟩
  | b :: r, hx => by
    obtain ⟨o, ho⟩ := hx b (.head _)
    obtain ⟨wo, h1, h2⟩ := get_objs (wr := r) fun x hx' => hx x (.tail _ hx')
    exact ⟨(b, o) :: wo, by simp [h1], fun p hp => by rcases List.mem_cons.mp hp with rfl | hp; exact ho; exact h2 p hp⟩
theorem compA0 {elt target iter : PySem.Expr} {ifs : List PySem.Expr} {scope : Scope} {cl : List (Str × Addr)} {pos : PySem.Pos} {s : Shared} {h2 : Heap} {tk2 : Nat} {I : Addr} {wr : List Addr} {n : Nat} {St : Nat → Heap → Prop} {hb : Heap} {Bound : Nat → (Str → Option Value) → Prop} {RR : Value → Addr → Result → Shared → Prop}
    (V : Adv prog w A target env scope cl I wr n St hb Bound) (hn : n < 1000) (hsz : hb.objs.size ≤ h2.objs.size) (hk : ∀ b o, hb.get? b = some o → h2.get? b = some o) (hst : St 0 h2) (hwr : ∀ b ∈ wr, hb.get? b = none)
    (J : Nat → List Value → List (Addr × Obj) → Prop) (j0 : J 0 [] []) (jlen : ∀ i ys l, J i ys l → ys.length ≤ i)
    (hcell : ∀ y ∈ scope.names, y.2 ≠ .cell) (hkind : scope.kind = .function)
    (turn : ∀ i ys l h tk C D m' wo e, i < n → J i ys l → wo.map (·.1) = wr → (∀ b ∈ wr, @LT.lt Nat _ b D) → @LT.lt Nat _ D C → Fr hb C h m' → News hb C h (wo ++ (D, listOf ys.toArray e) :: l) → (∀ p ∈ l, p.1 ∉ wo.map (·.1) ∧ p.1 ≠ D) → Bound i m' →
      wpAny (model prog w) A (forIn ifs true fun c r => if r = true then do let ok ← isTrue c (compEnvC scope cl C env) (eval c (compEnvC scope cl C env)); pure (ForInStep.yield ok) else pure (ForInStep.yield r))
        (fun ok s₃ => if ok = true then wpAny (model prog w) A (eval elt (compEnvC scope cl C env)) (fun y s₄ => Halt (TurnG hb C D wo ys e s (J (i + 1) (ys ++ [y])) s₄)) (fun _ _ => False) s₃
          else Halt (TurnG hb C D wo ys e s (J (i + 1) ys) s₃)) (fun _ _ => False) { s with heap := h, toks := tk })
    (hRR : ∀ D C h' tk m' ys l e, J n ys l → h'.Ns C m' → h'.get? D = some (listOf ys.toArray e) → (∀ p ∈ l, h'.get? p.1 = some p.2 ∧ hb.get? p.1 = none ∧ p.1 ≠ C) → (∀ b o, hb.get? b = some o → h'.get? b = some o) → h2.objs.size ≤ D → @LT.lt Nat _ D C → RR (.ref D) C (.ok .next) { s with heap := h', toks := tk }) :
    wpAny (model prog w) A (newList []) (fun acc s₃ => wpAny (model prog w) A (newFunctionEnv scope env.globals cl [] env.qual none .none (some env)) (fun cenv s₄ =>
      codeAny (model prog w) A (.compStart (.ListComp elt [⟨target, iter, ifs, 0⟩] scope pos) 0 (.ref I) acc { cenv with scope := relabel scope env }) (RR acc cenv.locals) s₄) E s₃) E { s with heap := h2, toks := tk2 } := by
  refine wpAny_newObj_type (wpAny_newFunctionEnv hcell (by intro y hy; simp at hy) (fun h₁ hns₁ hsb₁ => ?_) hkind)
  dsimp only at hns₁ hsb₁ ⊢
  generalize hH2 : h2.push { cls := .type "list", dict := none, data := .seq ([] : List Value).toArray } = H2 at hns₁ hsb₁ ⊢
  have hC : H2.objs.size = h2.objs.size + 1 := by rw [← hH2, Heap.size_push]
  have hDC : h2.objs.size < H2.objs.size := by rw [hC]; exact Nat.lt_succ_self _
  generalize hD0 : h2.objs.size = D at hDC ⊢
  generalize hC0 : H2.objs.size = C at hns₁ hsb₁ hDC ⊢
  have hwlt : ∀ b ∈ wr, @LT.lt Nat _ b D := fun b hb => by obtain ⟨o, ho⟩ := V.live _ _ hst b hb; rw [← hD0]; exact Heap.lt_size ho
  have old : ∀ b o, h2.get? b = some o → h₁.get? b = some o := fun b o e => hsb₁.extBut b o (Nat.ne_of_lt (Nat.lt_trans (hD0 ▸ Heap.lt_size e) hDC)) (Heap.get?_push_of_some _ (hH2 ▸ Heap.get?_push_of_some _ e))
  have hacc : h₁.get? D = some (listOf #[] 0) := hsb₁.extBut _ _ (Nat.ne_of_lt hDC) (Heap.get?_push_of_some _ (hH2 ▸ hD0 ▸ Heap.get?_push_size _ rfl))
  have hst₁ : St 0 h₁ := V.frame _ _ _ hst hk fun b o _ e => old b o e
  have freshb : ∀ a, @LE.le Nat _ D a → hb.get? a = none := fun a ha => by
    cases e : hb.get? a with
    | none => rfl
    | some o' => exact absurd (Heap.lt_size (hk _ _ e)) (Nat.not_lt.mpr (hD0 ▸ ha))
  have hbs : hb.objs.size ≤ C := Nat.le_trans (hD0 ▸ hsz) (Nat.le_of_lt hDC)
  have hbC : ∀ b o, hb.get? b = some o → b ≠ C := fun b o e => Nat.ne_of_lt (Nat.lt_of_lt_of_le (Heap.lt_size e) hbs)
  have hbD : ∀ b o, hb.get? b = some o → b ≠ D := fun b o e q => by rw [q, freshb _ (Nat.le_refl _)] at e; cases e
  have hbW : ∀ b o, hb.get? b = some o → b ∉ wr := fun b o e q => by rw [hwr b q] at e; cases e
  have F₁ : Fr hb C h₁ (fun _ => none) := Fr.cong ⟨hns₁, fun b o e => old b o (hk b o e), hbs⟩ fun y => by simp
  have loop : ∀ tk, codeAny (model prog w) A (.compLoop (.ListComp elt [⟨target, iter, ifs, 0⟩] scope pos) 0 (.ref I) (.ref D) (compEnvC scope cl C env))
        (RR (.ref D) C) { s with heap := h₁, toks := tk } := by
    intro tk
    refine codeAny_compLoop_gen (I := CompG s hb C D wr n St J)
      (fun k s' hI => ?_) n ⟨0, [], [], h₁, tk, 0, _, Nat.zero_le _, rfl, rfl, F₁, fun p hp => by
        rcases List.mem_singleton.mp hp with rfl
        exact ⟨hacc, Nat.ne_of_lt hDC, freshb _ (Nat.le_refl _)⟩, by simp, hst₁, j0⟩
    obtain ⟨i, ys, l, h, tk, e, m', hi, hkk, rfl, F, N, hl, hSt, hJ⟩ := hI
    have hDl : ∀ p ∈ (D, listOf ys.toArray e) :: l, p.1 ∉ wr := fun p hp => by
      rcases List.mem_cons.mp hp with rfl | hp
      · exact fun q => Nat.lt_irrefl _ (hwlt D q)
      · exact (hl p hp).1
    by_cases hin : i < n
    · refine wpAny_mono (V.step C i _ m' (fun s₂ => wpAny (model prog w) A (forIn ifs true fun c r => if r = true then do let ok ← isTrue c (compEnvC scope cl C env) (eval c (compEnvC scope cl C env)); pure (ForInStep.yield ok) else pure (ForInStep.yield r)) (fun ok s₃ =>
            if ok = true then wpAny (model prog w) A (eval elt (compEnvC scope cl C env)) (fun x s₄ =>
              wpAny (model prog w) A (call (.builtin "list.append") [.ref D, x]) (fun _ s₅ => ∃ m, m < k ∧ CompG s hb C D wr n St J m s₅) (fun _ _ => False) s₄) (fun _ _ => False) s₃
            else ∃ m, m < k ∧ CompG s hb C D wr n St J m s₃) (fun _ _ => False) s₂) (fun b hb => Nat.lt_trans (hwlt b hb) hDC) hin hSt F.ns F.keep hbs fun h' tk' m'' hk' hn' hB hSt' => ?_) (fun r s₁ h₁ => ?_) fun _ _ x => x
      · have F' : Fr hb C h' m'' := ⟨hn', fun b o e => hk' b o (hbC b o e) (hbW b o e) (F.keep b o e), hbs⟩
        obtain ⟨wo, hwo, hwg⟩ := get_objs (V.live _ _ hSt')
        have N' : News hb C h' (wo ++ (D, listOf ys.toArray e) :: l) := fun p hp => by
          rcases List.mem_append.mp hp with hp | hp
          · have hm : p.1 ∈ wr := hwo ▸ List.mem_map_of_mem hp
            exact ⟨hwg p hp, Nat.ne_of_lt (Nat.lt_trans (hwlt _ hm) hDC), hwr _ hm⟩
          · have z := N p hp
            exact ⟨hk' _ _ z.2.1 (hDl p hp) z.1, z.2⟩
        refine wpAny_mono (turn i ys l h' tk' C D m'' wo e hin hJ hwo hwlt hDC F' N' (by rw [hwo]; exact hl) hB) (fun ok s₃ h₃ => ?_) fun _ _ x => x
        have back : ∀ {h3 : Heap}, (∀ b o, hb.get? b = some o → h3.get? b = some o) → (∀ p ∈ wo, h3.get? p.1 = some p.2) → St (i + 1) h3 := fun hb3 hw3 =>
          V.frame _ _ _ hSt' F'.keep fun b o hb eb => by
            rcases hb with hb | hb
            · obtain ⟨p, hp, rfl⟩ := List.mem_map.mp (hwo ▸ hb : b ∈ wo.map (·.1))
              have := hwg p hp
              rw [eb] at this; cases this
              exact hw3 p hp
            · exact hb3 _ _ hb
        cases ok with
        | false =>
          simp only [Bool.false_eq_true, if_false] at h₃ ⊢
          obtain ⟨h3, tk3, l3, m3, rfl, F3, N3, hl3, hJ3⟩ := h₃.go
          exact ⟨n - (i + 1), by omega, i + 1, ys, l3, h3, tk3, e, m3, hin, rfl, rfl, F3, fun p hp => N3 p (List.mem_append_right _ hp), hwo ▸ hl3, back F3.keep fun p hp => (N3 p (List.mem_append_left _ hp)).1, hJ3⟩
        | true =>
          simp only [if_true] at h₃ ⊢
          refine wpAny_mono h₃ (fun y s₄ h₄ => ?_) fun _ _ x => x
          obtain ⟨h3, tk3, l3, m3, rfl, F3, N3, hl3, hJ3⟩ := h₄.go
          have hyl := jlen _ _ _ hJ
          have hD3 := N3 _ (List.mem_append_right _ (.head _))
          refine append_at (its := ys.toArray) (n := e) (D := D) (hsz := by rw [List.size_toArray]; have := sizeLine_eq; omega) hD3.1 fun h4 hs4 ho4 => ?_
          refine ⟨n - (i + 1), by omega, i + 1, ys ++ [y], l3, h4, _, e + 1, m3, hin, rfl, rfl, F3.change hs4 hD3.2.1 hD3.2.2, fun p hp => ?_, hwo ▸ hl3, back (fun b o eb => hs4.extBut b o (hbD b o eb) (F3.keep b o eb)) (fun p hp => hs4.extBut _ _ ?_ (N3 p (List.mem_append_left _ hp)).1), hJ3⟩
          · rcases List.mem_cons.mp hp with rfl | hp
            · exact ⟨by simpa using ho4, hD3.2⟩
            · have z := N3 p (List.mem_append_right _ (.tail _ hp))
              exact ⟨hs4.extBut _ _ (hl3 p hp).2 z.1, z.2⟩
          · exact Nat.ne_of_lt (hwlt _ (hwo ▸ List.mem_map_of_mem hp))
      · cases r with
        | none => exact h₁.elim
        | some v => exact wpAny_mono h₁ (fun _ s₂ h₂ => wpAny_mono h₂ (fun _ s₃ h₃ => h₃) fun _ _ x => x) fun _ _ x => x
    · obtain rfl : i = n := by omega
      refine wpAny_mono (V.fin _ (fun s₁ => RR (.ref D) C (.ok .next) s₁) hSt fun h' tk' hkp => ?_) (fun r s₁ h₁ => ?_) fun _ _ x => x
      · refine hRR D C h' tk' m' ys l e hJ (F.ns.at' fun o e => hkp _ _ (fun q => Nat.lt_irrefl _ (Nat.lt_trans (hwlt _ q) hDC)) e) (hkp _ _ (hDl _ (.head _)) (N _ (.head _)).1) (fun p hp => ?_) (fun b o e => hkp b o (hbW b o e) (F.keep b o e)) (Nat.le_of_eq hD0) hDC
        have z := N p (.tail _ hp)
        exact ⟨hkp _ _ (hDl p (.tail _ hp)) z.1, z.2.2, z.2.1⟩
      · cases r with
        | none => exact h₁
        | some v => exact h₁.elim
  exact codeAny_compStart_list (loop _) (V.self 0 _ _ _ hst₁ (loop _))
theorem compA {elt target iter : PySem.Expr} {ifs : List PySem.Expr} {scope : Scope} {cl : List (Str × Addr)} {pos : PySem.Pos} {s : Shared} {h2 : Heap} {tk2 : Nat} {I : Addr} {wr : List Addr} {n : Nat} {St : Nat → Heap → Prop} {hb : Heap} {Bound : Nat → (Str → Option Value) → Prop} {Q : Value → Shared → Prop}
    (V : Adv prog w A target env scope cl I wr n St hb Bound) (hn : n < 1000) (hsz : hb.objs.size ≤ h2.objs.size) (hk : ∀ b o, hb.get? b = some o → h2.get? b = some o) (hst : St 0 h2) (hwr : ∀ b ∈ wr, hb.get? b = none)
    (J : Nat → List Value → List (Addr × Obj) → Prop) (j0 : J 0 [] []) (jlen : ∀ i ys l, J i ys l → ys.length ≤ i)
    (hcell : ∀ y ∈ scope.names, y.2 ≠ .cell) (hkind : scope.kind = .function)
    (turn : ∀ i ys l h tk C D m' wo e, i < n → J i ys l → wo.map (·.1) = wr → (∀ b ∈ wr, @LT.lt Nat _ b D) → @LT.lt Nat _ D C → Fr hb C h m' → News hb C h (wo ++ (D, listOf ys.toArray e) :: l) → (∀ p ∈ l, p.1 ∉ wo.map (·.1) ∧ p.1 ≠ D) → Bound i m' →
      wpAny (model prog w) A (forIn ifs true fun c r => if r = true then do let ok ← isTrue c (compEnvC scope cl C env) (eval c (compEnvC scope cl C env)); pure (ForInStep.yield ok) else pure (ForInStep.yield r))
        (fun ok s₃ => if ok = true then wpAny (model prog w) A (eval elt (compEnvC scope cl C env)) (fun y s₄ => Halt (TurnG hb C D wo ys e s (J (i + 1) (ys ++ [y])) s₄)) (fun _ _ => False) s₃
          else Halt (TurnG hb C D wo ys e s (J (i + 1) ys) s₃)) (fun _ _ => False) { s with heap := h, toks := tk })
    (hQ : ∀ D h' tk ys l e, J n ys l → h'.get? D = some (listOf ys.toArray e) → (∀ p ∈ l, h'.get? p.1 = some p.2 ∧ hb.get? p.1 = none) → (∀ b o, hb.get? b = some o → h'.get? b = some o) → h2.objs.size ≤ D → Q (.ref D) { s with heap := h', toks := tk }) :
    wpAny (model prog w) A (newList []) (fun acc s₃ => wpAny (model prog w) A (newFunctionEnv scope env.globals cl [] env.qual none .none (some env)) (fun cenv s₄ =>
      codeAny (model prog w) A (.compStart (.ListComp elt [⟨target, iter, ifs, 0⟩] scope pos) 0 (.ref I) acc { cenv with scope := relabel scope env }) (compPost (model prog w) A E none Q acc cenv.locals) s₄) E s₃) E { s with heap := h2, toks := tk2 } :=
  compA0 V hn hsz hk hst hwr J j0 jlen hcell hkind turn fun D C h' tk m' ys l e hJ hns hD hl hkb hDs hDC =>
    ⟨m', hns, fun h'' hs'' => hQ D h'' tk ys l e hJ (hs''.extBut _ _ (Nat.ne_of_lt hDC) hD) (fun p hp => ⟨hs''.extBut _ _ (hl p hp).2.2 (hl p hp).1, (hl p hp).2.1⟩)
      (fun b o e => hs''.extBut b o (Nat.ne_of_lt (Nat.lt_of_lt_of_le (Heap.lt_size e) (Nat.le_trans hsz (Nat.le_trans hDs (Nat.le_of_lt hDC))))) (hkb b o e)) hDs⟩
theorem evalCompG {s : Shared} {elt target iter : PySem.Expr} {ifs : List PySem.Expr} {scope : Scope} {cl : List (Str × Addr)} {pos : PySem.Pos} {Q : Value → Shared → Prop}
    (hclos : closureFor scope env = pure cl) (hkind : scope.kind = .function) (hnames : ∀ x ∈ scope.names, x.2 = .local → scope.names.lookup x.1 = some .local) (hs : ∀ x, foldedSetIterable iter env x = pure x)
    (h : wpAny (model prog w) A (eval iter env) (fun x₁ s₁ => wpAny (model prog w) A (pyIter x₁) (fun it s₂ => wpAny (model prog w) A (newList []) (fun acc s₃ =>
      wpAny (model prog w) A (newFunctionEnv scope env.globals cl [] env.qual none .none (some env)) (fun cenv s₄ =>
        codeAny (model prog w) A (.compStart (.ListComp elt [⟨target, iter, ifs, 0⟩] scope pos) 0 it acc { cenv with scope := relabel scope env }) (compPost (model prog w) A E none Q acc cenv.locals) s₄) E s₃) E s₂) E s₁) E s) :
    wpAny (model prog w) A (eval (.ListComp elt [⟨target, iter, ifs, 0⟩] scope pos) env) Q E s := by
  rw [eval_ListComp]
  exact wpAny_comprehension_free (use := none) rfl hs hclos hkind hnames h
end
end
-- K1
section
section
variable {prog : Program} {w : World} {A : Around} {E : Value → Shared → Prop} {s : Shared} {env : Env} {scope : Scope} {cl : List (Str × Addr)} {hb : Heap}
theorem adv_name {x : Str} {px : PySem.Pos} {I : Addr} {fp : List Addr} {n : Nat} {P : Nat → Value → Prop} {St : Nat → Heap → Prop}
    (W : Walks prog w A I fp [I] n P St) (hfp : ∀ b ∈ fp, b = I ∨ ∃ o, hb.get? b = some o) (hat : ∀ i h, St i h → ∃ o, h.get? I = some o) (hkind : scope.kind = .function) (hx : scope.names.lookup x = some .local) :
    Adv prog w A (.Name x px) env scope cl I [I] n St hb (fun i m => ∃ v, P i v ∧ m x = some v) where
  step := fun C i s m' Q hlt hin hSt hns hk hbs hQ => by
    have hIC := hlt I (by simp)
    refine W.item i s _ _ hin hSt fun v h' tk hP hSt' hkp => ?_
    have hkp' : ∀ b o, b ≠ I → s.heap.get? b = some o → h'.get? b = some o := fun b o hb' e' => hkp b o (by simpa using hb') e'
    refine wpAny_pure ?_
    have hxC : (compEnvC scope cl C env).kindOf x = some .local := lookup_relabel_local hx
    refine wpAny_assign_Name (wpAny_storeName_local hxC (hns.at' fun o e => hkp' _ o (Nat.ne_of_gt hIC) e) (fun h₂ hn₂ hs₂ => ?_) (by simp [compEnvC, relabel, hkind]))
    have hs₂' : Heap.SameBut C h' h₂ := hs₂
    refine hQ h₂ _ _ (fun b o h1 h2 e => hs₂'.extBut b o h1 (hkp' b o (by simpa using h2) e)) hn₂ ⟨v, hP, by simp⟩ (W.frame _ _ _ hSt' fun b hb' o e => hs₂'.extBut b o ?_ e)
    rcases hfp b hb' with rfl | ⟨o', ho'⟩
    · exact Nat.ne_of_lt hIC
    · exact Nat.ne_of_lt (Nat.lt_of_lt_of_le (Heap.lt_size ho') hbs)
  fin := fun s Q hSt hQ => W.done s _ _ hSt fun h' tk hkp => hQ h' tk hkp
  frame := fun i h h' hSt hbk hk => W.frame _ _ _ hSt fun b hb' o e => by
    rcases hfp b hb' with rfl | ⟨o', ho'⟩
    · exact hk _ _ (.inl (by simp)) e
    · have := hbk _ _ ho'
      rw [e] at this; cases this
      exact hk _ _ (.inr ho') e
  inn := by simp
  live := fun i h hSt b hb' => by rcases List.mem_singleton.mp hb' with rfl; exact hat _ _ hSt
  self := fun i s Q E hSt hQ => W.self i s Q E hSt hQ
theorem adv_pair {x y : Str} {px py pt : PySem.Pos} {k : Nat} {I l : Addr} {items : Array Value} (hh : A.handled = none) (hl : hb.IsList l items) (hlI : l ≠ I) (hti : ∀ (i : Nat) (v : Value), items[i]? = some v → ∃ (t : Addr) (v1 v2 : Value), v = Value.ref t ∧ IsTup hb t #[v1, v2]) (hkind : scope.kind = .function) (hx : scope.names.lookup x = some .local) (hy : scope.names.lookup y = some .local) :
    Adv prog w A (.Tuple [.Name x px, .Name y py] k pt) env scope cl I [I] items.size (fun i h => h.IsListIter I l i ∧ h.IsList l items) hb (fun i m => ∃ (t : Addr) (v1 v2 : Value), items[i]? = some (Value.ref t) ∧ IsTup hb t #[v1, v2] ∧ m y = some v2 ∧ (y ≠ x → m x = some v1)) where
  step := fun C i s m' Q hlt hin hSt hns hk hbs hQ => by
    have hIC := hlt I (by simp)
    have W := Walks.list (prog := prog) (w := w) hh I l hlI items
    refine W.item i s _ _ hin hSt fun v h' tk hP hSt' hkp => ?_
    have hkp' : ∀ b o, b ≠ I → s.heap.get? b = some o → h'.get? b = some o := fun b o hb' e' => hkp b o (by simpa using hb') e'
    obtain ⟨t, v1, v2, rfl, ht⟩ := hti i v hP
    have hbI : ∀ b o, hb.get? b = some o → h'.get? b = some o ∨ b = I := fun b o e => by
      by_cases q : b = I
      · exact .inr q
      · exact .inl (hkp' b o q (hk b o e))
    have htI : t ≠ I := fun q => by
      obtain ⟨o, ho, hc, _⟩ := ht
      obtain ⟨oI, hoI, hcI, _⟩ := hSt.1
      have := hk _ _ ho
      rw [q, hoI] at this; cases this
      rw [hcI] at hc; exact absurd hc (by decide)
    have ht' : IsTup h' t #[v1, v2] := by
      obtain ⟨o, ho, hc, hd⟩ := ht
      exact ⟨o, hkp' _ _ htI (hk _ _ ho), hc, hd⟩
    refine wpAny_letOwnedTupleGo_listiter hSt'.1 ?_
    have hbn : hb.get? I = none ∨ True := .inr trivial
    have F : Fr (hideAll hb [I]) C h' m' := ⟨hns.at' fun o e => hkp' _ o (Nat.ne_of_gt hIC) e, fun b o e => hkp' b o (fun q => by rw [q, hideAll_none _ (by simp)] at e; cases e) (hk _ _ (of_hideAll _ e)), by rw [hideAll_size]; exact hbs⟩
    refine assign2 hh rfl F ht' (lookup_relabel_local hx) (lookup_relabel_local hy) (by simp [compEnvC, relabel, hkind]) fun h2 tk2 hk2 F2 => ?_
    refine hQ h2 _ _ (fun b o h1 h2' e => hk2 b o h1 (hkp' b o (by simpa using h2') e)) F2.ns ⟨t, v1, v2, hP, ht, by simp, fun q => by simp [Ne.symm q]⟩ (W.frame _ _ _ hSt' fun b hb' o e => hk2 b o ?_ e)
    rcases List.mem_cons.mp hb' with rfl | hb'
    · exact Nat.ne_of_lt hIC
    · rcases List.mem_singleton.mp hb' with rfl
      obtain ⟨o', ho', _⟩ := hl
      exact Nat.ne_of_lt (Nat.lt_of_lt_of_le (Heap.lt_size ho') hbs)
  fin := fun s Q hSt hQ => (Walks.list (prog := prog) (w := w) hh I l hlI items).done s _ _ hSt fun h' tk hkp => hQ h' tk hkp
  frame := fun i h h' hSt hbk hk => (Walks.list (prog := prog) (w := w) hh I l hlI items).frame _ _ _ hSt fun b hb' o e => by
    rcases List.mem_cons.mp hb' with rfl | hb'
    · exact hk _ _ (.inl (by simp)) e
    · rcases List.mem_singleton.mp hb' with rfl
      obtain ⟨o', ho', _⟩ := hl
      have := hbk _ _ ho'
      rw [e] at this; cases this
      exact hk _ _ (.inr ho') e
  inn := by simp
  live := fun i h hSt b hb' => by rcases List.mem_singleton.mp hb' with rfl; obtain ⟨o, ho, _⟩ := hSt.1; exact ⟨o, ho⟩
  self := fun i s Q E hSt hQ => (Walks.list (prog := prog) (w := w) hh I l hlI items).self i s Q E hSt hQ
theorem adv_enum {x y : Str} {px py pt : PySem.Pos} {k : Nat} {e it l : Addr} {items : Array Value} (hh : A.handled = none) (hl : hb.IsList l items) (hei : e ≠ it) (hle : l ≠ e) (hli : l ≠ it) (hkind : scope.kind = .function) (hx : scope.names.lookup x = some .local) (hy : scope.names.lookup y = some .local) :
    Adv prog w A (.Tuple [.Name x px, .Name y py] k pt) env scope cl e [e, it] items.size (fun i h => (∃ old, IsEnum h e it i old) ∧ h.IsListIter it l i ∧ h.IsList l items) hb (fun i m => ∃ (t : Tok) (v : Value), items[i]? = some v ∧ m y = some v ∧ (y ≠ x → m x = some (.int i t))) where
  step := fun C i s m' Q hlt hin hSt hns hk hbs hQ => by
    have heC := hlt e (by simp)
    have hiC := hlt it (by simp)
    have W := WalksT.enumerateD (prog := prog) (w := w) (A := A) (Draws.list (prog := prog) (w := w) (A := A.in1) hh it l hli items) e hei (by simp [hei, Ne.symm hle]) (by simp)
    have hCs := hns.lt
    refine W.item i s _ _ hin hSt fun T vals h' tk hP hT hTt hMid hkp => ?_
    obtain ⟨t, v, hv, rfl⟩ := hP
    refine W.go _ _ _ i T _ _ _ hMid fun h1 hSt1 hk1 => ?_
    have hTw := W.apart _ _ _ hMid
    have ht' : IsTup h1 T #[.int i t, v] := by
      obtain ⟨o, ho, hc, hd⟩ := hTt
      exact ⟨o, hk1 _ _ hTw ho, hc, hd⟩
    have hkp' : ∀ b o, b ∉ [e, it] → s.heap.get? b = some o → h1.get? b = some o := fun b o hb' e' => hk1 b o hb' (hkp b o hb' e')
    have hCw : C ∉ [e, it] := by simp only [List.mem_cons, List.not_mem_nil, or_false, not_or]; exact ⟨Nat.ne_of_gt heC, Nat.ne_of_gt hiC⟩
    have F : Fr (hideAll hb [e, it]) C h1 m' := ⟨hns.at' fun o e => hkp' _ o hCw e, fun b o e => hkp' b o (fun q => by rw [hideAll_none _ q] at e; cases e) (hk _ _ (of_hideAll _ e)), by rw [hideAll_size]; exact hbs⟩
    refine assign2 hh rfl F ht' (lookup_relabel_local hx) (lookup_relabel_local hy) (by simp [compEnvC, relabel, hkind]) fun h2 tk2 hk2 F2 => ?_
    refine hQ h2 _ _ (fun b o h1' h2' e => hk2 b o h1' (hkp' b o h2' e)) F2.ns ⟨t, v, hv, by simp, fun q => by simp [Ne.symm q]⟩ (W.frame _ _ _ hSt1 fun b hb' o e => hk2 b o ?_ e)
    rcases List.mem_cons.mp hb' with rfl | hb'
    · exact Nat.ne_of_lt heC
    · rcases List.mem_cons.mp hb' with rfl | hb'
      · exact Nat.ne_of_lt hiC
      · rcases List.mem_singleton.mp hb' with rfl
        obtain ⟨o', ho', _⟩ := hl
        exact Nat.ne_of_lt (Nat.lt_of_lt_of_le (Heap.lt_size ho') hbs)
  fin := fun s Q hSt hQ => (WalksT.enumerateD (prog := prog) (w := w) (A := A) (Draws.list (prog := prog) (w := w) (A := A.in1) hh it l hli items) e hei (by simp [hei, Ne.symm hle]) (by simp)).done s _ _ hSt fun h' tk hkp => hQ h' tk hkp
  frame := fun i h h' hSt hbk hk => (WalksT.enumerateD (prog := prog) (w := w) (A := A) (Draws.list (prog := prog) (w := w) (A := A.in1) hh it l hli items) e hei (by simp [hei, Ne.symm hle]) (by simp)).frame _ _ _ hSt fun b hb' o e' => by
    rcases List.mem_cons.mp hb' with rfl | hb'
    · exact hk _ _ (.inl (by simp)) e'
    · rcases List.mem_cons.mp hb' with rfl | hb'
      · exact hk _ _ (.inl (by simp)) e'
      · rcases List.mem_singleton.mp hb' with rfl
        obtain ⟨o', ho', _⟩ := hl
        have := hbk _ _ ho'
        rw [e'] at this; cases this
        exact hk _ _ (.inr ho') e'
  inn := by simp
  live := fun i h hSt b hb' => by
    rcases List.mem_cons.mp hb' with rfl | hb'
    · obtain ⟨⟨old, ho⟩, _⟩ := hSt; exact ⟨_, ho⟩
    · rcases List.mem_singleton.mp hb' with rfl
      obtain ⟨_, ⟨o, ho, _⟩, _⟩ := hSt; exact ⟨o, ho⟩
  self := fun i s Q E hSt hQ => (WalksT.enumerateD (prog := prog) (w := w) (A := A) (Draws.list (prog := prog) (w := w) (A := A.in1) hh it l hli items) e hei (by simp [hei, Ne.symm hle]) (by simp)).self i s Q E hSt hQ
end
end
-- K2
section
noncomputable def lawBody : List Stmt := match PySem.Challenge.pw_pe0169_01.main.body.getLast? with
  | some (.FunctionDef _ _ b _ _ _ _ _ _ _) => b
  | _ => []
noncomputable def lawScope : Scope := match PySem.Challenge.pw_pe0169_01.main.body.getLast? with
  | some (.FunctionDef _ _ _ _ _ _ sc _ _ _) => sc
  | _ => default
noncomputable abbrev lawEnv (L : Addr) : Env := envOfC "law" lawScope L 225 (.ref 224)
noncomputable abbrev lawCS (L : Addr) : List (Str × Addr) := cellsFrom (L + 1) lawScope.names []
noncomputable def Vol (L : Addr) (mu : List Addr) : List Addr := L :: 140 :: 147 :: ((lawCS L).map (·.2) ++ mu)
noncomputable abbrev frz (L : Addr) (mu : List Addr) (h : Heap) : Heap := hideAll h (Vol L mu)
/-- the law's frame: its locals, its cells; all else stands -/
structure LF (base : Heap) (L : Addr) (mu : List Addr) (h : Heap) (ms cs : List (Str × Option Value)) : Prop where
  F : Fr base L h (mp ms)
  C : Cl L (lawCS L) h (mp cs)
  tab : TabAt h
  vb : ∀ v ∈ Vol L mu, base.get? v = none
  lt : ∀ v ∈ Vol L mu, ∃ o, h.get? v = some o
  low : @LT.lt Nat _ 147 L
theorem frz_of {L : Addr} {mu : List Addr} {h h' : Heap} (hk : ∀ b o, b ∉ Vol L mu → h.get? b = some o → h'.get? b = some o) : ∀ b o, (frz L mu h).get? b = some o → (frz L mu h').get? b = some o := fun b o e => by
  have hb : b ∉ Vol L mu := fun hm => by rw [hideAll_none _ hm] at e; cases e
  exact hideAll_get _ (hk b o hb (of_hideAll _ e)) hb
theorem tabAt_but {h h' : Heap} (x : TabAt h) (hk : ∀ b o, (b = 140 ∨ b = 147) → h.get? b = some o → h'.get? b = some o) : TabAt h' := by
  obtain ⟨t1, t2, a, b, c, d⟩ := x
  exact ⟨t1, t2, hk _ _ (.inl rfl) a, hk _ _ (.inr rfl) b, c, d⟩
section
variable {base h h' : Heap} {L : Addr} {mu : List Addr} {ms cs : List (Str × Option Value)}
theorem LF.cell_gt (X : LF base L mu h ms cs) {c : Addr} (hc : c ∈ (lawCS L).map (·.2)) : L < c := by
  obtain ⟨p, hp, rfl⟩ := List.mem_map.mp hc
  exact X.C.above p.1 p.2 hp
theorem LF.base_frz (X : LF base L mu h ms cs) : ∀ b o, base.get? b = some o → (frz L mu h).get? b = some o := fun b o e =>
  hideAll_get _ (X.F.keep b o e) fun hm => by rw [X.vb b hm] at e; cases e
theorem LF.grow (X : LF base L mu h ms cs) (hk : ∀ b o, h.get? b = some o → h'.get? b = some o) : LF base L mu h' ms cs :=
  ⟨⟨X.F.ns.at' fun o e => hk _ o e, fun b o e => hk _ _ (X.F.keep b o e), X.F.above⟩, X.C.keeps hk, tabAt_but X.tab fun b o _ e => hk _ _ e, X.vb, fun v hv => let ⟨o, ho⟩ := X.lt v hv; ⟨o, hk _ _ ho⟩, X.low⟩
theorem LF.fresh (X : LF base L mu h ms cs) {D : Addr} (hD : h.get? D = none) : D ∉ Vol L mu := fun hm => by
  obtain ⟨o, ho⟩ := X.lt D hm
  rw [hD] at ho; cases ho
theorem LF.fresh_ge (X : LF base L mu h ms cs) {D : Addr} (hD : h.objs.size ≤ D) : D ∉ Vol L mu := fun hm => by
  obtain ⟨o, ho⟩ := X.lt D hm
  exact absurd (Heap.lt_size ho) (Nat.not_lt.mpr hD)
/-- a callee that writes the tables -/
theorem LF.tabs (X : LF base L mu h ms cs) (hk : ∀ b o, b ∉ [140, 147] → h.get? b = some o → h'.get? b = some o) (hT : TabAt h') : LF base L mu h' ms cs ∧ (∀ b o, (frz L mu h).get? b = some o → (frz L mu h').get? b = some o) := by
  have hlow := X.low
  have big : ∀ v, L < v → v ∉ ([140, 147] : List Addr) := fun v hv hm => by
    have hv' : @LT.lt Nat _ L v := hv
    simp only [List.mem_cons, List.not_mem_nil, or_false] at hm
    rcases hm with h | h <;> (rw [h] at hv'; omega)
  have hLo : L ∉ ([140, 147] : List Addr) := fun hm => by
    simp only [List.mem_cons, List.not_mem_nil, or_false] at hm
    rcases hm with h | h <;> (rw [h] at hlow; exact absurd hlow (by decide))
  have hb : ∀ b o, base.get? b = some o → b ∉ ([140, 147] : List Addr) := fun b o e hm => by
    have : b ∈ Vol L mu := by
      simp only [List.mem_cons, List.not_mem_nil, or_false] at hm
      rcases hm with rfl | rfl <;> simp [Vol]
    rw [X.vb b this] at e; cases e
  refine ⟨⟨⟨X.F.ns.at' fun o e => hk _ o hLo e, fun b o e => hk b o (hb b o e) (X.F.keep b o e), X.F.above⟩, ⟨fun n c e => ?_, X.C.apart, X.C.above⟩, hT, X.vb, fun v hv => ?_, X.low⟩, frz_of fun b o hb' e => hk b o (fun hm => hb' ?_) e⟩
  · obtain ⟨o, ho, hd⟩ := X.C.cell n c e
    exact ⟨o, hk c o (big c (X.C.above n c (mem_of_lookup e))) ho, hd⟩
  · by_cases hm : v ∈ ([140, 147] : List Addr)
    · obtain ⟨t1, t2, a, b, _⟩ := hT
      simp only [List.mem_cons, List.not_mem_nil, or_false] at hm
      rcases hm with rfl | rfl
      · exact ⟨_, a⟩
      · exact ⟨_, b⟩
    · obtain ⟨o, ho⟩ := X.lt v hv
      exact ⟨o, hk v o hm ho⟩
  · simp only [List.mem_cons, List.not_mem_nil, or_false] at hm
    rcases hm with rfl | rfl <;> simp [Vol]
/-- one more list that will be written -/
theorem LF.more (X : LF base L mu h ms cs) {D : Addr} {o : Obj} (hb : base.get? D = none) (hD : h.get? D = some o) : LF base L (D :: mu) h ms cs := by
  have split : ∀ v, v ∈ Vol L (D :: mu) → v = D ∨ v ∈ Vol L mu := fun v hv => by
    simp only [Vol, List.mem_cons, List.mem_append] at hv ⊢
    rcases hv with h | h | h | h | h | h <;> simp [h]
  refine ⟨X.F, X.C, X.tab, fun v hv => ?_, fun v hv => ?_, X.low⟩
  · rcases split v hv with rfl | hv
    · exact hb
    · exact X.vb v hv
  · rcases split v hv with rfl | hv
    · exact ⟨o, hD⟩
    · exact X.lt v hv
theorem LF.less (X : LF base L mu h ms cs) {mu' : List Addr} (hs : ∀ x ∈ mu', x ∈ mu) : LF base L mu' h ms cs := by
  have sub : ∀ v, v ∈ Vol L mu' → v ∈ Vol L mu := fun v hv => by
    simp only [Vol, List.mem_cons, List.mem_append] at hv ⊢
    rcases hv with h | h | h | h | h
    · simp [h]
    · simp [h]
    · simp [h]
    · simp [h]
    · simp [hs v h]
  exact ⟨X.F, X.C, X.tab, fun v hv => X.vb v (sub v hv), fun v hv => X.lt v (sub v hv), X.low⟩
/-- a list of the law's that is written -/
theorem LF.write (X : LF base L mu h ms cs) {D : Addr} (hD : D ∈ mu) (hs : Heap.SameBut D h h') (hL : D ≠ L) (hc : D ∉ (lawCS L).map (·.2)) (ht : D ≠ 140 ∧ D ≠ 147) (hd : ∃ o, h'.get? D = some o) : LF base L mu h' ms cs ∧ (∀ b o, (frz L mu h).get? b = some o → (frz L mu h').get? b = some o) := by
  have hDv : D ∈ Vol L mu := by simp [Vol, hD]
  refine ⟨⟨⟨X.F.ns.sameBut hs (Ne.symm hL), fun b o e => hs.extBut b o (fun q => by rw [q, X.vb D hDv] at e; cases e) (X.F.keep b o e), X.F.above⟩, ⟨fun n c e => ?_, X.C.apart, X.C.above⟩, tabAt_but X.tab fun b o hb e => hs.extBut b o (fun q => ?_) e, X.vb, fun v hv => ?_, X.low⟩, frz_of fun b o hb e => hs.extBut b o (fun q => hb (q ▸ hDv)) e⟩
  · exact (X.C.cell n c e).sameBut hs fun q => hc (q ▸ List.mem_map_of_mem (f := Prod.snd) (mem_of_lookup e))
  · rcases hb with rfl | rfl
    · exact ht.1 q.symm
    · exact ht.2 q.symm
  · by_cases q : v = D
    · subst q; exact hd
    · obtain ⟨o, ho⟩ := X.lt v hv
      exact ⟨o, hs.extBut v o q ho⟩
end
section
variable {M : Model} {A : Around} {E : Value → Shared → Prop} {s : Shared} {base : Heap} {L : Addr} {mu : List Addr} {ms cs : List (Str × Option Value)} {x : Str} {v : Value}
theorem law_storeL {Q : Unit → Shared → Prop} (X : LF base L mu s.heap ms cs) (hx : (lawEnv L).kindOf x = some .local)
    (h : ∀ h', LF base L mu h' (put x (some v) ms) cs → (∀ b o, (frz L mu s.heap).get? b = some o → (frz L mu h').get? b = some o) → Heap.SameBut L s.heap h' → Q () { s with heap := h', toks := s.toks + 1 }) :
    wpAny M A (storeName (lawEnv L) x v) Q E s := by
  have hlow := X.low
  refine wpAny_storeName_local hx X.F.ns (fun h' hn hs => ?_) rfl
  have hs' : Heap.SameBut L s.heap h' := hs
  refine h h' ⟨Fr.cong (X.F.set hn hs) fun y => mp_put x y v ms, X.C.sameBut hs' (Nat.le_refl _), tabAt_but X.tab fun b o hb e => hs'.extBut b o (fun q => ?_) e, X.vb, fun u hu => ?_, X.low⟩ (frz_of fun b o hb e => hs'.extBut b o (fun q => hb (q ▸ .head _)) e) hs'
  · rw [← q] at hlow
    rcases hb with rfl | rfl <;> exact absurd hlow (by decide)
  · by_cases q : u = L
    · subst q; obtain ⟨o, _, _, ho, _⟩ := hn; exact ⟨o, ho⟩
    · obtain ⟨o, ho⟩ := X.lt u hu
      exact ⟨o, hs'.extBut u o q ho⟩
theorem law_storeC {Q : Unit → Shared → Prop} {c : Addr} (X : LF base L mu s.heap ms cs) (hx : (lawEnv L).kindOf x = some .cell) (hc : (lawCS L).lookup x = some c)
    (h : ∀ h', LF base L mu h' ms (put x (some v) cs) → (∀ b o, (frz L mu s.heap).get? b = some o → (frz L mu h').get? b = some o) → Heap.SameBut c s.heap h' → Q () { s with heap := h' }) :
    wpAny M A (storeName (lawEnv L) x v) Q E s := by
  have hlow := X.low
  have hLc : L < c := X.C.above x c (mem_of_lookup hc)
  have hcm : c ∈ (lawCS L).map (·.2) := List.mem_map_of_mem (f := Prod.snd) (mem_of_lookup hc)
  have hcv : c ∈ Vol L mu := by simp only [Vol, List.mem_cons, List.mem_append]; exact .inr (.inr (.inr (.inl hcm)))
  refine wpAny_storeName_cell rfl hx hc (X.C.cell x c hc) fun h' hv hs => ?_
  refine h h' ⟨⟨X.F.ns.sameBut hs (Nat.ne_of_lt hLc), fun b o e => hs.extBut b o (fun q => by rw [q, X.vb c hcv] at e; cases e) (X.F.keep b o e), X.F.above⟩, ⟨fun n c' e => ?_, X.C.apart, X.C.above⟩, tabAt_but X.tab fun b o hb e => hs.extBut b o (fun q => ?_) e, X.vb, fun u hu => ?_, X.low⟩ (frz_of fun b o hb e => hs.extBut b o (fun q => hb (q ▸ hcv)) e) hs
  · rw [← mp_put]
    by_cases hn : n = x
    · subst hn; rw [hc] at e; cases e; simpa using hv
    · have hcc : c' ≠ c := fun q => hn (name_of_addr X.C.apart (mem_of_lookup e) (q ▸ mem_of_lookup hc))
      simpa [hn] using (X.C.cell n c' e).sameBut hs hcc
  · rw [← q] at hLc
    have : @LT.lt Nat _ L b := hLc
    rcases hb with rfl | rfl <;> omega
  · by_cases q : u = c
    · subst q; obtain ⟨o, ho, _⟩ := hv; exact ⟨o, ho⟩
    · obtain ⟨o, ho⟩ := X.lt u hu
      exact ⟨o, hs.extBut u o q ho⟩
end
end
local macro_rules | `(tactic| walk_at "nm5") => `(tactic| k_dflt (refine nmL (by assumption) rfl rfl rfl (by assumption) ?_))
-- L1
section
theorem anew_L1 : True := by
  w_top off
  exact True.intro
theorem nmF {M : Model} {A : Around} {E : Value → Shared → Prop} {s : Shared} {h₀ : Heap} {L c : Addr} {m : Str → Option Value} {env : Env} {x : Str} {pos : PySem.Pos} {v : Value} {Q : Value → Shared → Prop} (F : Fr h₀ L s.heap m) (hk : env.scope.kind = .function) (hx : env.kindOf x = some .cell) (hc : env.cells.lookup x = some c) (ho : h₀.IsCell c (some v)) (h : Q v s) (hd : (x == ("__debug__" : Str)) = false := by decide) :
    wpAny M A (eval (.Name x pos) env) Q E s := wpAny_Name (wpAny_loadName_cell hk hx hc (ho.keeps F.keep) h) hd
theorem newList_step {M : Model} {A : Around} {E : Value → Shared → Prop} {s : Shared} {vs : List Value} {Q : Value → Shared → Prop} (h : ∀ D h', D = s.heap.objs.size → (∀ b o, s.heap.get? b = some o → h'.get? b = some o) → h'.get? D = some (listOf vs.toArray 0) → h'.objs.size = s.heap.objs.size + 1 → Q (.ref D) { s with heap := h' }) (hz : vs.length < 1000) :
    wpAny M A (newList vs) Q E s := by
  have hline := sizeLine_eq
  exact wpAny_newObj_type (h _ _ rfl (fun b o e => Heap.get?_push_of_some _ e) (Heap.get?_push_size _ rfl) (Heap.size_push ..)) (by show vs.toArray.size ≤ sizeLine; rw [List.size_toArray]; omega)
theorem ints_mem {vs : List Value} {ns : List Int} (h : IntsAre vs ns) : ∀ v ∈ vs, ∃ k t, v = Value.int k t := by
  induction h with
  | nil => intro v hv; cases hv
  | cons n t _ ih =>
    intro v hv
    rcases List.mem_cons.mp hv with rfl | hv
    · exact ⟨_, _, rfl⟩
    · exact ih v hv
theorem pick_mem {items : Array Value} {lo hi st : Option Int} {v : Value} {i : Nat} (h : (slicePick items lo hi st)[i]? = some v) : v ∈ items.toList := by
  unfold slicePick at h
  rw [List.getElem?_toArray] at h
  obtain ⟨j, _, hj⟩ := List.mem_filterMap.mp (List.mem_of_getElem? h)
  rw [← Array.getElem?_toList] at hj
  exact List.mem_of_getElem? hj
theorem sum_bnd : ∀ {l : List Int} {B : Int}, (∀ n ∈ l, 0 ≤ n ∧ n < B) → 0 ≤ l.sum ∧ l.sum ≤ B * l.length
  | [], B, _ => by simp
  | a :: r, B, h => by
    have h1 := sum_bnd (l := r) (B := B) fun n hn => h n (.tail _ hn)
    have h2 := h a (.head _)
    simp only [List.sum_cons, List.length_cons]
    have e : B * ((r.length + 1 : Nat) : Int) = B * (r.length : Int) + B := by rw [Int.natCast_add, Int.mul_add]; simp
    rw [e]
    omega
section
local macro_rules | `(tactic| walk_at $s) => if among "pyIter ref|call builtin:sum|newList|call type:enumerate|eval ListComp" s then `(tactic| refine Halt.go ?_) else Lean.Macro.throwUnsupported
local macro_rules | `(tactic| walk_at "eval Name") => `(tactic| first | walk_at "nm5" | walk_at "nm0")
local macro_rules | `(tactic| walk_at "eval Name") => `(tactic| k_dflt (refine nmF (by assumption) rfl rfl rfl (by with_reducible assumption) ?_))
set_option maxHeartbeats 400000 in
theorem law_s0 {w : World} {mean : ExcName → Option Value} {mg mb : Str → Option Value} {p : Program} {loose : List Str} {A : Around} {s : Shared} {E : Value → Shared → Prop} {Q : Flow → Shared → Prop} {base : Heap} {L S : Addr} {vs : List Value} {ns : List Int} {ms cs : List (Str × Option Value)}
  (X : Frag.In (hd.heap_1 w.params) base) (T : Top p loose mean mg mb base) (hA : Ok A 200 2000) (Y : LF base L [] s.heap ms cs) (hscr : mp cs "script" = some (.ref S)) (hl : base.IsList S vs.toArray) (hS : IntsAre vs ns) (hlen : ns.length ≤ 63)
  (h : ∀ h' tk' D vs' ns', LF base L [] h' ms (put "cells" (some (.ref D)) cs) → (∀ b o, (frz L [] s.heap).get? b = some o → (frz L [] h').get? b = some o) → (frz L [] h').IsList D vs'.toArray → IntsAre vs' ns' → ns'.length = 6 → (∀ n ∈ ns', -(2 ^ 40) < n ∧ n < 2 ^ 40) →
    wpC (model PySem.Challenge.rw_pe0169_01.row.prog w) A (execs (lawBody.drop 1) (lawEnv L)) Q E { s with heap := h', toks := tk' }) :
  wpC (model PySem.Challenge.rw_pe0169_01.row.prog w) A (execs lawBody (lawEnv L)) Q E s := by
  have hh := hA.h
  revert X
  k_fill
  intro X
  have hsc : lawScope = lawScope := rfl
  conv at hsc => rhs; whnf
  dsimp only [lawEnv]
  rw [hsc]
  refine execsC_cons (AssignC_Name (wpC_of_any ?_))
  refine evalCompG (cl := [("script", L + 1)]) ?_ rfl (by decide) (by intro _; rfl) ?_
  · rfl
  have F := Y.F
  have N : News base L s.heap [] := News.nil
  refine callA ?_
  walk1
  k_steps
  refine Halt.on ?_
  refine newList_step (fun D H hD hgr hl0 hHs => ?_) (by show 6 < 1000; decide)
  have hIA : ∀ v ∈ [Value.int 6 s.toks, Value.int 0 (s.toks + 1), Value.int 1 (s.toks + 1 + 1), Value.int 2 (s.toks + 1 + 1 + 1), Value.int 3 (s.toks + 1 + 1 + 1 + 1), Value.int 1 (s.toks + 1 + 1 + 1 + 1 + 1)], ∃ k t, v = .int k t ∧ 0 ≤ k ∧ k < 10 := by
    intro v hv
    simp only [List.mem_cons, List.not_mem_nil, or_false] at hv
    rcases hv with rfl | rfl | rfl | rfl | rfl | rfl <;> exact ⟨_, _, rfl, by decide, by decide⟩
  have hlen6 : [Value.int 6 s.toks, Value.int 0 (s.toks + 1), Value.int 1 (s.toks + 1 + 1), Value.int 2 (s.toks + 1 + 1 + 1), Value.int 3 (s.toks + 1 + 1 + 1 + 1), Value.int 1 (s.toks + 1 + 1 + 1 + 1 + 1)].length = 6 := rfl
  generalize [Value.int 6 s.toks, Value.int 0 (s.toks + 1), Value.int 1 (s.toks + 1 + 1), Value.int 2 (s.toks + 1 + 1 + 1), Value.int 3 (s.toks + 1 + 1 + 1 + 1), Value.int 1 (s.toks + 1 + 1 + 1 + 1 + 1)] = itl at hIA hl0 hlen6
  have Y1 := Y.grow hgr
  have hli : H.IsList D itl.toArray := ⟨_, hl0, rfl, _, rfl⟩
  dsimp only
  clear F N
  have F := Y1.F
  k_steps
  refine Halt.on ?_
  refine call_enumerate_list hli fun h2 he hit hsz2 hk2 => ?_
  dsimp only at he hit hsz2 hk2 ⊢
  obtain ⟨it, hitd⟩ : ∃ it, it = H.objs.size := ⟨_, rfl⟩
  rw [← hitd] at he hit hsz2 ⊢
  obtain ⟨e, hed⟩ : ∃ e, e = it + 1 := ⟨_, rfl⟩
  rw [← hed] at he ⊢
  have hDlt : @LT.lt Nat _ D it := hitd ▸ Heap.lt_size hl0
  have hei : e ≠ it := by rw [hed]; exact Nat.succ_ne_self it
  have hDe : D ≠ e := by rw [hed]; exact Nat.ne_of_lt (Nat.lt_succ_of_lt hDlt)
  have hDi : D ≠ it := Nat.ne_of_lt hDlt
  have st0 : (∃ old, IsEnum h2 e it (0 : Nat) old) ∧ h2.IsListIter it D 0 ∧ h2.IsList D itl.toArray := ⟨⟨_, he⟩, hit, ⟨_, hk2 _ _ hl0, rfl, _, rfl⟩⟩
  refine (WalksT.enumerateD (A := A) (Draws.list (A := A.in1) hh it D hDi itl.toArray) e hei (by simp [hei, Ne.symm hDe]) (by simp)).self 0 _ _ _ st0 ?_
  refine compA (hb := H) (n := itl.toArray.size) (wr := [e, it]) (St := fun i h => (∃ old, IsEnum h e it i old) ∧ h.IsListIter it D i ∧ h.IsList D itl.toArray) (Bound := fun i m => ∃ (t : Tok) (v : Value), itl.toArray[i]? = some v ∧ m "own" = some v ∧ (("own" : Str) ≠ "place" → m "place" = some (.int i t))) ?V (by rw [List.size_toArray]; omega) (by rw [hsz2, hitd]; exact Nat.le_add_right _ _) hk2 st0 ?hwr (fun i ys l => l = [] ∧ ∃ ns', IntsAre ys ns' ∧ ns'.length = i ∧ ∀ n ∈ ns', -(2 ^ 40) < n ∧ n < 2 ^ 40) ⟨rfl, [], .nil, rfl, by simp⟩ ?jl (by decide) rfl ?turn ?hQ
  case V => exact adv_enum hh hli hei hDe hDi rfl rfl rfl
  case jl => rintro i ys l ⟨_, ns', a, b, _⟩; rw [a.length, b]; exact Nat.le_refl _
  case hwr =>
    intro b hb
    have : @LE.le Nat _ H.objs.size b := by
      simp only [List.mem_cons, List.not_mem_nil, or_false] at hb
      rcases hb with rfl | rfl
      · rw [hed, hitd]; exact Nat.le_succ _
      · rw [hitd]; exact Nat.le_refl _
    cases q : H.get? b with
    | none => rfl
    | some o => exact absurd (Heap.lt_size q) (Nat.not_lt.mpr this)
  case turn =>
    rintro i ys l h tk C D' m' wo e' hi ⟨rfl, ns', hI, hnl, hnb⟩ hwo hlt hDC F' N' _ ⟨t, v, hv, hown, hplace⟩
    replace hplace := hplace (by decide)
    have hscrc : H.IsCell (L + 1) (some (.ref S)) := hscr ▸ Y1.C.cell "script" (L + 1) rfl
    have XH : Frag.In (hd.heap_1 w.params) H := fun b o e => Y1.F.keep b o (X b o e)
    have TH := T.keeps Y1.F.keep
    have hlH : H.IsList S vs.toArray := by
      obtain ⟨o, ho, hr⟩ := hl
      exact ⟨o, Y1.F.keep _ _ ho, hr⟩
    obtain ⟨k, t', rfl, hk0, hk10⟩ := hIA v (by
      rw [List.getElem?_toArray] at hv
      exact List.mem_of_getElem? hv)
    rw [List.size_toArray, hlen6] at hi
    clear X T F Y Y1 hl hscr st0 he hit hk2 hgr hl0 hIA hli
    refine wpAny_tests_nil ?_
    simp only [if_true]
    k_steps
    refine Halt.on ?_
    refine evalCompG (cl := []) rfl rfl (by decide) (by intro _; rfl) ?_
    k_steps
    rename_i h3 F3 N3
    dsimp only
    refine Halt.on ?_
    have hL3 := (N3 _ (.head _)).1
    dsimp only at hL3
    obtain ⟨items2, hit2⟩ : ∃ items2, items2 = slicePick vs.toArray (some (i : Int)) (some 24) (some 6) := ⟨_, rfl⟩
    have hvl := hS.length
    have hsz2 : items2.size ≤ 63 := by
      have := slicePick_size_le vs.toArray (some (i : Int)) (some 24) (some 6)
      have h1 : vs.toArray.size = vs.length := List.size_toArray ..
      rw [hit2]
      omega
    have hmem : ∀ (j : Nat) v, items2[j]? = some v → ∃ k t, v = Value.int k t := fun j v hv => ints_mem hS v (by rw [hit2] at hv; exact pick_mem hv)
    have N0 : News H C h3 (wo ++ [(D', listOf ys.toArray e')]) := fun p hp => N3 p (.tail _ hp)
    rw [← hit2] at hL3
    clear N3 N' F' hit2 hlH
    obtain ⟨D3, hD3⟩ : ∃ D3, D3 = h.objs.size + 1 := ⟨_, rfl⟩
    rw [← hD3] at hL3 ⊢
    refine wpAny_pyIter_list (items := items2) ⟨_, hL3, rfl, _, rfl⟩ ?_
    dsimp only
    obtain ⟨I3, hI3⟩ : ∃ I3, I3 = h3.objs.size := ⟨_, rfl⟩
    have hne3 : D3 ≠ I3 := hI3 ▸ Nat.ne_of_lt (Heap.lt_size hL3)
    have hgr3 : ∀ b o, h3.get? b = some o → (h3.push { cls := .type "list_iterator", data := .fields #[.ref D3, .int 0 0] }).get? b = some o := fun b o e => Heap.get?_push_of_some _ e
    have st3 : (h3.push { cls := .type "list_iterator", data := .fields #[.ref D3, .int 0 0] }).IsListIter I3 D3 0 ∧ (h3.push { cls := .type "list_iterator", data := .fields #[.ref D3, .int 0 0] }).IsList D3 items2 := ⟨⟨_, hI3 ▸ Heap.get?_push_size _ rfl, rfl, rfl⟩, ⟨_, hgr3 _ _ hL3, rfl, _, rfl⟩⟩
    rw [← hI3]
    refine compA (hb := h3) (n := items2.size) (wr := [I3]) (St := fun i h => h.IsListIter I3 D3 i ∧ h.IsList D3 items2) (Bound := fun i m => ∃ v, items2[i]? = some v ∧ m "number" = some v) ?V2 (by omega) (by rw [Heap.size_push]; exact Nat.le_succ _) hgr3 st3 ?hwr2 (fun i ys l => l = [] ∧ ∃ ns', IntsAre ys ns' ∧ ns'.length = i ∧ ∀ n ∈ ns', 0 ≤ n ∧ n < 1000000) ⟨rfl, [], .nil, rfl, by simp⟩ ?jl2 (by decide) rfl ?turn2 ?hQ2
    case V2 => exact adv_name (Walks.list hh I3 D3 hne3 items2) (fun b hb => by
        rcases List.mem_cons.mp hb with rfl | hb
        · exact .inl rfl
        · rcases List.mem_singleton.mp hb with rfl; exact .inr ⟨_, hL3⟩) (fun i h st => let ⟨o, ho, _⟩ := st.1; ⟨o, ho⟩) rfl rfl
    case jl2 => rintro i ys l ⟨_, ns', a, b, _⟩; rw [a.length, b]; exact Nat.le_refl _
    case hwr2 =>
      intro b hb
      rcases List.mem_singleton.mp hb with rfl
      cases q : h3.get? b with
      | none => rfl
      | some o => exact absurd (Heap.lt_size q) (Nat.not_lt.mpr (Nat.le_of_eq hI3.symm))
    case turn2 =>
      rintro i2 ys2 l2 h4 tk4 C4 D4 m4 wo4 e4 hi2 ⟨rfl, ns2, hI2, hnl2, hnb2⟩ hwo2 hlt2 hDC2 F4 N4 _ ⟨v2, hv2, hnum⟩
      obtain ⟨k2, t2, rfl⟩ := hmem i2 v2 hv2
      have X4 : Frag.In (hd.heap_1 w.params) h3 := fun b o e => F3.keep b o (XH b o e)
      have T4 := TH.keeps F3.keep
      clear XH TH F3 N0
      refine wpAny_tests_nil ?_
      simp only [if_true]
      k_steps
      have e10 : ((10 : Int) ^ Int.toNat 6) = 1000000 := by decide
      refine Halt.on ⟨_, _, [], m4, rfl, F4, N4, by simp, rfl, _, IntsAre.append hI2 (.cons _ _ .nil), by simp [hnl2], fun n hn => ?_⟩
      rcases List.mem_append.mp hn with hn | hn
      · exact hnb2 n hn
      · rcases List.mem_singleton.mp hn with rfl
        rw [e10]
        exact ⟨fmod_lo _ (by decide), fmod_hi _ (by decide)⟩
    case hQ2 =>
      rintro D4 h4 tk4 ys4 l4 e4 ⟨rfl, ns4, hI4, hnl4, hnb4⟩ hD4 _ hk4 hsz4
      have F5 : Fr H C h4 m' := ⟨F3.ns.at' fun o e => hk4 _ o e, fun b o e => hk4 _ _ (F3.keep b o e), F3.above⟩
      have N5 : News H C h4 (wo ++ [(D', listOf ys.toArray e')]) := fun p hp => ⟨hk4 _ _ (N0 p hp).1, (N0 p hp).2⟩
      have hsb := sum_bnd hnb4
      clear F3 N0 hk4 hL3 st3 hgr3
      k_steps
      refine Halt.on (LSm.sum_ints F5 N5 hh ⟨_, hD4, rfl, _, rfl⟩ hI4 fun h6 tk6 t6 F6 N6 => ?_)
      clear F5 N5 hD4
      dsimp only
      k_steps
      refine Halt.on ⟨_, _, [], m', rfl, F6, N6, by simp, rfl, _, IntsAre.append hI (.cons _ _ .nil), by simp [hnl], fun n hn => ?_⟩
      rcases List.mem_append.mp hn with hn | hn
      · exact hnb n hn
      · rcases List.mem_singleton.mp hn with rfl
        have : (ns4.length : Int) ≤ 63 := by omega
        omega
  case hQ =>
    rintro D' h' tk ys l e' ⟨rfl, ns', hI, hnl, hnb⟩ hD' _ hk' hsz'
    have Y2 := Y1.grow hk'
    have hHv : D' ∉ Vol L [] := Y1.fresh_ge (Nat.le_trans (by rw [hsz2, hitd]; exact Nat.le_add_right _ _) hsz')
    refine law_storeC Y2 rfl rfl fun h3 Y3 hz3 _ => ?_
    refine h h3 _ D' ys ns' Y3 (fun b o e => hz3 b o (frz_of (fun b o _ e => hk' b o (hgr b o e)) b o e)) ⟨_, hz3 _ _ (hideAll_get _ hD' hHv), rfl, _, rfl⟩ hI (by rw [hnl, List.size_toArray, hlen6]) hnb
end
end
local macro_rules | `(tactic| walk_at "nm6") => `(tactic| k_dflt (refine nmF (by assumption) rfl rfl rfl (by with_reducible assumption) ?_))
-- L2
section
theorem anew_L2 : True := by
  w_top off
  exact True.intro
section
variable {prog : Program} {w : World} {A : Around} {E : Value → Shared → Prop} {s : Shared}
theorem nmLC {M : Model} {base : Heap} {L c : Addr} {mu : List Addr} {ms cs : List (Str × Option Value)} {env : Env} {x : Str} {pos : PySem.Pos} {v : Value} {Q : Value → Shared → Prop} (Y : LF base L mu s.heap ms cs) (hk : env.scope.kind = .function) (hx : env.kindOf x = some .cell) (hc : env.cells.lookup x = some c) (hc' : (lawCS L).lookup x = some c) (hv : mp cs x = some v) (h : Q v s) (hd : (x == ("__debug__" : Str)) = false := by decide) :
    wpAny M A (eval (.Name x pos) env) Q E s := wpAny_Name (wpAny_loadName_cell hk hx hc (hv ▸ Y.C.cell x c hc') h) hd
theorem item_intsH {value slice : PySem.Expr} {l : Addr} {vs : List Value} {ns : List Int} {k : Int} {u : Tok} {Q : Value → Shared → Prop}
    (hl : s.heap.IsList l vs.toArray) (hS : IntsAre vs ns) (h0 : 0 ≤ k) (h1 : k < ns.length) (hb : ns.length < 100) (h : ∀ t, Q (.int (ns.getD k.toNat 0) t) s)
    (hs : subscripted slice false (.ref l) (.int k u) = operate [.ref l, .int k u] (getItem (.ref l) (.int k u)) := by with_unfolding_all rfl) (hg : ∀ r, letTemporaryGo value (.ref l) r = pure () := by intro _; with_unfolding_all rfl) :
    wpAny (model prog w) A (subscriptTail value slice (.ref l) (.int k u)) Q E s := by
  have hlt : k.toNat < vs.length := by have := hS.length; omega
  obtain ⟨t, ht⟩ := hS.int_at k.toNat vs[k.toNat] (by simp [hlt])
  exact item_list hl h0 (by omega) (x := .int (ns.getD k.toNat 0) t) (by simp [hlt, ht]) (h t) hs hg
theorem isList_of_frz {L l : Addr} {mu : List Addr} {h : Heap} {items : Array Value} (x : (frz L mu h).IsList l items) : h.IsList l items := by
  obtain ⟨o, ho, hr⟩ := x
  exact ⟨o, of_hideAll _ ho, hr⟩
theorem isList_keep {h h' : Heap} {l : Addr} {items : Array Value} (x : h.IsList l items) (hk : ∀ b o, h.get? b = some o → h'.get? b = some o) : h'.IsList l items := by
  obtain ⟨o, ho, hr⟩ := x
  exact ⟨o, hk _ _ ho, hr⟩
theorem mp_put_self (x : Str) (v : Option Value) (l : List (Str × Option Value)) : mp (put x v l) x = v := by
  rw [← mp_put', if_pos rfl]
theorem mp_put_ne {x y : Str} (v : Option Value) (l : List (Str × Option Value)) (h : y ≠ x) : mp (put x v l) y = mp l y := by
  rw [← mp_put', if_neg h]
end
theorem mul_word (x : Nat) {m : Int} (h0 : 0 ≤ m) (h4 : m < 4) : ∃ c : Nat, c < 4 ∧ Txt.mul ⟨#[x]⟩ m = ⟨(List.replicate c x).toArray⟩ := by
  have : m = 0 ∨ m = 1 ∨ m = 2 ∨ m = 3 := by omega
  rcases this with rfl | rfl | rfl | rfl
  · exact ⟨0, by decide, rfl⟩
  · exact ⟨1, by decide, rfl⟩
  · exact ⟨2, by decide, rfl⟩
  · exact ⟨3, by decide, rfl⟩
noncomputable def wordOf (k c : Nat) : Str := ⟨(32 :: (65 + k) :: List.replicate c (97 + k)).toArray⟩
section
local macro_rules | `(tactic| walk_at $s) => if among "call type:range|storeName" s then `(tactic| refine Halt.go ?_) else Lean.Macro.throwUnsupported
local macro_rules | `(tactic| walk_at "eval Name") => `(tactic| k_dflt (refine nmLC (by with_reducible assumption) rfl rfl rfl rfl (by with_reducible assumption) ?_))
local macro_rules | `(tactic| walk_at "eval Name") => `(tactic| first | walk_at "nm5" | walk_at "nm6" | walk_at "nm0")
local macro_rules | `(tactic| walk_at "subscriptTail Name Constant ref int") => `(tactic| (refine item_intsH (by with_reducible assumption) (by with_reducible assumption) (by decide) (by omega) (by omega) ?_; intro _))
theorem law_s1 {w : World} {mean : ExcName → Option Value} {mg mb : Str → Option Value} {p : Program} {loose : List Str} {A : Around} {s : Shared} {E : Value → Shared → Prop} {Q : Flow → Shared → Prop} {base : Heap} {L D : Addr} {vs : List Value} {ns : List Int} {ms cs : List (Str × Option Value)}
  (X : Frag.In (hd.heap_1 w.params) base) (T : Top p loose mean mg mb base) (Y : LF base L [] s.heap ms cs) (hD : mp cs "cells" = some (.ref D)) (hl : (frz L [] s.heap).IsList D vs.toArray) (hS : IntsAre vs ns) (hlen : ns.length = 6)
  (h : ∀ h' tk' t, LF base L [] h' ms (put "count" (some (.int (3 + (ns.getD 0 0).fmod 3) t)) cs) → (∀ b o, (frz L [] s.heap).get? b = some o → (frz L [] h').get? b = some o) →
    wpC (model PySem.Challenge.rw_pe0169_01.row.prog w) A (execs (lawBody.drop 2) (lawEnv L)) Q E { s with heap := h', toks := tk' }) :
  wpC (model PySem.Challenge.rw_pe0169_01.row.prog w) A (execs (lawBody.drop 1) (lawEnv L)) Q E s := by
  revert X
  k_fill
  intro X
  have hsc : lawScope = lawScope := rfl
  conv at hsc => rhs; whnf
  dsimp only [lawEnv]
  rw [hsc]
  refine execsC_cons (AssignC_Name (wpC_of_any ?_))
  have F := Y.F
  have N : News base L s.heap [] := News.nil
  have hls := isList_of_frz hl
  k_steps
  dsimp only
  exact Halt.on (law_storeC Y rfl rfl fun h1 Y1 hz _ => h h1 _ _ Y1 hz)
theorem law_s2 {w : World} {mean : ExcName → Option Value} {mg mb : Str → Option Value} {p : Program} {loose : List Str} {A : Around} {s : Shared} {E : Value → Shared → Prop} {Q : Flow → Shared → Prop} {base : Heap} {L D : Addr} {vs : List Value} {ns : List Int} {ms cs : List (Str × Option Value)}
  (X : Frag.In (hd.heap_1 w.params) base) (T : Top p loose mean mg mb base) (Y : LF base L [] s.heap ms cs) (hD : mp cs "cells" = some (.ref D)) (hl : (frz L [] s.heap).IsList D vs.toArray) (hS : IntsAre vs ns) (hlen : ns.length = 6)
  (h : ∀ h' tk' t, LF base L [] h' ms (put "width" (some (.int (4 + ((ns.getD 0 0).fdiv 3).fmod 8) t)) cs) → (∀ b o, (frz L [] s.heap).get? b = some o → (frz L [] h').get? b = some o) →
    wpC (model PySem.Challenge.rw_pe0169_01.row.prog w) A (execs (lawBody.drop 3) (lawEnv L)) Q E { s with heap := h', toks := tk' }) :
  wpC (model PySem.Challenge.rw_pe0169_01.row.prog w) A (execs (lawBody.drop 2) (lawEnv L)) Q E s := by
  revert X
  k_fill
  intro X
  have hsc : lawScope = lawScope := rfl
  conv at hsc => rhs; whnf
  dsimp only [lawEnv]
  rw [hsc]
  refine execsC_cons (AssignC_Name (wpC_of_any ?_))
  have F := Y.F
  have N : News base L s.heap [] := News.nil
  have hls := isList_of_frz hl
  k_steps
  dsimp only
  exact Halt.on (law_storeC Y rfl rfl fun h1 Y1 hz _ => h h1 _ _ Y1 hz)

theorem law_s3 {w : World} {mean : ExcName → Option Value} {mg mb : Str → Option Value} {p : Program} {loose : List Str} {A : Around} {s : Shared} {E : Value → Shared → Prop} {Q : Flow → Shared → Prop} {base : Heap} {L D : Addr} {vs : List Value} {ns : List Int} {ms cs : List (Str × Option Value)} {n : Nat} {tn : Tok}
  (X : Frag.In (hd.heap_1 w.params) base) (T : Top p loose mean mg mb base) (hA : Ok A 200 2000) (Y : LF base L [] s.heap ms cs) (hD : mp cs "cells" = some (.ref D)) (hn : mp cs "count" = some (.int n tn)) (hl : (frz L [] s.heap).IsList D vs.toArray) (hS : IntsAre vs ns) (hlen : ns.length = 6) (hn5 : n ≤ 5)
  (h : ∀ h' tk' W us ws, LF base L [] h' ms (put "words" (some (.ref W)) cs) → (∀ b o, (frz L [] s.heap).get? b = some o → (frz L [] h').get? b = some o) → (frz L [] h').IsList W us.toArray → StrsAre us ws → ws.length = n → (∀ k, k < n → ∃ c, c < 4 ∧ ws[k]? = some (wordOf k c)) →
    wpC (model PySem.Challenge.rw_pe0169_01.row.prog w) A (execs (lawBody.drop 4) (lawEnv L)) Q E { s with heap := h', toks := tk' }) :
  wpC (model PySem.Challenge.rw_pe0169_01.row.prog w) A (execs (lawBody.drop 3) (lawEnv L)) Q E s := by
  have hh := hA.h
  revert X
  k_fill
  intro X
  have hsc : lawScope = lawScope := rfl
  conv at hsc => rhs; whnf
  dsimp only [lawEnv]
  rw [hsc]
  refine execsC_cons (AssignC_Name (wpC_of_any ?_))
  have F := Y.F
  have N : News base L s.heap [] := News.nil
  have hls := isList_of_frz hl
  refine evalCompG (cl := [("cells", L + 2)]) ?_ rfl (by decide) (by intro _; rfl) ?_
  · rfl
  k_steps
  refine Halt.on ?_
  (try dsimp only)
  refine rng1 (N := n) (by omega) fun I h2 tk2 hI hk2 hit hsz2 => ?_
  (try dsimp only at hI hk2 hit hsz2 ⊢)
  have hIb : s.heap.get? I = none := by
    cases q : s.heap.get? I with
    | none => rfl
    | some o => exact absurd (Heap.lt_size q) (Nat.not_lt.mpr (Nat.le_of_lt hI))
  refine compA (hb := s.heap) (n := n) (wr := [I]) (St := fun i h => IsRangeIter h I (0 + (i : Nat) * 1) ((n : Int) - (i : Nat)) 1) (Bound := fun i m => ∃ v, (∃ t, v = Value.int (0 + (i : Int) * 1) t) ∧ m "k" = some v) ?V (by omega) (by rw [hsz2]; exact Nat.le_succ_of_le (Nat.le_of_lt hI)) hk2 hit (fun b hb => by rcases List.mem_singleton.mp hb with rfl; exact hIb) (fun i ys l => l = [] ∧ ∃ ws, StrsAre ys ws ∧ ws.length = i ∧ ∀ k, k < i → ∃ c, c < 4 ∧ ws[k]? = some (wordOf k c)) ⟨rfl, [], .nil, rfl, by simp⟩ ?jl (by decide) rfl ?turn ?hQ
  case V => exact adv_name (Walks.range hh I 0 1 n) (fun b hb => .inl (List.mem_singleton.mp hb)) (fun i h st => ⟨_, st⟩) rfl rfl
  case jl => rintro i ys l ⟨_, ns', a, b, _⟩; rw [a.length, b]; exact Nat.le_refl _
  case turn =>
    rintro i ys l h tk C D' m' wo e' hi ⟨rfl, ws, hI, hnl, hw⟩ hwo hlt hDC F' N' _ ⟨v, ⟨t, rfl⟩, hk⟩
    rw [show (0 : Int) + (i : Int) * 1 = i by omega] at hk
    have X' : Frag.In (hd.heap_1 w.params) s.heap := fun b o e => Y.F.keep b o (X b o e)
    have T' := T.keeps Y.F.keep
    have hcc : s.heap.IsCell (L + 2) (some (.ref D)) := hD ▸ Y.C.cell "cells" (L + 2) rfl
    clear X T F N Y hl hk2 hit
    refine wpAny_tests_nil ?_
    simp only [if_true]
    k_steps
    have hm0 := fmod_lo (ns.getD ((i : Int) + 1).toNat 0) (b := 4) (by decide)
    have hm4 := fmod_hi (ns.getD ((i : Int) + 1).toNat 0) (b := 4) (by decide)
    refine SB.mul (mulOk_of 1 4 (Nat.le_refl 1) (by omega) (by omega) (by decide) (by decide)) ?_
    intro t9 k9
    obtain ⟨c, hc4, hc⟩ := mul_word (97 + (i : Int)).toNat hm0 hm4
    rw [hc]
    dsimp only
    have hl2 : ((Str.ofString " ") ++ (⟨#[(65 + (i : Int)).toNat]⟩ : Str)).length = 2 := by show (_ ++ _ : Array Nat).size = 2; rw [Array.size_append, show (Str.ofString " ").cps.size = 1 by decide +kernel]; rfl
    have hlc : (⟨(List.replicate c (97 + (i : Int)).toNat).toArray⟩ : Str).length = c := by show (List.replicate c (97 + (i : Int)).toNat).toArray.size = c; simp
    have hline := sizeLine_eq
    refine PyProof.Rows.add_str (fun t' tk' => ?_) (by omega)
    refine Halt.on ⟨_, _, [], m', rfl, F', N', by simp, rfl, _, StrsAre.append' hI (.cons _ _ .nil), by simp [hnl], fun j hj => ?_⟩
    have hw2 : (Str.ofString " " ++ (⟨#[(65 + (i : Int)).toNat]⟩ : Str)) ++ (⟨(List.replicate c (97 + (i : Int)).toNat).toArray⟩ : Str) = wordOf i c := by
      refine str_ext ?_
      show ((_ ++ _ : Array Nat) ++ _ : Array Nat).toList = _
      rw [Array.toList_append, Array.toList_append, show (Str.ofString " ").cps.toList = [32] by decide +kernel]
      rw [show (65 + (i : Int)).toNat = 65 + i by omega, show (97 + (i : Int)).toNat = 97 + i by omega]
      rfl
    rw [hw2]
    rcases Nat.lt_or_ge j i with h1 | h1
    · obtain ⟨c', a, b⟩ := hw j h1
      exact ⟨c', a, by rw [List.getElem?_append_left (by omega)]; exact b⟩
    · obtain rfl : j = i := by omega
      exact ⟨c, hc4, by rw [List.getElem?_append_right (by omega), hnl]; simp⟩
  case hQ =>
    rintro W h' tk ys l e' ⟨rfl, ws, hI', hnl, hw⟩ hW _ hk' hsz'
    have Y2 := Y.grow hk'
    have hWv : W ∉ Vol L [] := Y.fresh_ge (Nat.le_trans (by rw [hsz2]; exact Nat.le_succ_of_le (Nat.le_of_lt hI)) hsz')
    refine law_storeC Y2 rfl rfl fun h3 Y3 hz3 _ => ?_
    exact h h3 _ W ys ws Y3 (fun b o e => hz3 b o (frz_of (fun b o _ e => hk' b o e) b o e)) ⟨_, hz3 _ _ (hideAll_get _ hW hWv), rfl, _, rfl⟩ hI' hnl hw
end
end
local macro_rules | `(tactic| walk_at "nm7") => `(tactic| k_dflt (refine nmLC (by with_reducible assumption) rfl rfl rfl rfl (by with_reducible assumption) ?_))
-- L3
section
theorem anew_L3 : True := by
  w_top off
  exact True.intro
section
open PySem.Builtin PySem.Builtin.Str
theorem split_step {prog : Program} {w : World} {A : Around} {E : Value → Shared → Prop} {s : Shared} {x y : PySem.Str} {t u : Tok} {Q : Value → Shared → Prop} (hy : (y.length == 0) = false) (hsz : x.length < 2000)
    (h : ∀ D us h' k, D = s.heap.objs.size → StrsAre us (Txt.split x y) → (∀ b o, s.heap.get? b = some o → h'.get? b = some o) → h'.get? D = some (listOf us.toArray 0) → Q (.ref D) { s with heap := h', toks := k }) :
    wpAny (model prog w) A (call (.builtin "str.split") [.str x t, .str y u]) Q E s := by
  have hline := sizeLine_eq
  have hn : (partsBetween x (occurrences x y 0 x.length (x.length + 1)) y.length).length ≤ sizeLine := by
    have e1 := StrLaws.occ_length_le x y 0 x.length (x.length + 1)
    rw [length_partsBetween]; omega
  have go : ∀ (l : List (PySem.Str × Tok)) k, l.map (·.1) = Txt.split x y → Q (.ref s.heap.objs.size) { s with heap := s.heap.push { cls := .type "list", data := .seq (strValues l).toArray }, toks := k } := fun l k e =>
    h _ (strValues l) _ k rfl (e ▸ strsAre_of_values l) (fun b o e => Heap.get?_push_of_some _ e) (Heap.get?_push_size _ rfl)
  cases h1 : (decide (x.length < y.length) || decide (strKind x < strKind y))
  · cases hf : (occurrences x y 0 x.length (x.length + 1)).isEmpty
    · refine call_meets F.slot_str_split (typeIs_str _ _ _) F.entry_str_split (F.args_str_split_2 _ _) (meets_str_split_sep x y t u h1 hy hf (by omega) hn) ?_
      show wants Q E _ { s with toks := _, heap := s.heap.push { cls := .type "list", data := .seq (strsFrom s.toks (partsBetween x (occurrences x y 0 x.length (x.length + 1)) y.length)).toArray } }
      rw [strsFrom_eq]
      exact go (numbered s.toks _) _ ((numbered_texts _ _).trans ((if_neg (ne_true_of_eq_false h1)).trans (if_neg (ne_true_of_eq_false hf))).symm)
    · exact call_meets F.slot_str_split (typeIs_str _ _ _) F.entry_str_split (F.args_str_split_2 _ _) (meets_str_split_not_found x y t u h1 hy hf)
        (go [(x, t)] s.toks ((if_neg (ne_true_of_eq_false h1)).trans (if_pos hf)).symm)
  · exact call_meets F.slot_str_split (typeIs_str _ _ _) F.entry_str_split (F.args_str_split_2 _ _) (meets_str_split_cannot_occur x y t u h1)
      (go [(x, t)] s.toks (if_pos h1).symm)
end
section
local macro_rules | `(tactic| walk_at $s) => if among "call builtin:str.join|call builtin:str.split|storeName" s then `(tactic| refine Halt.go ?_) else Lean.Macro.throwUnsupported
local macro_rules | `(tactic| walk_at "eval Name") => `(tactic| first | walk_at "nm4" | walk_at "nm7")
theorem law_s4 {w : World} {mean : ExcName → Option Value} {mg mb : Str → Option Value} {p : Program} {loose : List Str} {A : Around} {s : Shared} {E : Value → Shared → Prop} {Q : Flow → Shared → Prop} {base : Heap} {L W : Addr} {us : List Value} {ws : List Str} {ms cs : List (Str × Option Value)}
  (X : Frag.In (hd.heap_1 w.params) base) (T : Top p loose mean mg mb base) (hA : Ok A 200 2000) (Y : LF base L [] s.heap ms cs) (hW : mp cs "words" = some (.ref W)) (hl : (frz L [] s.heap).IsList W us.toArray) (hS : StrsAre us ws) (hlen : ws.length ≤ 5) (hsum : (ws.map (·.length)).sum ≤ 25)
  (ha : (Txt.join "" ws).cps.all (· < 128) = true) (h0 : 0 < (Txt.join "" ws).cps.size) (h1 : (Txt.join "" ws).cps.size < 1000)
  (h : ∀ h' tk' M us', LF base L [] h' ms (put "mirror" (some (.ref M)) cs) → (∀ b o, (frz L [] s.heap).get? b = some o → (frz L [] h').get? b = some o) → (frz L [] h').IsList M us'.toArray → StrsAre us' (Txt.split ⟨(Txt.join "" ws).cps.reverse⟩ " ") →
    wpC (model PySem.Challenge.rw_pe0169_01.row.prog w) A (execs (lawBody.drop 5) (lawEnv L)) Q E { s with heap := h', toks := tk' }) :
  wpC (model PySem.Challenge.rw_pe0169_01.row.prog w) A (execs (lawBody.drop 4) (lawEnv L)) Q E s := by
  have hh := hA.h
  revert X
  k_fill
  intro X
  have hsc : lawScope = lawScope := rfl
  conv at hsc => rhs; whnf
  dsimp only [lawEnv]
  rw [hsc]
  have F := Y.F
  have N : News base L s.heap [] := News.nil
  have hls := isList_of_frz hl
  refine execsC_cons (AssignC_Name (MethodCallC (CallC (wpC_of_any ?_))))
  k_steps
  k_dflt (refine' callC_defK ?k1 ?k3 ?_; (case k1 => k_asm); (case k3 => k_is); k_whole)
  refine argsC_cons (wpC_of_any ?_)
  k_steps
  refine Halt.on (join_list hls hS (by have := hS.length; rw [show (Str.ofString "").length = 0 by decide +kernel]; omega) ?_)
  intro t7 k7
  refine argsC_nil ⟨F.keep, ?_⟩
  have X8 : Frag.In (hd.heap_1 w.params) s.heap := fun a o e => F.keep a o (X a o e)
  refine wpC_mono (mirror_spec (s := { s with toks := k7 }) X8 (T.keeps F.keep) (hA.less (by decide) (by decide)) ha h0 h1) (fun v s' h' => ?_) fun _ _ x => x
  obtain ⟨t9, rfl, h9, tk9, rfl, hk9⟩ := h'
  dsimp only at hk9 ⊢
  have Y2 := Y.grow hk9
  have F2 := Y2.F
  have N2 : News base L h9 [] := News.nil
  clear F N
  k_steps
  refine wpC_of_any ?_
  dsimp only
  k_steps
  refine Halt.on (split_step (by decide +kernel) (by show (Txt.join "" ws).cps.reverse.size < 2000; rw [Array.size_reverse]; omega) fun D us' h3 k3 hD hS3 hk3 hg3 => ?_)
  (try dsimp only at hD hk3 ⊢)
  have Y3 := Y2.grow hk3
  have hDv : D ∉ Vol L [] := Y2.fresh_ge (Nat.le_of_eq hD.symm)
  refine law_storeC Y3 rfl rfl fun h4 Y4 hz4 _ => ?_
  refine h h4 _ D us' Y4 (fun b o e => hz4 b o (frz_of (fun b o _ e => hk3 _ _ (hk9 b o e)) b o e)) ⟨_, hz4 _ _ (hideAll_get _ hg3 hDv), rfl, _, rfl⟩ hS3
end
end
-- L4
section
theorem anew_L4 : True := by
  w_top off
  exact True.intro
section
variable {base h h' : Heap} {L : Addr} {mu : List Addr} {ms cs : List (Str × Option Value)}
theorem vol_cons {L D v : Addr} {mu : List Addr} : v ∈ Vol L (D :: mu) ↔ v = D ∨ v ∈ Vol L mu := by
  simp only [Vol, List.mem_cons, List.mem_append]
  constructor
  · rintro (h | h | h | h | h | h) <;> simp [h]
  · rintro (h | h | h | h | h | h) <;> simp [h]
theorem vol_sub {L v : Addr} {mu : List Addr} (h : v ∈ Vol L []) : v ∈ Vol L mu := by
  simp only [Vol, List.mem_cons, List.mem_append, List.not_mem_nil, or_false] at h ⊢
  rcases h with h | h | h | h <;> simp [h]
theorem frz_more {D b : Addr} {o : Obj} (e : (frz L mu h).get? b = some o) (hb : b ≠ D) : (frz L (D :: mu) h).get? b = some o := by
  have hv : b ∉ Vol L mu := fun hm => by rw [hideAll_none _ hm] at e; cases e
  exact hideAll_get _ (of_hideAll _ e) fun hm => by
    rcases vol_cons.mp hm with q | q
    · exact hb q
    · exact hv q
theorem frz_less {D b : Addr} {o : Obj} (e : (frz L (D :: mu) h).get? b = some o) : (frz L mu h).get? b = some o :=
  hide_mono (fun x hx => vol_cons.mpr (.inr hx)) e
/-- all but one that is no part of the law's -/
theorem LF.but (X : LF base L mu h ms cs) {I : Addr} (hI : I ∉ Vol L mu) (hb : base.get? I = none) (hk : ∀ b o, b ≠ I → h.get? b = some o → h'.get? b = some o) : LF base L mu h' ms cs := by
  have hv : ∀ v, v ∈ Vol L mu → v ≠ I := fun v hv q => hI (q ▸ hv)
  refine ⟨⟨X.F.ns.at' fun o e => hk _ o (hv L (.head _)) e, fun b o e => hk b o (fun q => by rw [q, hb] at e; cases e) (X.F.keep b o e), X.F.above⟩, ⟨fun n c e => ?_, X.C.apart, X.C.above⟩, tabAt_but X.tab fun b o hb' e => hk b o (hv b ?_) e, X.vb, fun v hv' => let ⟨o, ho⟩ := X.lt v hv'; ⟨o, hk v o (hv v hv') ho⟩, X.low⟩
  · obtain ⟨o, ho, hd⟩ := X.C.cell n c e
    refine ⟨o, hk c o (hv c ?_) ho, hd⟩
    simp only [Vol, List.mem_cons, List.mem_append]
    exact .inr (.inr (.inr (.inl (List.mem_map_of_mem (f := Prod.snd) (mem_of_lookup e)))))
  · rcases hb' with rfl | rfl <;> simp [Vol]
/-- a list of the law's own grows -/
theorem law_append {prog : Program} {w : World} {A : Around} {E : Value → Shared → Prop} {s : Shared} {D : Addr} {vs : List Value} {c : Nat} {x : Value} {Q : Value → Shared → Prop} (X : LF base L mu s.heap ms cs) (hD : D ∈ mu) (hDv : D ∉ Vol L []) (ho : s.heap.get? D = some (listOf vs.toArray c)) (hz : vs.length < 1000)
    (h : ∀ h', LF base L mu h' ms cs → (∀ b o, (frz L mu s.heap).get? b = some o → (frz L mu h').get? b = some o) → Heap.SameBut D s.heap h' → h'.get? D = some (listOf (vs ++ [x]).toArray (c + 1)) → Q .none { s with heap := h' }) :
    wpAny (model prog w) A (call (.builtin "list.append") [.ref D, x]) Q E s := by
  have hline := sizeLine_eq
  refine append_at (its := vs.toArray) (n := c) (D := D) (hsz := by rw [List.size_toArray]; omega) ho fun h' hs ho' => ?_
  have ho2 : h'.get? D = some (listOf (vs ++ [x]).toArray (c + 1)) := by simpa using ho'
  have hDv' : D ≠ L ∧ D ∉ (lawCS L).map (·.2) ∧ D ≠ 140 ∧ D ≠ 147 := by
    simp only [Vol, List.mem_cons, List.mem_append, List.not_mem_nil, or_false, not_or] at hDv
    exact ⟨hDv.1, hDv.2.2.2, hDv.2.1, hDv.2.2.1⟩
  obtain ⟨X', hz'⟩ := X.write hD hs hDv'.1 hDv'.2.1 hDv'.2.2 ⟨_, ho2⟩
  exact h h' X' hz' hs ho2
end
section
local macro_rules | `(tactic| walk_at "newList") => `(tactic| refine Halt.go ?_)
theorem law_s5 {w : World} {mean : ExcName → Option Value} {mg mb : Str → Option Value} {p : Program} {loose : List Str} {A : Around} {s : Shared} {E : Value → Shared → Prop} {Q : Flow → Shared → Prop} {base : Heap} {L : Addr} {ms cs : List (Str × Option Value)}
  (X : Frag.In (hd.heap_1 w.params) base) (T : Top p loose mean mg mb base) (Y : LF base L [] s.heap ms cs)
  (h : ∀ h' tk' FL BL, LF base L [BL, FL] h' (put "back" (some (.ref BL)) (put "forth" (some (.ref FL)) ms)) cs → (∀ b o, (frz L [] s.heap).get? b = some o → (frz L [BL, FL] h').get? b = some o) → h'.get? FL = some (listOf [].toArray 0) → h'.get? BL = some (listOf [].toArray 0) → FL ≠ BL → FL ∉ Vol L [] → BL ∉ Vol L [] →
    wpC (model PySem.Challenge.rw_pe0169_01.row.prog w) A (execs (lawBody.drop 7) (lawEnv L)) Q E { s with heap := h', toks := tk' }) :
  wpC (model PySem.Challenge.rw_pe0169_01.row.prog w) A (execs (lawBody.drop 5) (lawEnv L)) Q E s := by
  revert X
  k_fill
  intro X
  have hsc : lawScope = lawScope := rfl
  conv at hsc => rhs; whnf
  dsimp only [lawEnv]
  rw [hsc]
  have F := Y.F
  have N : News base L s.heap [] := News.nil
  refine execsC_cons (AssignC_Name (wpC_of_any ?_))
  k_steps
  refine Halt.on (newList_step (fun FL h1 hF hk1 hg1 hs1 => ?_) (by decide))
  (try dsimp only at hF hk1 hs1 ⊢)
  have Y1 := Y.grow hk1
  have hFv : FL ∉ Vol L [] := Y.fresh_ge (Nat.le_of_eq hF.symm)
  have hbF : base.get? FL = none := by
    cases q : base.get? FL with
    | none => rfl
    | some o => exact absurd (Heap.lt_size (Y.F.keep _ _ q)) (by rw [hF]; exact Nat.lt_irrefl _)
  have hF0 : s.heap.get? FL = none := by
    cases q : s.heap.get? FL with
    | none => rfl
    | some o => exact absurd (Heap.lt_size q) (by rw [hF]; exact Nat.lt_irrefl _)
  refine law_storeL (Y1.more hbF hg1) rfl fun h2 Y2 hz2 hsb2 => ?_
  have hg2 : h2.get? FL = some (listOf [].toArray 0) := hsb2.extBut _ _ (fun q => hFv (q ▸ .head _)) hg1
  clear F N
  have F := Y2.F
  have N : News base L h2 [] := News.nil
  refine execsC_cons (AssignC_Name (wpC_of_any ?_))
  dsimp only
  k_steps
  refine Halt.on (newList_step (fun BL h3 hB hk3 hg3 hs3 => ?_) (by decide))
  (try dsimp only at hB hk3 hs3 ⊢)
  have Y3 := Y2.grow hk3
  have hBv : BL ∉ Vol L [FL] := Y2.fresh_ge (Nat.le_of_eq hB.symm)
  have hB0 : h2.get? BL = none := by
    cases q : h2.get? BL with
    | none => rfl
    | some o => exact absurd (Heap.lt_size q) (by rw [hB]; exact Nat.lt_irrefl _)
  have hbB : base.get? BL = none := by
    cases q : base.get? BL with
    | none => rfl
    | some o => exact absurd ((Y2.F.keep _ _ q).symm.trans hB0) (by simp)
  have hFB : FL ≠ BL := fun q => by rw [← q, hg2] at hB0; cases hB0
  refine law_storeL (Y3.more hbB hg3) rfl fun h4 Y4 hz4 hsb4 => ?_
  have hBv0 : BL ∉ Vol L [] := fun hm => hBv (vol_sub hm)
  refine h h4 _ FL BL Y4 (fun b o e => ?_) (hsb4.extBut _ _ (fun q => hFv (q ▸ .head _)) (hk3 _ _ hg2)) (hsb4.extBut _ _ (fun q => hBv0 (q ▸ .head _)) hg3) hFB hFv hBv0
  have hb1 : b ≠ FL := fun q => by rw [q] at e; have := of_hideAll _ e; rw [hF0] at this; cases this
  have e1 := frz_of (fun b o _ e => hk1 b o e) b o e
  have e2 := hz2 b o (frz_more e1 hb1)
  have hb2 : b ≠ BL := fun q => by rw [q] at e2; have := of_hideAll _ e2; rw [hB0] at this; cases this
  have e3 := frz_of (fun b o _ e => hk3 b o e) b o e2
  exact hz4 b o (frz_more e3 hb2)
end
end
-- L45
section
section
variable {prog : Program} {w : World} {A : Around} {E : Value → Shared → Prop} {env : Env}
theorem assignU {s : Shared} {elt target iter : PySem.Expr} {ifs : List PySem.Expr} {scope : Scope} {cl : List (Str × Addr)} {pos spos py : PySem.Pos} {y : Str} {Q : Flow → Shared → Prop}
    (hsw : swapsWith (.ListComp elt [⟨target, iter, ifs, 0⟩] scope pos) (some (.Name y py)) spos.line env = pure true)
    (hclos : closureFor scope env = pure cl) (hkind : scope.kind = .function) (hnames : ∀ x ∈ scope.names, x.2 = .local → scope.names.lookup x.1 = some .local) (hs : ∀ x, foldedSetIterable iter env x = pure x)
    (h : wpAny (model prog w) A (eval iter env) (fun x₁ s₁ => wpAny (model prog w) A (pyIter x₁) (fun it s₂ => wpAny (model prog w) A (newList []) (fun acc s₃ =>
      wpAny (model prog w) A (newFunctionEnv scope env.globals cl [] env.qual none .none (some env)) (fun cenv s₄ =>
        codeAny (model prog w) A (.compStart (.ListComp elt [⟨target, iter, ifs, 0⟩] scope pos) 0 it acc { cenv with scope := relabel scope env }) (compPost (model prog w) A E (some (assign (.Name y py) env)) (fun _ s' => Q .next s') acc cenv.locals) s₄) E s₃) E s₂) E s₁) E s) :
    wpAny (model prog w) A (exec (.Assign [.Name y py] (.ListComp elt [⟨target, iter, ifs, 0⟩] scope pos) spos) env) Q E s := by
  rw [exec_Assign_Name_used _ _ _ _ hsw]
  refine wpAny_bind (wpAny_standAt (wpAny_bind ?_))
  show wpAny _ A (do let _ ← comprehension (.ListComp elt [⟨target, iter, ifs, 0⟩] scope pos) scope env _ (newList []) false (eval iter env) (some (assign (.Name y py) env))) _ _ s
  exact wpAny_bind (wpAny_mono (wpAny_comprehension_free (use := some (assign (.Name y py) env)) (Q := fun _ s' => Q .next s') rfl hs hclos hkind hnames h) (fun _ s' hq => wpAny_pure (wpAny_pure hq)) fun _ _ e => e)
theorem law_compU {base : Heap} {L : Addr} {mu : List Addr} {ms cs : List (Str × Option Value)} {elt target iter : PySem.Expr} {ifs : List PySem.Expr} {scope : Scope} {cl : List (Str × Addr)} {pos py : PySem.Pos} {y : Str} {s : Shared} {hb h2 : Heap} {tk2 : Nat} {I : Addr} {wr : List Addr} {n : Nat} {St : Nat → Heap → Prop} {Bound : Nat → (Str → Option Value) → Prop} {Q : Shared → Prop}
    (Y : LF base L mu hb ms cs) (hy : (lawEnv L).kindOf y = some .local)
    (V : Adv prog w A target (lawEnv L) scope cl I wr n St hb Bound) (hn : n < 1000) (hsz : hb.objs.size ≤ h2.objs.size) (hk : ∀ b o, hb.get? b = some o → h2.get? b = some o) (hst : St 0 h2) (hwr : ∀ b ∈ wr, hb.get? b = none)
    (J : Nat → List Value → List (Addr × Obj) → Prop) (j0 : J 0 [] []) (jlen : ∀ i ys l, J i ys l → ys.length ≤ i)
    (hcell : ∀ y ∈ scope.names, y.2 ≠ .cell) (hkind : scope.kind = .function)
    (turn : ∀ i ys l h tk C D m' wo e, i < n → J i ys l → wo.map (·.1) = wr → (∀ b ∈ wr, @LT.lt Nat _ b D) → @LT.lt Nat _ D C → Fr hb C h m' → News hb C h (wo ++ (D, listOf ys.toArray e) :: l) → (∀ p ∈ l, p.1 ∉ wo.map (·.1) ∧ p.1 ≠ D) → Bound i m' →
      wpAny (model prog w) A (forIn ifs true fun c r => if r = true then do let ok ← isTrue c (compEnvC scope cl C (lawEnv L)) (eval c (compEnvC scope cl C (lawEnv L))); pure (ForInStep.yield ok) else pure (ForInStep.yield r))
        (fun ok s₃ => if ok = true then wpAny (model prog w) A (eval elt (compEnvC scope cl C (lawEnv L))) (fun y s₄ => Halt (TurnG hb C D wo ys e s (J (i + 1) (ys ++ [y])) s₄)) (fun _ _ => False) s₃
          else Halt (TurnG hb C D wo ys e s (J (i + 1) ys) s₃)) (fun _ _ => False) { s with heap := h, toks := tk })
    (hQ : ∀ D h' tk ys l e, LF base L mu h' (put y (some (.ref D)) ms) cs → (∀ b o, (frz L mu hb).get? b = some o → (frz L mu h').get? b = some o) → (∀ b o, b ≠ L → hb.get? b = some o → h'.get? b = some o) → J n ys l → (frz L mu h').get? D = some (listOf ys.toArray e) → (∀ p ∈ l, (frz L mu h').get? p.1 = some p.2) → Q { s with heap := h', toks := tk }) :
    wpAny (model prog w) A (newList []) (fun acc s₃ => wpAny (model prog w) A (newFunctionEnv scope (lawEnv L).globals cl [] (lawEnv L).qual none .none (some (lawEnv L))) (fun cenv s₄ =>
      codeAny (model prog w) A (.compStart (.ListComp elt [⟨target, iter, ifs, 0⟩] scope pos) 0 (.ref I) acc { cenv with scope := relabel scope (lawEnv L) }) (compPost (model prog w) A E (some (assign (.Name y py) (lawEnv L))) (fun _ s' => Q s') acc cenv.locals) s₄) E s₃) E { s with heap := h2, toks := tk2 } := by
  refine compA0 (RR := fun acc C r s' => compPost (model prog w) A E (some (assign (.Name y py) (lawEnv L))) (fun _ s' => Q s') acc C r s') V hn hsz hk hst hwr J j0 jlen hcell hkind turn fun D C h' tk m' ys l e hJ hns hD hl hkb hDs hDC => ?_
  have Y2 := Y.grow hkb
  have hDn : hb.objs.size ≤ D := Nat.le_trans hsz hDs
  have hCn : hb.objs.size ≤ C := Nat.le_trans hDn (Nat.le_of_lt hDC)
  have hDv : D ∉ Vol L mu := Y.fresh_ge hDn
  have hCv : C ∉ Vol L mu := Y.fresh_ge hCn
  have hCL : C ≠ L := fun q => hCv (q ▸ .head _)
  have hDL : D ≠ L := fun q => hDv (q ▸ .head _)
  have hbC : ∀ b o, hb.get? b = some o → b ≠ C := fun b o e => Nat.ne_of_lt (Nat.lt_of_lt_of_le (Heap.lt_size e) hCn)
  have hbaseC : base.get? C = none := by
    cases q : base.get? C with
    | none => rfl
    | some o => exact absurd rfl (hbC _ _ (Y.F.keep _ _ q))
  show wpAny _ A (assign (.Name y py) (lawEnv L) (.ref D)) _ _ _
  refine wpAny_assign_Name (law_storeL Y2 hy fun h3 Y3 hz3 hs3 => ?_)
  have hns3 := hns.sameBut hs3 hCL
  refine ⟨m', hns3, fun h4 hs4 => ?_⟩
  have Y4 := Y3.but hCv hbaseC fun b o hb e => hs4.extBut b o hb e
  have fr4 : ∀ b o, b ≠ C → (frz L mu h').get? b = some o → (frz L mu h4).get? b = some o := fun b o hbC' e => by
    have e3 := hz3 b o e
    have hv : b ∉ Vol L mu := fun hm => by rw [hideAll_none _ hm] at e3; cases e3
    exact hideAll_get _ (hs4.extBut b o hbC' (of_hideAll _ e3)) hv
  refine hQ D h4 _ ys l e Y4 (fun b o eb => fr4 b o (hbC b o (of_hideAll _ eb)) (frz_of (fun b o _ e => hkb b o e) b o eb)) (fun b o hbL eb => hs4.extBut b o (hbC b o eb) (hs3.extBut b o hbL (hkb b o eb))) hJ (fr4 _ _ (Nat.ne_of_lt hDC) (hideAll_get _ hD hDv)) fun p hp => ?_
  obtain ⟨g1, g2, g3⟩ := hl p hp
  have hpv : p.1 ∉ Vol L mu := Y.fresh g2
  exact fr4 _ _ g3 (hideAll_get _ g1 hpv)
end
end
local macro_rules | `(tactic| walk_at "nm8") => `(tactic| k_dflt (refine nmL (by assumption) rfl rfl rfl (by with_reducible assumption) ?_))
-- L5
section
theorem anew_L5 : True := by
  w_top off
  exact True.intro
noncomputable def lawForBody : List Stmt := match lawBody.drop 7 with
  | .For _ _ b _ _ :: _ => b
  | _ => []
inductive TupIn (l : List (Addr × Obj)) : List Value → List (Str × Str) → Prop
  | nil : TupIn l [] []
  | cons {t : Addr} {a b : Tok} {p : Str × Str} {items : List Value} {ps : List (Str × Str)} : (t, tupO [.str p.1 a, .str p.2 b]) ∈ l → TupIn l items ps → TupIn l (.ref t :: items) (p :: ps)
theorem TupIn.mono {l l' : List (Addr × Obj)} {items : List Value} {ps : List (Str × Str)} (x : TupIn l items ps) (h : ∀ p ∈ l, p ∈ l') : TupIn l' items ps := by
  induction x with
  | nil => exact .nil
  | cons ho _ ih => exact .cons (h _ ho) ih
theorem TupIn.snoc {l : List (Addr × Obj)} {items : List Value} {ps : List (Str × Str)} (x : TupIn l items ps) {t : Addr} {a b : Tok} {p : Str × Str} (h : (t, tupO [.str p.1 a, .str p.2 b]) ∈ l) : TupIn l (items ++ [.ref t]) (ps ++ [p]) := by
  induction x with
  | nil => exact .cons h .nil
  | cons ho _ ih => exact .cons ho ih
theorem TupIn.length {l : List (Addr × Obj)} {items : List Value} {ps : List (Str × Str)} (x : TupIn l items ps) : items.length = ps.length := by
  induction x with
  | nil => rfl
  | cons ho _ ih => simp [ih]
theorem TupIn.parts {l : List (Addr × Obj)} {items : List Value} {ps : List (Str × Str)} {h : Heap} (x : TupIn l items ps) (hg : ∀ p ∈ l, h.get? p.1 = some p.2) : Parts h items ps := by
  induction x with
  | nil => exact .nil
  | cons ho _ ih => exact .cons (hg _ ho) ih
theorem turnG_new {hb h' : Heap} {C D tt : Addr} {wo l : List (Addr × Obj)} {ys : List Value} {e tk : Nat} {s : Shared} {Jn : List (Addr × Obj) → Prop} {o : Obj} {m' : Str → Option Value} (F3 : Fr hb C h' m') (N3 : News hb C h' ((tt, o) :: (wo ++ (D, listOf ys.toArray e) :: l))) (hl3 : ∀ p ∈ wo ++ (D, listOf ys.toArray e) :: l, p.1 < tt) (hl : ∀ p ∈ l, p.1 ∉ wo.map (·.1) ∧ p.1 ≠ D) (hJ : Jn ((tt, o) :: l)) :
    TurnG hb C D wo ys e s Jn { s with heap := h', toks := tk } := by
  refine ⟨_, _, (tt, o) :: l, m', rfl, F3, fun p hp => N3 p ?_, fun p hp => ?_, hJ⟩
  · rcases List.mem_append.mp hp with hp | hp
    · exact .tail _ (List.mem_append_left _ hp)
    · rcases List.mem_cons.mp hp with rfl | hp
      · exact .tail _ (List.mem_append_right _ (.head _))
      · rcases List.mem_cons.mp hp with rfl | hp
        · exact .head _
        · exact .tail _ (List.mem_append_right _ (.tail _ hp))
  · rcases List.mem_cons.mp hp with rfl | hp
    · refine ⟨fun hm => ?_, Nat.ne_of_gt (hl3 _ (List.mem_append_right _ (.head _)))⟩
      obtain ⟨q, hq, hqe⟩ := List.mem_map.mp hm
      exact absurd (hl3 q (List.mem_append_left _ hq)) (by rw [hqe]; exact Nat.lt_irrefl _)
    · exact hl p hp
noncomputable def onQ (ws : List Str) (b : Int) (i : Nat) : List (Str × Str) := (List.range i).map fun (j : Nat) => ((" " : Str), Txt.slice (wAt ws (b + (j : Int) * 1)) (some 1) none)
noncomputable def mAt (mir : List Str) (n i : Int) : Str := mir.getD (i.fmod n).toNat Str.empty
noncomputable def bkQ (mir : List Str) (n b : Int) (i : Nat) : List (Str × Str) := (List.range i).map fun (j : Nat) => (("" : Str), mAt mir n (b + (j : Int) * 1) ++ (" " : Str))
theorem onQ_succ (ws : List Str) (b : Int) (i : Nat) : onQ ws b (i + 1) = onQ ws b i ++ [((" " : Str), Txt.slice (wAt ws (b + (i : Int) * 1)) (some 1) none)] := by simp [onQ, List.range_succ]
theorem bkQ_succ (mir : List Str) (n b : Int) (i : Nat) : bkQ mir n b (i + 1) = bkQ mir n b i ++ [(("" : Str), mAt mir n (b + (i : Int) * 1) ++ (" " : Str))] := by simp [bkQ, List.range_succ]
section
local macro_rules | `(tactic| walk_at "call type:range") => `(tactic| refine Halt.go ?_)
local macro_rules | `(tactic| walk_at "subscriptTail Name BinOp ref int") => `(tactic| (refine item_strs (by with_reducible assumption) (by with_reducible assumption) (by with_reducible assumption) (fmod_lo _ (by omega)) (by have := fmod_hi; omega) (by omega) ?_; intro _))
local macro_rules | `(tactic| size_fits) => `(tactic| (have := sizeLine_eq; omega))
local macro_rules | `(tactic| walk_at "eval Name") => `(tactic| first | walk_at "nm8" | walk_at "nm6" | walk_at "nm0" | walk_at "nm7")
theorem law_on {w : World} {mean : ExcName → Option Value} {mg mb : Str → Option Value} {p : Program} {loose : List Str} {A : Around} {s : Shared} {E : Value → Shared → Prop} {Q : Flow → Shared → Prop} {base : Heap} {L W : Addr} {mu : List Addr} {us : List Value} {ws : List Str} {ms cs : List (Str × Option Value)} {n b : Nat} {tn tb : Tok}
  (X : Frag.In (hd.heap_1 w.params) base) (T : Top p loose mean mg mb base) (hA : Ok A 200 2000) (Y : LF base L mu s.heap ms cs) (hW : mp cs "words" = some (.ref W)) (hc : mp cs "count" = some (.int n tn)) (hbo : mp cs "border" = some (.int b tb)) (hl : (frz L mu s.heap).IsList W us.toArray) (hS : StrsAre us ws) (hlen : ws.length = n) (hn5 : n ≤ 5) (hn3 : 3 ≤ n) (hbn : b < n) (hB : ∀ i, (ws.getD i Str.empty).length ≤ 5)
  (h : ∀ h' tk' O items k, LF base L mu h' (put "onward" (some (.ref O)) ms) cs → (∀ b o, (frz L mu s.heap).get? b = some o → (frz L mu h').get? b = some o) → (∀ b o, b ≠ L → s.heap.get? b = some o → h'.get? b = some o) → (frz L mu h').get? O = some (listOf items.toArray k) → Parts (frz L mu h') items (onQ ws b (2 * n)) →
    wpC (model PySem.Challenge.rw_pe0169_01.row.prog w) A (execs (lawForBody.drop 1) (lawEnv L)) Q E { s with heap := h', toks := tk' }) :
  wpC (model PySem.Challenge.rw_pe0169_01.row.prog w) A (execs lawForBody (lawEnv L)) Q E s := by
  have hh := hA.h
  revert X
  k_fill
  intro X
  have hsc : lawScope = lawScope := rfl
  conv at hsc => rhs; whnf
  dsimp only [lawEnv]
  rw [hsc]
  have F := Y.F
  have N : News base L s.heap [] := News.nil
  have hls := isList_of_frz hl
  refine execsC_cons (wpC_of_any ?_)
  refine assignU (cl := [("words", L + 5), ("count", L + 3)]) ?_ ?_ rfl (by decide) (by intro _; rfl) ?_
  · rfl
  · rfl
  k_steps
  refine Halt.on ?_
  (try dsimp only)
  refine rng2 (n := 2 * n) (by omega) (by push_cast; omega) (by omega) fun I h2 tk2 hI hk2 hit hsz2 => ?_
  (try dsimp only at hI hk2 hit hsz2 ⊢)
  have hIb : s.heap.get? I = none := by
    cases q : s.heap.get? I with
    | none => rfl
    | some o => exact absurd (Heap.lt_size q) (Nat.not_lt.mpr (Nat.le_of_lt hI))
  refine law_compU Y rfl (hb := s.heap) (n := 2 * n) (wr := [I]) (St := fun i h => IsRangeIter h I ((b : Int) + (i : Nat) * 1) (((2 * n : Nat) : Int) - (i : Nat)) 1) (Bound := fun i m => ∃ v, (∃ t, v = Value.int ((b : Int) + (i : Int) * 1) t) ∧ m "k" = some v) ?V (by omega) (by rw [hsz2]; exact Nat.le_succ_of_le (Nat.le_of_lt hI)) hk2 hit (fun b hb => by rcases List.mem_singleton.mp hb with rfl; exact hIb) (fun i ys l => TupIn l ys (onQ ws b i)) .nil ?jl (by decide) rfl ?turn ?hQ
  case V => exact adv_name (Walks.range hh I b 1 (2 * n)) (fun b hb => .inl (List.mem_singleton.mp hb)) (fun i h st => ⟨_, st⟩) rfl rfl
  case jl => intro i ys l hT; rw [hT.length]; simp [onQ]
  case turn =>
    rintro i ys l h tk C D' m' wo e' hi hT hwo hlt hDC F' N' hl' ⟨v, ⟨t, rfl⟩, hk⟩
    have X' : Frag.In (hd.heap_1 w.params) s.heap := fun b o e => Y.F.keep b o (X b o e)
    have T' := T.keeps Y.F.keep
    have hwc : s.heap.IsCell (L + 5) (some (.ref W)) := hW ▸ Y.C.cell "words" (L + 5) rfl
    have hcc : s.heap.IsCell (L + 3) (some (.int n tn)) := hc ▸ Y.C.cell "count" (L + 3) rfl
    clear X T F N Y hl hk2 hit
    refine wpAny_tests_nil ?_
    simp only [if_true]
    k_steps
    dsimp only
    have hnp : (0 : Int) < n := by omega
    refine item_strs F' hls hS (fmod_lo _ hnp) (by rw [hlen]; exact fmod_hi _ hnp) (by omega) ?_
    intro t1
    have hwa : ws.getD (((b : Int) + (i : Int) * 1).fmod n).toNat Str.empty = wAt ws ((b : Int) + (i : Int) * 1) := by simp only [wAt, hlen]
    rw [hwa]
    have hwl : (wAt ws ((b : Int) + (i : Int) * 1)).length ≤ 5 := hB _
    k_steps
    rename_i tt h3 F3 N3 hl3
    dsimp only
    refine Halt.on (turnG_new F3 N3 hl3 hl' ?_)
    rw [onQ_succ]
    exact (hT.mono fun p hp => .tail _ hp).snoc (.head _)
  case hQ =>
    intro O h' tk ys l e Y' hz hk' hT hO hl'
    exact h h' _ O ys e Y' hz hk' hO (hT.parts hl')
theorem law_bk {w : World} {mean : ExcName → Option Value} {mg mb : Str → Option Value} {p : Program} {loose : List Str} {A : Around} {s : Shared} {E : Value → Shared → Prop} {Q : Flow → Shared → Prop} {base : Heap} {L M : Addr} {mu : List Addr} {us : List Value} {mir : List Str} {ms cs : List (Str × Option Value)} {n b : Nat} {tn tb : Tok}
  (X : Frag.In (hd.heap_1 w.params) base) (T : Top p loose mean mg mb base) (hA : Ok A 200 2000) (Y : LF base L mu s.heap ms cs) (hM : mp cs "mirror" = some (.ref M)) (hc : mp cs "count" = some (.int n tn)) (hbo : mp cs "border" = some (.int b tb)) (hl : (frz L mu s.heap).IsList M us.toArray) (hS : StrsAre us mir) (hlen : n ≤ mir.length) (hlen2 : mir.length < 50) (hn5 : n ≤ 5) (hn3 : 3 ≤ n) (hbn : b < n) (hB : ∀ i, (mir.getD i Str.empty).length ≤ 50)
  (h : ∀ h' tk' O items k, LF base L mu h' (put "backward" (some (.ref O)) ms) cs → (∀ b o, (frz L mu s.heap).get? b = some o → (frz L mu h').get? b = some o) → (∀ b o, b ≠ L → s.heap.get? b = some o → h'.get? b = some o) → (frz L mu h').get? O = some (listOf items.toArray k) → Parts (frz L mu h') items (bkQ mir n (n - b) (2 * n)) →
    wpC (model PySem.Challenge.rw_pe0169_01.row.prog w) A (execs (lawForBody.drop 2) (lawEnv L)) Q E { s with heap := h', toks := tk' }) :
  wpC (model PySem.Challenge.rw_pe0169_01.row.prog w) A (execs (lawForBody.drop 1) (lawEnv L)) Q E s := by
  have hh := hA.h
  revert X
  k_fill
  intro X
  have hsc : lawScope = lawScope := rfl
  conv at hsc => rhs; whnf
  dsimp only [lawEnv]
  rw [hsc]
  have F := Y.F
  have N : News base L s.heap [] := News.nil
  have hls := isList_of_frz hl
  refine execsC_cons (wpC_of_any ?_)
  refine assignU (cl := [("mirror", L + 6), ("count", L + 3)]) ?_ ?_ rfl (by decide) (by intro _; rfl) ?_
  · rfl
  · rfl
  k_steps
  refine Halt.on ?_
  (try dsimp only)
  refine rng2 (n := 2 * n) (by omega) (by push_cast; omega) (by omega) fun I h2 tk2 hI hk2 hit hsz2 => ?_
  (try dsimp only at hI hk2 hit hsz2 ⊢)
  have hIb : s.heap.get? I = none := by
    cases q : s.heap.get? I with
    | none => rfl
    | some o => exact absurd (Heap.lt_size q) (Nat.not_lt.mpr (Nat.le_of_lt hI))
  refine law_compU Y rfl (hb := s.heap) (n := 2 * n) (wr := [I]) (St := fun i h => IsRangeIter h I (((n : Int) - b) + (i : Nat) * 1) (((2 * n : Nat) : Int) - (i : Nat)) 1) (Bound := fun i m => ∃ v, (∃ t, v = Value.int (((n : Int) - b) + (i : Int) * 1) t) ∧ m "k" = some v) ?V (by omega) (by rw [hsz2]; exact Nat.le_succ_of_le (Nat.le_of_lt hI)) hk2 hit (fun b hb => by rcases List.mem_singleton.mp hb with rfl; exact hIb) (fun i ys l => TupIn l ys (bkQ mir n (n - b) i)) .nil ?jl (by decide) rfl ?turn ?hQ
  case V => exact adv_name (Walks.range hh I ((n : Int) - b) 1 (2 * n)) (fun b hb => .inl (List.mem_singleton.mp hb)) (fun i h st => ⟨_, st⟩) rfl rfl
  case jl => intro i ys l hT; rw [hT.length]; simp [bkQ]
  case turn =>
    rintro i ys l h tk C D' m' wo e' hi hT hwo hlt hDC F' N' hl' ⟨v, ⟨t, rfl⟩, hk⟩
    have X' : Frag.In (hd.heap_1 w.params) s.heap := fun b o e => Y.F.keep b o (X b o e)
    have T' := T.keeps Y.F.keep
    have hwc : s.heap.IsCell (L + 6) (some (.ref M)) := hM ▸ Y.C.cell "mirror" (L + 6) rfl
    have hcc : s.heap.IsCell (L + 3) (some (.int n tn)) := hc ▸ Y.C.cell "count" (L + 3) rfl
    clear X T F N Y hl hk2 hit
    refine wpAny_tests_nil ?_
    simp only [if_true]
    k_steps
    dsimp only
    have hnp : (0 : Int) < n := by omega
    have hm1 := fmod_hi (((n : Int) - b) + (i : Int) * 1) hnp
    refine item_strs F' hls hS (fmod_lo _ hnp) (by omega) (by omega) ?_
    intro t1
    have hwa : mir.getD ((((n : Int) - b) + (i : Int) * 1).fmod n).toNat Str.empty = mAt mir n (((n : Int) - b) + (i : Int) * 1) := rfl
    rw [hwa]
    have hwl : (mAt mir n (((n : Int) - b) + (i : Int) * 1)).length ≤ 50 := hB _
    k_steps
    rename_i tt h3 F3 N3 hl3
    dsimp only
    refine Halt.on (turnG_new F3 N3 hl3 hl' ?_)
    rw [bkQ_succ]
    exact (hT.mono fun p hp => .tail _ hp).snoc (.head _)
  case hQ =>
    intro O h' tk ys l e Y' hz hk' hT hO hl'
    exact h h' _ O ys e Y' hz hk' hO (hT.parts hl')
end
end
-- L6
section
theorem anew_L6 : True := by
  w_top off
  exact True.intro
theorem frz_tab {L : Addr} {mu : List Addr} {h : Heap} : ∀ b o, (frz L mu h).get? b = some o → (hideAll h [140, 147]).get? b = some o := fun b o e =>
  hide_mono (fun x hx => by
    simp only [List.mem_cons, List.not_mem_nil, or_false] at hx
    rcases hx with rfl | rfl <;> simp [Vol]) e
section
local macro_rules | `(tactic| walk_at $s) => if among "getMethod ref|call ref|call builtin:str.split|call builtin:list.append" s then `(tactic| refine Halt.go ?_) else Lean.Macro.throwUnsupported
local macro_rules | `(tactic| walk_at "eval Name") => `(tactic| first | walk_at "nm8" | walk_at "nm4" | walk_at "nm7")
theorem law_fa {w : World} {mean : ExcName → Option Value} {mg mb : Str → Option Value} {p : Program} {loose : List Str} {A : Around} {s : Shared} {E : Value → Shared → Prop} {Q : Flow → Shared → Prop} {base : Heap} {L O FL : Addr} {mu : List Addr} {items fv : List Value} {qs : List (Str × Str)} {ms cs : List (Str × Option Value)} {wd : Int} {tw : Tok} {kf k : Nat}
  (X : Frag.In (hd.heap_1 w.params) base) (T : Top p loose mean mg mb base) (hA : Ok A 200 2000) (G : AllBare s.gens) (Y : LF base L mu s.heap ms cs) (hFm : FL ∈ mu) (hFv : FL ∉ Vol L []) (hF : s.heap.get? FL = some (listOf fv.toArray kf)) (hfz : fv.length < 100) (m1 : mp ms "forth" = some (.ref FL)) (m2 : mp ms "onward" = some (.ref O)) (c1 : mp cs "width" = some (.int wd tw))
  (hO : (frz L mu s.heap).get? O = some (listOf items.toArray k)) (hP : Parts (frz L mu s.heap) items qs) (hne : qs ≠ []) (hn : qs.length < 40) (hg : ∀ q ∈ qs, GoodQ q) (hmode : (∀ q ∈ qs, q.1 = " ") ∨ (∀ q ∈ qs, q.1 = "" ∧ q.2.cps.back? = some 32)) (hlen : (Txt.join "\n" (writtenL wd qs)).length < 2000)
  (h : ∀ h' tk' g' R us kr, AllBare g' → LF base L mu h' ms cs → (∀ b o, (frz L mu s.heap).get? b = some o → (frz L mu h').get? b = some o) → (∀ b o, b ≠ FL → b ∉ [140, 147] → s.heap.get? b = some o → h'.get? b = some o) → h'.get? FL = some (listOf (fv ++ [Value.ref R]).toArray (kf + 1)) → (frz L mu h').get? R = some (listOf us.toArray kr) → StrsAre us (Txt.split (Txt.join "\n" (writtenL wd qs)) "\n") →
    wpC (model PySem.Challenge.rw_pe0169_01.row.prog w) A (execs (lawForBody.drop 3) (lawEnv L)) Q E { s with heap := h', toks := tk', gens := g' }) :
  wpC (model PySem.Challenge.rw_pe0169_01.row.prog w) A (execs (lawForBody.drop 2) (lawEnv L)) Q E s := by
  have hh := hA.h
  revert X
  k_fill
  intro X
  have hsc : lawScope = lawScope := rfl
  conv at hsc => rhs; whnf
  dsimp only [lawEnv]
  rw [hsc]
  have F := Y.F
  have N : News base L s.heap [] := News.nil
  refine execsC_cons (wpC_of_any ?_)
  k_steps
  refine Halt.on (getMethod_list_append hF rfl rfl ?_)
  k_steps
  refine Halt.on ?_
  have hin : ∀ b o, base.get? b = some o → (hideAll s.heap [140, 147]).get? b = some o := fun b o e => frz_tab b o (Y.base_frz b o e)
  refine wpAny_mono (written_spec (fun b o e => hin b o (X b o e)) (T.keeps hin) (hA.less (by decide) (by decide)) G Y.tab (frz_tab _ _ hO) (hP.keep frz_tab) hne hn hg hmode) (fun r s' hr => ?_) fun _ _ x => x
  obtain ⟨⟨t, rfl⟩, ⟨h1, tk1, g1, rfl, hk1, hg1⟩, hT1⟩ := hr.go
  replace hg1 := hg1 G
  dsimp only at hT1 ⊢
  obtain ⟨Y1, hz1⟩ := Y.tabs hk1 hT1
  have hF1 : h1.get? FL = some (listOf fv.toArray kf) := hk1 _ _ (fun hm => hFv (by
    simp only [List.mem_cons, List.not_mem_nil, or_false] at hm
    rcases hm with rfl | rfl <;> simp [Vol])) hF
  clear F N
  have F := Y1.F
  have N : News base L h1 [] := News.nil
  k_steps
  refine Halt.on (split_step (by decide +kernel) hlen fun D us h3 k3 hD hS3 hk3 hg3 => ?_)
  (try dsimp only at hD hk3 ⊢)
  have Y3 := Y1.grow hk3
  have hDv : D ∉ Vol L mu := Y1.fresh_ge (Nat.le_of_eq hD.symm)
  clear F N
  have F := Y3.F
  have N : News base L h3 [] := News.nil
  k_steps
  refine Halt.on (law_append Y3 hFm hFv (hk3 _ _ hF1) (by omega) fun h5 Y5 hz5 hs5 hF5 => ?_)
  exact h h5 _ g1 D us 0 hg1 Y5 (fun b o e => hz5 b o (frz_of (fun b o _ e => hk3 b o e) b o (hz1 b o e))) (fun b o h1' h2' e => hs5.extBut b o h1' (hk3 b o (hk1 b o h2' e))) hF5 (hz5 _ _ (hideAll_get _ hg3 hDv)) hS3
theorem law_ba {w : World} {mean : ExcName → Option Value} {mg mb : Str → Option Value} {p : Program} {loose : List Str} {A : Around} {s : Shared} {E : Value → Shared → Prop} {Q : Flow → Shared → Prop} {base : Heap} {L O FL : Addr} {mu : List Addr} {items fv : List Value} {qs : List (Str × Str)} {ms cs : List (Str × Option Value)} {wd : Int} {tw : Tok} {kf k : Nat}
  (X : Frag.In (hd.heap_1 w.params) base) (T : Top p loose mean mg mb base) (hA : Ok A 200 2000) (G : AllBare s.gens) (Y : LF base L mu s.heap ms cs) (hFm : FL ∈ mu) (hFv : FL ∉ Vol L []) (hF : s.heap.get? FL = some (listOf fv.toArray kf)) (hfz : fv.length < 100) (m1 : mp ms "back" = some (.ref FL)) (m2 : mp ms "backward" = some (.ref O)) (c1 : mp cs "width" = some (.int wd tw))
  (hO : (frz L mu s.heap).get? O = some (listOf items.toArray k)) (hP : Parts (frz L mu s.heap) items qs) (hne : qs ≠ []) (hn : qs.length < 40) (hg : ∀ q ∈ qs, GoodQ q) (hmode : (∀ q ∈ qs, q.1 = " ") ∨ (∀ q ∈ qs, q.1 = "" ∧ q.2.cps.back? = some 32)) (hlen : (Txt.join "\n" (writtenL wd qs)).length < 1000) (hpos : 0 < (Txt.join "\n" (writtenL wd qs)).cps.size) (ha : (Txt.join "\n" (writtenL wd qs)).cps.all (· < 128) = true)
  (h : ∀ h' tk' g' R us kr, AllBare g' → LF base L mu h' ms cs → (∀ b o, (frz L mu s.heap).get? b = some o → (frz L mu h').get? b = some o) → (∀ b o, b ≠ FL → b ∉ [140, 147] → s.heap.get? b = some o → h'.get? b = some o) → h'.get? FL = some (listOf (fv ++ [Value.ref R]).toArray (kf + 1)) → (frz L mu h').get? R = some (listOf us.toArray kr) → StrsAre us (Txt.split ⟨(Txt.join "\n" (writtenL wd qs)).cps.reverse⟩ "\n") →
    Q .next { s with heap := h', toks := tk', gens := g' }) :
  wpC (model PySem.Challenge.rw_pe0169_01.row.prog w) A (execs (lawForBody.drop 3) (lawEnv L)) Q E s := by
  have hh := hA.h
  revert X
  k_fill
  intro X
  have hsc : lawScope = lawScope := rfl
  conv at hsc => rhs; whnf
  dsimp only [lawEnv]
  rw [hsc]
  have F := Y.F
  have N : News base L s.heap [] := News.nil
  refine execsC_cons (ExprC (MethodCallC (wpC_of_any ?_)))
  k_steps
  refine Halt.on (getMethod_list_append hF rfl rfl ?_)
  refine callC_builtin1 (argsC_cons (MethodCallC (CallC (wpC_of_any ?_))))
  k_steps
  k_dflt (refine' callC_defK ?k1 ?k3 ?_; (case k1 => k_asm); (case k3 => k_is); k_whole)
  refine argsC_cons (wpC_of_any ?_)
  k_steps
  refine Halt.on ?_
  have hin : ∀ b o, base.get? b = some o → (hideAll s.heap [140, 147]).get? b = some o := fun b o e => frz_tab b o (Y.base_frz b o e)
  refine wpAny_mono (written_spec (fun b o e => hin b o (X b o e)) (T.keeps hin) (hA.less (by decide) (by decide)) G Y.tab (frz_tab _ _ hO) (hP.keep frz_tab) hne hn hg hmode) (fun r s' hr => ?_) fun _ _ x => x
  obtain ⟨⟨t, rfl⟩, ⟨h1, tk1, g1, rfl, hk1, hg1⟩, hT1⟩ := hr.go
  replace hg1 := hg1 G
  dsimp only at hT1 ⊢
  obtain ⟨Y1, hz1⟩ := Y.tabs hk1 hT1
  have hF1 : h1.get? FL = some (listOf fv.toArray kf) := hk1 _ _ (fun hm => hFv (by
    simp only [List.mem_cons, List.not_mem_nil, or_false] at hm
    rcases hm with rfl | rfl <;> simp [Vol])) hF
  refine argsC_nil ⟨Y1.F.keep, ?_⟩
  refine wpC_mono (mirror_spec (s := { s with heap := h1, toks := tk1, gens := g1 }) (fun b o e => Y1.F.keep b o (X b o e)) (T.keeps Y1.F.keep) (hA.less (by decide) (by decide)) ha hpos hlen) (fun v s' hr2 => ?_) fun _ _ x => x
  obtain ⟨t2, rfl, h2, tk2, rfl, hk2⟩ := hr2.go
  dsimp only at hk2 ⊢
  have Y2 := Y1.grow hk2
  clear F N
  have F := Y2.F
  have N : News base L h2 [] := News.nil
  k_steps
  refine wpC_of_any ?_
  dsimp only
  k_steps
  refine Halt.on (split_step (by decide +kernel) (by show (Txt.join "\n" (writtenL wd qs)).cps.reverse.size < 2000; rw [Array.size_reverse]; exact Nat.lt_trans hlen (by decide)) fun D us h3 k3 hD hS3 hk3 hg3 => ?_)
  (try dsimp only at hD hk3 ⊢)
  have Y3 := Y2.grow hk3
  have hDv : D ∉ Vol L mu := Y2.fresh_ge (Nat.le_of_eq hD.symm)
  refine argsC_nil (wpC_of_any ?_)
  refine law_append Y3 hFm hFv (hk3 _ _ (hk2 _ _ hF1)) (by omega) fun h5 Y5 hz5 hs5 hF5 => ?_
  show wpC _ _ (execs [] _) _ _ _
  refine execsC_nil ?_
  exact h h5 _ g1 D us 0 hg1 Y5 (fun b o e => hz5 b o (frz_of (fun b o _ e => hk3 b o (hk2 b o e)) b o (hz1 b o e))) (fun b o h1' h2' e => hs5.extBut b o h1' (hk3 b o (hk2 b o (hk1 b o h2' e)))) hF5 (hz5 _ _ (hideAll_get _ hg3 hDv)) hS3
end
end
-- L7
section
theorem anew_L7 : True := by
  w_top off
  exact True.intro
inductive RowsAre (Z : Heap) : List Value → List (List Str) → Prop
  | nil : RowsAre Z [] []
  | cons {R : Addr} {us : List Value} {k : Nat} {rows : List Str} {vs : List Value} {rs : List (List Str)} : Z.get? R = some (listOf us.toArray k) → StrsAre us rows → RowsAre Z vs rs → RowsAre Z (.ref R :: vs) (rows :: rs)
theorem RowsAre.keep {Z Z' : Heap} {vs : List Value} {rs : List (List Str)} (x : RowsAre Z vs rs) (h : ∀ b o, Z.get? b = some o → Z'.get? b = some o) : RowsAre Z' vs rs := by
  induction x with
  | nil => exact .nil
  | cons a b _ ih => exact .cons (h _ _ a) b ih
theorem RowsAre.snoc {Z : Heap} {vs : List Value} {rs : List (List Str)} (x : RowsAre Z vs rs) {R : Addr} {us : List Value} {k : Nat} {rows : List Str} (a : Z.get? R = some (listOf us.toArray k)) (b : StrsAre us rows) : RowsAre Z (vs ++ [.ref R]) (rs ++ [rows]) := by
  induction x with
  | nil => exact .cons a b .nil
  | cons c d _ ih => exact .cons c d ih
theorem RowsAre.length {Z : Heap} {vs : List Value} {rs : List (List Str)} (x : RowsAre Z vs rs) : vs.length = rs.length := by
  induction x with
  | nil => rfl
  | cons _ _ _ ih => simp [ih]
noncomputable def fText (ws : List Str) (wd : Int) (n b : Nat) : Str := Txt.join "\n" (writtenL wd (onQ ws b (2 * n)))
noncomputable def bText (mir : List Str) (wd : Int) (n b : Nat) : Str := Txt.join "\n" (writtenL wd (bkQ mir n ((n : Int) - b) (2 * n)))
noncomputable def fRow (ws : List Str) (wd : Int) (n b : Nat) : List Str := Txt.split (fText ws wd n b) "\n"
noncomputable def bRow (mir : List Str) (wd : Int) (n b : Nat) : List Str := Txt.split ⟨(bText mir wd n b).cps.reverse⟩ "\n"
/-- what the plain law must say of the pieces -/
structure PiecesOk (ws mir : List Str) (wd : Int) (n : Nat) : Prop where
  on : ∀ b, b < n → ∀ q ∈ onQ ws b (2 * n), GoodQ q ∧ q.1 = " "
  bk : ∀ b, b < n → ∀ q ∈ bkQ mir n ((n : Int) - b) (2 * n), GoodQ q ∧ q.1 = "" ∧ q.2.cps.back? = some 32
  lf : ∀ b, b < n → (fText ws wd n b).length < 2000
  lb : ∀ b, b < n → (bText mir wd n b).length < 1000 ∧ 0 < (bText mir wd n b).cps.size ∧ (bText mir wd n b).cps.all (· < 128) = true
section
local macro_rules | `(tactic| walk_at "pad") => `(tactic| skip)
local macro_rules | `(tactic| walk_at "call type:range") => `(tactic| refine Halt.go ?_)
local macro_rules | `(tactic| walk_at "eval Name") => `(tactic| first | walk_at "nm0" | walk_at "nm7")
inductive L7J (s : Shared) (base : Heap) (L I FL BL : Addr) (ms cs : List (Str × Option Value)) (ws mir : List Str) (wd : Int) (n i : Nat) (s' : Shared) : Prop
  | mk (h' : Heap) (tk : Nat) (g : Array GenState) (ms' cs' : List (Str × Option Value)) (fv bv : List Value) (kf kb : Nat) : s' = { s with heap := h', toks := tk, gens := g } → AllBare g → LF base L [BL, FL] h' ms' cs' → (∀ y : Str, y ≠ ("onward" : Str) → y ≠ ("backward" : Str) → mp ms' y = mp ms y) → (∀ y : Str, y ≠ ("border" : Str) → mp cs' y = mp cs y) → (∀ b o, (frz L [BL, FL] s.heap).get? b = some o → (frz L [I, BL, FL] h').get? b = some o) → h'.get? FL = some (listOf fv.toArray kf) → h'.get? BL = some (listOf bv.toArray kb) →
      RowsAre (frz L [I, BL, FL] h') fv ((List.range i).map (fRow ws wd n)) → RowsAre (frz L [I, BL, FL] h') bv ((List.range i).map (bRow mir wd n)) → L7J s base L I FL BL ms cs ws mir wd n i s'
theorem law_s7 {w : World} {mean : ExcName → Option Value} {mg mb : Str → Option Value} {p : Program} {loose : List Str} {A : Around} {s : Shared} {E : Value → Shared → Prop} {Q : Flow → Shared → Prop} {base : Heap} {L W M FL BL : Addr} {us um : List Value} {ws mir : List Str} {ms cs : List (Str × Option Value)} {wd : Int} {tw tn : Tok} {n : Nat}
  (X : Frag.In (hd.heap_1 w.params) base) (T : Top p loose mean mg mb base) (hA : Ok A 200 2000) (G : AllBare s.gens) (Y : LF base L [BL, FL] s.heap ms cs) (hFB : FL ≠ BL) (hFv : FL ∉ Vol L []) (hBv : BL ∉ Vol L []) (hF : s.heap.get? FL = some (listOf ([] : List Value).toArray 0)) (hB : s.heap.get? BL = some (listOf ([] : List Value).toArray 0))
  (m1 : mp ms "forth" = some (.ref FL)) (m2 : mp ms "back" = some (.ref BL)) (c1 : mp cs "width" = some (.int wd tw)) (c2 : mp cs "count" = some (.int n tn)) (c3 : mp cs "words" = some (.ref W)) (c4 : mp cs "mirror" = some (.ref M))
  (hW : (frz L [BL, FL] s.heap).IsList W us.toArray) (hS : StrsAre us ws) (hM : (frz L [BL, FL] s.heap).IsList M um.toArray) (hSm : StrsAre um mir) (hlen : ws.length = n) (hlm : n ≤ mir.length) (hlm2 : mir.length < 50) (hn3 : 3 ≤ n) (hn5 : n ≤ 5) (hwl : ∀ i, (ws.getD i Str.empty).length ≤ 5) (hml : ∀ i, (mir.getD i Str.empty).length ≤ 50) (ok : PiecesOk ws mir wd n)
  (h : ∀ h' tk' g' ms' fv bv kf kb cs', AllBare g' → LF base L [BL, FL] h' ms' cs' → (∀ y : Str, y ≠ ("onward" : Str) → y ≠ ("backward" : Str) → mp ms' y = mp ms y) → (∀ y : Str, y ≠ ("border" : Str) → mp cs' y = mp cs y) → (∀ b o, (frz L [BL, FL] s.heap).get? b = some o → (frz L [BL, FL] h').get? b = some o) → h'.get? FL = some (listOf fv.toArray kf) → h'.get? BL = some (listOf bv.toArray kb) →
    RowsAre (frz L [BL, FL] h') fv ((List.range n).map (fRow ws wd n)) → RowsAre (frz L [BL, FL] h') bv ((List.range n).map (bRow mir wd n)) →
    wpC (model PySem.Challenge.rw_pe0169_01.row.prog w) A (execs (lawBody.drop 8) (lawEnv L)) Q E { s with heap := h', toks := tk', gens := g' }) :
  wpC (model PySem.Challenge.rw_pe0169_01.row.prog w) A (execs (lawBody.drop 7) (lawEnv L)) Q E s := by
  have hh := hA.h
  revert X
  k_fill
  intro X
  have hsc : lawScope = lawScope := rfl
  conv at hsc => rhs; whnf
  dsimp only [lawEnv]
  rw [hsc]
  have F := Y.F
  have N : News base L s.heap [] := News.nil
  refine execsC_cons (ForC ?_)
  k_steps
  refine Halt.on ?_
  (try dsimp only)
  refine rng1 (N := n) (by omega) fun I h1 tk1 hI hk1 hit hsz1 => ?_
  have hIv : I ∉ Vol L [BL, FL] := Y.fresh_ge (Nat.le_of_lt hI)
  have hIh : s.heap.get? I = none := by
    cases q : s.heap.get? I with
    | none => rfl
    | some o => exact absurd (Heap.lt_size q) (Nat.not_lt.mpr (Nat.le_of_lt hI))
  have hIb : base.get? I = none := by
    cases q : base.get? I with
    | none => rfl
    | some o => exact absurd ((Y.F.keep _ _ q).symm.trans hIh) (by simp)
  have hIF : I ≠ FL := fun q => by rw [q, hF] at hIh; cases hIh
  have hIB : I ≠ BL := fun q => by rw [q, hB] at hIh; cases hIh
  have hIt : I ∉ ([140, 147] : List Addr) := fun hm => hIv (by
    simp only [List.mem_cons, List.not_mem_nil, or_false] at hm
    rcases hm with rfl | rfl <;> simp [Vol])
  have hFt : FL ∉ ([140, 147] : List Addr) := fun hm => hFv (by
    simp only [List.mem_cons, List.not_mem_nil, or_false] at hm
    rcases hm with rfl | rfl <;> simp [Vol])
  have hBt : BL ∉ ([140, 147] : List Addr) := fun hm => hBv (by
    simp only [List.mem_cons, List.not_mem_nil, or_false] at hm
    rcases hm with rfl | rfl <;> simp [Vol])
  have hIL : I ≠ L := fun q => hIv (q ▸ .head _)
  have hFL : FL ≠ L := fun q => hFv (q ▸ .head _)
  have hBL : BL ≠ L := fun q => hBv (q ▸ .head _)
  have z0 : ∀ b o, (frz L [BL, FL] s.heap).get? b = some o → (frz L [I, BL, FL] h1).get? b = some o := fun b o e =>
    frz_more (frz_of (fun b o _ e => hk1 b o e) b o e) fun q => by rw [q] at e; have := of_hideAll _ e; rw [hIh] at this; cases this
  refine forWC (Walks.range hh I 0 1 n) (fun b hb => List.mem_singleton.mp hb) base (fun b hb => .inl (List.mem_singleton.mp hb))
    (J := L7J s base L I FL BL ms cs ws mir wd n)
    ?hJ ?hup (fun i h st => ⟨_, st⟩) ?turn ?done hit ⟨h1, _, _, ms, cs, [], [], 0, 0, rfl, G, Y.grow hk1, fun _ _ _ => rfl, fun _ _ => rfl, z0, hk1 _ _ hF, hk1 _ _ hB, .nil, .nil⟩
  case hJ => rintro i s' ⟨h', tk, g, ms', cs', fv, bv, kf, kb, rfl, _, Y', _⟩; exact Y'.F.keep
  case hup =>
    rintro i s' h2 tk2 ⟨h', tk, g, ms', cs', fv, bv, kf, kb, rfl, hg, Y', e1, e2, z, f1, f2, r1, r2⟩ hkp
    have zz : ∀ b o, (frz L [I, BL, FL] h').get? b = some o → (frz L [I, BL, FL] h2).get? b = some o := frz_of fun b o hb e => hkp b o (fun q => hb (vol_cons.mpr (.inl q))) e
    exact ⟨h2, tk2, g, ms', cs', fv, bv, kf, kb, rfl, hg, Y'.but hIv hIb hkp, e1, e2, fun b o e => zz _ _ (z b o e), hkp _ _ (Ne.symm hIF) f1, hkp _ _ (Ne.symm hIB) f2, r1.keep zz, r2.keep zz⟩
  case done =>
    rintro s' ⟨h', tk, g, ms', cs', fv, bv, kf, kb, rfl, hg, Y', e1, e2, z, f1, f2, r1, r2⟩
    refine wpAny_execs_nil ?_
    exact h h' tk g ms' fv bv kf kb cs' hg Y' e1 e2 (fun b o e => frz_less (z b o e)) f1 f2 (r1.keep fun b o e => frz_less e) (r2.keep fun b o e => frz_less e)
  case turn =>
    rintro i v s' o hi ⟨t, rfl⟩ ⟨h', tk, g, ms', cs', fv, bv, kf, kb, rfl, hg, Y', e1, e2, z, f1, f2, r1, r2⟩ ho hst
    refine wpAny_pure ?_
    rw [show (0 : Int) + (i : Int) * 1 = i by omega]
    have Yi : LF base L [I, BL, FL] h' ms' cs' := Y'.more hIb ho
    have hcm : L + 7 ∈ Vol L [] := by
      have : L + 7 ∈ (lawCS L).map (·.2) := List.mem_map_of_mem (f := Prod.snd) (mem_of_lookup (show (lawCS L).lookup ("border" : Str) = some (L + 7) from rfl))
      simp only [Vol, List.mem_cons, List.mem_append, List.not_mem_nil, or_false]
      exact .inr (.inr (.inr this))
    refine wpAny_assign_Name (law_storeC (c := L + 7) Yi rfl rfl fun h2 Y2 hz2 hs2 => ?_)
    have o2 : h2.get? I = some o := hs2.extBut _ _ (fun q => hIv (q ▸ vol_sub hcm)) ho
    have f12 : h2.get? FL = some (listOf fv.toArray kf) := hs2.extBut _ _ (fun q => hFv (q ▸ hcm)) f1
    have f22 : h2.get? BL = some (listOf bv.toArray kb) := hs2.extBut _ _ (fun q => hBv (q ▸ hcm)) f2
    have zz2 : ∀ b o, (frz L [BL, FL] s.heap).get? b = some o → (frz L [I, BL, FL] h2).get? b = some o := fun b o e => hz2 _ _ (z b o e)
    have q2 : ∀ y : Str, y ≠ ("border" : Str) → mp (put "border" (some (.int (i : Int) t)) cs') y = mp cs y := fun y hy => by rw [mp_put_ne _ _ hy, e2 y hy]
    have b1 := q2 "words" (by decide)
    have b2 := q2 "count" (by decide)
    have b3 := q2 "mirror" (by decide)
    have b4 := q2 "width" (by decide)
    have b5 : mp (put "border" (some (.int (i : Int) t)) cs') "border" = some (.int (i : Int) t) := mp_put_self _ _ _
    refine law_on X T hA Y2 (b1.trans c3) (b2.trans c2) b5 (isList_keep hW zz2) hS hlen hn5 hn3 hi hwl fun h3 tk3 O it3 k3 Y3 hz3 hk3 hO3 hP3 => ?_
    dsimp only at hk3
    refine law_bk X T hA Y3 (b3.trans c4) (b2.trans c2) b5 (isList_keep hM fun b o e => hz3 _ _ (zz2 b o e)) hSm hlm hlm2 hn5 hn3 hi hml fun h4 tk4 O4 it4 k4 Y4 hz4 hk4 hO4 hP4 => ?_
    dsimp only at hk4
    have p1 := fun (y : Str) (hy1 : y ≠ ("onward" : Str)) (hy2 : y ≠ ("backward" : Str)) => ((mp_put_ne (some (Value.ref O4)) (put "onward" (some (.ref O)) ms') hy2).trans (mp_put_ne _ _ hy1)).trans (e1 y hy1 hy2)
    have p2 : mp (put "backward" (some (Value.ref O4)) (put "onward" (some (.ref O)) ms')) "onward" = some (.ref O) := (mp_put_ne _ _ (by decide)).trans (mp_put_self _ _ _)
    have p3 : mp (put "backward" (some (Value.ref O4)) (put "onward" (some (.ref O)) ms')) "backward" = some (.ref O4) := mp_put_self _ _ _
    have f14 := hk4 _ _ hFL (hk3 _ _ hFL f12)
    have f24 := hk4 _ _ hBL (hk3 _ _ hBL f22)
    have o4 := hk4 _ _ hIL (hk3 _ _ hIL o2)
    have r1l := r1.length
    have r2l := r2.length
    simp only [List.length_map, List.length_range] at r1l r2l
    have hq1 := ok.on i hi
    have hq2 := ok.bk i hi
    have ln1 : (onQ ws i (2 * n)).length = 2 * n := by simp [onQ]
    have ln2 : (bkQ mir n ((n : Int) - i) (2 * n)).length = 2 * n := by simp [bkQ]
    refine law_fa X T hA hg Y4 (by simp) hFv f14 (by omega) ((p1 "forth" (by decide) (by decide)).trans m1) p2 (b4.trans c1) (hz4 _ _ hO3) (hP3.keep hz4) (fun e => by rw [e] at ln1; simp at ln1; omega) (by omega) (fun q hq => (hq1 q hq).1) (.inl fun q hq => (hq1 q hq).2) (ok.lf i hi) fun h5 tk5 g5 R5 us5 k5 hg5 Y5 hz5 hk5 hF5 hR5 hS5 => ?_
    dsimp only at hk5
    have f25 := hk5 _ _ (Ne.symm hFB) hBt f24
    have o5 := hk5 _ _ hIF hIt o4
    refine law_ba X T hA hg5 Y5 (by simp) hBv f25 (by omega) ((p1 "back" (by decide) (by decide)).trans m2) p3 (b4.trans c1) (hz5 _ _ hO4) (hP4.keep hz5) (fun e => by rw [e] at ln2; simp at ln2; omega) (by omega) (fun q hq => (hq2 q hq).1) (.inr fun q hq => ⟨(hq2 q hq).2.1, (hq2 q hq).2.2⟩) (ok.lb i hi).1 (ok.lb i hi).2.1 (ok.lb i hi).2.2 fun h6 tk6 g6 R6 us6 k6 hg6 Y6 hz6 hk6 hF6 hR6 hS6 => ?_
    dsimp only at hk6
    have f16 := hk6 _ _ hFB hFt hF5
    have o6 := hk6 _ _ hIB hIt o5
    have zz : ∀ b o, (frz L [I, BL, FL] h').get? b = some o → (frz L [I, BL, FL] h6).get? b = some o := fun b o e => hz6 _ _ (hz5 _ _ (hz4 _ _ (hz3 _ _ (hz2 _ _ e))))
    refine Halt.on ⟨⟨h6, _, g6, _, _, fv ++ [.ref R5], bv ++ [.ref R6], kf + 1, kb + 1, rfl, hg6, Y6.less (fun x hx => .tail _ hx), p1, q2, fun b o e => zz _ _ (z b o e), f16, hF6, ?_, ?_⟩, o6⟩
    · rw [List.range_succ, List.map_append]
      exact (r1.keep zz).snoc (hz6 _ _ hR5) hS5
    · rw [List.range_succ, List.map_append]
      exact (r2.keep zz).snoc hR6 hS6
end
end
-- L8
section
theorem anew_L8 : True := by
  w_top off
  exact True.intro
noncomputable def cF (rows : List Str) : Int := Txt.count (rows.getD 0 Str.empty) " "
noncomputable def cB (rows : List Str) : Int := Txt.count (rows.getD (rows.length - 1) Str.empty) " "
theorem RowsAre.at_ {Z : Heap} {vs : List Value} {rs : List (List Str)} (x : RowsAre Z vs rs) {i : Nat} {v : Value} (hv : vs[i]? = some v) : ∃ R us k rows, v = Value.ref R ∧ rs[i]? = some rows ∧ Z.get? R = some (listOf us.toArray k) ∧ StrsAre us rows := by
  induction x generalizing i with
  | nil => simp at hv
  | cons a b _ ih =>
    cases i with
    | zero => simp at hv; subst hv; exact ⟨_, _, _, _, rfl, rfl, a, b⟩
    | succ i => simpa using ih (by simpa using hv)
section
variable {prog : Program} {w : World} {A : Around} {E : Value → Shared → Prop} {s : Shared}
theorem item_strsH {value slice : PySem.Expr} {l : Addr} {vs : List Value} {ys : List Str} {u : Tok} {Q : Value → Shared → Prop}
    (hl : s.heap.IsList l vs.toArray) (hS : StrsAre vs ys) (h1 : 0 < ys.length) (h : ∀ t, Q (.str (ys.getD 0 Str.empty) t) s)
    (hs : subscripted slice false (.ref l) (.int 0 u) = operate [.ref l, .int 0 u] (getItem (.ref l) (.int 0 u)) := by with_unfolding_all rfl) (hg : ∀ r, letTemporaryGo value (.ref l) r = pure () := by intro _; with_unfolding_all rfl) :
    wpAny (model prog w) A (subscriptTail value slice (.ref l) (.int 0 u)) Q E s := by
  obtain ⟨t, ht⟩ := hS.at (j := 0) (y := ys.getD 0 Str.empty) (by rw [List.getD_eq_getElem?_getD, List.getElem?_eq_getElem h1]; rfl)
  exact item_list hl (by decide) (by decide) (by simpa using ht) (h t) hs hg
theorem item_strsL {value slice : PySem.Expr} {l : Addr} {vs : List Value} {ys : List Str} {u : Tok} {Q : Value → Shared → Prop}
    (hl : s.heap.IsList l vs.toArray) (hS : StrsAre vs ys) (h1 : 0 < ys.length) (h : ∀ t, Q (.str (ys.getD (ys.length - 1) Str.empty) t) s)
    (hs : subscripted slice false (.ref l) (.int (-1) u) = operate [.ref l, .int (-1) u] (getItem (.ref l) (.int (-1) u)) := by with_unfolding_all rfl) :
    wpAny (model prog w) A (subscriptTail value slice (.ref l) (.int (-1) u)) Q E s := by
  have hlt : ys.length - 1 < ys.length := by omega
  obtain ⟨t, ht⟩ := hS.at (j := ys.length - 1) (y := ys.getD (ys.length - 1) Str.empty) (by rw [List.getD_eq_getElem?_getD, List.getElem?_eq_getElem hlt]; rfl)
  have hvl := hS.length
  refine tail_any hl.typeIs slot_list_getitem.lookup (wpAny_getItem_list_neg hl (by decide) (by rw [List.size_toArray]; omega) (by decide) ?_ (h t)) hs
  rw [List.size_toArray, show ((-1 : Int) + (vs.length : Nat)).toNat = ys.length - 1 by omega]
  simpa using ht
end
noncomputable def TripsAre (Z : Heap) (its : List Value) (res : List (Int × Int × Int)) : Prop := ∃ l, Trips l its res ∧ ∀ p ∈ l, Z.get? p.1 = some p.2
theorem TripsAre.keep {Z Z' : Heap} {its : List Value} {res : List (Int × Int × Int)} (x : TripsAre Z its res) (h : ∀ b o, Z.get? b = some o → Z'.get? b = some o) : TripsAre Z' its res := by
  obtain ⟨l, a, b⟩ := x
  exact ⟨l, a, fun p hp => h _ _ (b p hp)⟩
section
local macro_rules | `(tactic| walk_at $s) => if among "call ref|eval ListComp" s then `(tactic| refine Halt.go ?_) else Lean.Macro.throwUnsupported
local macro_rules | `(tactic| walk_at "subscriptTail Name Constant ref int") => `(tactic| (refine item_strsH (by with_reducible assumption) (by with_reducible assumption) (by with_reducible assumption) ?_; intro _))
local macro_rules | `(tactic| walk_at "subscriptTail Name UnaryOp ref int") => `(tactic| (refine item_strsL (by with_reducible assumption) (by with_reducible assumption) (by with_reducible assumption) ?_; intro _))
local macro_rules | `(tactic| walk_at "eval Name") => `(tactic| first | walk_at "nm8" | walk_at "nm4")
theorem law_s8 {w : World} {mean : ExcName → Option Value} {mg mb : Str → Option Value} {p : Program} {loose : List Str} {A : Around} {s : Shared} {E : Value → Shared → Prop} {Q : Flow → Shared → Prop} {base : Heap} {L FL : Addr} {mu : List Addr} {fv : List Value} {kf : Nat} {rs : List (List Str)} {ms cs : List (Str × Option Value)}
  (X : Frag.In (hd.heap_1 w.params) base) (T : Top p loose mean mg mb base) (hA : Ok A 200 2000) (Y : LF base L mu s.heap ms cs) (hFv : FL ∉ Vol L []) (hF : s.heap.get? FL = some (listOf fv.toArray kf)) (m1 : mp ms "forth" = some (.ref FL)) (hR : RowsAre (frz L mu s.heap) fv rs) (h3 : 3 ≤ rs.length) (h5 : rs.length ≤ 5) (hpos : ∀ r ∈ rs, 0 < r.length)
  (h : ∀ h' tk' D its k, LF base L mu h' (put "ahead" (some (.ref D)) ms) cs → (∀ b o, (frz L mu s.heap).get? b = some o → (frz L mu h').get? b = some o) → (∀ b o, b ≠ L → s.heap.get? b = some o → h'.get? b = some o) → (frz L mu h').get? D = some (listOf its.toArray k) → TripsAre (frz L mu h') its (endlessOf (rs.map cF) 1) →
    wpC (model PySem.Challenge.rw_pe0169_01.row.prog w) A (execs (lawBody.drop 9) (lawEnv L)) Q E { s with heap := h', toks := tk' }) :
  wpC (model PySem.Challenge.rw_pe0169_01.row.prog w) A (execs (lawBody.drop 8) (lawEnv L)) Q E s := by
  have hh := hA.h
  revert X
  k_fill
  intro X
  have hsc : lawScope = lawScope := rfl
  conv at hsc => rhs; whnf
  dsimp only [lawEnv]
  rw [hsc]
  have F := Y.F
  have N : News base L s.heap [] := News.nil
  have hvl := hR.length
  refine execsC_cons (AssignC_Name (wpC_of_any ?_))
  k_steps
  refine Halt.on (evalCompG (cl := []) rfl rfl (by decide) (by intro _; rfl) ?_)
  k_steps
  have hlF : s.heap.IsList FL fv.toArray := ⟨_, hF, rfl, _, rfl⟩
  refine wpAny_pyIter_list hlF ?_
  (try dsimp only)
  obtain ⟨I, hI⟩ : ∃ I, I = s.heap.objs.size := ⟨_, rfl⟩
  have hneI : FL ≠ I := hI ▸ Nat.ne_of_lt (Heap.lt_size hF)
  have hgr : ∀ b o, s.heap.get? b = some o → (s.heap.push { cls := .type "list_iterator", data := .fields #[.ref FL, .int 0 0] }).get? b = some o := fun b o e => Heap.get?_push_of_some _ e
  have st3 : (s.heap.push { cls := .type "list_iterator", data := .fields #[.ref FL, .int 0 0] }).IsListIter I FL 0 ∧ (s.heap.push { cls := .type "list_iterator", data := .fields #[.ref FL, .int 0 0] }).IsList FL fv.toArray := ⟨⟨_, hI ▸ Heap.get?_push_size _ rfl, rfl, rfl⟩, ⟨_, hgr _ _ hF, rfl, _, rfl⟩⟩
  have hIb : s.heap.get? I = none := by
    cases q : s.heap.get? I with
    | none => rfl
    | some o => exact absurd (Heap.lt_size q) (Nat.not_lt.mpr (Nat.le_of_eq hI.symm))
  rw [← hI]
  refine compA (hb := s.heap) (n := fv.toArray.size) (wr := [I]) (St := fun i h => h.IsListIter I FL i ∧ h.IsList FL fv.toArray) (Bound := fun i m => ∃ v, fv.toArray[i]? = some v ∧ m "rows" = some v) ?V (by rw [List.size_toArray]; omega) (by rw [Heap.size_push]; exact Nat.le_succ _) hgr st3 (fun b hb => by rcases List.mem_singleton.mp hb with rfl; exact hIb) (fun i ys l => l = [] ∧ IntsAre ys ((rs.take i).map cF)) ⟨rfl, .nil⟩ ?jl (by decide) rfl ?turn ?hQ
  case V => exact adv_name (Walks.list hh I FL hneI fv.toArray) (fun b hb => by
        rcases List.mem_cons.mp hb with rfl | hb
        · exact .inl rfl
        · rcases List.mem_singleton.mp hb with rfl; exact .inr ⟨_, hF⟩) (fun i h st => let ⟨o, ho, _⟩ := st.1; ⟨o, ho⟩) rfl rfl
  case jl => rintro i ys l ⟨_, hI'⟩; rw [hI'.length]; simp; omega
  case turn =>
    rintro i ys l h tk C D' m' wo e' hi ⟨rfl, hI'⟩ hwo hlt hDC F' N' _ ⟨v, hv, hrows⟩
    obtain ⟨R, us, k, rows, rfl, hri, hRg, hSR⟩ := hR.at_ (show fv[i]? = some v by simpa using hv)
    have X' : Frag.In (hd.heap_1 w.params) s.heap := fun b o e => Y.F.keep b o (X b o e)
    have T' := T.keeps Y.F.keep
    have hRl : h.IsList R us.toArray := ⟨_, F'.keep _ _ (of_hideAll _ hRg), rfl, _, rfl⟩
    have hrp := hpos rows (List.mem_of_getElem? hri)
    clear X T F N Y st3 hgr hlF
    refine wpAny_tests_nil ?_
    simp only [if_true]
    k_steps
    refine Halt.on ⟨_, _, [], m', rfl, F', N', by simp, rfl, ?_⟩
    rw [List.take_add_one, hri, List.map_append]
    exact IntsAre.append hI' (.cons _ _ .nil)
  case hQ =>
    rintro D' h1 tk1 ys l e' ⟨rfl, hI'⟩ hD' _ hk1 hsz1
    rw [List.size_toArray, hvl, List.take_length] at hI'
    have Y1 := Y.grow hk1
    clear F N
    have F := Y1.F
    have N : News base L h1 [] := News.nil
    k_steps
    refine Halt.on ?_
    have hDl : h1.IsList D' ys.toArray := ⟨_, hD', rfl, _, rfl⟩
    refine wpAny_mono (endless_spec (fun b o e => F.keep b o (X b o e)) (T.keeps F.keep) (hA.less (by decide) (by decide)) hDl hI' (by simp; omega) (by simp; omega) (by decide)) (fun v s' hr => ?_) fun _ _ x => x
    obtain ⟨D2, its, l, n2, rfl, ⟨h2, tk2, rfl, hk2⟩, hg2, hT, hfr, hl2⟩ := hr.go
    dsimp only at hk2 hg2 hfr hl2 ⊢
    have Y2 := Y1.grow hk2
    refine law_storeL Y2 rfl fun h3 Y3 hz3 hs3 => ?_
    exact h h3 _ D2 its n2 Y3 (fun b o e => hz3 b o (frz_of (fun b o _ e => hk2 b o (hk1 b o e)) b o e)) (fun b o hb e => hs3.extBut b o hb (hk2 b o (hk1 b o e))) (hz3 _ _ (hideAll_get _ hg2 (Y1.fresh hfr))) ⟨l, hT, fun p hp => hz3 _ _ (hideAll_get _ (hl2 p hp).1 (Y1.fresh (hl2 p hp).2))⟩
theorem law_s9 {w : World} {mean : ExcName → Option Value} {mg mb : Str → Option Value} {p : Program} {loose : List Str} {A : Around} {s : Shared} {E : Value → Shared → Prop} {Q : Flow → Shared → Prop} {base : Heap} {L FL : Addr} {mu : List Addr} {fv : List Value} {kf : Nat} {rs : List (List Str)} {ms cs : List (Str × Option Value)}
  (X : Frag.In (hd.heap_1 w.params) base) (T : Top p loose mean mg mb base) (hA : Ok A 200 2000) (Y : LF base L mu s.heap ms cs) (hFv : FL ∉ Vol L []) (hF : s.heap.get? FL = some (listOf fv.toArray kf)) (m1 : mp ms "back" = some (.ref FL)) (hR : RowsAre (frz L mu s.heap) fv rs) (h3 : 3 ≤ rs.length) (h5 : rs.length ≤ 5) (hpos : ∀ r ∈ rs, 0 < r.length)
  (h : ∀ h' tk' D its k, LF base L mu h' (put "behind" (some (.ref D)) ms) cs → (∀ b o, (frz L mu s.heap).get? b = some o → (frz L mu h').get? b = some o) → (∀ b o, b ≠ L → s.heap.get? b = some o → h'.get? b = some o) → (frz L mu h').get? D = some (listOf its.toArray k) → TripsAre (frz L mu h') its (endlessOf (rs.map cB) (-1)) →
    wpC (model PySem.Challenge.rw_pe0169_01.row.prog w) A (execs (lawBody.drop 10) (lawEnv L)) Q E { s with heap := h', toks := tk' }) :
  wpC (model PySem.Challenge.rw_pe0169_01.row.prog w) A (execs (lawBody.drop 9) (lawEnv L)) Q E s := by
  have hh := hA.h
  revert X
  k_fill
  intro X
  have hsc : lawScope = lawScope := rfl
  conv at hsc => rhs; whnf
  dsimp only [lawEnv]
  rw [hsc]
  have F := Y.F
  have N : News base L s.heap [] := News.nil
  have hvl := hR.length
  refine execsC_cons (AssignC_Name (wpC_of_any ?_))
  k_steps
  refine Halt.on (evalCompG (cl := []) rfl rfl (by decide) (by intro _; rfl) ?_)
  k_steps
  have hlF : s.heap.IsList FL fv.toArray := ⟨_, hF, rfl, _, rfl⟩
  refine wpAny_pyIter_list hlF ?_
  (try dsimp only)
  obtain ⟨I, hI⟩ : ∃ I, I = s.heap.objs.size := ⟨_, rfl⟩
  have hneI : FL ≠ I := hI ▸ Nat.ne_of_lt (Heap.lt_size hF)
  have hgr : ∀ b o, s.heap.get? b = some o → (s.heap.push { cls := .type "list_iterator", data := .fields #[.ref FL, .int 0 0] }).get? b = some o := fun b o e => Heap.get?_push_of_some _ e
  have st3 : (s.heap.push { cls := .type "list_iterator", data := .fields #[.ref FL, .int 0 0] }).IsListIter I FL 0 ∧ (s.heap.push { cls := .type "list_iterator", data := .fields #[.ref FL, .int 0 0] }).IsList FL fv.toArray := ⟨⟨_, hI ▸ Heap.get?_push_size _ rfl, rfl, rfl⟩, ⟨_, hgr _ _ hF, rfl, _, rfl⟩⟩
  have hIb : s.heap.get? I = none := by
    cases q : s.heap.get? I with
    | none => rfl
    | some o => exact absurd (Heap.lt_size q) (Nat.not_lt.mpr (Nat.le_of_eq hI.symm))
  rw [← hI]
  refine compA (hb := s.heap) (n := fv.toArray.size) (wr := [I]) (St := fun i h => h.IsListIter I FL i ∧ h.IsList FL fv.toArray) (Bound := fun i m => ∃ v, fv.toArray[i]? = some v ∧ m "rows" = some v) ?V (by rw [List.size_toArray]; omega) (by rw [Heap.size_push]; exact Nat.le_succ _) hgr st3 (fun b hb => by rcases List.mem_singleton.mp hb with rfl; exact hIb) (fun i ys l => l = [] ∧ IntsAre ys ((rs.take i).map cB)) ⟨rfl, .nil⟩ ?jl (by decide) rfl ?turn ?hQ
  case V => exact adv_name (Walks.list hh I FL hneI fv.toArray) (fun b hb => by
        rcases List.mem_cons.mp hb with rfl | hb
        · exact .inl rfl
        · rcases List.mem_singleton.mp hb with rfl; exact .inr ⟨_, hF⟩) (fun i h st => let ⟨o, ho, _⟩ := st.1; ⟨o, ho⟩) rfl rfl
  case jl => rintro i ys l ⟨_, hI'⟩; rw [hI'.length]; simp; omega
  case turn =>
    rintro i ys l h tk C D' m' wo e' hi ⟨rfl, hI'⟩ hwo hlt hDC F' N' _ ⟨v, hv, hrows⟩
    obtain ⟨R, us, k, rows, rfl, hri, hRg, hSR⟩ := hR.at_ (show fv[i]? = some v by simpa using hv)
    have X' : Frag.In (hd.heap_1 w.params) s.heap := fun b o e => Y.F.keep b o (X b o e)
    have T' := T.keeps Y.F.keep
    have hRl : h.IsList R us.toArray := ⟨_, F'.keep _ _ (of_hideAll _ hRg), rfl, _, rfl⟩
    have hrp := hpos rows (List.mem_of_getElem? hri)
    clear X T F N Y st3 hgr hlF
    refine wpAny_tests_nil ?_
    simp only [if_true]
    k_steps
    refine Halt.on ⟨_, _, [], m', rfl, F', N', by simp, rfl, ?_⟩
    rw [List.take_add_one, hri, List.map_append]
    exact IntsAre.append hI' (.cons _ _ .nil)
  case hQ =>
    rintro D' h1 tk1 ys l e' ⟨rfl, hI'⟩ hD' _ hk1 hsz1
    rw [List.size_toArray, hvl, List.take_length] at hI'
    have Y1 := Y.grow hk1
    clear F N
    have F := Y1.F
    have N : News base L h1 [] := News.nil
    k_steps
    refine Halt.on ?_
    have hDl : h1.IsList D' ys.toArray := ⟨_, hD', rfl, _, rfl⟩
    refine wpAny_mono (endless_spec (fun b o e => F.keep b o (X b o e)) (T.keeps F.keep) (hA.less (by decide) (by decide)) hDl hI' (by simp; omega) (by simp; omega) (by decide)) (fun v s' hr => ?_) fun _ _ x => x
    obtain ⟨D2, its, l, n2, rfl, ⟨h2, tk2, rfl, hk2⟩, hg2, hT, hfr, hl2⟩ := hr.go
    dsimp only at hk2 hg2 hfr hl2 ⊢
    have Y2 := Y1.grow hk2
    refine law_storeL Y2 rfl fun h3 Y3 hz3 hs3 => ?_
    exact h h3 _ D2 its n2 Y3 (fun b o e => hz3 b o (frz_of (fun b o _ e => hk2 b o (hk1 b o e)) b o e)) (fun b o hb e => hs3.extBut b o hb (hk2 b o (hk1 b o e))) (hz3 _ _ (hideAll_get _ hg2 (Y1.fresh hfr))) ⟨l, hT, fun p hp => hz3 _ _ (hideAll_get _ (hl2 p hp).1 (Y1.fresh (hl2 p hp).2))⟩
end
end
-- L9
section
theorem anew_L9 : True := by
  w_top off
  exact True.intro
theorem Trips.at_ {l : List (Addr × Obj)} {its : List Value} {res : List (Int × Int × Int)} (x : Trips l its res) {i : Nat} {v : Value} (hv : its[i]? = some v) : ∃ a b r g t1 t2 t3, v = Value.ref a ∧ (a, tup3 b r g t1 t2 t3) ∈ l ∧ res[i]? = some (b, r, g) := by
  induction x with
  | nil => simp at hv
  | @snoc l its res a b r g t1 t2 t3 x ih =>
    have hlen : its.length = res.length := by
      clear ih hv
      induction x with
      | nil => rfl
      | snoc _ _ _ _ _ _ _ _ ih => simp [ih]
    rcases Nat.lt_or_ge i its.length with h | h
    · rw [List.getElem?_append_left h] at hv
      obtain ⟨a', b', r', g', u1, u2, u3, e1, e2, e3⟩ := ih hv
      exact ⟨a', b', r', g', u1, u2, u3, e1, .tail _ e2, by rw [List.getElem?_append_left (hlen ▸ h)]; exact e3⟩
    · rw [List.getElem?_append_right h] at hv
      have h0 : i - its.length = 0 := by
        rcases Nat.eq_zero_or_pos (i - its.length) with q | q
        · exact q
        · rw [List.getElem?_eq_none (by simp; omega)] at hv; cases hv
      rw [h0] at hv
      simp at hv
      subst hv
      exact ⟨a, b, r, g, t1, t2, t3, rfl, .head _, by rw [List.getElem?_append_right (hlen ▸ h), ← hlen, h0]; rfl⟩
theorem Trips.length {l : List (Addr × Obj)} {its : List Value} {res : List (Int × Int × Int)} (x : Trips l its res) : its.length = res.length := by
  induction x with
  | nil => rfl
  | snoc _ _ _ _ _ _ _ _ ih => simp [ih]
theorem TripsAre.at_ {Z : Heap} {its : List Value} {res : List (Int × Int × Int)} (x : TripsAre Z its res) {i : Nat} {v : Value} (hv : its[i]? = some v) : ∃ a b r g t1 t2 t3, v = Value.ref a ∧ Z.get? a = some (tup3 b r g t1 t2 t3) ∧ res[i]? = some (b, r, g) := by
  obtain ⟨l, T, hl⟩ := x
  obtain ⟨a, b, r, g, t1, t2, t3, e1, e2, e3⟩ := T.at_ hv
  exact ⟨a, b, r, g, t1, t2, t3, e1, hl _ e2, e3⟩
theorem TripsAre.length {Z : Heap} {its : List Value} {res : List (Int × Int × Int)} (x : TripsAre Z its res) : its.length = res.length := by
  obtain ⟨l, T, _⟩ := x; exact T.length
inductive TupII (l : List (Addr × Obj)) : List Value → List (Int × Int) → Prop
  | nil : TupII l [] []
  | cons {t : Addr} {a b : Tok} {p : Int × Int} {items : List Value} {ps : List (Int × Int)} : (t, tupO [.int p.1 a, .int p.2 b]) ∈ l → TupII l items ps → TupII l (.ref t :: items) (p :: ps)
theorem TupII.mono {l l' : List (Addr × Obj)} {items : List Value} {ps : List (Int × Int)} (x : TupII l items ps) (h : ∀ p ∈ l, p ∈ l') : TupII l' items ps := by
  induction x with
  | nil => exact .nil
  | cons ho _ ih => exact .cons (h _ ho) ih
theorem TupII.snoc {l : List (Addr × Obj)} {items : List Value} {ps : List (Int × Int)} (x : TupII l items ps) {t : Addr} {a b : Tok} {p : Int × Int} (h : (t, tupO [.int p.1 a, .int p.2 b]) ∈ l) : TupII l (items ++ [.ref t]) (ps ++ [p]) := by
  induction x with
  | nil => exact .cons h .nil
  | cons ho _ ih => exact .cons ho ih
theorem TupII.length {l : List (Addr × Obj)} {items : List Value} {ps : List (Int × Int)} (x : TupII l items ps) : items.length = ps.length := by
  induction x with
  | nil => rfl
  | cons ho _ ih => simp [ih]
section
local macro_rules | `(tactic| walk_at "binaryOp Add ref ref") => `(tactic| refine Halt.go ?_)
local macro_rules | `(tactic| walk_at "eval Name") => `(tactic| walk_at "nm8")
theorem law_s10 {w : World} {mean : ExcName → Option Value} {mg mb : Str → Option Value} {p : Program} {loose : List Str} {A : Around} {s : Shared} {E : Value → Shared → Prop} {Q : Flow → Shared → Prop} {base : Heap} {L D1 D2 : Addr} {mu : List Addr} {i1 i2 : List Value} {k1 k2 : Nat} {r1 r2 : List (Int × Int × Int)} {ms cs : List (Str × Option Value)}
  (X : Frag.In (hd.heap_1 w.params) base) (T : Top p loose mean mg mb base) (hA : Ok A 200 2000) (Y : LF base L mu s.heap ms cs) (m1 : mp ms "ahead" = some (.ref D1)) (m2 : mp ms "behind" = some (.ref D2)) (g1 : (frz L mu s.heap).get? D1 = some (listOf i1.toArray k1)) (g2 : (frz L mu s.heap).get? D2 = some (listOf i2.toArray k2)) (R1 : TripsAre (frz L mu s.heap) i1 r1) (R2 : TripsAre (frz L mu s.heap) i2 r2) (n1 : r1.length ≤ 5) (n2 : r2.length ≤ 5)
  (h : ∀ h' tk' D its k l, LF base L mu h' (put "kinds" (some (.ref D)) ms) cs → (∀ b o, (frz L mu s.heap).get? b = some o → (frz L mu h').get? b = some o) → (∀ b o, b ≠ L → s.heap.get? b = some o → h'.get? b = some o) → (frz L mu h').get? D = some (listOf its.toArray k) → TupII l its ((r1 ++ r2).map (·.2)) → (∀ p ∈ l, (frz L mu h').get? p.1 = some p.2) →
    wpC (model PySem.Challenge.rw_pe0169_01.row.prog w) A (execs (lawBody.drop 11) (lawEnv L)) Q E { s with heap := h', toks := tk' }) :
  wpC (model PySem.Challenge.rw_pe0169_01.row.prog w) A (execs (lawBody.drop 10) (lawEnv L)) Q E s := by
  have hh := hA.h
  revert X
  k_fill
  intro X
  have hsc : lawScope = lawScope := rfl
  conv at hsc => rhs; whnf
  dsimp only [lawEnv]
  rw [hsc]
  have F := Y.F
  have N : News base L s.heap [] := News.nil
  have l1 := R1.length
  have l2 := R2.length
  have hline := sizeLine_eq
  refine execsC_cons (wpC_of_any ?_)
  refine assignU (cl := []) rfl rfl rfl (by decide) (by intro _; rfl) ?_
  k_steps
  refine Halt.on (P.add_list (items := i1.toArray) (items2 := i2.toArray) (of_hideAll _ g1) (of_hideAll _ g2) ?_ (by simp; omega))
  obtain ⟨J, hJ⟩ : ∃ J, J = s.heap.objs.size := ⟨_, rfl⟩
  have happ : i1.toArray ++ i2.toArray = (i1 ++ i2).toArray := by simp
  rw [← hJ, happ]
  obtain ⟨hs, hhs⟩ : ∃ hs, hs = s.heap.push { cls := .type "list", data := .seq (i1 ++ i2).toArray } := ⟨_, rfl⟩
  rw [← hhs]
  have hgr0 : ∀ b o, s.heap.get? b = some o → hs.get? b = some o := fun b o e => hhs ▸ Heap.get?_push_of_some _ e
  have hJg : hs.get? J = some { cls := .type "list", data := .seq (i1 ++ i2).toArray } := by rw [hhs, hJ]; exact Heap.get?_push_size _ rfl
  have hsz0 : hs.objs.size = s.heap.objs.size + 1 := by rw [hhs, Heap.size_push]
  have hJl : hs.IsList J (i1 ++ i2).toArray := ⟨_, hJg, rfl, _, rfl⟩
  refine wpAny_pyIter_list hJl ?_
  (try dsimp only)
  obtain ⟨I, hI⟩ : ∃ I, I = hs.objs.size := ⟨_, rfl⟩
  rw [← hI]
  have hneI : J ≠ I := hI ▸ Nat.ne_of_lt (Heap.lt_size hJg)
  obtain ⟨h2, hh2⟩ : ∃ h2, h2 = hs.push { cls := .type "list_iterator", data := .fields #[.ref J, .int 0 0] } := ⟨_, rfl⟩
  rw [← hh2]
  have hgr1 : ∀ b o, hs.get? b = some o → h2.get? b = some o := fun b o e => hh2 ▸ Heap.get?_push_of_some _ e
  have hIg : h2.get? I = some { cls := .type "list_iterator", data := .fields #[.ref J, .int 0 0] } := by rw [hh2, hI]; exact Heap.get?_push_size _ rfl
  have hsz2 : hs.objs.size ≤ h2.objs.size := by rw [hh2, Heap.size_push]; exact Nat.le_succ _
  have hIb : hs.get? I = none := by
    cases q : hs.get? I with
    | none => rfl
    | some o => exact absurd (Heap.lt_size q) (by rw [hI]; exact Nat.lt_irrefl _)
  have Y1 := Y.grow hgr0
  refine law_compU Y1 rfl (hb := hs) (n := (i1 ++ i2).toArray.size) (wr := [I]) (St := fun i h => h.IsListIter I J i ∧ h.IsList J (i1 ++ i2).toArray) (Bound := fun i m => ∃ v, (i1 ++ i2).toArray[i]? = some v ∧ m "end" = some v) ?V (by simp; omega) hsz2 hgr1 ⟨⟨_, hIg, rfl, rfl⟩, ⟨_, hgr1 _ _ hJg, rfl, _, rfl⟩⟩ (fun b hb => by rcases List.mem_singleton.mp hb with rfl; exact hIb) (fun i ys l => TupII l ys (((r1 ++ r2).take i).map (·.2))) .nil ?jl (by decide) rfl ?turn ?hQ
  case V => exact adv_name (Walks.list hh I J hneI _) (fun b hb => by
        rcases List.mem_cons.mp hb with rfl | hb
        · exact .inl rfl
        · rcases List.mem_singleton.mp hb with rfl; exact .inr ⟨_, hJg⟩) (fun i h st => let ⟨o, ho, _⟩ := st.1; ⟨o, ho⟩) rfl rfl
  case jl => intro i ys l hT; rw [hT.length]; simp; omega
  case turn =>
    rintro i ys l h tk C D m' wo e' hi hT hwo hlt hDC F' N' hl' ⟨v, hv, hk⟩
    have X' : Frag.In (hd.heap_1 w.params) hs := fun b o e => hgr0 _ _ (Y.F.keep b o (X b o e))
    have T' := T.keeps fun b o e => hgr0 _ _ (Y.F.keep b o e)
    have hi' : i < (i1 ++ i2).length := by simpa using hi
    have R12 : ∃ a b r g t1 t2 t3, v = Value.ref a ∧ (frz L mu s.heap).get? a = some (tup3 b r g t1 t2 t3) ∧ (r1 ++ r2)[i]? = some (b, r, g) := by
      have hv' : (i1 ++ i2)[i]? = some v := by simpa using hv
      rcases Nat.lt_or_ge i i1.length with q | q
      · rw [List.getElem?_append_left q] at hv'
        rw [List.getElem?_append_left (l1 ▸ q)]
        exact R1.at_ hv'
      · rw [List.getElem?_append_right q] at hv'
        rw [List.getElem?_append_right (l1 ▸ q), ← l1]
        exact R2.at_ hv'
    obtain ⟨a, b, r, g, t1, t2, t3, rfl, hag, hr⟩ := R12
    have hta : IsTup hs a [Value.int b t1, .int r t2, .int g t3].toArray := ⟨_, hgr0 _ _ (of_hideAll _ hag), rfl, _, rfl⟩
    clear X T F N Y Y1 g1 g2 hgr0 hgr1
    refine wpAny_tests_nil ?_
    simp only [if_true]
    k_steps
    have htb : IsTup h a #[Value.int b t1, .int r t2, .int g t3] := F'.tup hta
    with_unfolding_all refine slice_tuple_from (a := 1) F' N' htb (by decide) (by show 1 ≤ 3; decide) ?_ (hsz := by show 3 ≤ sizeLine; omega)
    intro h3 F3 N3
    dsimp only
    refine Halt.on (turnG_new F3 N3 ?_ hl' ?_)
    · intro p hp; exact Nat.lt_succ_of_lt (Heap.lt_size (N' p hp).1)
    · rw [List.take_add_one, hr, List.map_append]
      exact (hT.mono fun p hp => .tail _ hp).snoc (a := t2) (b := t3) (p := (r, g)) (.head _)
  case hQ => 
    intro O h' tk ys l e Y' hz hk' hT hO hl'
    refine h h' _ O ys e l Y' (fun b o q => hz b o (frz_of (fun b o _ e => hgr0 b o e) b o q)) (fun b o hb q => hk' b o hb (hgr0 _ _ q)) hO ?_ hl'
    have ht : (r1 ++ r2).take (i1 ++ i2).toArray.size = r1 ++ r2 := by
      rw [List.take_of_length_le]; simp; omega
    rw [ht] at hT
    exact hT
end
end
-- L10
section
theorem anew_L10 : True := by
  w_top off
  exact True.intro
section
local macro_rules | `(tactic| walk_at "newList") => `(tactic| refine Halt.go ?_)
theorem law_s11 {w : World} {mean : ExcName → Option Value} {mg mb : Str → Option Value} {p : Program} {loose : List Str} {A : Around} {s : Shared} {E : Value → Shared → Prop} {Q : Flow → Shared → Prop} {base : Heap} {L : Addr} {ms cs : List (Str × Option Value)}
  (X : Frag.In (hd.heap_1 w.params) base) (T : Top p loose mean mg mb base) (Y : LF base L [] s.heap ms cs)
  (h : ∀ h' tk' ML, LF base L [ML] h' ms (put "marks" (some (.ref ML)) cs) → (∀ b o, (frz L [] s.heap).get? b = some o → (frz L [ML] h').get? b = some o) → h'.get? ML = some (listOf [].toArray 0) → ML ∉ Vol L [] →
    wpC (model PySem.Challenge.rw_pe0169_01.row.prog w) A (execs (lawBody.drop 12) (lawEnv L)) Q E { s with heap := h', toks := tk' }) :
  wpC (model PySem.Challenge.rw_pe0169_01.row.prog w) A (execs (lawBody.drop 11) (lawEnv L)) Q E s := by
  revert X
  k_fill
  intro X
  have hsc : lawScope = lawScope := rfl
  conv at hsc => rhs; whnf
  dsimp only [lawEnv]
  rw [hsc]
  have F := Y.F
  have N : News base L s.heap [] := News.nil
  refine execsC_cons (AssignC_Name (wpC_of_any ?_))
  k_steps
  refine Halt.on (newList_step (fun ML h1 hF hk1 hg1 hs1 => ?_) (by decide))
  (try dsimp only at hF hk1 hs1 ⊢)
  have Y1 := Y.grow hk1
  have hFv : ML ∉ Vol L [] := Y.fresh_ge (Nat.le_of_eq hF.symm)
  have hbF : base.get? ML = none := by
    cases q : base.get? ML with
    | none => rfl
    | some o => exact absurd (Heap.lt_size (Y.F.keep _ _ q)) (by rw [hF]; exact Nat.lt_irrefl _)
  have hF0 : s.heap.get? ML = none := by
    cases q : s.heap.get? ML with
    | none => rfl
    | some o => exact absurd (Heap.lt_size q) (by rw [hF]; exact Nat.lt_irrefl _)
  refine law_storeC (c := L + 8) (Y1.more hbF hg1) rfl rfl fun h2 Y2 hz2 hsb2 => ?_
  have hcm : L + 8 ∈ Vol L [] := by
    have : L + 8 ∈ (lawCS L).map (·.2) := List.mem_map_of_mem (f := Prod.snd) (mem_of_lookup (show (lawCS L).lookup ("marks" : Str) = some (L + 8) from rfl))
    simp only [Vol, List.mem_cons, List.mem_append, List.not_mem_nil, or_false]
    exact .inr (.inr (.inr this))
  have hg2 : h2.get? ML = some (listOf [].toArray 0) := hsb2.extBut _ _ (fun q => hFv (q ▸ hcm)) hg1
  refine h h2 _ ML Y2 (fun b o e => ?_) hg2 hFv
  have hb1 : b ≠ ML := fun q => by rw [q] at e; have := of_hideAll _ e; rw [hF0] at this; cases this
  exact hz2 b o (frz_more (frz_of (fun b o _ e => hk1 b o e) b o e) hb1)
end
noncomputable def mk1 (b : List (Int × Int × Int)) (x wy : Int) : List Int := if (b.map (·.1)).any (· == x) then [wy] else []
noncomputable def mkOf (a b : List (Int × Int × Int)) (x : Int) : List Int := mk1 b x (-1) ++ mk1 a x 1
theorem mk1_le (b : List (Int × Int × Int)) (x y : Int) : (mk1 b x y).length ≤ 1 := by unfold mk1; split <;> simp
theorem flat_le (f : Nat → List Int) (hf : ∀ j, (f j).length ≤ 2) (n : Nat) : ((List.range n).flatMap f).length ≤ 2 * n := by
  induction n with
  | zero => simp
  | succ n ih => rw [List.range_succ, List.flatMap_append, List.length_append]; have := hf n; simp only [List.flatMap_cons, List.flatMap_nil, List.append_nil]; omega
theorem isTup_one {h : Heap} {t : Addr} {a b : Array Value} (x : IsTup h t a) (y : IsTup h t b) : a = b := by
  obtain ⟨o, ho, _, n, hn⟩ := x
  obtain ⟨o', ho', _, n', hn'⟩ := y
  rw [ho] at ho'; cases ho'; rw [hn] at hn'; cases hn'; rfl
theorem newTuple_step {M : Model} {A : Around} {E : Value → Shared → Prop} {s : Shared} {vs : List Value} {Q : Value → Shared → Prop} (h : ∀ D h', D = s.heap.objs.size → (∀ b o, s.heap.get? b = some o → h'.get? b = some o) → h'.get? D = some (tupO vs) → h'.objs.size = s.heap.objs.size + 1 → Q (.ref D) { s with heap := h' }) (hz : vs.length < 1000) :
    wpAny M A (newTuple vs) Q E s := by
  have hline := sizeLine_eq
  exact wpAny_newTuple (h _ _ rfl (fun b o e => Heap.get?_push_of_some _ e) (Heap.get?_push_size _ rfl) (Heap.size_push ..)) (by omega)
theorem getMethod_list_extend {M : Model} {A : Around} {E : Value → Shared → Prop} {s : Shared} {l : Addr} {o : Obj} {pl : Sem Bool} {Q : Value × List Value → Shared → Prop} (ho : s.heap.get? l = some o) (hc : o.cls = .type "list") (hd : o.dict = none)
    (h : Q (.builtin "list.extend", [.ref l]) s) : wpAny M A (getMethod (.ref l) "extend" pl) Q E s := by
  have hT : s.TypeIs (.ref l) "list" := ⟨o, ho, hc⟩
  unfold getMethod
  refine wpAny_bind (wpAny_specialOf hT PySem.list_getattribute ?_)
  show wpAny M A (if (Manifest.canonical "list.__getattribute__" != "object.__getattribute__") = true then _ else _) Q E s
  rw [PySem.canon_list_getattribute, if_neg Bool.false_ne_true]
  refine wpAny_bind (wpAny_specialOf hT PySem.list_getattr_none ?_)
  refine wpAny_bind (wpAny_specialOf hT F.slot_list_extend.lookup ?_)
  refine wpAny_bind (wpAny_of_eq F.type_list_extend ?_)
  refine wpAny_bind (wpAny_load ho ?_)
  rw [hd]
  exact wpAny_bind (wpAny_rule (wpAny_pure h))
theorem extend_at2 {prog : Program} {w : World} {A : Around} {E : Value → Shared → Prop} {s : Shared} {D b : Addr} {its its2 : List Value} {n n2 : Nat} {Q : Value → Shared → Prop} (ho : s.heap.get? D = some (listOf its.toArray n)) (hb : s.heap.get? b = some (listOf its2.toArray n2)) (hz : its.length + its2.length < 1000)
    (h : ∀ h' n', Heap.SameBut D s.heap h' → h'.get? D = some (listOf (its ++ its2).toArray n') → Q .none { s with heap := h' }) :
    wpAny (model prog w) A (call (.builtin "list.extend") [.ref D, .ref b]) Q E s := by
  have hline := sizeLine_eq
  have hsz' : its.toArray.size + its2.toArray.size ≤ sizeLine := by rw [List.size_toArray, List.size_toArray]; omega
  refine call_meets PySem.F.slot_list_extend ⟨_, ho, rfl⟩ PySem.F.entry_list_extend (PySem.F.args_list_extend_2 _ _) (AutoSeq1.list_extend_list_list_0 D its.toArray n b its2.toArray n2 (extend_door hsz') (Nat.le_trans (Nat.le_add_right _ _) hsz')) ⟨ho, hb, ?_⟩
  have e : its.toArray ++ its2.toArray = (its ++ its2).toArray := by simp
  have ho' : (s.heap.update D (Obj.mapSeq fun x => x ++ its2.toArray)).get? D = some (listOf (its ++ its2).toArray (if (its.toArray ++ its2.toArray).size == its.toArray.size then n else n + 1)) := by
    rw [Heap.get?_update_self _ ho (by rw [mapSeq_app]; rfl), mapSeq_app, e]
  exact h _ _ (Heap.SameBut.update ..) ho'
noncomputable def lawForBody2 : List Stmt := match lawBody.drop 12 with
  | .For _ _ b _ _ :: _ => b
  | _ => []
section
local macro_rules | `(tactic| walk_at $s) => if among "call type:range|eval ListComp|newTuple|newList|getMethod ref|call builtin:list.extend" s then `(tactic| refine Halt.go ?_) else Lean.Macro.throwUnsupported
local macro_rules | `(tactic| walk_at "eval Name") => `(tactic| first | walk_at "nm8" | walk_at "nm6" | walk_at "nm7")
theorem law_mk {w : World} {mean : ExcName → Option Value} {mg mb : Str → Option Value} {p : Program} {loose : List Str} {A : Around} {s : Shared} {E : Value → Shared → Prop} {Q : Flow → Shared → Prop} {base : Heap} {L ML D1 D2 : Addr} {mu : List Addr} {i1 i2 vs : List Value} {k1 k2 kf : Nat} {r1 r2 : List (Int × Int × Int)} {ms cs : List (Str × Option Value)} {x : Int} {tx : Tok}
  (X : Frag.In (hd.heap_1 w.params) base) (T : Top p loose mean mg mb base) (hA : Ok A 200 2000) (Y : LF base L mu s.heap ms cs) (hMm : ML ∈ mu) (hMv : ML ∉ Vol L []) (hM : s.heap.get? ML = some (listOf vs.toArray kf)) (hvz : vs.length < 100)
  (m1 : mp ms "ahead" = some (.ref D1)) (m2 : mp ms "behind" = some (.ref D2)) (c1 : mp cs "border" = some (.int x tx)) (c2 : mp cs "marks" = some (.ref ML)) (g1 : (frz L mu s.heap).get? D1 = some (listOf i1.toArray k1)) (g2 : (frz L mu s.heap).get? D2 = some (listOf i2.toArray k2)) (R1 : TripsAre (frz L mu s.heap) i1 r1) (R2 : TripsAre (frz L mu s.heap) i2 r2) (n1 : r1.length ≤ 5) (n2 : r2.length ≤ 5) (hx0 : 0 ≤ x) (hx5 : x ≤ 5)
  (h : ∀ h' tk' ys k, LF base L mu h' ms cs → (∀ b o, (frz L mu s.heap).get? b = some o → (frz L mu h').get? b = some o) → (∀ b o, b ≠ ML → s.heap.get? b = some o → h'.get? b = some o) → h'.get? ML = some (listOf (vs ++ ys).toArray k) → IntsAre ys (mkOf r1 r2 x) →
    Q .next { s with heap := h', toks := tk' }) :
  wpC (model PySem.Challenge.rw_pe0169_01.row.prog w) A (execs lawForBody2 (lawEnv L)) Q E s := by
  have hh := hA.h
  revert X
  k_fill
  intro X
  have hsc : lawScope = lawScope := rfl
  conv at hsc => rhs; whnf
  dsimp only [lawEnv]
  rw [hsc]
  have F := Y.F
  have N : News base L s.heap [] := News.nil
  have hline := sizeLine_eq
  refine execsC_cons (wpC_of_any ?_)
  k_steps
  refine Halt.on (getMethod_list_extend hM rfl rfl ?_)
  k_steps
  refine Halt.on (evalCompG (cl := [("border", L + 7)]) rfl rfl (by decide) (by intro _; rfl) ?_)
  k_steps
  refine Halt.on (newTuple_step (fun T1 h1 hT1 hk1 hg1 hs1 => ?_) (by simp))
  (try dsimp only at hT1 hk1 hs1 ⊢)
  have Y1 := Y.grow hk1
  clear F N
  have F := Y1.F
  have N : News base L h1 [] := News.nil
  k_steps
  refine Halt.on (newTuple_step (fun T2 h2 hT2 hk2 hg2 hs2 => ?_) (by simp))
  (try dsimp only at hT2 hk2 hs2 ⊢)
  have Y2 := Y1.grow hk2
  clear F N
  have F := Y2.F
  have N : News base L h2 [] := News.nil
  k_steps
  refine Halt.on (newList_step (fun J h3 hJ hk3 hg3 hs3 => ?_) (by simp))
  (try dsimp only at hJ hk3 hs3 ⊢)
  have Y3 := Y2.grow hk3
  have hJl : h3.IsList J #[.ref T1, .ref T2] := ⟨_, hg3, rfl, _, rfl⟩
  have hk03 : ∀ b o, s.heap.get? b = some o → h3.get? b = some o := fun b o e => hk3 _ _ (hk2 _ _ (hk1 _ _ e))
  have ht1 : IsTup h3 T1 #[.int (-1) (s.toks + 1), .ref D2] := ⟨_, hk3 _ _ (hk2 _ _ hg1), rfl, _, rfl⟩
  have ht2 : IsTup h3 T2 #[.int 1 (s.toks + 1 + 1), .ref D1] := ⟨_, hk3 _ _ hg2, rfl, _, rfl⟩
  refine wpAny_pyIter_list hJl ?_
  (try dsimp only)
  obtain ⟨I, hI⟩ : ∃ I, I = h3.objs.size := ⟨_, rfl⟩
  rw [← hI]
  have hneI : J ≠ I := hI ▸ Nat.ne_of_lt (Heap.lt_size hg3)
  obtain ⟨h4, hh4⟩ : ∃ h4, h4 = h3.push { cls := .type "list_iterator", data := .fields #[.ref J, .int 0 0] } := ⟨_, rfl⟩
  rw [← hh4]
  have hgr1 : ∀ b o, h3.get? b = some o → h4.get? b = some o := fun b o e => hh4 ▸ Heap.get?_push_of_some _ e
  have hIg : h4.get? I = some { cls := .type "list_iterator", data := .fields #[.ref J, .int 0 0] } := by rw [hh4, hI]; exact Heap.get?_push_size _ rfl
  have hsz2 : h3.objs.size ≤ h4.objs.size := by rw [hh4, Heap.size_push]; exact Nat.le_succ _
  have hIb : h3.get? I = none := by
    cases q : h3.get? I with
    | none => rfl
    | some o => exact absurd (Heap.lt_size q) (by rw [hI]; exact Nat.lt_irrefl _)
  have hcc : h3.IsCell (L + 7) (some (.int x tx)) := c1 ▸ Y3.C.cell "border" (L + 7) rfl
  refine compA (hb := h3) (n := 2) (wr := [I]) (St := fun i h => h.IsListIter I J i ∧ h.IsList J #[.ref T1, .ref T2]) (Bound := fun i m => ∃ (t : Addr) (v1 v2 : Value), (#[.ref T1, .ref T2] : Array Value)[i]? = some (Value.ref t) ∧ IsTup h3 t #[v1, v2] ∧ m "ends" = some v2 ∧ (("ends" : Str) ≠ ("way" : Str) → m "way" = some v1)) ?V (by decide) hsz2 hgr1 ⟨⟨_, hIg, rfl, rfl⟩, ⟨_, hgr1 _ _ hg3, rfl, _, rfl⟩⟩ (fun b hb => by rcases List.mem_singleton.mp hb with rfl; exact hIb) (fun i ys l => l = [] ∧ ∃ ns, IntsAre ys ns ∧ ns.length ≤ i ∧ (i = 0 → ns = []) ∧ (i = 1 → ns = mk1 r2 x (-1)) ∧ (i = 2 → ns = mkOf r1 r2 x)) ⟨rfl, [], .nil, by simp, by simp, by simp, by simp⟩ ?jl (by decide) rfl ?turn ?hQ
  case V => 
    refine adv_pair hh hJl hneI ?_ rfl rfl rfl
    intro i v hv
    match i, hv with
    | 0, hv => cases hv; exact ⟨_, _, _, rfl, ht1⟩
    | 1, hv => cases hv; exact ⟨_, _, _, rfl, ht2⟩
  case jl => rintro i ys l ⟨_, ns, hI', hl, _⟩; rw [hI'.length]; exact hl
  case turn =>
    rintro i ys l h tk C D' m' wo e' hi ⟨rfl, ns, hI', hnl, i0, i1', i2'⟩ hwo hlt hDC F' N' _ ⟨t, v1, v2, hit, htt, he, hw⟩
    replace hw := hw (by decide)
    obtain ⟨wy, twy, De, ie, ke, re, rfl, rfl, hge, hRe, hne, hjs⟩ : ∃ (wy : Int) (twy : Tok) (De : Addr) (ie : List Value) (ke : Nat) (re : List (Int × Int × Int)), v1 = Value.int wy twy ∧ v2 = Value.ref De ∧ h3.get? De = some (listOf ie.toArray ke) ∧ TripsAre h3 ie re ∧ re.length ≤ 5 ∧ (∀ zs : List Int, zs = mk1 re x wy → (ns ++ zs).length ≤ i + 1 ∧ (i + 1 = 0 → ns ++ zs = []) ∧ (i + 1 = 1 → ns ++ zs = mk1 r2 x (-1)) ∧ (i + 1 = 2 → ns ++ zs = mkOf r1 r2 x)) := by
      match i, hit, hi, hnl, i0, i1' with
      | 0, hit, hi, hnl, i0, i1' =>
        cases hit
        have q := isTup_one htt ht1
        simp only [Array.mk.injEq, List.cons.injEq, and_true] at q
        obtain ⟨rfl, rfl⟩ := q
        have hn0 := i0 rfl
        subst hn0
        exact ⟨_, _, D2, i2, k2, r2, rfl, rfl, hk03 _ _ (of_hideAll _ g2), R2.keep (fun b o e => hk03 _ _ (of_hideAll _ e)), n2, fun zs hz => ⟨by rw [hz]; exact mk1_le _ _ _, by simp, fun _ => hz, by simp⟩⟩
      | 1, hit, hi, hnl, i0, i1' =>
        cases hit
        have q := isTup_one htt ht2
        simp only [Array.mk.injEq, List.cons.injEq, and_true] at q
        obtain ⟨rfl, rfl⟩ := q
        have hn1 := i1' rfl
        subst hn1
        exact ⟨_, _, D1, i1, k1, r1, rfl, rfl, hk03 _ _ (of_hideAll _ g1), R1.keep (fun b o e => hk03 _ _ (of_hideAll _ e)), n1, fun zs hz => ⟨by rw [hz, List.length_append]; exact Nat.add_le_add hnl (mk1_le _ _ _), by simp, by simp, fun _ => by rw [hz]; rfl⟩⟩
    have X' : Frag.In (hd.heap_1 w.params) h3 := fun b o e => Y3.F.keep b o (X b o e)
    have T' := T.keeps Y3.F.keep
    clear X T F N Y Y1 Y2 Y3
    refine wpAny_tests_one ?_
    k_steps
    refine Halt.on (evalCompG (cl := []) rfl rfl (by decide) (by intro _; rfl) ?_)
    k_steps
    have hgeh : h.get? De = some (listOf ie.toArray ke) := F'.keep _ _ hge
    have hDl : h.IsList De ie.toArray := ⟨_, hgeh, rfl, _, rfl⟩
    have lRe := hRe.length
    refine wpAny_pyIter_list hDl ?_
    (try dsimp only)
    obtain ⟨I2, hI2⟩ : ∃ I2, I2 = h.objs.size := ⟨_, rfl⟩
    rw [← hI2]
    have hne2 : De ≠ I2 := hI2 ▸ Nat.ne_of_lt (Heap.lt_size hgeh)
    obtain ⟨h5, hh5⟩ : ∃ h5, h5 = h.push { cls := .type "list_iterator", data := .fields #[.ref De, .int 0 0] } := ⟨_, rfl⟩
    rw [← hh5]
    have hgr5 : ∀ b o, h.get? b = some o → h5.get? b = some o := fun b o e => hh5 ▸ Heap.get?_push_of_some _ e
    have hIg5 : h5.get? I2 = some { cls := .type "list_iterator", data := .fields #[.ref De, .int 0 0] } := by rw [hh5, hI2]; exact Heap.get?_push_size _ rfl
    have hsz5 : h.objs.size ≤ h5.objs.size := by rw [hh5, Heap.size_push]; exact Nat.le_succ _
    have hIb5 : h.get? I2 = none := by
      cases q : h.get? I2 with
      | none => rfl
      | some o => exact absurd (Heap.lt_size q) (by rw [hI2]; exact Nat.lt_irrefl _)
    refine compA (hb := h) (n := ie.toArray.size) (wr := [I2]) (St := fun i h => h.IsListIter I2 De i ∧ h.IsList De ie.toArray) (Bound := fun i m => ∃ v, ie.toArray[i]? = some v ∧ m "end" = some v) ?V2 (by rw [List.size_toArray]; omega) hsz5 hgr5 ⟨⟨_, hIg5, rfl, rfl⟩, ⟨_, hgr5 _ _ hgeh, rfl, _, rfl⟩⟩ (fun b hb => by rcases List.mem_singleton.mp hb with rfl; exact hIb5) (fun i ys l => l = [] ∧ IntsAre ys ((re.take i).map (·.1))) ⟨rfl, .nil⟩ ?jl2 (by decide) rfl ?turn2 ?hQ2
    case V2 => exact adv_name (Walks.list hh I2 De hne2 ie.toArray) (fun b hb => by
        rcases List.mem_cons.mp hb with rfl | hb
        · exact .inl rfl
        · rcases List.mem_singleton.mp hb with rfl; exact .inr ⟨_, hgeh⟩) (fun i h st => let ⟨o, ho, _⟩ := st.1; ⟨o, ho⟩) rfl rfl
    case jl2 => rintro i ys l ⟨_, hI'⟩; rw [hI'.length]; simp; omega
    case turn2 =>
      rintro i2 ys2 l2 h6 tk6 C6 D6 m6 wo6 e6 hi6 ⟨rfl, hI6⟩ hwo6 hlt6 hDC6 F6 N6 _ ⟨v, hv6, hend⟩
      obtain ⟨a, b, r, g, t1, t2, t3, rfl, hag, hr⟩ := hRe.at_ (show ie[i2]? = some v by simpa using hv6)
      have hta : IsTup h6 a [Value.int b t1, .int r t2, .int g t3].toArray := ⟨_, F6.keep _ _ (F'.keep _ _ hag), rfl, _, rfl⟩
      clear F' N'
      refine wpAny_tests_nil ?_
      simp only [if_true]
      k_steps
      refine Halt.on ⟨_, _, [], m6, rfl, F6, N6, by simp, rfl, ?_⟩
      rw [List.take_add_one, hr, List.map_append]
      exact IntsAre.append hI6 (.cons _ _ .nil)
    case hQ2 =>
      rintro D6 h6 tk6 ys6 l6 e6 ⟨rfl, hI6⟩ hD6 _ hk6 hsz6
      rw [List.size_toArray, lRe, List.take_length] at hI6
      have F6 := F'.grownK hk6
      have N6 := N'.grown hk6
      have hDl6 : h6.IsList D6 ys6.toArray := ⟨_, hD6, rfl, _, rfl⟩
      clear F' N'
      k_steps
      · rename_i hb
        exact Halt.on ⟨_, _, [], m', rfl, F6, N6, by simp, rfl, ns ++ [wy], IntsAre.append hI' (.cons _ _ .nil), hjs _ (by unfold mk1; rw [if_pos hb])⟩
      · rename_i hb
        have q := hjs [] (by unfold mk1; rw [if_neg (by first | exact hb | (rw [hb]; decide))])
        rw [List.append_nil] at q
        exact Halt.on ⟨_, _, [], m', rfl, F6, N6, by simp, rfl, ns, hI', q⟩
  case hQ =>
    rintro D9 h9 tk9 ys l e ⟨rfl, ns, hI', hl9, _, _, i2'⟩ hD9 _ hk9 hsz9
    have hmk := i2' rfl
    subst hmk
    have hk19 : ∀ b o, s.heap.get? b = some o → h9.get? b = some o := fun b o e => hk9 _ _ (hk03 _ _ e)
    have Y9 := Y.grow hk19
    have hlen9 := hI'.length
    have F := Y9.F
    have N : News base L h9 [] := News.nil
    k_steps
    refine Halt.on (extend_at2 (hk19 _ _ hM) hD9 (by omega) fun h10 n' hs10 ho10 => ?_)
    have hDv' : ML ≠ L ∧ ML ∉ (lawCS L).map (·.2) ∧ ML ≠ 140 ∧ ML ≠ 147 := by
      simp only [Vol, List.mem_cons, List.mem_append, List.not_mem_nil, or_false, not_or] at hMv
      exact ⟨hMv.1, hMv.2.2.2, hMv.2.1, hMv.2.2.1⟩
    obtain ⟨Y10, hz10⟩ := Y9.write hMm hs10 hDv'.1 hDv'.2.1 hDv'.2.2 ⟨_, ho10⟩
    refine execsC_nil ?_
    exact h h10 _ ys n' Y10 (fun b o e => hz10 _ _ (frz_of (fun b o _ e => hk19 b o e) b o e)) (fun b o hb e => hs10.extBut b o hb (hk19 _ _ e)) ho10 hI'
end
section
local macro_rules | `(tactic| walk_at "pad") => `(tactic| skip)
local macro_rules | `(tactic| walk_at $s) => if among "call type:range|eval ListComp|newTuple|newList|getMethod ref|call builtin:list.extend" s then `(tactic| refine Halt.go ?_) else Lean.Macro.throwUnsupported
local macro_rules | `(tactic| walk_at "eval Name") => `(tactic| first | walk_at "nm8" | walk_at "nm0" | walk_at "nm7")

inductive L10J (s : Shared) (base : Heap) (L I ML : Addr) (ms cs : List (Str × Option Value)) (r1 r2 : List (Int × Int × Int)) (i : Nat) (s' : Shared) : Prop
  | mk (h' : Heap) (tk : Nat) (cs' : List (Str × Option Value)) (vs : List Value) (kf : Nat) : s' = { s with heap := h', toks := tk } → LF base L [ML] h' ms cs' → (∀ y : Str, y ≠ ("border" : Str) → mp cs' y = mp cs y) → (∀ b o, (frz L [ML] s.heap).get? b = some o → (frz L [I, ML] h').get? b = some o) → h'.get? ML = some (listOf vs.toArray kf) → IntsAre vs ((List.range i).flatMap fun i => mkOf r1 r2 (i : Nat)) → L10J s base L I ML ms cs r1 r2 i s'
theorem law_s12 {w : World} {mean : ExcName → Option Value} {mg mb : Str → Option Value} {p : Program} {loose : List Str} {A : Around} {s : Shared} {E : Value → Shared → Prop} {Q : Flow → Shared → Prop} {base : Heap} {L ML D1 D2 : Addr} {i1 i2 : List Value} {k1 k2 : Nat} {r1 r2 : List (Int × Int × Int)} {ms cs : List (Str × Option Value)} {tn : Tok} {n : Nat}
  (X : Frag.In (hd.heap_1 w.params) base) (T : Top p loose mean mg mb base) (hA : Ok A 200 2000) (Y : LF base L [ML] s.heap ms cs) (hMv : ML ∉ Vol L []) (hM : s.heap.get? ML = some (listOf ([] : List Value).toArray 0))
  (m1 : mp ms "ahead" = some (.ref D1)) (m2 : mp ms "behind" = some (.ref D2)) (c1 : mp cs "count" = some (.int n tn)) (c2 : mp cs "marks" = some (.ref ML)) (g1 : (frz L [ML] s.heap).get? D1 = some (listOf i1.toArray k1)) (g2 : (frz L [ML] s.heap).get? D2 = some (listOf i2.toArray k2)) (R1 : TripsAre (frz L [ML] s.heap) i1 r1) (R2 : TripsAre (frz L [ML] s.heap) i2 r2) (n1 : r1.length ≤ 5) (n2 : r2.length ≤ 5) (hn5 : n ≤ 5)
  (h : ∀ h' tk' cs' vs k, LF base L [ML] h' ms cs' → (∀ y : Str, y ≠ ("border" : Str) → mp cs' y = mp cs y) → (∀ b o, (frz L [ML] s.heap).get? b = some o → (frz L [ML] h').get? b = some o) → h'.get? ML = some (listOf vs.toArray k) → IntsAre vs ((List.range n).flatMap fun i => mkOf r1 r2 (i : Nat)) →
    wpC (model PySem.Challenge.rw_pe0169_01.row.prog w) A (execs (lawBody.drop 13) (lawEnv L)) Q E { s with heap := h', toks := tk' }) :
  wpC (model PySem.Challenge.rw_pe0169_01.row.prog w) A (execs (lawBody.drop 12) (lawEnv L)) Q E s := by
  have hh := hA.h
  revert X
  k_fill
  intro X
  have hsc : lawScope = lawScope := rfl
  conv at hsc => rhs; whnf
  dsimp only [lawEnv]
  rw [hsc]
  have F := Y.F
  have N : News base L s.heap [] := News.nil
  have hline := sizeLine_eq
  refine execsC_cons (ForC ?_)
  k_steps
  refine Halt.on ?_
  (try dsimp only)
  refine rng1 (N := n) (by omega) fun I h1 tk1 hI hk1 hit hsz1 => ?_
  have hIv : I ∉ Vol L [ML] := Y.fresh_ge (Nat.le_of_lt hI)
  have hIh : s.heap.get? I = none := by
    cases q : s.heap.get? I with
    | none => rfl
    | some o => exact absurd (Heap.lt_size q) (Nat.not_lt.mpr (Nat.le_of_lt hI))
  have hIb : base.get? I = none := by
    cases q : base.get? I with
    | none => rfl
    | some o => exact absurd ((Y.F.keep _ _ q).symm.trans hIh) (by simp)
  have hIM : I ≠ ML := fun q => by rw [q, hM] at hIh; cases hIh
  have hIL : I ≠ L := fun q => hIv (q ▸ .head _)
  have hMt : ML ∉ ([140, 147] : List Addr) := fun hm => hMv (by
    simp only [List.mem_cons, List.not_mem_nil, or_false] at hm
    rcases hm with rfl | rfl <;> simp [Vol])
  have hML : ML ≠ L := fun q => hMv (q ▸ .head _)
  have z0 : ∀ b o, (frz L [ML] s.heap).get? b = some o → (frz L [I, ML] h1).get? b = some o := fun b o e =>
    frz_more (frz_of (fun b o _ e => hk1 b o e) b o e) fun q => by rw [q] at e; have := of_hideAll _ e; rw [hIh] at this; cases this
  refine forWC (Walks.range hh I 0 1 n) (fun b hb => List.mem_singleton.mp hb) base (fun b hb => .inl (List.mem_singleton.mp hb))
    (J := L10J s base L I ML ms cs r1 r2)
    ?hJ ?hup (fun i h st => ⟨_, st⟩) ?turn ?done hit ⟨h1, _, cs, [], 0, rfl, Y.grow hk1, fun _ _ => rfl, z0, hk1 _ _ hM, .nil⟩
  case hJ => rintro i s' ⟨h', tk, cs', vs, kf, rfl, Y', _⟩; exact Y'.F.keep
  case hup =>
    rintro i s' h2 tk2 ⟨h', tk, cs', vs, kf, rfl, Y', e2, z, f1, r1⟩ hkp
    have zz : ∀ b o, (frz L [I, ML] h').get? b = some o → (frz L [I, ML] h2).get? b = some o := frz_of fun b o hb e => hkp b o (fun q => hb (vol_cons.mpr (.inl q))) e
    exact ⟨h2, tk2, cs', vs, kf, rfl, Y'.but hIv hIb hkp, e2, fun b o e => zz _ _ (z b o e), hkp _ _ (Ne.symm hIM) f1, r1⟩
  case done =>
    rintro s' ⟨h', tk, cs', vs, kf, rfl, Y', e2, z, f1, r1⟩
    refine wpAny_execs_nil ?_
    exact h h' tk cs' vs kf Y' e2 (fun b o e => frz_less (z b o e)) f1 r1
  case turn =>
    rintro i v s' o hi ⟨t, rfl⟩ ⟨h', tk, cs', vs, kf, rfl, Y', e2, z, f1, hv⟩ ho hst
    refine wpAny_pure ?_
    rw [show (0 : Int) + (i : Int) * 1 = i by omega]
    have Yi : LF base L [I, ML] h' ms cs' := Y'.more hIb ho
    have hcm : L + 7 ∈ Vol L [] := by
      have : L + 7 ∈ (lawCS L).map (·.2) := List.mem_map_of_mem (f := Prod.snd) (mem_of_lookup (show (lawCS L).lookup ("border" : Str) = some (L + 7) from rfl))
      simp only [Vol, List.mem_cons, List.mem_append, List.not_mem_nil, or_false]
      exact .inr (.inr (.inr this))
    refine wpAny_assign_Name (law_storeC (c := L + 7) Yi rfl rfl fun h2 Y2 hz2 hs2 => ?_)
    have o2 : h2.get? I = some o := hs2.extBut _ _ (fun q => hIv (q ▸ vol_sub hcm)) ho
    have f2 : h2.get? ML = some (listOf vs.toArray kf) := hs2.extBut _ _ (fun q => hMv (q ▸ hcm)) f1
    have zz2 : ∀ b o, (frz L [ML] s.heap).get? b = some o → (frz L [I, ML] h2).get? b = some o := fun b o e => hz2 _ _ (z b o e)
    have q2 : ∀ y : Str, y ≠ ("border" : Str) → mp (put "border" (some (.int (i : Int) t)) cs') y = mp cs y := fun y hy => by rw [mp_put_ne _ _ hy, e2 y hy]
    have zz0 := zz2
    have b1 := (q2 "marks" (by decide)).trans c2
    have b5 : mp (put "border" (some (.int (i : Int) t)) cs') "border" = some (.int (i : Int) t) := mp_put_self _ _ _
    refine law_mk X T hA Y2 (by simp) hMv f2 ?_ m1 m2 b5 b1 (zz0 _ _ g1) (zz0 _ _ g2) (R1.keep zz0) (R2.keep zz0) n1 n2 (by omega) (by omega) fun h3 tk3 ys k3 Y3 hz3 hk3 hM3 hys => ?_
    · rw [hv.length]
      refine Nat.lt_of_le_of_lt (flat_le _ (fun j => ?_) i) (by omega)
      show (mk1 r2 _ _ ++ mk1 r1 _ _).length ≤ 2
      rw [List.length_append]
      exact Nat.add_le_add (mk1_le _ _ _) (mk1_le _ _ _)
    dsimp only at hk3
    have o3 := hk3 _ _ hIM o2
    refine Halt.on ⟨⟨h3, tk3, _, vs ++ ys, k3, rfl, Y3.less (fun x hx => .tail _ hx), q2, fun b o e => hz3 _ _ (zz2 b o e), hM3, ?_⟩, o3⟩
    rw [List.range_succ, List.flatMap_append]
    exact IntsAre.append hv (by simpa using hys)
end
end
-- L11
section
theorem anew_L11 : True := by
  w_top off
  exact True.intro
open PySem.SeqAt
theorem getMethod_list_count {M : Model} {A : Around} {E : Value → Shared → Prop} {s : Shared} {l : Addr} {o : Obj} {pl : Sem Bool} {Q : Value × List Value → Shared → Prop} (ho : s.heap.get? l = some o) (hc : o.cls = .type "list") (hd : o.dict = none)
    (h : Q (.builtin "list.count", [.ref l]) s) : wpAny M A (getMethod (.ref l) "count" pl) Q E s := by
  have hT : s.TypeIs (.ref l) "list" := ⟨o, ho, hc⟩
  unfold getMethod
  refine wpAny_bind (wpAny_specialOf hT PySem.list_getattribute ?_)
  show wpAny M A (if (Manifest.canonical "list.__getattribute__" != "object.__getattribute__") = true then _ else _) Q E s
  rw [PySem.canon_list_getattribute, if_neg Bool.false_ne_true]
  refine wpAny_bind (wpAny_specialOf hT PySem.list_getattr_none ?_)
  refine wpAny_bind (wpAny_specialOf hT F.slot_list_count.lookup ?_)
  refine wpAny_bind (wpAny_of_eq F.type_list_count ?_)
  refine wpAny_bind (wpAny_load ho ?_)
  rw [hd]
  exact wpAny_bind (wpAny_rule (wpAny_pure h))
theorem eqAt_pair {A : Around} {s : Shared} {t1 t2 : Addr} {a b c d : Int} {ta tb tc td : Tok} (x : s.heap.get? t1 = some (tupO [.int a ta, .int b tb])) (y : s.heap.get? t2 = some (tupO [.int c tc, .int d td])) (hu : A.units < cLine) {r : Bool} (hr : decide ((a, b) = (c, d)) = r) :
    EqAt A s (.ref t1) (.ref t2) r := by
  subst hr
  by_cases hq : t1 = t2
  · subst hq
    rw [x] at y
    cases y
    rw [decide_eq_true rfl]
    exact EqAt.same _
  · have q := EqAt.of_refs hq (RcAt.tuples (A := A) (s := s) (e := fun j => if j = 0 then a == c else b == d) ⟨_, x, rfl, _, rfl⟩ ⟨_, y, rfl, _, rfl⟩ hu (fun j h1 h2 => by
      match j, h1, h2 with
      | 0, _, _ => exact EqAt.int_int _ _ _ _
      | 1, _, _ => exact EqAt.int_int _ _ _ _))
    have e : ((List.range (min ([Value.int a ta, .int b tb].toArray).size ([Value.int c tc, .int d td].toArray).size)).all (fun j => if j = 0 then a == c else b == d) && ([Value.int a ta, .int b tb].toArray).size == ([Value.int c tc, .int d td].toArray).size) = decide ((a, b) = (c, d)) := by
      show (((a == c) && ((b == d) && true)) && true) = _
      by_cases h1 : a = c <;> by_cases h2 : b = d <;> simp [h1, h2]
    rw [e] at q
    exact q
theorem TupII.at_ {l : List (Addr × Obj)} {its : List Value} {ps : List (Int × Int)} (x : TupII l its ps) {v : Value} (hv : v ∈ its) : ∃ a t1 t2 p, v = Value.ref a ∧ (a, tupO [.int p.1 t1, .int p.2 t2]) ∈ l ∧ p ∈ ps := by
  induction x with
  | nil => cases hv
  | cons ho _ ih =>
    rcases List.mem_cons.mp hv with rfl | hv
    · exact ⟨_, _, _, _, rfl, ho, .head _⟩
    · obtain ⟨a, t1, t2, p, e1, e2, e3⟩ := ih hv
      exact ⟨a, t1, t2, p, e1, e2, .tail _ e3⟩
theorem count_same {prog : Program} {w : World} {A : Around} {E : Value → Shared → Prop} {s : Shared} {D a0 : Addr} {its : List Value} {k : Nat} {l : List (Addr × Obj)} {ps : List (Int × Int)} {p0 : Int × Int} {t1 t2 : Tok} {Q : Value → Shared → Prop} (hD : s.heap.get? D = some (listOf its.toArray k)) (R : TupII l its ps) (hl : ∀ p ∈ l, s.heap.get? p.1 = some p.2) (ha : s.heap.get? a0 = some (tupO [.int p0.1 t1, .int p0.2 t2])) (hall : ∀ q ∈ ps, q = p0) (hu : A.units + 5 < cLine)
    (h : Q (.int its.length s.toks) { s with toks := s.toks + 1 }) : wpAny (model prog w) A (call (.builtin "list.count") [.ref D, .ref a0]) Q E s := by
  refine call_meets PySem.F.slot_list_count ⟨_, hD, rfl⟩ PySem.F.entry_list_count (PySem.F.args_list_count_2 _ _) (list_countAt D its.toArray k none #[] (.ref a0) (fun _ => true)) ⟨hD, fun y hy => ?_, ?_⟩
  · obtain ⟨a, u1, u2, p, rfl, hp, hm⟩ := R.at_ (show y ∈ its by simpa using hy)
    have q := hall p hm
    subst q
    exact eqAt_pair (hl _ hp) ha (by show A.units + 1 < cLine; omega) (decide_eq_true rfl)
  · simpa using h
theorem item0H {prog : Program} {w : World} {A : Around} {E : Value → Shared → Prop} {s : Shared} {value slice : PySem.Expr} {l : Addr} {vs : List Value} {v : Value} {u : Tok} {Q : Value → Shared → Prop}
    (hl : s.heap.IsList l vs.toArray) (hv : vs[0]? = some v) (h : Q v s)
    (hs : subscripted slice false (.ref l) (.int 0 u) = operate [.ref l, .int 0 u] (getItem (.ref l) (.int 0 u)) := by with_unfolding_all rfl) (hg : ∀ r, letTemporaryGo value (.ref l) r = pure () := by intro _; with_unfolding_all rfl) :
    wpAny (model prog w) A (subscriptTail value slice (.ref l) (.int 0 u)) Q E s :=
  item_list hl (by decide) (by decide) (x := v) (by simpa using hv) h hs hg
section
local macro_rules | `(tactic| walk_at "pad") => `(tactic| skip)
local macro_rules | `(tactic| walk_at "subscriptTail Name Constant ref int") => `(tactic| (refine item0H (by with_reducible assumption) (by with_reducible assumption) ?_))
local macro_rules | `(tactic| walk_at $s) => if among "getMethod ref|call builtin:list.count|call builtin:len" s then `(tactic| refine Halt.go ?_) else Lean.Macro.throwUnsupported
local macro_rules | `(tactic| walk_at "eval Name") => `(tactic| first | walk_at "nm8" | walk_at "nm0")
theorem law_s13 {w : World} {mean : ExcName → Option Value} {mg mb : Str → Option Value} {p : Program} {loose : List Str} {A : Around} {s : Shared} {E : Value → Shared → Prop} {Q : Flow → Shared → Prop} {base : Heap} {L D : Addr} {mu : List Addr} {its : List Value} {k : Nat} {l : List (Addr × Obj)} {ps : List (Int × Int)} {ms cs : List (Str × Option Value)}
  (X : Frag.In (hd.heap_1 w.params) base) (T : Top p loose mean mg mb base) (hA : Ok A 200 2000) (Y : LF base L mu s.heap ms cs) (m1 : mp ms "kinds" = some (.ref D)) (g1 : (frz L mu s.heap).get? D = some (listOf its.toArray k)) (R1 : TupII l its ps) (hl : ∀ p ∈ l, (frz L mu s.heap).get? p.1 = some p.2) (n1 : ps.length ≤ 10) (p0 : Int × Int) (hp0 : ps[0]? = some p0)
  (hall : ∀ q ∈ ps, q = p0)
  (h : ∀ tk', wpC (model PySem.Challenge.rw_pe0169_01.row.prog w) A (execs (lawBody.drop 14) (lawEnv L)) Q E { s with toks := tk' }) :
  wpC (model PySem.Challenge.rw_pe0169_01.row.prog w) A (execs (lawBody.drop 13) (lawEnv L)) Q E s := by
  have hh := hA.h
  revert X
  k_fill
  intro X
  have hsc : lawScope = lawScope := rfl
  conv at hsc => rhs; whnf
  dsimp only [lawEnv]
  rw [hsc]
  have F := Y.F
  have N : News base L s.heap [] := News.nil
  have hline := sizeLine_eq
  have gD := of_hideAll _ g1
  have hDl : s.heap.IsList D its.toArray := ⟨_, gD, rfl, _, rfl⟩
  have p0v : ∃ a0 t1 t2 rest, its = Value.ref a0 :: rest ∧ (a0, tupO [.int p0.1 t1, .int p0.2 t2]) ∈ l := by
    cases R1 with
    | nil => simp at hp0
    | cons ho _ => simp only [List.getElem?_cons_zero, Option.some.injEq] at hp0; subst hp0; exact ⟨_, _, _, _, rfl, ho⟩
  obtain ⟨a0, t1, t2, rest, hit0, ha0⟩ := p0v
  have h0v : its[0]? = some (Value.ref a0) := by rw [hit0]; rfl
  refine execsC_cons (wpC_of_any ?_)
  k_steps
  refine Halt.on (getMethod_list_count gD rfl rfl ?_)
  k_steps
  refine Halt.on (count_same gD R1 (fun p hp => of_hideAll _ (hl p hp)) (of_hideAll _ (hl _ ha0)) hall (by have := hA.u; rw [show cLine = 9900 from rfl] ; omega) ?_)
  k_steps
  have hlen := R1.length
  refine Halt.on (len_list hDl (by rw [List.size_toArray]; omega) ?_)
  k_steps
  · rename_i hb
    exfalso
    rw [List.size_toArray] at hb
    simp at hb
  · exact h _
end
end
-- L12
section
theorem anew_L12 : True := by
  w_top off
  exact True.intro
open PySem.SeqAt
theorem item_intsM {prog : Program} {w : World} {A : Around} {E : Value → Shared → Prop} {s : Shared} {value slice : PySem.Expr} {l : Addr} {vs : List Value} {ns : List Int} {k : Nat} {u : Tok} {Q : Value → Shared → Prop}
    (hl : s.heap.IsList l vs.toArray) (hS : IntsAre vs ns) (h1 : k < ns.length) (hb : ns.length < 100) (h : ∀ t, Q (.int (ns.getD ((k + ns.length - 1) % ns.length) 0) t) s)
    (hs : subscripted slice false (.ref l) (.int ((k : Int) - 1) u) = operate [.ref l, .int ((k : Int) - 1) u] (getItem (.ref l) (.int ((k : Int) - 1) u)) := by with_unfolding_all rfl) :
    wpAny (model prog w) A (subscriptTail value slice (.ref l) (.int ((k : Int) - 1) u)) Q E s := by
  have hvl := hS.length
  have hm : (k + ns.length - 1) % ns.length < ns.length := Nat.mod_lt _ (by omega)
  obtain ⟨t, ht⟩ := hS.int_at _ vs[(k + ns.length - 1) % ns.length] (List.getElem?_eq_getElem (by omega))
  have hq : vs[(k + ns.length - 1) % ns.length]? = some (Value.int (ns.getD ((k + ns.length - 1) % ns.length) 0) t) := by
    rw [List.getElem?_eq_getElem (by omega), ht]
  rcases Nat.eq_zero_or_pos k with rfl | hk
  · refine tail_any hl.typeIs slot_list_getitem.lookup (wpAny_getItem_list_neg hl (by decide) (by rw [List.size_toArray]; simp; omega) (by decide) ?_ (h t)) hs
    rw [List.size_toArray]
    rw [Nat.mod_eq_of_lt (by omega)] at hq ⊢
    rw [show (((0 : Nat) : Int) - 1 + (vs.length : Nat)).toNat = 0 + ns.length - 1 by omega]
    simpa using hq
  · rw [show k + ns.length - 1 = (k - 1) + ns.length from Nat.sub_add_comm hk, Nat.add_mod_right, Nat.mod_eq_of_lt (by omega)] at hq h
    have hb2 : ((k : Int) - 1).toNat = k - 1 := Int.toNat_sub k 1
    refine tail_any hl.typeIs slot_list_getitem.lookup (wpAny_getItem_list hl (by omega) (by omega) (x := .int (ns.getD (k - 1) 0) t) ?_ (h t)) hs
    rw [hb2]
    simpa using hq
section
local macro_rules | `(tactic| walk_at $s) => if among "call builtin:len|call type:range|eval ListComp|newList|compareOp NotEq ref ref|subscriptTail Name Name ref int|subscriptTail Name BinOp ref int" s then `(tactic| refine Halt.go ?_) else Lean.Macro.throwUnsupported
local macro_rules | `(tactic| walk_at "eval Name") => `(tactic| first | walk_at "nm8" | walk_at "nm6" | walk_at "nm0" | walk_at "nm7")
theorem law_s14 {w : World} {mean : ExcName → Option Value} {mg mb : Str → Option Value} {p : Program} {loose : List Str} {A : Around} {s : Shared} {E : Value → Shared → Prop} {Q : Flow → Shared → Prop} {base : Heap} {L ML : Addr} {mu : List Addr} {vs : List Value} {k : Nat} {ks : List Int} {ms cs : List (Str × Option Value)}
  (X : Frag.In (hd.heap_1 w.params) base) (T : Top p loose mean mg mb base) (hA : Ok A 200 2000) (Y : LF base L mu s.heap ms cs) (c1 : mp cs "marks" = some (.ref ML)) (hM : s.heap.get? ML = some (listOf vs.toArray k)) (hI : IntsAre vs ks) (n1 : ks.length ≤ 20)
  (hne : ∀ i, i < ks.length → ks.getD i 0 ≠ ks.getD ((i + ks.length - 1) % ks.length) 0)
  (h : ∀ h' tk', LF base L mu h' ms cs → (∀ b o, s.heap.get? b = some o → h'.get? b = some o) → wpC (model PySem.Challenge.rw_pe0169_01.row.prog w) A (execs (lawBody.drop 15) (lawEnv L)) Q E { s with heap := h', toks := tk' }) :
  wpC (model PySem.Challenge.rw_pe0169_01.row.prog w) A (execs (lawBody.drop 14) (lawEnv L)) Q E s := by
  have hh := hA.h
  revert X
  k_fill
  intro X
  have hsc : lawScope = lawScope := rfl
  conv at hsc => rhs; whnf
  dsimp only [lawEnv]
  rw [hsc]
  have F := Y.F
  have N : News base L s.heap [] := News.nil
  have hline := sizeLine_eq
  have hMl : s.heap.IsList ML vs.toArray := ⟨_, hM, rfl, _, rfl⟩
  have hvl := hI.length
  refine execsC_cons (wpC_of_any ?_)
  k_steps
  refine Halt.on (evalCompG (cl := [("marks", L + 8)]) rfl rfl (by decide) (by intro _; rfl) ?_)
  k_steps
  refine Halt.on (len_list hMl (by rw [List.size_toArray]; omega) ?_)
  k_steps
  refine Halt.on ?_
  (try dsimp only)
  refine rng1 (N := vs.toArray.size) (by rw [List.size_toArray]; omega) fun I h2 tk2 hI' hk2 hit hsz2 => ?_
  (try dsimp only at hI' hk2 hit hsz2 ⊢)
  have hIb : s.heap.get? I = none := by
    cases q : s.heap.get? I with
    | none => rfl
    | some o => exact absurd (Heap.lt_size q) (Nat.not_lt.mpr (Nat.le_of_lt hI'))
  have hcc : s.heap.IsCell (L + 8) (some (.ref ML)) := c1 ▸ Y.C.cell "marks" (L + 8) rfl
  refine compA (hb := s.heap) (n := vs.toArray.size) (wr := [I]) (St := fun i h => IsRangeIter h I ((0 : Int) + (i : Nat) * 1) ((vs.toArray.size : Int) - (i : Nat)) 1) (Bound := fun i m => ∃ v, (∃ t, v = Value.int ((0 : Int) + (i : Int) * 1) t) ∧ m "k" = some v) ?V (by rw [List.size_toArray]; omega) (by rw [hsz2]; exact Nat.le_succ_of_le (Nat.le_of_lt hI')) hk2 hit (fun b hb => by rcases List.mem_singleton.mp hb with rfl; exact hIb) (fun i ys l => l = [] ∧ ys = []) ⟨rfl, rfl⟩ ?jl (by decide) rfl ?turn ?hQ
  case V => exact adv_name (Walks.range hh I 0 1 vs.toArray.size) (fun b hb => .inl (List.mem_singleton.mp hb)) (fun i h st => ⟨_, st⟩) rfl rfl
  case jl => rintro i ys l ⟨_, rfl⟩; exact Nat.zero_le _
  case turn =>
    rintro i ys l h tk C D' m' wo e' hi ⟨rfl, rfl⟩ hwo hlt hDC F' N' _ ⟨v, ⟨t, rfl⟩, hk⟩
    rw [show (0 : Int) + (i : Int) * 1 = i by omega] at hk
    have X' : Frag.In (hd.heap_1 w.params) s.heap := fun b o e => Y.F.keep b o (X b o e)
    have T' := T.keeps Y.F.keep
    have hMh : h.IsList ML vs.toArray := F'.lst hMl
    have hik : i < ks.length := by rw [List.size_toArray] at hi; omega
    have hnei := hne i hik
    clear X T F N Y
    refine wpAny_tests_one ?_
    k_steps
    refine Halt.on ?_
    (try dsimp only)
    refine item_intsH hMh hI (by omega) (by omega) (by omega) ?_
    intro t1
    rw [show ((i : Int)).toNat = i by omega]
    k_steps
    refine Halt.on ?_
    (try dsimp only)
    refine item_intsM hMh hI hik (by omega) ?_
    intro t2
    k_steps
    · rename_i hb
      exact absurd hb hnei
    · exact Halt.on ⟨_, _, [], m', rfl, F', N', by simp, rfl, rfl⟩
  case hQ =>
    rintro D' h1 tk1 ys l e' ⟨rfl, rfl⟩ hD' _ hk1 hsz1
    have Y1 := Y.grow hk1
    clear F N
    have F := Y1.F
    have N : News base L h1 [] := News.nil
    k_steps
    refine Halt.on (newList_step (fun J h3 hJ hk3 hg3 hs3 => ?_) (by simp))
    (try dsimp only at hJ hk3 hs3 ⊢)
    have Y3 := Y1.grow hk3
    clear F N
    have F := Y3.F
    have N : News base L h3 [] := News.nil
    k_steps
    refine Halt.on ?_
    (try dsimp only)
    refine ne_dataH (da := .list []) (db := .list []) (reads_list_at (hk3 _ _ hD') rfl rfl .nil) (reads_list_at hg3 rfl rfl .nil) (by decide +kernel) (by decide +kernel) (by have := hA.u; have := cLine_is; omega) ?_
    rw [show (!PyData.eqv (.list []) (.list [])) = false by decide +kernel]
    k_steps
    exact h _ _ Y3 fun b o e => hk3 _ _ (hk1 _ _ e)
end
end
-- L13
section
theorem anew_L13 : True := by
  w_top off
  exact True.intro
open PySem.SeqAt
section
local macro_rules | `(tactic| walk_at "pad") => `(tactic| skip)
local macro_rules | `(tactic| walk_at $s) => if among "call type:range|eval ListComp|call ref" s then `(tactic| refine Halt.go ?_) else Lean.Macro.throwUnsupported
local macro_rules | `(tactic| walk_at "eval Name") => `(tactic| first | walk_at "nm8" | walk_at "nm6" | walk_at "nm4" | walk_at "nm0" | walk_at "nm7")
theorem law_s15 {w : World} {mean : ExcName → Option Value} {mg mb : Str → Option Value} {p : Program} {loose : List Str} {A : Around} {s : Shared} {E : Value → Shared → Prop} {Q : Flow → Shared → Prop} {base : Heap} {L W : Addr} {us : List Value} {ws : List Str} {ms cs : List (Str × Option Value)} {n : Nat} {wd : Int} {tn tw : Tok}
  (X : Frag.In (hd.heap_1 w.params) base) (T : Top p loose mean mg mb base) (hA : Ok A 200 2000) (Y : LF base L [] s.heap ms cs) (c1 : mp cs "words" = some (.ref W)) (c2 : mp cs "count" = some (.int n tn)) (c3 : mp cs "width" = some (.int wd tw)) (hl : (frz L [] s.heap).IsList W us.toArray) (hS : StrsAre us ws) (hw3 : 3 ≤ ws.length) (hw5 : ws.length ≤ 5) (hB : ∀ i, (ws.getD i Str.empty).length ≤ 5) (hB1 : ∀ i, i < ws.length → 1 ≤ (ws.getD i Str.empty).length) (hwd : wd < 30) (hn5 : n ≤ 5)
  (h : ∀ h' tk' D ys k, LF base L [] h' ms (put "on" (some (.ref D)) cs) → (∀ b o, (frz L [] s.heap).get? b = some o → (frz L [] h').get? b = some o) → (frz L [] h').get? D = some (listOf ys.toArray k) → IntsAre ys ((List.range n).map fun j => roomOf ws ((j : Nat) : Int) (1) wd) →
    wpC (model PySem.Challenge.rw_pe0169_01.row.prog w) A (execs (lawBody.drop 16) (lawEnv L)) Q E { s with heap := h', toks := tk' }) :
  wpC (model PySem.Challenge.rw_pe0169_01.row.prog w) A (execs (lawBody.drop 15) (lawEnv L)) Q E s := by
  have hh := hA.h
  revert X
  k_fill
  intro X
  have hsc : lawScope = lawScope := rfl
  conv at hsc => rhs; whnf
  dsimp only [lawEnv]
  rw [hsc]
  refine execsC_cons (AssignC_Name (wpC_of_any ?_))
  have F := Y.F
  have N : News base L s.heap [] := News.nil
  have hls := isList_of_frz hl
  k_steps
  refine Halt.on ?_
  refine evalCompG (cl := [("words", L + 5), ("width", L + 4)]) ?_ rfl (by decide) (by intro _; rfl) ?_
  · rfl
  k_steps
  refine Halt.on ?_
  (try dsimp only)
  refine rng1 (N := n) (by omega) fun I h2 tk2 hI hk2 hit hsz2 => ?_
  (try dsimp only at hI hk2 hit hsz2 ⊢)
  have hIb : s.heap.get? I = none := by
    cases q : s.heap.get? I with
    | none => rfl
    | some o => exact absurd (Heap.lt_size q) (Nat.not_lt.mpr (Nat.le_of_lt hI))
  refine compA (hb := s.heap) (n := n) (wr := [I]) (St := fun i h => IsRangeIter h I (0 + (i : Nat) * 1) ((n : Int) - (i : Nat)) 1) (Bound := fun i m => ∃ v, (∃ t, v = Value.int (0 + (i : Int) * 1) t) ∧ m "border" = some v) ?V (by omega) (by rw [hsz2]; exact Nat.le_succ_of_le (Nat.le_of_lt hI)) hk2 hit (fun b hb => by rcases List.mem_singleton.mp hb with rfl; exact hIb) (fun i ys l => l = [] ∧ IntsAre ys ((List.range i).map fun j => roomOf ws ((j : Nat) : Int) (1) wd)) ⟨rfl, .nil⟩ ?jl (by decide) rfl ?turn ?hQ
  case V => exact adv_name (Walks.range hh I 0 1 n) (fun b hb => .inl (List.mem_singleton.mp hb)) (fun i h st => ⟨_, st⟩) rfl rfl
  case jl => rintro i ys l ⟨_, a⟩; rw [a.length]; simp
  case turn =>
    rintro i ys l h tk C D' m' wo e' hi ⟨rfl, hJ⟩ hwo hlt hDC F' N' _ ⟨v, ⟨t, rfl⟩, hk⟩
    rw [show (0 : Int) + (i : Int) * 1 = i by omega] at hk
    have X' : Frag.In (hd.heap_1 w.params) s.heap := fun b o e => Y.F.keep b o (X b o e)
    have T' := T.keeps Y.F.keep
    have hcc : s.heap.IsCell (L + 5) (some (.ref W)) := c1 ▸ Y.C.cell "words" (L + 5) rfl
    have hcd : s.heap.IsCell (L + 4) (some (.int wd tw)) := c3 ▸ Y.C.cell "width" (L + 4) rfl
    have hlh : h.IsList W us.toArray := F'.lst hls
    clear X T F N Y hl hk2 hit
    refine wpAny_tests_nil ?_
    simp only [if_true]
    k_steps
    refine Halt.on ?_
    (try dsimp only)

    refine wpAny_mono (room_spec (fun b o e => F'.keep b o (X' b o e)) (T'.keeps F'.keep) (hA.less (by decide) (by decide)) hlh hS hw3 (by omega) hB hB1 (by decide) hwd) (fun v s' hr => ?_) fun _ _ x => x
    obtain ⟨⟨t9, rfl⟩, ⟨h9, tk9, rfl, hk9⟩⟩ := hr.go
    (try dsimp only at hk9 ⊢)
    have F9 := F'.grownK hk9
    have N9 := N'.grown hk9
    clear F' N'
    k_steps
    refine Halt.on ⟨_, _, [], m', rfl, F9, N9, by simp, rfl, ?_⟩
    rw [List.range_succ, List.map_append]
    exact IntsAre.append hJ (.cons _ _ .nil)
  case hQ =>
    rintro D h' tk ys l e' ⟨rfl, hJ⟩ hD _ hk' hsz'
    have Y2 := Y.grow hk'
    have hDv : D ∉ Vol L [] := Y.fresh_ge (Nat.le_trans (by rw [hsz2]; exact Nat.le_succ_of_le (Nat.le_of_lt hI)) hsz')
    refine law_storeC Y2 rfl rfl fun h3 Y3 hz3 _ => ?_
    exact h h3 _ D ys e' Y3 (fun b o e => hz3 b o (frz_of (fun b o _ e => hk' b o e) b o e)) (hz3 _ _ (hideAll_get _ hD hDv)) hJ
theorem law_s16 {w : World} {mean : ExcName → Option Value} {mg mb : Str → Option Value} {p : Program} {loose : List Str} {A : Around} {s : Shared} {E : Value → Shared → Prop} {Q : Flow → Shared → Prop} {base : Heap} {L W : Addr} {us : List Value} {ws : List Str} {ms cs : List (Str × Option Value)} {n : Nat} {wd : Int} {tn tw : Tok}
  (X : Frag.In (hd.heap_1 w.params) base) (T : Top p loose mean mg mb base) (hA : Ok A 200 2000) (Y : LF base L [] s.heap ms cs) (c1 : mp cs "words" = some (.ref W)) (c2 : mp cs "count" = some (.int n tn)) (c3 : mp cs "width" = some (.int wd tw)) (hl : (frz L [] s.heap).IsList W us.toArray) (hS : StrsAre us ws) (hw3 : 3 ≤ ws.length) (hw5 : ws.length ≤ 5) (hB : ∀ i, (ws.getD i Str.empty).length ≤ 5) (hB1 : ∀ i, i < ws.length → 1 ≤ (ws.getD i Str.empty).length) (hwd : wd < 30) (hn5 : n ≤ 5)
  (h : ∀ h' tk' D ys k, LF base L [] h' ms (put "off" (some (.ref D)) cs) → (∀ b o, (frz L [] s.heap).get? b = some o → (frz L [] h').get? b = some o) → (frz L [] h').get? D = some (listOf ys.toArray k) → IntsAre ys ((List.range n).map fun j => roomOf ws (((j : Nat) : Int) - 1) (-1) wd) →
    wpC (model PySem.Challenge.rw_pe0169_01.row.prog w) A (execs (lawBody.drop 17) (lawEnv L)) Q E { s with heap := h', toks := tk' }) :
  wpC (model PySem.Challenge.rw_pe0169_01.row.prog w) A (execs (lawBody.drop 16) (lawEnv L)) Q E s := by
  have hh := hA.h
  revert X
  k_fill
  intro X
  have hsc : lawScope = lawScope := rfl
  conv at hsc => rhs; whnf
  dsimp only [lawEnv]
  rw [hsc]
  refine execsC_cons (AssignC_Name (wpC_of_any ?_))
  have F := Y.F
  have N : News base L s.heap [] := News.nil
  have hls := isList_of_frz hl
  k_steps
  refine Halt.on ?_
  refine evalCompG (cl := [("words", L + 5), ("width", L + 4)]) ?_ rfl (by decide) (by intro _; rfl) ?_
  · rfl
  k_steps
  refine Halt.on ?_
  (try dsimp only)
  refine rng1 (N := n) (by omega) fun I h2 tk2 hI hk2 hit hsz2 => ?_
  (try dsimp only at hI hk2 hit hsz2 ⊢)
  have hIb : s.heap.get? I = none := by
    cases q : s.heap.get? I with
    | none => rfl
    | some o => exact absurd (Heap.lt_size q) (Nat.not_lt.mpr (Nat.le_of_lt hI))
  refine compA (hb := s.heap) (n := n) (wr := [I]) (St := fun i h => IsRangeIter h I (0 + (i : Nat) * 1) ((n : Int) - (i : Nat)) 1) (Bound := fun i m => ∃ v, (∃ t, v = Value.int (0 + (i : Int) * 1) t) ∧ m "border" = some v) ?V (by omega) (by rw [hsz2]; exact Nat.le_succ_of_le (Nat.le_of_lt hI)) hk2 hit (fun b hb => by rcases List.mem_singleton.mp hb with rfl; exact hIb) (fun i ys l => l = [] ∧ IntsAre ys ((List.range i).map fun j => roomOf ws (((j : Nat) : Int) - 1) (-1) wd)) ⟨rfl, .nil⟩ ?jl (by decide) rfl ?turn ?hQ
  case V => exact adv_name (Walks.range hh I 0 1 n) (fun b hb => .inl (List.mem_singleton.mp hb)) (fun i h st => ⟨_, st⟩) rfl rfl
  case jl => rintro i ys l ⟨_, a⟩; rw [a.length]; simp
  case turn =>
    rintro i ys l h tk C D' m' wo e' hi ⟨rfl, hJ⟩ hwo hlt hDC F' N' _ ⟨v, ⟨t, rfl⟩, hk⟩
    rw [show (0 : Int) + (i : Int) * 1 = i by omega] at hk
    have X' : Frag.In (hd.heap_1 w.params) s.heap := fun b o e => Y.F.keep b o (X b o e)
    have T' := T.keeps Y.F.keep
    have hcc : s.heap.IsCell (L + 5) (some (.ref W)) := c1 ▸ Y.C.cell "words" (L + 5) rfl
    have hcd : s.heap.IsCell (L + 4) (some (.int wd tw)) := c3 ▸ Y.C.cell "width" (L + 4) rfl
    have hlh : h.IsList W us.toArray := F'.lst hls
    clear X T F N Y hl hk2 hit
    refine wpAny_tests_nil ?_
    simp only [if_true]
    k_steps
    refine Halt.on ?_
    (try dsimp only)

    refine wpAny_mono (room_spec (fun b o e => F'.keep b o (X' b o e)) (T'.keeps F'.keep) (hA.less (by decide) (by decide)) hlh hS hw3 (by omega) hB hB1 (by decide) hwd) (fun v s' hr => ?_) fun _ _ x => x
    obtain ⟨⟨t9, rfl⟩, ⟨h9, tk9, rfl, hk9⟩⟩ := hr.go
    (try dsimp only at hk9 ⊢)
    have F9 := F'.grownK hk9
    have N9 := N'.grown hk9
    clear F' N'
    k_steps
    refine Halt.on ⟨_, _, [], m', rfl, F9, N9, by simp, rfl, ?_⟩
    rw [List.range_succ, List.map_append]
    exact IntsAre.append hJ (.cons _ _ .nil)
  case hQ =>
    rintro D h' tk ys l e' ⟨rfl, hJ⟩ hD _ hk' hsz'
    have Y2 := Y.grow hk'
    have hDv : D ∉ Vol L [] := Y.fresh_ge (Nat.le_trans (by rw [hsz2]; exact Nat.le_succ_of_le (Nat.le_of_lt hI)) hsz')
    refine law_storeC Y2 rfl rfl fun h3 Y3 hz3 _ => ?_
    exact h h3 _ D ys e' Y3 (fun b o e => hz3 b o (frz_of (fun b o _ e => hk' b o e) b o e)) (hz3 _ _ (hideAll_get _ hD hDv)) hJ
end
end
-- L14
section
open PySem.SeqAt
noncomputable def rowD (r : List Str) : PyData := .list (r.map .str)
noncomputable def rowsD (rs : List (List Str)) : PyData := .list (rs.map rowD)
theorem RowsAre.readsAll {Z : Heap} {vs : List Value} {rs : List (List Str)} (x : RowsAre Z vs rs) : ∃ as, ReadsAll Z vs (rs.map rowD) as := by
  induction x with
  | nil => exact ⟨_, .nil⟩
  | cons a b _ ih =>
    obtain ⟨as, ih⟩ := ih
    exact ⟨_, .cons (reads_list_at a rfl rfl (b.reads _)) ih⟩
theorem RowsAre.reads {Z : Heap} {D : Addr} {k : Nat} {vs : List Value} {rs : List (List Str)} (x : RowsAre Z vs rs) (hD : Z.get? D = some (listOf vs.toArray k)) : ∃ as, Reads Z (.ref D) (rowsD rs) as := by
  obtain ⟨as, h⟩ := x.readsAll
  exact ⟨_, reads_list_at hD rfl rfl h⟩
theorem canLay_strs (r : List Str) (h : ∀ y ∈ r, PyData.strOk y = true) : PyData.canLayAll0 (r.map .str) = true := by
  induction r with
  | nil => rfl
  | cons y r ih => simp only [List.map_cons, PyData.canLayAll0, PyData.canLay0, h y (.head _), ih fun z hz => h z (.tail _ hz), Bool.and_self]
theorem canLay_rows (rs : List (List Str)) (h : ∀ r ∈ rs, ∀ y ∈ r, PyData.strOk y = true) : PyData.canLayAll0 (rs.map rowD) = true := by
  induction rs with
  | nil => rfl
  | cons r rs ih => simp only [List.map_cons, PyData.canLayAll0, rowD, PyData.canLay0, canLay_strs r (h r (.head _)), Bool.true_and]; exact ih fun z hz => h z (.tail _ hz)
theorem depth_strs (r : List Str) : PyData.depthAll (r.map .str) ≤ 1 := by
  induction r with
  | nil => simp [PyData.depthAll]
  | cons y r ih => simp only [List.map_cons, PyData.depthAll, PyData.depth]; omega
theorem depth_rows (rs : List (List Str)) : PyData.depthAll (rs.map rowD) ≤ 2 := by
  induction rs with
  | nil => simp [PyData.depthAll]
  | cons y r ih =>
    have := depth_strs y
    simp only [List.map_cons, PyData.depthAll, PyData.depth, rowD]
    omega
theorem shaped_rows (rs : List (List Str)) (h : ∀ r ∈ rs, ∀ y ∈ r, PyData.strOk y = true) : shaped (rowsD rs) = true := by
  have := depth_rows rs
  have e := canLay_rows rs h
  simp only [shaped, rowsD, PyData.canLay0, PyData.depth, e, Bool.true_and, decide_eq_true_eq]
  omega
inductive RowsL (l : List (Addr × Obj)) : List Value → List (List Str) → Prop
  | nil : RowsL l [] []
  | cons {R : Addr} {us : List Value} {k : Nat} {rows : List Str} {vs : List Value} {rs : List (List Str)} : (R, listOf us.toArray k) ∈ l → StrsAre us rows → RowsL l vs rs → RowsL l (.ref R :: vs) (rows :: rs)
theorem RowsL.mono {l l' : List (Addr × Obj)} {vs : List Value} {rs : List (List Str)} (x : RowsL l vs rs) (h : ∀ p ∈ l, p ∈ l') : RowsL l' vs rs := by
  induction x with
  | nil => exact .nil
  | cons a b _ ih => exact .cons (h _ a) b ih
theorem RowsL.snoc {l : List (Addr × Obj)} {vs : List Value} {rs : List (List Str)} (x : RowsL l vs rs) {R : Addr} {us : List Value} {k : Nat} {rows : List Str} (a : (R, listOf us.toArray k) ∈ l) (b : StrsAre us rows) : RowsL l (vs ++ [.ref R]) (rs ++ [rows]) := by
  induction x with
  | nil => exact .cons a b .nil
  | cons c d _ ih => exact .cons c d ih
theorem RowsL.length {l : List (Addr × Obj)} {vs : List Value} {rs : List (List Str)} (x : RowsL l vs rs) : vs.length = rs.length := by
  induction x with
  | nil => rfl
  | cons _ _ _ ih => simp [ih]
theorem RowsL.are {Z : Heap} {l : List (Addr × Obj)} {vs : List Value} {rs : List (List Str)} (x : RowsL l vs rs) (h : ∀ p ∈ l, Z.get? p.1 = some p.2) : RowsAre Z vs rs := by
  induction x with
  | nil => exact .nil
  | cons a b _ ih => exact .cons (h _ a) b ih
end
-- L15
section
theorem anew_L15 : True := by
  w_top off
  exact True.intro
open PySem.SeqAt
theorem turnG_ne {hb h' : Heap} {C D tt : Addr} {wo l : List (Addr × Obj)} {ys : List Value} {e tk : Nat} {s : Shared} {Jn : List (Addr × Obj) → Prop} {o : Obj} {m' : Str → Option Value} (F3 : Fr hb C h' m') (N3 : News hb C h' ((tt, o) :: (wo ++ (D, listOf ys.toArray e) :: l))) (hl3 : ∀ p ∈ wo ++ (D, listOf ys.toArray e) :: l, p.1 ≠ tt) (hl : ∀ p ∈ l, p.1 ∉ wo.map (·.1) ∧ p.1 ≠ D) (hJ : Jn ((tt, o) :: l)) :
    TurnG hb C D wo ys e s Jn { s with heap := h', toks := tk } := by
  refine ⟨_, _, (tt, o) :: l, m', rfl, F3, fun p hp => N3 p ?_, fun p hp => ?_, hJ⟩
  · rcases List.mem_append.mp hp with hp | hp
    · exact .tail _ (List.mem_append_left _ hp)
    · rcases List.mem_cons.mp hp with rfl | hp
      · exact .tail _ (List.mem_append_right _ (.head _))
      · rcases List.mem_cons.mp hp with rfl | hp
        · exact .head _
        · exact .tail _ (List.mem_append_right _ (.tail _ hp))
  · rcases List.mem_cons.mp hp with rfl | hp
    · refine ⟨fun hm => ?_, fun q => hl3 (D, listOf ys.toArray e) (List.mem_append_right _ (.head _)) q.symm⟩
      obtain ⟨q, hq, he⟩ := List.mem_map.mp hm
      exact hl3 q (List.mem_append_left _ hq) he
    · exact hl p hp
section
local macro_rules | `(tactic| walk_at $s) => if among "call type:range|eval ListComp|call ref|compareOp NotEq ref ref|compareOp Eq ref ref" s then `(tactic| refine Halt.go ?_) else Lean.Macro.throwUnsupported
local macro_rules | `(tactic| walk_at "eval Name") => `(tactic| first | walk_at "nm8" | walk_at "nm6" | walk_at "nm4" | walk_at "nm0" | walk_at "nm7")
theorem law_s17 {w : World} {mean : ExcName → Option Value} {mg mb : Str → Option Value} {p : Program} {loose : List Str} {A : Around} {s : Shared} {E : Value → Shared → Prop} {Q : Flow → Shared → Prop} {base : Heap} {L W ON FL : Addr} {us fv os : List Value} {ws : List Str} {ks : List Int} {ms cs : List (Str × Option Value)} {n ko kf : Nat} {tn : Tok}
  (X : Frag.In (hd.heap_1 w.params) base) (T : Top p loose mean mg mb base) (hA : Ok A 200 2000) (Y : LF base L [] s.heap ms cs) (m1 : mp ms "forth" = some (.ref FL)) (c1 : mp cs "words" = some (.ref W)) (c2 : mp cs "count" = some (.int n tn)) (c3 : mp cs "on" = some (.ref ON)) (hl : (frz L [] s.heap).IsList W us.toArray) (hS : StrsAre us ws) (hO : (frz L [] s.heap).get? ON = some (listOf os.toArray ko)) (hK : IntsAre os ks) (hF : (frz L [] s.heap).get? FL = some (listOf fv.toArray kf))
  (hR : RowsAre (frz L [] s.heap) fv ((List.range n).map fun j => way_rows (1) (toldAll ws ks (j : Nat) (1)))) (hok : ∀ r ∈ ((List.range n).map fun j => way_rows (1) (toldAll ws ks (j : Nat) (1))), ∀ y ∈ r, PyData.strOk y = true)
  (hw3 : 3 ≤ ws.length) (hw5 : ws.length ≤ 5) (hlen : ks.length = ws.length) (hB : ∀ i, (ws.getD i Str.empty).length ≤ 5) (hn1 : ∀ i, i < ws.length → 1 ≤ ks.getD i 0 ∧ ks.getD i 0 ≤ 100) (hn5 : n ≤ 5)
  (h : ∀ h' tk', LF base L [] h' ms cs → (∀ b o, s.heap.get? b = some o → h'.get? b = some o) → wpC (model PySem.Challenge.rw_pe0169_01.row.prog w) A (execs (lawBody.drop 18) (lawEnv L)) Q E { s with heap := h', toks := tk' }) :
  wpC (model PySem.Challenge.rw_pe0169_01.row.prog w) A (execs (lawBody.drop 17) (lawEnv L)) Q E s := by
  have hh := hA.h
  revert X
  k_fill
  intro X
  have hsc : lawScope = lawScope := rfl
  conv at hsc => rhs; whnf
  dsimp only [lawEnv]
  rw [hsc]
  refine execsC_cons (wpC_of_any ?_)
  have F := Y.F
  have N : News base L s.heap [] := News.nil
  have hls := isList_of_frz hl
  k_steps
  refine Halt.on ?_
  refine evalCompG (cl := [("words", L + 5), ("on", L + 9)]) ?_ rfl (by decide) (by intro _; rfl) ?_
  · rfl
  k_steps
  refine Halt.on ?_
  (try dsimp only)
  refine rng1 (N := n) (by omega) fun I h2 tk2 hI hk2 hit hsz2 => ?_
  (try dsimp only at hI hk2 hit hsz2 ⊢)
  have hIb : s.heap.get? I = none := by
    cases q : s.heap.get? I with
    | none => rfl
    | some o => exact absurd (Heap.lt_size q) (Nat.not_lt.mpr (Nat.le_of_lt hI))
  refine compA (hb := s.heap) (n := n) (wr := [I]) (St := fun i h => IsRangeIter h I (0 + (i : Nat) * 1) ((n : Int) - (i : Nat)) 1) (Bound := fun i m => ∃ v, (∃ t, v = Value.int (0 + (i : Int) * 1) t) ∧ m "border" = some v) ?V (by omega) (by rw [hsz2]; exact Nat.le_succ_of_le (Nat.le_of_lt hI)) hk2 hit (fun b hb => by rcases List.mem_singleton.mp hb with rfl; exact hIb) (fun i ys l => RowsL l ys ((List.range i).map fun j => way_rows (1) (toldAll ws ks (j : Nat) (1)))) .nil ?jl (by decide) rfl ?turn ?hQ
  case V => exact adv_name (Walks.range hh I 0 1 n) (fun b hb => .inl (List.mem_singleton.mp hb)) (fun i h st => ⟨_, st⟩) rfl rfl
  case jl => intro i ys l a; rw [a.length]; simp
  case turn =>
    rintro i ys l h tk C D' m' wo e' hi hJ hwo hlt hDC F' N' hl' ⟨v, ⟨t, rfl⟩, hk⟩
    rw [show (0 : Int) + (i : Int) * 1 = i by omega] at hk
    have X' : Frag.In (hd.heap_1 w.params) s.heap := fun b o e => Y.F.keep b o (X b o e)
    have T' := T.keeps Y.F.keep
    have hcc : s.heap.IsCell (L + 5) (some (.ref W)) := c1 ▸ Y.C.cell "words" (L + 5) rfl
    have hcd : s.heap.IsCell (L + 9) (some (.ref ON)) := c3 ▸ Y.C.cell "on" (L + 9) rfl
    have hlh : h.IsList W us.toArray := F'.lst hls
    have hoh : h.IsList ON os.toArray := ⟨_, F'.keep _ _ (of_hideAll _ hO), rfl, _, rfl⟩
    clear X T F N Y hl hk2 hit hR
    refine wpAny_tests_nil ?_
    simp only [if_true]
    k_steps
    refine Halt.on ?_
    (try dsimp only)
    refine wpAny_mono (told_spec (fun b o e => F'.keep b o (X' b o e)) (T'.keeps F'.keep) (hA.less (by decide) (by decide)) hlh hS hoh hK hw3 (by omega) hlen hB (by decide) hn1 (by omega)) (fun v s' hr => ?_) fun _ _ x => x
    obtain ⟨DD, its, kk, rfl, ⟨h9, tk9, rfl, hk9⟩, hDg, hDn, hDS⟩ := hr.go
    (try dsimp only at hk9 hDg hDn ⊢)
    have F9 := F'.grownK hk9
    have N9 := N'.grown hk9
    have hDC9 : DD ≠ C := fun q => by obtain ⟨o, _, _, ho, _⟩ := F'.ns; rw [q, ho] at hDn; cases hDn
    have hDs : s.heap.get? DD = none := by
      cases q : s.heap.get? DD with
      | none => rfl
      | some o => rw [F'.keep _ _ q] at hDn; cases hDn
    have N10 : News s.heap C h9 ((DD, listOf its.toArray kk) :: (wo ++ (D', listOf ys.toArray e') :: l)) := fun p hp => by
      rcases List.mem_cons.mp hp with rfl | hp
      · exact ⟨hDg, hDC9, hDs⟩
      · exact N9 p hp
    have hlow : ∀ p ∈ wo ++ (D', listOf ys.toArray e') :: l, p.1 ≠ DD := fun p hp q => by have := (N' p hp).1; rw [q, hDn] at this; cases this
    clear F' N' N9
    have N := N10
    k_steps
    refine Halt.on (turnG_ne F9 N10 hlow hl' ?_)
    rw [List.range_succ, List.map_append]
    exact (hJ.mono fun p hp => .tail _ hp).snoc (.head _) hDS
  case hQ =>
    rintro D h' tk ys l e' hJ hD hl' hk' hsz'
    have Y2 := Y.grow hk'
    clear F N
    have F := Y2.F
    have N : News base L h' [] := News.nil
    k_steps
    refine Halt.on ?_
    (try dsimp only)
    have ra := hR.keep (fun b o e => hk' _ _ (of_hideAll _ e))
    have rb := hJ.are (fun p hp => (hl' p hp).1)
    obtain ⟨aa, ra⟩ := ra.reads (hk' _ _ (of_hideAll _ hF))
    obtain ⟨ab, rb⟩ := rb.reads hD
    have hsh := shaped_rows _ hok
    refine ne_dataH ra rb hsh hsh (by have := hA.u; have := cLine_is; omega) ?_
    rw [show PyData.eqv (rowsD ((List.range n).map fun j => way_rows (1) (toldAll ws ks (j : Nat) (1)))) (rowsD ((List.range n).map fun j => way_rows (1) (toldAll ws ks (j : Nat) (1)))) = true from eqv_refl _ (canLay_of_shaped hsh)]
    k_steps
    exact h _ _ Y2 hk'
theorem law_s18 {w : World} {mean : ExcName → Option Value} {mg mb : Str → Option Value} {p : Program} {loose : List Str} {A : Around} {s : Shared} {E : Value → Shared → Prop} {Q : Flow → Shared → Prop} {base : Heap} {L W ON FL : Addr} {us fv os : List Value} {ws : List Str} {ks : List Int} {ms cs : List (Str × Option Value)} {n ko kf : Nat} {tn : Tok}
  (X : Frag.In (hd.heap_1 w.params) base) (T : Top p loose mean mg mb base) (hA : Ok A 200 2000) (Y : LF base L [] s.heap ms cs) (m1 : mp ms "back" = some (.ref FL)) (c1 : mp cs "words" = some (.ref W)) (c2 : mp cs "count" = some (.int n tn)) (c3 : mp cs "off" = some (.ref ON)) (hl : (frz L [] s.heap).IsList W us.toArray) (hS : StrsAre us ws) (hO : (frz L [] s.heap).get? ON = some (listOf os.toArray ko)) (hK : IntsAre os ks) (hF : (frz L [] s.heap).get? FL = some (listOf fv.toArray kf))
  (hR : RowsAre (frz L [] s.heap) fv ((List.range n).map fun j => way_rows (-1) (toldAll ws ks (j : Nat) (-1)))) (hok : ∀ r ∈ ((List.range n).map fun j => way_rows (-1) (toldAll ws ks (j : Nat) (-1))), ∀ y ∈ r, PyData.strOk y = true)
  (hw3 : 3 ≤ ws.length) (hw5 : ws.length ≤ 5) (hlen : ks.length = ws.length) (hB : ∀ i, (ws.getD i Str.empty).length ≤ 5) (hn1 : ∀ i, i < ws.length → 1 ≤ ks.getD i 0 ∧ ks.getD i 0 ≤ 100) (hn5 : n ≤ 5)
  (h : ∀ h' tk', LF base L [] h' ms cs → (∀ b o, s.heap.get? b = some o → h'.get? b = some o) → Q (.ret (.bool true)) { s with heap := h', toks := tk' }) :
  wpC (model PySem.Challenge.rw_pe0169_01.row.prog w) A (execs (lawBody.drop 18) (lawEnv L)) Q E s := by
  have hh := hA.h
  revert X
  k_fill
  intro X
  have hsc : lawScope = lawScope := rfl
  conv at hsc => rhs; whnf
  dsimp only [lawEnv]
  rw [hsc]
  refine execsC_cons (wpC_of_any ?_)
  have F := Y.F
  have N : News base L s.heap [] := News.nil
  have hls := isList_of_frz hl
  k_steps
  refine Halt.on ?_
  refine evalCompG (cl := [("words", L + 5), ("off", L + 10)]) ?_ rfl (by decide) (by intro _; rfl) ?_
  · rfl
  k_steps
  refine Halt.on ?_
  (try dsimp only)
  refine rng1 (N := n) (by omega) fun I h2 tk2 hI hk2 hit hsz2 => ?_
  (try dsimp only at hI hk2 hit hsz2 ⊢)
  have hIb : s.heap.get? I = none := by
    cases q : s.heap.get? I with
    | none => rfl
    | some o => exact absurd (Heap.lt_size q) (Nat.not_lt.mpr (Nat.le_of_lt hI))
  refine compA (hb := s.heap) (n := n) (wr := [I]) (St := fun i h => IsRangeIter h I (0 + (i : Nat) * 1) ((n : Int) - (i : Nat)) 1) (Bound := fun i m => ∃ v, (∃ t, v = Value.int (0 + (i : Int) * 1) t) ∧ m "border" = some v) ?V (by omega) (by rw [hsz2]; exact Nat.le_succ_of_le (Nat.le_of_lt hI)) hk2 hit (fun b hb => by rcases List.mem_singleton.mp hb with rfl; exact hIb) (fun i ys l => RowsL l ys ((List.range i).map fun j => way_rows (-1) (toldAll ws ks (j : Nat) (-1)))) .nil ?jl (by decide) rfl ?turn ?hQ
  case V => exact adv_name (Walks.range hh I 0 1 n) (fun b hb => .inl (List.mem_singleton.mp hb)) (fun i h st => ⟨_, st⟩) rfl rfl
  case jl => intro i ys l a; rw [a.length]; simp
  case turn =>
    rintro i ys l h tk C D' m' wo e' hi hJ hwo hlt hDC F' N' hl' ⟨v, ⟨t, rfl⟩, hk⟩
    rw [show (0 : Int) + (i : Int) * 1 = i by omega] at hk
    have X' : Frag.In (hd.heap_1 w.params) s.heap := fun b o e => Y.F.keep b o (X b o e)
    have T' := T.keeps Y.F.keep
    have hcc : s.heap.IsCell (L + 5) (some (.ref W)) := c1 ▸ Y.C.cell "words" (L + 5) rfl
    have hcd : s.heap.IsCell (L + 10) (some (.ref ON)) := c3 ▸ Y.C.cell "off" (L + 10) rfl
    have hlh : h.IsList W us.toArray := F'.lst hls
    have hoh : h.IsList ON os.toArray := ⟨_, F'.keep _ _ (of_hideAll _ hO), rfl, _, rfl⟩
    clear X T F N Y hl hk2 hit hR
    refine wpAny_tests_nil ?_
    simp only [if_true]
    k_steps
    refine Halt.on ?_
    (try dsimp only)
    refine wpAny_mono (told_spec (fun b o e => F'.keep b o (X' b o e)) (T'.keeps F'.keep) (hA.less (by decide) (by decide)) hlh hS hoh hK hw3 (by omega) hlen hB (by decide) hn1 (by omega)) (fun v s' hr => ?_) fun _ _ x => x
    obtain ⟨DD, its, kk, rfl, ⟨h9, tk9, rfl, hk9⟩, hDg, hDn, hDS⟩ := hr.go
    (try dsimp only at hk9 hDg hDn ⊢)
    have F9 := F'.grownK hk9
    have N9 := N'.grown hk9
    have hDC9 : DD ≠ C := fun q => by obtain ⟨o, _, _, ho, _⟩ := F'.ns; rw [q, ho] at hDn; cases hDn
    have hDs : s.heap.get? DD = none := by
      cases q : s.heap.get? DD with
      | none => rfl
      | some o => rw [F'.keep _ _ q] at hDn; cases hDn
    have N10 : News s.heap C h9 ((DD, listOf its.toArray kk) :: (wo ++ (D', listOf ys.toArray e') :: l)) := fun p hp => by
      rcases List.mem_cons.mp hp with rfl | hp
      · exact ⟨hDg, hDC9, hDs⟩
      · exact N9 p hp
    have hlow : ∀ p ∈ wo ++ (D', listOf ys.toArray e') :: l, p.1 ≠ DD := fun p hp q => by have := (N' p hp).1; rw [q, hDn] at this; cases this
    clear F' N' N9
    have N := N10
    k_steps
    refine Halt.on (turnG_ne F9 N10 hlow hl' ?_)
    rw [List.range_succ, List.map_append]
    exact (hJ.mono fun p hp => .tail _ hp).snoc (.head _) hDS
  case hQ =>
    rintro D h' tk ys l e' hJ hD hl' hk' hsz'
    have Y2 := Y.grow hk'
    clear F N
    have F := Y2.F
    have N : News base L h' [] := News.nil
    k_steps
    refine Halt.on ?_
    (try dsimp only)
    have ra := hR.keep (fun b o e => hk' _ _ (of_hideAll _ e))
    have rb := hJ.are (fun p hp => (hl' p hp).1)
    obtain ⟨aa, ra⟩ := ra.reads (hk' _ _ (of_hideAll _ hF))
    obtain ⟨ab, rb⟩ := rb.reads hD
    have hsh := shaped_rows _ hok
    refine eq_dataH ra rb hsh hsh (by have := hA.u; have := cLine_is; omega) ?_
    rw [show PyData.eqv (rowsD ((List.range n).map fun j => way_rows (-1) (toldAll ws ks (j : Nat) (-1)))) (rowsD ((List.range n).map fun j => way_rows (-1) (toldAll ws ks (j : Nat) (-1)))) = true from eqv_refl _ (canLay_of_shaped hsh)]
    k_steps
    exact h _ _ Y2 hk'
end
end
-- L16
section
open PySem.SeqAt
noncomputable def aheadOf (ws : List Str) (wd : Int) (n : Nat) : List (Int × Int × Int) := endlessOf (((List.range n).map (fRow ws wd n)).map cF) 1
noncomputable def behindOf (mir : List Str) (wd : Int) (n : Nat) : List (Int × Int × Int) := endlessOf (((List.range n).map (bRow mir wd n)).map cB) (-1)
noncomputable def marksOf (ws mir : List Str) (wd : Int) (n : Nat) : List Int := (List.range n).flatMap fun i => mkOf (aheadOf ws wd n) (behindOf mir wd n) (i : Nat)
noncomputable def onL (ws : List Str) (wd : Int) (n : Nat) : List Int := (List.range n).map fun j => roomOf ws ((j : Nat) : Int) 1 wd
noncomputable def offL (ws : List Str) (wd : Int) (n : Nat) : List Int := (List.range n).map fun j => roomOf ws (((j : Nat) : Int) - 1) (-1) wd
structure PlainOk (ws mir : List Str) (wd : Int) (n : Nat) : Prop where
  pieces : PiecesOk ws mir wd n
  posF : ∀ r ∈ (List.range n).map (fRow ws wd n), 0 < r.length
  posB : ∀ r ∈ (List.range n).map (bRow mir wd n), 0 < r.length
  la : (aheadOf ws wd n).length ≤ 5
  lb : (behindOf mir wd n).length ≤ 5
  kinds : ∃ p0, ((aheadOf ws wd n ++ behindOf mir wd n).map (·.2))[0]? = some p0 ∧ ∀ q ∈ (aheadOf ws wd n ++ behindOf mir wd n).map (·.2), q = p0
  marks : ∀ i, i < (marksOf ws mir wd n).length → (marksOf ws mir wd n).getD i 0 ≠ (marksOf ws mir wd n).getD ((i + (marksOf ws mir wd n).length - 1) % (marksOf ws mir wd n).length) 0
  mlen : (marksOf ws mir wd n).length ≤ 20
  tf : (List.range n).map (fRow ws wd n) = (List.range n).map fun j => way_rows 1 (toldAll ws (onL ws wd n) (j : Nat) 1)
  tb : (List.range n).map (bRow mir wd n) = (List.range n).map fun j => way_rows (-1) (toldAll ws (offL ws wd n) (j : Nat) (-1))
  okF : ∀ r ∈ (List.range n).map (fRow ws wd n), ∀ y ∈ r, PyData.strOk y = true
  okB : ∀ r ∈ (List.range n).map (bRow mir wd n), ∀ y ∈ r, PyData.strOk y = true
  on : ∀ i, i < ws.length → 1 ≤ (onL ws wd n).getD i 0 ∧ (onL ws wd n).getD i 0 ≤ 100
  off : ∀ i, i < ws.length → 1 ≤ (offL ws wd n).getD i 0 ∧ (offL ws wd n).getD i 0 ≤ 100
  wl : ∀ i, (ws.getD i Str.empty).length ≤ 5
  wl1 : ∀ i, i < ws.length → 1 ≤ (ws.getD i Str.empty).length
  ml : ∀ i, (mir.getD i Str.empty).length ≤ 50
  lm : n ≤ mir.length ∧ mir.length < 50
theorem law_end {w : World} {mean : ExcName → Option Value} {mg mb : Str → Option Value} {p : Program} {loose : List Str} {A : Around} {s : Shared} {E : Value → Shared → Prop} {Q : Flow → Shared → Prop} {base : Heap} {L W FL BL : Addr} {us fv bv : List Value} {ws mir : List Str} {ms cs : List (Str × Option Value)} {n kf kb : Nat} {wd : Int} {tn tw : Tok}
  (X : Frag.In (hd.heap_1 w.params) base) (T : Top p loose mean mg mb base) (hA : Ok A 200 2000) (Y : LF base L [] s.heap ms cs) (m1 : mp ms "forth" = some (.ref FL)) (m2 : mp ms "back" = some (.ref BL)) (c1 : mp cs "words" = some (.ref W)) (c2 : mp cs "count" = some (.int n tn)) (c3 : mp cs "width" = some (.int wd tw)) (hl : (frz L [] s.heap).IsList W us.toArray) (hS : StrsAre us ws)
  (hF : (frz L [] s.heap).get? FL = some (listOf fv.toArray kf)) (hB : (frz L [] s.heap).get? BL = some (listOf bv.toArray kb)) (hRF : RowsAre (frz L [] s.heap) fv ((List.range n).map (fRow ws wd n))) (hRB : RowsAre (frz L [] s.heap) bv ((List.range n).map (bRow mir wd n)))
  (hlen : ws.length = n) (hn3 : 3 ≤ n) (hn5 : n ≤ 5) (hwd : wd < 30) (ok : PlainOk ws mir wd n)
  (h : ∀ h' tk', (∀ b o, (frz L [] s.heap).get? b = some o → h'.get? b = some o) → (∃ ms' cs', LF base L [] h' ms' cs') → Q (.ret (.bool true)) { s with heap := h', toks := tk' }) :
  wpC (model PySem.Challenge.rw_pe0169_01.row.prog w) A (execs (lawBody.drop 15) (lawEnv L)) Q E s := by
  refine law_s15 X T hA Y c1 c2 c3 hl hS (by omega) (by omega) ok.wl ok.wl1 hwd hn5 fun h1 tk1 D1 y1 k1 Y1 z1 g1 i1 => ?_
  have c11 := fun (y : Str) (hy : y ≠ ("on" : Str)) => mp_put_ne (some (Value.ref D1)) cs hy
  refine law_s16 X T hA Y1 ((c11 "words" (by decide)).trans c1) ((c11 "count" (by decide)).trans c2) ((c11 "width" (by decide)).trans c3) (isList_keep hl z1) hS (by omega) (by omega) ok.wl ok.wl1 hwd hn5 fun h2 tk2 D2 y2 k2 Y2 z2 g2 i2 => ?_
  have c22 := fun (y : Str) (hy : y ≠ ("on" : Str)) (hy2 : y ≠ ("off" : Str)) => (mp_put_ne (some (Value.ref D2)) (put "on" (some (Value.ref D1)) cs) hy2).trans (c11 y hy)
  have con : mp (put "off" (some (Value.ref D2)) (put "on" (some (Value.ref D1)) cs)) "on" = some (.ref D1) := (mp_put_ne _ _ (by decide)).trans (mp_put_self _ _ _)
  have coff : mp (put "off" (some (Value.ref D2)) (put "on" (some (Value.ref D1)) cs)) "off" = some (.ref D2) := mp_put_self _ _ _
  have tf := ok.tf
  have tb := ok.tb
  have okF := ok.okF
  have okB := ok.okB
  rw [tf] at hRF okF
  rw [tb] at hRB okB
  have z12 : ∀ b o, (frz L [] s.heap).get? b = some o → (frz L [] h2).get? b = some o := fun b o e => z2 _ _ (z1 _ _ e)
  refine law_s17 X T hA Y2 m1 ((c22 "words" (by decide) (by decide)).trans c1) ((c22 "count" (by decide) (by decide)).trans c2) con (isList_keep hl z12) hS (z2 _ _ g1) i1 (z12 _ _ hF) (hRF.keep z12) okF (by omega) (by omega) (by simp [hlen]) ok.wl ok.on hn5 fun h3 tk3 Y3 z3 => ?_
  have z13 : ∀ b o, (frz L [] s.heap).get? b = some o → (frz L [] h3).get? b = some o := fun b o e => frz_of (fun b o _ e => z3 b o e) _ _ (z12 _ _ e)
  have z23 : ∀ b o, (frz L [] h2).get? b = some o → (frz L [] h3).get? b = some o := fun b o e => frz_of (fun b o _ e => z3 b o e) _ _ e
  refine law_s18 X T hA Y3 m2 ((c22 "words" (by decide) (by decide)).trans c1) ((c22 "count" (by decide) (by decide)).trans c2) coff (isList_keep hl z13) hS (z23 _ _ g2) i2 (z13 _ _ hB) (hRB.keep z13) okB (by omega) (by omega) (by simp [hlen]) ok.wl ok.off hn5 fun h4 tk4 Y4 z4 => ?_
  exact h _ _ (fun b o e => z4 _ _ (of_hideAll _ (z13 _ _ e))) ⟨_, _, Y4⟩
theorem law_mid {w : World} {mean : ExcName → Option Value} {mg mb : Str → Option Value} {p : Program} {loose : List Str} {A : Around} {s : Shared} {E : Value → Shared → Prop} {Q : Flow → Shared → Prop} {base : Heap} {L W FL BL AD BD : Addr} {us fv bv ai bi : List Value} {ws mir : List Str} {ms cs : List (Str × Option Value)} {n kf kb ka kc : Nat} {wd : Int} {tn tw : Tok}
  (X : Frag.In (hd.heap_1 w.params) base) (T : Top p loose mean mg mb base) (hA : Ok A 200 2000) (Y : LF base L [] s.heap ms cs) (m1 : mp ms "forth" = some (.ref FL)) (m2 : mp ms "back" = some (.ref BL)) (m3 : mp ms "ahead" = some (.ref AD)) (m4 : mp ms "behind" = some (.ref BD)) (c1 : mp cs "words" = some (.ref W)) (c2 : mp cs "count" = some (.int n tn)) (c3 : mp cs "width" = some (.int wd tw)) (hl : (frz L [] s.heap).IsList W us.toArray) (hS : StrsAre us ws)
  (hF : (frz L [] s.heap).get? FL = some (listOf fv.toArray kf)) (hB : (frz L [] s.heap).get? BL = some (listOf bv.toArray kb)) (hRF : RowsAre (frz L [] s.heap) fv ((List.range n).map (fRow ws wd n))) (hRB : RowsAre (frz L [] s.heap) bv ((List.range n).map (bRow mir wd n)))
  (ga : (frz L [] s.heap).get? AD = some (listOf ai.toArray ka)) (gb : (frz L [] s.heap).get? BD = some (listOf bi.toArray kc)) (Ra : TripsAre (frz L [] s.heap) ai (aheadOf ws wd n)) (Rb : TripsAre (frz L [] s.heap) bi (behindOf mir wd n))
  (hlen : ws.length = n) (hn3 : 3 ≤ n) (hn5 : n ≤ 5) (hwd : wd < 30) (ok : PlainOk ws mir wd n)
  (h : ∀ h' tk', (∀ b o, (frz L [] s.heap).get? b = some o → h'.get? b = some o) → (∃ ms' cs', LF base L [] h' ms' cs') → Q (.ret (.bool true)) { s with heap := h', toks := tk' }) :
  wpC (model PySem.Challenge.rw_pe0169_01.row.prog w) A (execs (lawBody.drop 10) (lawEnv L)) Q E s := by
  obtain ⟨p0, hp0, hpa⟩ := ok.kinds
  refine law_s10 X T hA Y m3 m4 ga gb Ra Rb ok.la ok.lb fun h1 tk1 D1 it1 k1 l1 Y1 z1 e1 g1 t1 f1 => ?_
  have mk := fun (y : Str) (hy : y ≠ ("kinds" : Str)) => mp_put_ne (some (Value.ref D1)) ms hy
  have mkk : mp (put "kinds" (some (Value.ref D1)) ms) "kinds" = some (.ref D1) := mp_put_self _ _ _
  refine law_s11 X T Y1 fun h2 tk2 ML Y2 z2 g2 v2 => ?_
  have cm := fun (y : Str) (hy : y ≠ ("marks" : Str)) => mp_put_ne (some (Value.ref ML)) cs hy
  have cmk : mp (put "marks" (some (Value.ref ML)) cs) "marks" = some (.ref ML) := mp_put_self _ _ _
  have z12 : ∀ b o, (frz L [] s.heap).get? b = some o → (frz L [ML] h2).get? b = some o := fun b o e => z2 _ _ (z1 _ _ e)
  refine law_s12 X T hA Y2 v2 g2 ((mk "ahead" (by decide)).trans m3) ((mk "behind" (by decide)).trans m4) ((cm "count" (by decide)).trans c2) cmk (z12 _ _ ga) (z12 _ _ gb) (Ra.keep z12) (Rb.keep z12) ok.la ok.lb hn5 fun h3 tk3 cs3 v3 k3 Y3 q3 z3 g3 i3 => ?_
  have z13 : ∀ b o, (frz L [] s.heap).get? b = some o → (frz L [ML] h3).get? b = some o := fun b o e => z3 _ _ (z12 _ _ e)
  have z23 : ∀ b o, (frz L [] h1).get? b = some o → (frz L [ML] h3).get? b = some o := fun b o e => z3 _ _ (z2 _ _ e)
  have hps : ((aheadOf ws wd n ++ behindOf mir wd n).map (·.2)).length ≤ 10 := by
    have := ok.la
    have := ok.lb
    rw [List.length_map, List.length_append]
    omega
  refine law_s13 X T hA Y3 mkk (z23 _ _ g1) t1 (fun q hq => z23 _ _ (f1 q hq)) hps p0 hp0 hpa fun tk4 => ?_
  refine law_s14 X T hA Y3 ((q3 "marks" (by decide)).trans cmk) g3 i3 ok.mlen ok.marks fun h5 tk5 Y5 z5 => ?_
  have zz : ∀ b o, (frz L [] s.heap).get? b = some o → (frz L [] h5).get? b = some o := fun b o e => frz_less (frz_of (fun b o _ e => z5 b o e) _ _ (z13 _ _ e))
  have cc := fun (y : Str) (hy : y ≠ ("border" : Str)) (hy2 : y ≠ ("marks" : Str)) => (q3 y hy).trans (cm y hy2)
  refine law_end X T hA (Y5.less (fun x hx => by cases hx)) ((mk "forth" (by decide)).trans m1) ((mk "back" (by decide)).trans m2) ((cc "words" (by decide) (by decide)).trans c1) ((cc "count" (by decide) (by decide)).trans c2) ((cc "width" (by decide) (by decide)).trans c3) (isList_keep hl zz) hS (zz _ _ hF) (zz _ _ hB) (hRF.keep zz) (hRB.keep zz) hlen hn3 hn5 hwd ok fun h6 tk6 z6 Y6 => ?_
  exact h _ _ (fun b o e => z6 _ _ (zz _ _ e)) Y6
theorem law_fore {w : World} {mean : ExcName → Option Value} {mg mb : Str → Option Value} {p : Program} {loose : List Str} {A : Around} {s : Shared} {E : Value → Shared → Prop} {Q : Flow → Shared → Prop} {base : Heap} {L W M : Addr} {us um : List Value} {ws mir : List Str} {ms cs : List (Str × Option Value)} {n : Nat} {wd : Int} {tn tw : Tok}
  (X : Frag.In (hd.heap_1 w.params) base) (T : Top p loose mean mg mb base) (hA : Ok A 200 2000) (G : AllBare s.gens) (Y : LF base L [] s.heap ms cs) (c1 : mp cs "words" = some (.ref W)) (c2 : mp cs "count" = some (.int n tn)) (c3 : mp cs "width" = some (.int wd tw)) (c4 : mp cs "mirror" = some (.ref M)) (hl : (frz L [] s.heap).IsList W us.toArray) (hS : StrsAre us ws) (hM : (frz L [] s.heap).IsList M um.toArray) (hSm : StrsAre um mir)
  (hlen : ws.length = n) (hn3 : 3 ≤ n) (hn5 : n ≤ 5) (hwd : wd < 30) (ok : PlainOk ws mir wd n)
  (h : ∀ h' tk' g', AllBare g' → (∀ b o, (frz L [] s.heap).get? b = some o → h'.get? b = some o) → (∃ ms' cs', LF base L [] h' ms' cs') → Q (.ret (.bool true)) { s with heap := h', toks := tk', gens := g' }) :
  wpC (model PySem.Challenge.rw_pe0169_01.row.prog w) A (execs (lawBody.drop 5) (lawEnv L)) Q E s := by
  refine law_s5 X T Y fun h1 tk1 FL BL Y1 z1 f1 b1 hFB hFv hBv => ?_
  have mf : mp (put "back" (some (Value.ref BL)) (put "forth" (some (Value.ref FL)) ms)) "forth" = some (.ref FL) := (mp_put_ne _ _ (by decide)).trans (mp_put_self _ _ _)
  have mb' : mp (put "back" (some (Value.ref BL)) (put "forth" (some (Value.ref FL)) ms)) "back" = some (.ref BL) := mp_put_self _ _ _
  refine law_s7 X T hA G Y1 hFB hFv hBv f1 b1 mf mb' c3 c2 c1 c4 (isList_keep hl z1) hS (isList_keep hM z1) hSm hlen ok.lm.1 ok.lm.2 hn3 hn5 ok.wl ok.ml ok.pieces fun h2 tk2 g2 ms2 fv bv kf kb cs2 G2 Y2 e2 q2 z2 f2 b2 rf2 rb2 => ?_
  have z12 : ∀ b o, (frz L [] s.heap).get? b = some o → (frz L [BL, FL] h2).get? b = some o := fun b o e => z2 _ _ (z1 _ _ e)
  have hFL : FL ≠ L := fun q => hFv (q ▸ .head _)
  have hBL : BL ≠ L := fun q => hBv (q ▸ .head _)
  refine law_s8 X T hA Y2 hFv f2 ((e2 "forth" (by decide) (by decide)).trans mf) rf2 (by simp; omega) (by simp; omega) ok.posF fun h3 tk3 D3 i3 k3 Y3 z3 e3 g3 R3 => ?_
  have a3 := fun (y : Str) (hy : y ≠ ("ahead" : Str)) => mp_put_ne (some (Value.ref D3)) ms2 hy
  have a33 : mp (put "ahead" (some (Value.ref D3)) ms2) "ahead" = some (.ref D3) := mp_put_self _ _ _
  refine law_s9 X T hA Y3 hBv (e3 _ _ hBL b2) ((a3 "back" (by decide)).trans ((e2 "back" (by decide) (by decide)).trans mb')) (rb2.keep z3) (by simp; omega) (by simp; omega) ok.posB fun h4 tk4 D4 i4 k4 Y4 z4 e4 g4 R4 => ?_
  have a4 := fun (y : Str) (hy : y ≠ ("behind" : Str)) => mp_put_ne (some (Value.ref D4)) (put "ahead" (some (Value.ref D3)) ms2) hy
  have a44 : mp (put "behind" (some (Value.ref D4)) (put "ahead" (some (Value.ref D3)) ms2)) "behind" = some (.ref D4) := mp_put_self _ _ _
  have z24 : ∀ b o, (frz L [BL, FL] h2).get? b = some o → (frz L [] h4).get? b = some o := fun b o e => frz_less (frz_less (z4 _ _ (z3 _ _ e)))
  have z34 : ∀ b o, (frz L [BL, FL] h3).get? b = some o → (frz L [] h4).get? b = some o := fun b o e => frz_less (frz_less (z4 _ _ e))
  have z44 : ∀ b o, (frz L [BL, FL] h4).get? b = some o → (frz L [] h4).get? b = some o := fun b o e => frz_less (frz_less e)
  have z14 : ∀ b o, (frz L [] s.heap).get? b = some o → (frz L [] h4).get? b = some o := fun b o e => z24 _ _ (z12 _ _ e)
  refine law_mid X T hA (Y4.less (fun x hx => by cases hx)) ((a4 "forth" (by decide)).trans ((a3 "forth" (by decide)).trans ((e2 "forth" (by decide) (by decide)).trans mf))) ((a4 "back" (by decide)).trans ((a3 "back" (by decide)).trans ((e2 "back" (by decide) (by decide)).trans mb'))) ((a4 "ahead" (by decide)).trans a33) a44
    ((q2 "words" (by decide)).trans c1) ((q2 "count" (by decide)).trans c2) ((q2 "width" (by decide)).trans c3) (isList_keep hl z14) hS (hideAll_get _ (e4 _ _ hFL (e3 _ _ hFL f2)) hFv) (hideAll_get _ (e4 _ _ hBL (e3 _ _ hBL b2)) hBv) (rf2.keep z24) (rb2.keep z24) (z34 _ _ g3) (z44 _ _ g4) (R3.keep z34) (R4.keep z44) hlen hn3 hn5 hwd ok fun h5 tk5 z5 Y5 => ?_
  exact h _ _ g2 G2 (fun b o e => z5 _ _ (z14 _ _ e)) Y5
structure WordsOk (ws : List Str) (n : Nat) : Prop where
  len : ws.length = n
  each : ∀ k, k < n → ∃ c, c < 4 ∧ ws[k]? = some (wordOf k c)
noncomputable def mirOf (ws : List Str) : List Str := Txt.split ⟨(Txt.join "" ws).cps.reverse⟩ " "
structure PlainLaw : Prop where
  ok : ∀ (ws : List Str) (n : Nat) (wd : Int), 3 ≤ n → n ≤ 5 → 4 ≤ wd → wd ≤ 11 → WordsOk ws n → PlainOk ws (mirOf ws) wd n
  sum : ∀ (ws : List Str) (n : Nat), n ≤ 5 → WordsOk ws n → (ws.map (·.length)).sum ≤ 25
  asc : ∀ (ws : List Str) (n : Nat), n ≤ 5 → WordsOk ws n → (Txt.join "" ws).cps.all (· < 128) = true
  pos : ∀ (ws : List Str) (n : Nat), 3 ≤ n → n ≤ 5 → WordsOk ws n → 0 < (Txt.join "" ws).cps.size ∧ (Txt.join "" ws).cps.size < 1000
theorem law_body {w : World} {mean : ExcName → Option Value} {mg mb : Str → Option Value} {p : Program} {loose : List Str} {A : Around} {s : Shared} {E : Value → Shared → Prop} {Q : Flow → Shared → Prop} {base : Heap} {L S : Addr} {vs : List Value} {ns : List Int} {ms cs : List (Str × Option Value)} (PL : PlainLaw)
  (X : Frag.In (hd.heap_1 w.params) base) (T : Top p loose mean mg mb base) (hA : Ok A 200 2000) (G : AllBare s.gens) (Y : LF base L [] s.heap ms cs) (hscr : mp cs "script" = some (.ref S)) (hl : base.IsList S vs.toArray) (hS : IntsAre vs ns) (hlen : ns.length ≤ 63)
  (h : ∀ h' tk' g', AllBare g' → (∀ b o, (frz L [] s.heap).get? b = some o → h'.get? b = some o) → (∃ ms' cs', LF base L [] h' ms' cs') → Q (.ret (.bool true)) { s with heap := h', toks := tk', gens := g' }) :
  wpC (model PySem.Challenge.rw_pe0169_01.row.prog w) A (execs lawBody (lawEnv L)) Q E s := by
  refine law_s0 X T hA Y hscr hl hS hlen fun h1 tk1 D1 v1 n1 Y1 z1 l1 i1 k1 b1 => ?_
  have cD : mp (put "cells" (some (Value.ref D1)) cs) "cells" = some (.ref D1) := mp_put_self _ _ _
  refine law_s1 X T Y1 cD l1 i1 k1 fun h2 tk2 t2 Y2 z2 => ?_
  have f0 := fmod_lo (n1.getD 0 0) (b := 3) (by decide)
  have f3 := fmod_hi (n1.getD 0 0) (b := 3) (by decide)
  obtain ⟨n, hn⟩ : ∃ n : Nat, 3 + (n1.getD 0 0).fmod 3 = (n : Int) := ⟨(3 + (n1.getD 0 0).fmod 3).toNat, by omega⟩
  rw [hn] at Y2
  have e2 := fun (y : Str) (hy : y ≠ ("count" : Str)) => mp_put_ne (some (Value.int (n : Int) t2)) (put "cells" (some (Value.ref D1)) cs) hy
  have e22 : mp (put "count" (some (Value.int (n : Int) t2)) (put "cells" (some (Value.ref D1)) cs)) "count" = some (.int n t2) := mp_put_self _ _ _
  refine law_s2 X T Y2 ((e2 "cells" (by decide)).trans cD) (isList_keep l1 z2) i1 k1 fun h3 tk3 t3 Y3 z3 => ?_
  have d0 := fmod_lo ((n1.getD 0 0).fdiv 3) (b := 8) (by decide)
  have d8 := fmod_hi ((n1.getD 0 0).fdiv 3) (b := 8) (by decide)
  obtain ⟨wd, hwd⟩ : ∃ wd : Int, 4 + ((n1.getD 0 0).fdiv 3).fmod 8 = wd := ⟨_, rfl⟩
  rw [hwd] at Y3
  have e3 := fun (y : Str) (hy : y ≠ ("width" : Str)) => mp_put_ne (some (Value.int wd t3)) (put "count" (some (Value.int (n : Int) t2)) (put "cells" (some (Value.ref D1)) cs)) hy
  have e33 : mp (put "width" (some (Value.int wd t3)) (put "count" (some (Value.int (n : Int) t2)) (put "cells" (some (Value.ref D1)) cs))) "width" = some (.int wd t3) := mp_put_self _ _ _
  refine law_s3 X T hA Y3 ((e3 "cells" (by decide)).trans ((e2 "cells" (by decide)).trans cD)) ((e3 "count" (by decide)).trans e22) (isList_keep l1 fun b o e => z3 _ _ (z2 _ _ e)) i1 k1 (by omega) fun h4 tk4 W us ws Y4 z4 l4 s4 n4 w4 => ?_
  have WO : WordsOk ws n := ⟨n4, w4⟩
  have e4 := fun (y : Str) (hy : y ≠ ("words" : Str)) => mp_put_ne (some (Value.ref W)) (put "width" (some (Value.int wd t3)) (put "count" (some (Value.int (n : Int) t2)) (put "cells" (some (Value.ref D1)) cs))) hy
  have e44 : mp (put "words" (some (Value.ref W)) (put "width" (some (Value.int wd t3)) (put "count" (some (Value.int (n : Int) t2)) (put "cells" (some (Value.ref D1)) cs)))) "words" = some (.ref W) := mp_put_self _ _ _
  refine law_s4 X T hA Y4 e44 l4 s4 (by omega) (PL.sum ws n (by omega) WO) (PL.asc ws n (by omega) WO) (PL.pos ws n (by omega) (by omega) WO).1 (PL.pos ws n (by omega) (by omega) WO).2 fun h5 tk5 M um Y5 z5 l5 s5 => ?_
  have e5 := fun (y : Str) (hy : y ≠ ("mirror" : Str)) => mp_put_ne (some (Value.ref M)) (put "words" (some (Value.ref W)) (put "width" (some (Value.int wd t3)) (put "count" (some (Value.int (n : Int) t2)) (put "cells" (some (Value.ref D1)) cs)))) hy
  refine law_fore X T hA G Y5 ((e5 "words" (by decide)).trans e44) ((e5 "count" (by decide)).trans ((e4 "count" (by decide)).trans ((e3 "count" (by decide)).trans e22))) ((e5 "width" (by decide)).trans ((e4 "width" (by decide)).trans e33)) (mp_put_self _ _ _) (isList_keep l4 z5) s4 l5 s5 n4 (by omega) (by omega) (by omega) (PL.ok ws n wd (by omega) (by omega) (by omega) (by omega) WO) fun h6 tk6 g6 G6 z6 Y6 => ?_
  exact h _ _ g6 G6 (fun b o e => z6 _ _ (z5 _ _ (z4 _ _ (z3 _ _ (z2 _ _ (z1 _ _ e)))))) Y6
end
-- L17
section
inductive Ten (cm : Str → Option Value) (n1 n2 n3 n4 n5 n6 n7 n8 n9 n10 : Str) (c1 c2 c3 c4 c5 c6 c7 c8 c9 c10 : Addr) (cells : List (Addr × Obj)) : Prop
  | mk (o1 o2 o3 o4 o5 o6 o7 o8 o9 o10 : Obj) : cells = [(c1, o1), (c2, o2), (c3, o3), (c4, o4), (c5, o5), (c6, o6), (c7, o7), (c8, o8), (c9, o9), (c10, o10)] → o1.data = .cell (cm n1) → o2.data = .cell (cm n2) → o3.data = .cell (cm n3) → o4.data = .cell (cm n4) → o5.data = .cell (cm n5) → o6.data = .cell (cm n6) → o7.data = .cell (cm n7) → o8.data = .cell (cm n8) → o9.data = .cell (cm n9) → o10.data = .cell (cm n10) → Ten cm n1 n2 n3 n4 n5 n6 n7 n8 n9 n10 c1 c2 c3 c4 c5 c6 c7 c8 c9 c10 cells
theorem cells_cons {cm : Str → Option Value} {n : Str} {c : Addr} {r : List (Str × Addr)} {cells : List (Addr × Obj)} {G : Prop} (x : CellsAre cm ((n, c) :: r) cells) (k : ∀ o t, o.data = .cell (cm n) → CellsAre cm r t → cells = (c, o) :: t → G) : G := by
  cases x with | cons a x => exact k _ _ a x rfl
theorem cells_nil {cm : Str → Option Value} {cells : List (Addr × Obj)} (x : CellsAre cm [] cells) : cells = [] := by cases x; rfl
theorem ten {cm : Str → Option Value} {n1 n2 n3 n4 n5 n6 n7 n8 n9 n10 : Str} {c1 c2 c3 c4 c5 c6 c7 c8 c9 c10 : Addr} {cells : List (Addr × Obj)} (x : CellsAre cm [(n1, c1), (n2, c2), (n3, c3), (n4, c4), (n5, c5), (n6, c6), (n7, c7), (n8, c8), (n9, c9), (n10, c10)] cells) :
    Ten cm n1 n2 n3 n4 n5 n6 n7 n8 n9 n10 c1 c2 c3 c4 c5 c6 c7 c8 c9 c10 cells := by
  refine cells_cons x fun o1 t1 a1 x e1 => ?_
  refine cells_cons x fun o2 t2 a2 x e2 => ?_
  refine cells_cons x fun o3 t3 a3 x e3 => ?_
  refine cells_cons x fun o4 t4 a4 x e4 => ?_
  refine cells_cons x fun o5 t5 a5 x e5 => ?_
  refine cells_cons x fun o6 t6 a6 x e6 => ?_
  refine cells_cons x fun o7 t7 a7 x e7 => ?_
  refine cells_cons x fun o8 t8 a8 x e8 => ?_
  refine cells_cons x fun o9 t9 a9 x e9 => ?_
  refine cells_cons x fun o10 t10 a10 x e10 => ?_
  exact ⟨_, _, _, _, _, _, _, _, _, _, by rw [e1, e2, e3, e4, e5, e6, e7, e8, e9, e10, cells_nil x], a1, a2, a3, a4, a5, a6, a7, a8, a9, a10⟩
/-- what the law's call leaves behind -/
noncomputable def LawOut (s : Shared) (v : Value) (s' : Shared) : Prop := v = .bool true ∧ ∃ h' tk' g', s' = { s with heap := h', toks := tk', gens := g' } ∧ AllBare g' ∧ (∀ b o, (hideAll s.heap [140, 147]).get? b = some o → h'.get? b = some o) ∧ TabAt h'
section
theorem law_spec {w : World} {mean : ExcName → Option Value} {mg mb : Str → Option Value} {p : Program} {loose : List Str} {s : Shared} {E : Value → Shared → Prop} {S : Addr} {vs : List Value} {ns : List Int} (PL : PlainLaw)
  (X0 : Frag.In (hd.heap_1 w.params) (hideAll s.heap [140, 147])) (T0 : Top p loose mean mg mb (hideAll s.heap [140, 147])) (tab : TabAt s.heap) (G : AllBare s.gens) (hl : (hideAll s.heap [140, 147]).IsList S vs.toArray) (hS : IntsAre vs ns) (hlen : ns.length ≤ 63) :
  wpC (model _root_.PySem.Challenge.rw_pe0169_01.row.prog w) callerA (call (.ref 225) [.ref S]) (fun v s' => Halt (LawOut s v s')) E s := by
  have X : Frag.In (hd.heap_1 w.params) s.heap := fun b o e => of_hideAll _ (X0 b o e)
  have T : Top p loose mean mg mb s.heap := T0.keeps fun b o e => of_hideAll _ e
  revert X
  k_fill
  intro X
  refine wpC_call ?_
  k_dflt (refine' enterCC [("script", .ref S)] ?k1 ?k2 ?k3 ?k4 ?k5 ?k6 ?k7 ?kn ?_ ?c2 ?c3 ?c4; (case k1 => k_asm); (case k2 => exact T.nolimit); (case k3 => k_is); (case k4 => k_is); (case k5 => decide); (case k6 => exact BindsTo.of_eq rfl); (case k7 => exact rfl); (case kn => decide); (case c2 => exact rfl); (case c3 => exact rfl); (case c4 => exact rfl); k_whole)
  intro L h₁ tk cells F N Y
  obtain ⟨o1, o2, o3, o4, o5, o6, o7, o8, o9, o10, rfl, d1, d2, d3, d4, d5, d6, d7, d8, d9, d10⟩ := ten Y
  clear Y
  replace d10 : o10.data = .cell (some (.ref S)) := d10
  replace d1 : o1.data = .cell none := d1
  replace d2 : o2.data = .cell none := d2
  replace d3 : o3.data = .cell none := d3
  replace d4 : o4.data = .cell none := d4
  replace d5 : o5.data = .cell none := d5
  replace d6 : o6.data = .cell none := d6
  replace d7 : o7.data = .cell none := d7
  replace d8 : o8.data = .cell none := d8
  replace d9 : o9.data = .cell none := d9
  replace F : Fr s.heap L h₁ (fun _ => none) := F
  have g1 : h₁.get? (L + 10) = some o1 := (N _ (.head _)).1
  have g2 : h₁.get? (L + 9) = some o2 := (N _ (.tail _ (.head _))).1
  have g3 : h₁.get? (L + 8) = some o3 := (N _ (.tail _ (.tail _ (.head _)))).1
  have g4 : h₁.get? (L + 7) = some o4 := (N _ (.tail _ (.tail _ (.tail _ (.head _))))).1
  have g5 : h₁.get? (L + 6) = some o5 := (N _ (.tail _ (.tail _ (.tail _ (.tail _ (.head _)))))).1
  have g6 : h₁.get? (L + 5) = some o6 := (N _ (.tail _ (.tail _ (.tail _ (.tail _ (.tail _ (.head _))))))).1
  have g7 : h₁.get? (L + 4) = some o7 := (N _ (.tail _ (.tail _ (.tail _ (.tail _ (.tail _ (.tail _ (.head _)))))))).1
  have g8 : h₁.get? (L + 3) = some o8 := (N _ (.tail _ (.tail _ (.tail _ (.tail _ (.tail _ (.tail _ (.tail _ (.head _))))))))).1
  have g9 : h₁.get? (L + 2) = some o9 := (N _ (.tail _ (.tail _ (.tail _ (.tail _ (.tail _ (.tail _ (.tail _ (.tail _ (.head _)))))))))).1
  have g10 : h₁.get? (L + 1) = some o10 := (N _ (.tail _ (.tail _ (.tail _ (.tail _ (.tail _ (.tail _ (.tail _ (.tail _ (.tail _ (.head _))))))))))).1
  have hsz : (hideAll s.heap [140, 147]).objs.size = s.heap.objs.size := hideAll_size _ _
  have F2 : Fr (hideAll s.heap [140, 147]) L h₁ (mp []) := ⟨F.ns, fun b o e => F.keep b o (of_hideAll _ e), by rw [hsz]; exact F.above⟩
  obtain ⟨t1, t2, ta, tb, ok1, ok2⟩ := tab
  have hnone : ∀ b, s.heap.objs.size ≤ b → (hideAll s.heap [140, 147]).get? b = none := fun b hb => by
    cases q : (hideAll s.heap [140, 147]).get? b with
    | none => rfl
    | some o => exact absurd (Heap.lt_size (of_hideAll _ q)) (Nat.not_lt.mpr hb)
  have low : @LT.lt Nat _ 147 L := Nat.lt_of_lt_of_le (Heap.lt_size tb) F.above
  have YL : LF (hideAll s.heap [140, 147]) L [] h₁ [] [("script", some (.ref S))] := by
    have hc : ∀ c ∈ (lawCS L).map (·.2), L < c ∧ ∃ o, h₁.get? c = some o := by
      show ∀ c ∈ ([L + 10, L + 9, L + 8, L + 7, L + 6, L + 5, L + 4, L + 3, L + 2, L + 1] : List Addr), L < c ∧ ∃ o, h₁.get? c = some o
      exact List.forall_mem_cons.mpr ⟨⟨Nat.lt_add_of_pos_right (Nat.succ_pos _), _, g1⟩, List.forall_mem_cons.mpr ⟨⟨Nat.lt_add_of_pos_right (Nat.succ_pos _), _, g2⟩, List.forall_mem_cons.mpr ⟨⟨Nat.lt_add_of_pos_right (Nat.succ_pos _), _, g3⟩, List.forall_mem_cons.mpr ⟨⟨Nat.lt_add_of_pos_right (Nat.succ_pos _), _, g4⟩, List.forall_mem_cons.mpr ⟨⟨Nat.lt_add_of_pos_right (Nat.succ_pos _), _, g5⟩, List.forall_mem_cons.mpr ⟨⟨Nat.lt_add_of_pos_right (Nat.succ_pos _), _, g6⟩, List.forall_mem_cons.mpr ⟨⟨Nat.lt_add_of_pos_right (Nat.succ_pos _), _, g7⟩, List.forall_mem_cons.mpr ⟨⟨Nat.lt_add_of_pos_right (Nat.succ_pos _), _, g8⟩, List.forall_mem_cons.mpr ⟨⟨Nat.lt_add_of_pos_right (Nat.succ_pos _), _, g9⟩, List.forall_mem_cons.mpr ⟨⟨Nat.lt_add_of_pos_right (Nat.succ_pos _), _, g10⟩, fun _ h => nomatch h⟩⟩⟩⟩⟩⟩⟩⟩⟩⟩
    refine ⟨F2, ⟨?_, ?_, ?_⟩, ⟨t1, t2, F.keep _ _ ta, F.keep _ _ tb, ok1, ok2⟩, ?_, ?_, low⟩
    · have hcell : ∀ p ∈ ([("off", L + 10), ("on", L + 9), ("marks", L + 8), ("border", L + 7), ("mirror", L + 6), ("words", L + 5), ("width", L + 4), ("count", L + 3), ("cells", L + 2), ("script", L + 1)] : List (Str × Addr)), h₁.IsCell p.2 (mp [("script", some (.ref S))] p.1) :=
        List.forall_mem_cons.mpr ⟨⟨_, g1, d1⟩, List.forall_mem_cons.mpr ⟨⟨_, g2, d2⟩, List.forall_mem_cons.mpr ⟨⟨_, g3, d3⟩, List.forall_mem_cons.mpr ⟨⟨_, g4, d4⟩, List.forall_mem_cons.mpr ⟨⟨_, g5, d5⟩, List.forall_mem_cons.mpr ⟨⟨_, g6, d6⟩, List.forall_mem_cons.mpr ⟨⟨_, g7, d7⟩, List.forall_mem_cons.mpr ⟨⟨_, g8, d8⟩, List.forall_mem_cons.mpr ⟨⟨_, g9, d9⟩, List.forall_mem_cons.mpr ⟨⟨_, g10, d10⟩, fun _ h => nomatch h⟩⟩⟩⟩⟩⟩⟩⟩⟩⟩
      exact fun n c hm => hcell (n, c) (mem_of_lookup hm)
    · show List.Pairwise _ [(_, L + 10), (_, L + 9), (_, L + 8), (_, L + 7), (_, L + 6), (_, L + 5), (_, L + 4), (_, L + 3), (_, L + 2), (_, L + 1)]
      simp
    · intro n c hm; exact (hc c (List.mem_map_of_mem (f := Prod.snd) hm)).1
    · intro v hv
      simp only [Vol, List.mem_cons, List.mem_append, List.not_mem_nil, or_false] at hv
      rcases hv with rfl | rfl | rfl | hv
      · exact hnone _ F.above
      · exact hideAll_none _ (by simp)
      · exact hideAll_none _ (by simp)
      · exact hnone _ (Nat.le_trans F.above (Nat.le_of_lt (hc v hv).1))
    · intro v hv
      simp only [Vol, List.mem_cons, List.mem_append, List.not_mem_nil, or_false] at hv
      rcases hv with rfl | rfl | rfl | hv
      · obtain ⟨o, _, _, ho, _⟩ := F.ns; exact ⟨o, ho⟩
      · exact ⟨_, F.keep _ _ ta⟩
      · exact ⟨_, F.keep _ _ tb⟩
      · exact (hc v hv).2
  have hA0 : Ok callerA 201 2003 := ⟨rfl, by decide, by decide⟩
  refine law_body (ns := ns) PL X0 T0 (hA0.deeper _) G YL (mp_put_self "script" _ []) hl hS hlen fun h' tk' g' G' k' Y' => ?_
  obtain ⟨ms', cs', Y'⟩ := Y'
  exact Halt.on ⟨rfl, _, _, _, rfl, G', Y'.F.keep, Y'.tab⟩
end
end
-- P1
section
noncomputable def sumTo (l : Nat → Nat) : Nat → Nat
  | 0 => 0
  | m + 1 => sumTo l m + l m
theorem sumTo_mono (l : Nat → Nat) {a b : Nat} (h : a ≤ b) : sumTo l a ≤ sumTo l b := by
  induction h with
  | refl => exact Nat.le_refl _
  | step _ ih => exact Nat.le_trans ih (Nat.le_add_right _ _)
theorem sumTo_ge {l : Nat → Nat} (h : ∀ j, 2 ≤ l j) (m : Nat) : 2 * m ≤ sumTo l m := by
  induction m with
  | zero => simp
  | succ m ih => rw [Nat.mul_succ]; exact Nat.add_le_add ih (h m)
theorem sumTo_front (l : Nat → Nat) (m : Nat) : sumTo l (m + 1) = l 0 + sumTo (fun j => l (j + 1)) m := by
  induction m with
  | zero => simp [sumTo]
  | succ m ih => rw [sumTo, ih]; simp only [sumTo]; exact Nat.add_assoc _ _ _
theorem roomGo_spec {l : Nat → Nat} {wd : Int} (hl : ∀ j, 2 ≤ l j) (hw : wd ≤ 11) : ∀ (f k : Nat) (t : Int), t = (sumTo l (k + 1) : Nat) → 6 ≤ f + k →
    k ≤ roomGo l wd f k t ∧ ∀ m, k < m → (m ≤ roomGo l wd f k t ↔ ((sumTo l m : Nat) : Int) ≤ wd) := by
  intro f
  induction f with
  | zero =>
    intro k t ht hf
    refine ⟨Nat.le_refl _, fun m hm => ⟨fun h => ?_, fun h => ?_⟩⟩
    · exact absurd h (Nat.not_le.mpr hm)
    · have h7 : 7 ≤ m := Nat.lt_of_le_of_lt (Nat.zero_add k ▸ hf) hm
      exact absurd (Int.le_trans (Int.le_trans (Int.ofNat_le.mpr (Nat.le_trans (Nat.mul_le_mul_left 2 h7) (sumTo_ge hl m))) h) hw) (by decide)
  | succ f ih =>
    intro k t ht hf
    by_cases hle : t ≤ wd
    · have e : roomGo l wd (f + 1) k t = roomGo l wd f (k + 1) (t + (l (k + 1) : Nat)) := by simp only [roomGo, if_pos hle]
      obtain ⟨a, b⟩ := ih (k + 1) (t + (l (k + 1) : Nat)) (by rw [ht]; simp only [sumTo]; push_cast; rfl) (by rw [Nat.add_comm k 1, ← Nat.add_assoc]; exact hf)
      rw [e]
      refine ⟨Nat.le_of_succ_le a, fun m hm => ?_⟩
      by_cases hk : m = k + 1
      · subst hk; exact ⟨fun _ => ht ▸ hle, fun _ => a⟩
      · exact b m (Nat.lt_of_le_of_ne hm (Ne.symm hk))
    · rw [roomGo_done hle]
      refine ⟨Nat.le_refl _, fun m hm => ⟨fun h => absurd h (Nat.not_le.mpr hm), fun h => ?_⟩⟩
      have := sumTo_mono l (show k + 1 ≤ m from hm)
      exact absurd (Int.le_trans (ht ▸ Int.ofNat_le.mpr this) h) hle
theorem room_iff {ws : List Str} {fi wy wd : Int} (hl : ∀ i, 2 ≤ lAt ws i) (hw : wd ≤ 11) :
    1 ≤ roomOf ws fi wy wd ∧ roomOf ws fi wy wd ≤ 5 ∧ ∀ m, 2 ≤ m → (m ≤ roomOf ws fi wy wd ↔ ((sumTo (fun j => lAt ws (fi + wy * j)) m : Nat) : Int) ≤ wd) := by
  obtain ⟨a, b⟩ := roomGo_spec (l := fun j => lAt ws (fi + wy * j)) (wd := wd) (fun j => hl _) hw 40 1 (lAt ws fi + lAt ws (fi + wy)) (by simp [sumTo]) (by decide)
  have b' : ∀ m, 2 ≤ m → (m ≤ roomOf ws fi wy wd ↔ ((sumTo (fun j => lAt ws (fi + wy * j)) m : Nat) : Int) ≤ wd) := fun m hm => b m hm
  refine ⟨a, ?_, b'⟩
  apply Nat.le_of_not_lt
  intro h
  have h6 := (b' 6 (by decide)).mp h
  have := sumTo_ge (l := fun (j : Nat) => lAt ws (fi + wy * j)) (fun j => hl _) 6
  exact absurd (Int.le_trans (Int.le_trans (Int.ofNat_le.mpr this) h6) hw) (by decide)
/-- room forth -/
noncomputable def onP (ws : List Str) (wd p : Int) : Nat := roomOf ws p 1 wd
noncomputable def offP (ws : List Str) (wd p : Int) : Nat := roomOf ws (p - 1) (-1) wd
noncomputable def spanOf (ws : List Str) (p : Int) (m : Nat) : Nat := sumTo (fun j => lAt ws (p + j)) m
theorem span_back (ws : List Str) (p : Int) (m : Nat) : sumTo (fun j => lAt ws (p - 1 + -1 * j)) m = spanOf ws (p - m) m := by
  induction m with
  | zero => rfl
  | succ m ih =>
    unfold spanOf at ih ⊢
    rw [sumTo, ih, sumTo_front]
    have e : (fun (j : Nat) => lAt ws (p - (m + 1 : Nat) + (j + 1 : Nat))) = fun (j : Nat) => lAt ws (p - m + j) := by
      funext j; congr 1; push_cast; omega
    rw [e]
    have e2 : lAt ws (p - 1 + -1 * (m : Int)) = lAt ws (p - (m + 1 : Nat) + (0 : Nat)) := by congr 1; push_cast; omega
    rw [e2]; exact Nat.add_comm _ _
theorem on_iff {ws : List Str} {wd p : Int} (hl : ∀ i, 2 ≤ lAt ws i) (hw : wd ≤ 11) {m : Nat} (hm : 2 ≤ m) : m ≤ onP ws wd p ↔ ((spanOf ws p m : Nat) : Int) ≤ wd := by
  have := (room_iff (ws := ws) (fi := p) (wy := 1) hl hw).2.2 m hm
  have e : sumTo (fun (j : Nat) => lAt ws (p + 1 * (j : Int))) m = spanOf ws p m := by unfold spanOf; congr 1; funext j; congr 1; omega
  rw [e] at this; exact this
theorem off_iff {ws : List Str} {wd p : Int} (hl : ∀ i, 2 ≤ lAt ws i) (hw : wd ≤ 11) {m : Nat} (hm : 2 ≤ m) : m ≤ offP ws wd p ↔ ((spanOf ws (p - m) m : Nat) : Int) ≤ wd := by
  have := (room_iff (ws := ws) (fi := p - 1) (wy := -1) hl hw).2.2 m hm
  rw [span_back] at this; exact this
theorem on_rng {ws : List Str} {wd p : Int} (hl : ∀ i, 2 ≤ lAt ws i) (hw : wd ≤ 11) : 1 ≤ onP ws wd p ∧ onP ws wd p ≤ 5 :=
  have := room_iff (ws := ws) (fi := p) (wy := 1) hl hw; ⟨this.1, this.2.1⟩
theorem off_rng {ws : List Str} {wd p : Int} (hl : ∀ i, 2 ≤ lAt ws i) (hw : wd ≤ 11) : 1 ≤ offP ws wd p ∧ offP ws wd p ≤ 5 :=
  have := room_iff (ws := ws) (fi := p - 1) (wy := -1) hl hw; ⟨this.1, this.2.1⟩
theorem off_on {ws : List Str} {wd p : Int} (hl : ∀ i, 2 ≤ lAt ws i) (hw : wd ≤ 11) {m : Nat} (hm : 2 ≤ m) : m ≤ offP ws wd p ↔ m ≤ onP ws wd (p - m) := by
  rw [off_iff hl hw hm, on_iff hl hw hm]
theorem on_cyc {ws : List Str} {wd p : Int} (hl : ∀ i, 2 ≤ lAt ws i) (hw : wd ≤ 11) : onP ws wd p ≤ onP ws wd (p + 1) + 1 := by
  by_cases h : onP ws wd p ≤ 2
  · have := (on_rng (ws := ws) (wd := wd) (p := p + 1) hl hw).1; exact Nat.le_trans h (Nat.succ_le_succ this)
  · have h0 := Nat.lt_of_not_le h
    obtain ⟨m, hm⟩ := Nat.exists_eq_add_of_le' (Nat.le_of_lt (Nat.lt_trans (by decide : 1 < 2) h0))
    rw [hm] at h0 ⊢
    have h1 := (on_iff (ws := ws) (wd := wd) (p := p) hl hw (m := m + 1) (Nat.le_of_lt h0)).mp (Nat.le_of_eq hm.symm)
    refine Nat.succ_le_succ ((on_iff hl hw (Nat.le_of_lt_succ h0)).mpr ?_)
    unfold spanOf at h1 ⊢
    rw [sumTo_front] at h1
    have e : (fun (j : Nat) => lAt ws (p + (j + 1 : Nat))) = fun (j : Nat) => lAt ws (p + 1 + j) := by funext j; congr 1; push_cast; omega
    rw [e] at h1
    exact Int.le_trans (Int.ofNat_le.mpr (Nat.le_add_left _ _)) h1
theorem wAt_congr {ws : List Str} {a b : Int} (h : a.fmod ws.length = b.fmod ws.length) : wAt ws a = wAt ws b := by unfold wAt; rw [h]
theorem onP_congr {ws : List Str} {wd a b : Int} (h : ∀ j : Nat, (a + j).fmod ws.length = (b + j).fmod ws.length) : onP ws wd a = onP ws wd b := by
  unfold onP roomOf
  have e : (fun (j : Nat) => lAt ws (a + 1 * (j : Int))) = fun (j : Nat) => lAt ws (b + 1 * (j : Int)) := by
    funext j; unfold lAt; congr 1; refine wAt_congr ?_; have := h j; simpa using this
  have e1 : lAt ws a = lAt ws b := by unfold lAt; congr 1; refine wAt_congr ?_; have := h 0; simpa using this
  have e2 : lAt ws (a + 1) = lAt ws (b + 1) := by unfold lAt; congr 1; refine wAt_congr ?_; have := h 1; simpa using this
  rw [e, e1, e2]
theorem offP_congr {ws : List Str} {wd a b : Int} (h : ∀ j : Int, (a + j).fmod ws.length = (b + j).fmod ws.length) : offP ws wd a = offP ws wd b := by
  unfold offP roomOf
  have e : (fun (j : Nat) => lAt ws (a - 1 + -1 * (j : Int))) = fun (j : Nat) => lAt ws (b - 1 + -1 * (j : Int)) := by
    funext j; unfold lAt; congr 1; refine wAt_congr ?_
    have := h (-1 + -1 * (j : Int)); rw [← Int.add_assoc, ← Int.add_assoc] at this; exact this
  have e1 : lAt ws (a - 1) = lAt ws (b - 1) := by unfold lAt; congr 1; exact wAt_congr (h (-1))
  have e2 : lAt ws (a - 1 + -1) = lAt ws (b - 1 + -1) := by unfold lAt; congr 1; refine wAt_congr ?_; have := h (-1 + -1); rw [← Int.add_assoc, ← Int.add_assoc] at this; exact this
  rw [e, e1, e2]
theorem fmod_shift {n : Int} (hn : 0 < n) (a j : Int) : (a.fmod n + j).fmod n = (a + j).fmod n := by
  rw [Int.fmod_eq_emod_of_nonneg _ (Int.le_of_lt hn), Int.fmod_eq_emod_of_nonneg _ (Int.le_of_lt hn), Int.fmod_eq_emod_of_nonneg _ (Int.le_of_lt hn), Int.emod_add_emod]
theorem onP_mod {ws : List Str} {wd a : Int} (h : 0 < ws.length) : onP ws wd (a.fmod ws.length) = onP ws wd a := onP_congr fun j => fmod_shift (by omega) _ _
theorem offP_mod {ws : List Str} {wd a : Int} (h : 0 < ws.length) : offP ws wd (a.fmod ws.length) = offP ws wd a := offP_congr fun j => fmod_shift (by omega) _ _
end
-- P2
section
noncomputable def revS (x : Str) : Str := ⟨x.cps.reverse⟩
theorem revS_list (x : Str) : (revS x).cps.toList = x.cps.toList.reverse := Array.toList_reverse
theorem txt_join (sep : Str) (ps : List Str) : Txt.join sep ps = Str.join sep ps := StrLaws.glued_eq_join sep ps
theorem cut_one {c : Nat} {u v : List Nat} : ∀ {x y : List Nat}, c ∉ x → c ∉ y → x ++ c :: u = y ++ c :: v → x = y ∧ u = v
  | [], [], _, _, e => ⟨rfl, by simpa using e⟩
  | [], b :: y, _, hy, e => by
    simp only [List.nil_append, List.cons_append, List.cons.injEq] at e
    exact absurd (e.1 ▸ List.mem_cons_self) hy
  | a :: x, [], hx, _, e => by
    simp only [List.nil_append, List.cons_append, List.cons.injEq] at e
    exact absurd (e.1 ▸ List.mem_cons_self) hx
  | a :: x, b :: y, hx, hy, e => by
    simp only [List.cons_append, List.cons.injEq] at e
    obtain ⟨p, q⟩ := cut_one (fun h => hx (.tail _ h)) (fun h => hy (.tail _ h)) e.2
    exact ⟨by rw [e.1, p], q⟩
theorem join_cons2 (c : Nat) (x y : Str) (r : List Str) : (Str.join ⟨#[c]⟩ (x :: y :: r)).cps.toList = x.cps.toList ++ c :: (Str.join ⟨#[c]⟩ (y :: r)).cps.toList := by
  rw [join_cons_cons, cps_toList_append, cps_toList_append]; simp
theorem join_inj {c : Nat} : ∀ {xs ys : List Str}, xs ≠ [] → ys ≠ [] → (∀ x ∈ xs, c ∉ x.cps.toList) → (∀ y ∈ ys, c ∉ y.cps.toList) → (Str.join ⟨#[c]⟩ xs).cps.toList = (Str.join ⟨#[c]⟩ ys).cps.toList → xs = ys
  | [], _, h, _, _, _, _ => absurd rfl h
  | _ :: _, [], _, h, _, _, _ => absurd rfl h
  | [x], [y], _, _, _, _, e => by rw [join_one, join_one] at e; rw [str_ext e]
  | [x], y :: z :: r, _, _, hx, _, e => by
    rw [join_one, join_cons2] at e
    exact absurd (e ▸ List.mem_append_right _ List.mem_cons_self) (hx x (.head _))
  | x :: z :: r, [y], _, _, _, hy, e => by
    rw [join_one, join_cons2] at e
    exact absurd (e ▸ List.mem_append_right _ List.mem_cons_self) (hy y (.head _))
  | x :: z :: r, y :: z' :: r', _, _, hx, hy, e => by
    rw [join_cons2, join_cons2] at e
    obtain ⟨p, q⟩ := cut_one (hx x (.head _)) (hy y (.head _)) e
    rw [str_ext p, join_inj (by simp) (by simp) (fun a ha => hx a (.tail _ ha)) (fun a ha => hy a (.tail _ ha)) q]
theorem split_join {c : Nat} {xs : List Str} (h0 : xs ≠ []) (h : ∀ x ∈ xs, c ∉ x.cps.toList) : Txt.split (Txt.join ⟨#[c]⟩ xs) ⟨#[c]⟩ = xs := by
  refine join_inj ?_ h0 (StrLaws.split_free _ c) h ?_
  · intro e
    have := split_pos (Txt.join ⟨#[c]⟩ xs) ⟨#[c]⟩
    rw [e] at this; simp at this
  · rw [StrLaws.join_split, txt_join]
theorem join_snoc (c : Nat) (y : Str) : ∀ (xs : List Str), xs ≠ [] → (Str.join ⟨#[c]⟩ (xs ++ [y])).cps.toList = (Str.join ⟨#[c]⟩ xs).cps.toList ++ c :: y.cps.toList
  | [], h => absurd rfl h
  | [x], _ => by rw [List.singleton_append, join_cons2, join_one, join_one]
  | x :: z :: r, _ => by
    rw [List.cons_append, List.cons_append, join_cons2, ← List.cons_append, join_snoc c y (z :: r) (by simp), join_cons2]; simp
theorem join_rev (c : Nat) : ∀ (xs : List Str), (Str.join ⟨#[c]⟩ xs).cps.toList.reverse = (Str.join ⟨#[c]⟩ (xs.map revS).reverse).cps.toList
  | [] => by simp [Str.join, Str.empty]
  | [x] => by rw [join_one, List.map_singleton, List.reverse_singleton, join_one, revS_list]
  | x :: y :: r => by
    rw [join_cons2, List.map_cons, List.reverse_cons, join_snoc _ _ _ (by simp), ← join_rev c (y :: r), revS_list]; simp
theorem split_join_rev {c : Nat} {xs : List Str} (h0 : xs ≠ []) (h : ∀ x ∈ xs, c ∉ x.cps.toList) : Txt.split ⟨(Txt.join ⟨#[c]⟩ xs).cps.reverse⟩ ⟨#[c]⟩ = (xs.map revS).reverse := by
  have e : (⟨(Txt.join ⟨#[c]⟩ xs).cps.reverse⟩ : Str) = Txt.join ⟨#[c]⟩ (xs.map revS).reverse := by
    refine str_ext ?_
    rw [txt_join, txt_join, ← join_rev]; exact Array.toList_reverse
  rw [e]
  refine split_join (by simpa using h0) fun x hx => ?_
  rw [List.mem_reverse, List.mem_map] at hx
  obtain ⟨y, hy, rfl⟩ := hx
  rw [revS_list, List.mem_reverse]; exact h y hy
theorem sp_lit : ((" " : String) : Str) = ⟨#[32]⟩ := by decide +kernel
theorem nl_lit : (("\n" : String) : Str) = ⟨#[10]⟩ := by decide +kernel
theorem em_lit : (("" : String) : Str) = ⟨#[]⟩ := by decide +kernel
theorem join_len_c (c : Nat) : ∀ (xs : List Str), (Str.join ⟨#[c]⟩ xs).cps.toList.length ≤ (xs.map fun (x : Str) => x.cps.toList.length + 1).sum
  | [] => by simp [Str.join, Str.empty]
  | [x] => by simp [join_one]
  | x :: y :: r => by
    rw [join_cons2, List.map_cons, List.sum_cons]
    have := join_len_c c (y :: r)
    simp only [List.length_append, List.length_cons] at this ⊢; omega
theorem sum_leB {xs : List Str} {B : Nat} (h : ∀ x ∈ xs, x.cps.toList.length ≤ B) : (xs.map fun (x : Str) => x.cps.toList.length + 1).sum ≤ xs.length * (B + 1) := by
  induction xs with
  | nil => simp
  | cons x r ih =>
    have := h x (.head _)
    have := ih fun y hy => h y (.tail _ hy)
    simp only [List.map_cons, List.sum_cons, List.length_cons, Nat.succ_mul]; omega
end
-- P3
section
noncomputable def rowsW (wd : Int) : List (Str × Str) → List (Str × Str) → List Str
  | cur, [] => [partsStr cur]
  | cur, q :: r => if wd < partsLen (cur ++ [q]) ∧ cur ≠ [] then partsStr cur :: rowsW wd [q] r else rowsW wd (cur ++ [q]) r
theorem rowsW_fold (wd : Int) : ∀ (qs cur : List (Str × Str)) (lines : List Str), (qs.foldl (chunk wd) (cur, lines)).2 ++ [partsStr (qs.foldl (chunk wd) (cur, lines)).1] = lines ++ rowsW wd cur qs
  | [], cur, lines => by simp [rowsW]
  | q :: r, cur, lines => by
    have e : chunk wd (cur, lines) q = if wd < partsLen (cur ++ [q]) ∧ cur ≠ [] then ([q], lines ++ [partsStr cur]) else (cur ++ [q], lines) := rfl
    rw [List.foldl_cons, e]
    unfold rowsW
    by_cases h : wd < partsLen (cur ++ [q]) ∧ cur ≠ []
    · rw [if_pos h, if_pos h, rowsW_fold wd r]; simp
    · rw [if_neg h, if_neg h, rowsW_fold wd r]
theorem written_rows (wd : Int) (qs : List (Str × Str)) : writtenL wd qs = rowsW wd [] qs := rowsW_fold wd qs [] []
noncomputable def seg (g : Int → Str × Str) (wy p : Int) (k : Nat) : List (Str × Str) := (List.range k).map fun (j : Nat) => g (p + wy * j)
theorem seg_succ (g : Int → Str × Str) (wy p : Int) (k : Nat) : seg g wy p (k + 1) = seg g wy p k ++ [g (p + wy * k)] := by simp [seg, List.range_succ]
theorem seg_one (g : Int → Str × Str) (wy p : Int) : seg g wy p 1 = [g p] := by simp [seg]
theorem seg_cons (g : Int → Str × Str) (wy p : Int) (k : Nat) : seg g wy p (k + 1) = g p :: seg g wy (p + wy) k := by
  simp only [seg, List.range_succ_eq_map, List.map_cons, List.map_map]
  congr 1
  · simp
  · apply List.map_congr_left
    intro j _
    simp only [Function.comp]
    congr 1
    rw [Nat.succ_eq_add_one]; push_cast; rw [Int.mul_add, Int.mul_one]; omega
theorem seg_ne {g : Int → Str × Str} {wy p : Int} {k : Nat} (h : 1 ≤ k) : seg g wy p k ≠ [] := by
  obtain ⟨k, rfl⟩ : ∃ j, k = j + 1 := ⟨k - 1, by omega⟩
  rw [seg_cons]; simp
theorem told_none (ws : List Str) (ns : List Int) (wy : Int) (f : Nat) (p : Int) : toldGo ws ns wy f p 0 = [] := by
  cases f with
  | zero => rfl
  | succ f => simp [toldGo]
theorem told_step {ws : List Str} {ns : List Int} {wy p : Int} {f : Nat} {t k : Nat} (hk : min (t : Int) (ns.getD (p.fmod ws.length).toNat 0) = (k : Int)) (ht : 1 ≤ t) :
    toldGo ws ns wy (f + 1) p (t : Nat) = rowOf ws (min p (p + wy * k)) k :: toldGo ws ns wy f (p + wy * k) ((t : Int) - k) := by
  simp only [toldGo]
  rw [if_pos (by omega), hk, Int.toNat_natCast]
theorem nsub (k r : Nat) : ((k + r : Nat) : Int) - k = (r : Nat) := by omega
theorem greedy {g : Int → Str × Str} {wy wd : Int} {ws : List Str} {ns : List Int} {O : Int → Nat} {F : Str → Str} (hon : ∀ p, 1 ≤ O p) (hns : ∀ p, ns.getD (p.fmod ws.length).toNat 0 = (O p : Int))
    (hF : ∀ p k, F (partsStr (seg g wy p k)) = rowOf ws (min p (p + wy * k)) k) (hS : ∀ p k, 1 ≤ k → (partsLen (seg g wy p (k + 1)) ≤ wd ↔ k + 1 ≤ O p)) :
    ∀ (r : Nat) (p : Int) (k f : Nat), 1 ≤ k → k ≤ O p → k + r ≤ f → (rowsW wd (seg g wy p k) (seg g wy (p + wy * k) r)).map F = toldGo ws ns wy f p ((k + r : Nat) : Int) := by
  intro r
  induction r with
  | zero =>
    intro p k f h1 hO hf
    obtain ⟨f, rfl⟩ := Nat.exists_eq_add_of_le' (Nat.le_trans h1 hf)
    rw [show k + 0 = k from rfl, told_step (k := k) (by rw [hns]; exact Int.min_eq_left (Int.ofNat_le.mpr hO)) h1, Int.sub_self, told_none]
    show [F (partsStr _)] = _
    rw [hF]
  | succ r ih =>
    intro p k f h1 hO hf
    rw [seg_cons]
    have e : seg g wy p k ++ [g (p + wy * k)] = seg g wy p (k + 1) := (seg_succ ..).symm
    have hs := hS p k h1
    unfold rowsW
    rw [e]
    by_cases h : wd < partsLen (seg g wy p (k + 1))
    · rw [if_pos ⟨h, seg_ne h1⟩, List.map_cons, hF]
      have hk : O p = k := Nat.le_antisymm (Nat.le_of_not_lt fun hlt => absurd h (Int.not_lt.mpr (hs.mpr hlt))) hO
      obtain ⟨f, rfl⟩ := Nat.exists_eq_add_of_le' (Nat.le_trans h1 (Nat.le_trans (Nat.le_add_right _ _) hf))
      rw [told_step (k := k) (by rw [hns, hk]; exact Int.min_eq_right (Int.ofNat_le.mpr (Nat.le_add_right _ _))) (Nat.le_trans h1 (Nat.le_add_right _ _))]
      have := ih (p + wy * k) 1 f (Nat.le_refl _) (hon _) (Nat.le_of_succ_le_succ (Nat.le_trans (Nat.add_le_add_right h1 (r + 1)) hf))
      rw [seg_one] at this
      rw [show (((k + (r + 1) : Nat) : Int) - k) = ((1 + r : Nat) : Int) by rw [nsub, Nat.add_comm r 1], ← this]
      congr 4
      exact congrArg _ (Int.mul_one wy).symm
    · rw [if_neg (fun x => h x.1)]
      have := ih p (k + 1) f (Nat.succ_le_succ (Nat.zero_le _)) (hs.mp (Int.not_lt.mp h)) (by rw [Nat.add_right_comm]; exact hf)
      rw [show k + (r + 1) = k + 1 + r from (Nat.add_right_comm k 1 r).symm, ← this]
      congr 3
      rw [Int.natCast_add, Int.mul_add, Int.add_assoc]; exact congrArg _ (congrArg _ (Int.mul_one wy).symm)
theorem greedy_all {g : Int → Str × Str} {wy wd : Int} {ws : List Str} {ns : List Int} {O : Int → Nat} {F : Str → Str} (hon : ∀ p, 1 ≤ O p) (hns : ∀ p, ns.getD (p.fmod ws.length).toNat 0 = (O p : Int))
    (hF : ∀ p k, F (partsStr (seg g wy p k)) = rowOf ws (min p (p + wy * k)) k) (hS : ∀ p k, 1 ≤ k → (partsLen (seg g wy p (k + 1)) ≤ wd ↔ k + 1 ≤ O p)) (hn : 1 ≤ ws.length) (p : Int) :
    (writtenL wd (seg g wy p (2 * ws.length))).map F = toldAll ws ns p wy := by
  rw [written_rows]
  obtain ⟨m, hm⟩ := Nat.exists_eq_add_of_le' (Nat.le_trans hn (Nat.le_mul_of_pos_left ws.length (show 0 < 2 by decide)))
  rw [hm, seg_cons]
  unfold rowsW
  rw [if_neg (fun x => x.2 rfl), List.nil_append]
  have := greedy hon hns hF hS m p 1 (m + 1) (Nat.le_refl _) (hon p) (Nat.le_of_eq (Nat.add_comm _ _))
  rw [seg_one] at this
  unfold toldAll
  rw [show ((2 : Int) * (ws.length : Int)) = ((1 + m : Nat) : Int) by rw [Nat.add_comm, ← hm, Int.natCast_mul]; rfl, hm, ← this]
  congr 3
  exact congrArg _ (Int.mul_one wy).symm
theorem min_nat {t : Nat} {q : Int} (h : 1 ≤ q) : ∃ m r : Nat, min ((t + 1 : Nat) : Int) q = m ∧ 1 ≤ m ∧ t + 1 = m + r := by
  rcases Int.le_total ((t + 1 : Nat) : Int) q with h' | h'
  · exact ⟨t + 1, 0, Int.min_eq_left h', Nat.succ_le_succ (Nat.zero_le _), rfl⟩
  · obtain ⟨k, rfl⟩ := Int.eq_ofNat_of_zero_le (Int.le_trans (by decide) h)
    exact ⟨k, t + 1 - k, Int.min_eq_right h', Int.ofNat_le.mp h, (Nat.add_sub_of_le (Int.ofNat_le.mp h')).symm⟩
/-- what a told row is -/
theorem told_mem {ws : List Str} {ns : List Int} {wy : Int} (h1 : ∀ p : Int, 1 ≤ ns.getD (p.fmod ws.length).toNat 0) : ∀ (f : Nat) (p : Int) (t : Nat) (y : Str), y ∈ toldGo ws ns wy f p (t : Nat) → ∃ low k, 1 ≤ k ∧ k ≤ t ∧ y = rowOf ws low k
  | 0, _, _, _, h => by cases h
  | f + 1, p, 0, _, h => by rw [show (((0 : Nat) : Int)) = 0 from rfl, told_none] at h; cases h
  | f + 1, p, t + 1, y, h => by
    obtain ⟨m, r, e, m1, er⟩ := min_nat (t := t) (h1 p)
    rw [told_step (k := m) e (Nat.succ_le_succ (Nat.zero_le _))] at h
    rcases List.mem_cons.mp h with rfl | h
    · exact ⟨_, m, m1, er ▸ Nat.le_add_right m r, rfl⟩
    · rw [show (((t + 1 : Nat) : Int) - (m : Int)) = (r : Nat) by rw [er, nsub]] at h
      obtain ⟨low, k, a, b, c⟩ := told_mem h1 f _ _ y h
      exact ⟨low, k, a, Nat.le_trans b (er ▸ Nat.le_add_left r m), c⟩
theorem told_len {ws : List Str} {ns : List Int} {wy : Int} : ∀ (f : Nat) (p t : Int), (toldGo ws ns wy f p t).length ≤ f
  | 0, _, _ => Nat.le_refl _
  | f + 1, p, t => by
    simp only [toldGo]
    split
    · rw [List.length_cons]; have := told_len (ws := ws) (ns := ns) (wy := wy) f; exact Nat.succ_le_succ (this _ _)
    · simp
theorem told_first {ws : List Str} {ns : List Int} {wy p : Int} {t : Nat} (h3 : 1 ≤ ws.length) (ht : ns.getD (p.fmod ws.length).toNat 0 = (t : Int)) (h2 : t ≤ 2 * ws.length) : ∃ r low, toldAll ws ns p wy = rowOf ws low t :: r := by
  unfold toldAll
  obtain ⟨f, hf⟩ := Nat.exists_eq_add_of_le' (Nat.le_trans h3 (Nat.le_mul_of_pos_left ws.length (show 0 < 2 by decide)))
  rw [show ((2 : Int) * (ws.length : Int)) = ((2 * ws.length : Nat) : Int) from (Int.natCast_mul 2 ws.length).symm]
  have hm := Int.min_eq_right (Int.ofNat_le.mpr h2)
  rw [hf] at hm ⊢
  rw [told_step (k := t) (by rw [ht]; exact hm) (Nat.succ_le_succ (Nat.zero_le _))]
  exact ⟨_, _, rfl⟩
end
-- P4
section
noncomputable def coreOf (k c : Nat) : List Nat := (65 + k) :: List.replicate c (97 + k)
noncomputable def dropS (x : Str) : Str := ⟨(x.cps.toList.drop 1).toArray⟩
/-- what is to be known of a word -/
structure GW (w : Str) : Prop where
  one : w.cps.toList = 32 :: (dropS w).cps.toList
  slice : Txt.slice w (some 1) none = dropS w
  f32 : 32 ∉ (dropS w).cps.toList
  f10 : 10 ∉ (dropS w).cps.toList
  asc : (dropS w).cps.toList.all (· < 128) = true
  le : (dropS w).cps.toList.length ≤ 4
  ge : 1 ≤ (dropS w).cps.toList.length
  vis : (dropS w).cps.toList.any (fun x => !Unicode.isSpace x) = true
theorem gw_all : ∀ k < 5, ∀ c < 4, (wordOf k c).cps.toList = 32 :: (dropS (wordOf k c)).cps.toList ∧ Txt.slice (wordOf k c) (some 1) none = dropS (wordOf k c) ∧ 32 ∉ (dropS (wordOf k c)).cps.toList ∧ 10 ∉ (dropS (wordOf k c)).cps.toList ∧
    (dropS (wordOf k c)).cps.toList.all (· < 128) = true ∧ (dropS (wordOf k c)).cps.toList.length ≤ 4 ∧ 1 ≤ (dropS (wordOf k c)).cps.toList.length ∧ (dropS (wordOf k c)).cps.toList.any (fun x => !Unicode.isSpace x) = true := by
  decide +kernel
theorem gw_of {k c : Nat} (hk : k < 5) (hc : c < 4) : GW (wordOf k c) :=
  have ⟨a, b, d, e, f, g, h, i⟩ := gw_all k hk c hc
  ⟨a, b, d, e, f, g, h, i⟩
theorem gw_get {ws : List Str} {n : Nat} (WO : WordsOk ws n) (h5 : n ≤ 5) {i : Nat} (hi : i < n) : GW (ws.getD i Str.empty) := by
  obtain ⟨c, hc, e⟩ := WO.each i hi
  rw [List.getD_eq_getElem?_getD, e]
  exact gw_of (by omega) hc
theorem gw_mem {ws : List Str} {n : Nat} (WO : WordsOk ws n) (h5 : n ≤ 5) {w : Str} (hw : w ∈ ws) : GW w := by
  obtain ⟨i, hi, rfl⟩ := List.getElem_of_mem hw
  have := gw_get WO h5 (i := i) (by rw [← WO.len]; exact hi)
  rwa [List.getD_eq_getElem?_getD, List.getElem?_eq_getElem hi] at this
theorem gw_at {ws : List Str} {n : Nat} (WO : WordsOk ws n) (h3 : 3 ≤ n) (h5 : n ≤ 5) (i : Int) : GW (wAt ws i) := by
  have hl := WO.len
  have h0 : (0 : Int) < ws.length := Int.natCast_pos.mpr (hl ▸ Nat.lt_of_lt_of_le (by decide) h3)
  exact gw_get WO h5 (hl ▸ (Int.toNat_lt (fmod_lo i h0)).mpr (fmod_hi i h0))
theorem GW.len {w : Str} (g : GW w) : 2 ≤ w.length ∧ w.length ≤ 5 := by
  have := congrArg List.length g.one
  have a := g.le
  have b := g.ge
  rw [List.length_cons, Array.length_toList] at this
  show 2 ≤ w.cps.size ∧ w.cps.size ≤ 5
  rw [this]; exact ⟨Nat.succ_le_succ b, Nat.succ_le_succ a⟩
theorem GW.asc' {w : Str} (g : GW w) : w.cps.toList.all (· < 128) = true := by
  rw [g.one, List.all_cons, g.asc]; rfl
theorem GW.nl {w : Str} (g : GW w) : 10 ∉ w.cps.toList := by
  rw [g.one]; intro h
  rcases List.mem_cons.mp h with h | h
  · cases h
  · exact g.f10 h
theorem GW.cnt {w : Str} (g : GW w) : cnt 32 w.cps.toList = 1 := by
  rw [g.one, cnt_cons, if_pos rfl, cnt_none _ _ g.f32]; rfl
/-- the mirror -/
theorem flat_words : ∀ (ws : List Str), (∀ w ∈ ws, GW w) → (Str.join ⟨#[32]⟩ (⟨#[]⟩ :: ws.map dropS)).cps.toList = ws.flatMap (·.cps.toList)
  | [], _ => by simp [join_one]
  | w :: r, h => by
    rw [List.map_cons, join_cons2, List.flatMap_cons, ← flat_words r fun x hx => h x (.tail _ hx), (h w (.head _)).one]
    cases r with
    | nil => simp [join_one]
    | cons x r => rw [List.map_cons, join_cons2, join_cons2]; simp
theorem mir_is {ws : List Str} (h : ∀ w ∈ ws, GW w) : mirOf ws = ((⟨#[]⟩ :: ws.map dropS).map revS).reverse := by
  unfold mirOf
  rw [sp_lit, ← split_join_rev (c := 32) (xs := ⟨#[]⟩ :: ws.map dropS) (by simp)]
  · congr 1
    refine str_ext ?_
    rw [Array.toList_reverse, Array.toList_reverse, txt_join ⟨#[32]⟩, flat_words ws h, join0]
  · intro x hx
    rcases List.mem_cons.mp hx with rfl | hx
    · simp
    · obtain ⟨w, hw, rfl⟩ := List.mem_map.mp hx
      exact (h w hw).f32
theorem mir_len {ws : List Str} (h : ∀ w ∈ ws, GW w) : (mirOf ws).length = ws.length + 1 := by rw [mir_is h]; simp
theorem mir_get {ws : List Str} (h : ∀ w ∈ ws, GW w) {i : Nat} (hi : i < ws.length) : (mirOf ws).getD i Str.empty = revS (dropS (ws.getD (ws.length - 1 - i) Str.empty)) := by
  rw [mir_is h, List.map_cons, List.reverse_cons, List.getD_eq_getElem?_getD, List.getElem?_append_left (by simpa using hi), List.getElem?_reverse (by simpa using hi), List.getD_eq_getElem?_getD]
  simp only [List.length_map, List.getElem?_map]
  have := sub_one_lt hi
  rw [List.getElem?_eq_getElem this]; rfl
theorem mir_short {ws : List Str} (h : ∀ w ∈ ws, GW w) (i : Nat) : ((mirOf ws).getD i Str.empty).length ≤ 50 := by
  rw [List.getD_eq_getElem?_getD]
  cases e : (mirOf ws)[i]? with
  | none => decide
  | some x =>
    have hx := List.mem_of_getElem? e
    rw [mir_is h, List.mem_reverse, List.mem_map] at hx
    obtain ⟨y, hy, rfl⟩ := hx
    show (revS y).cps.size ≤ 50
    rw [← Array.length_toList, revS_list, List.length_reverse]
    rcases List.mem_cons.mp hy with rfl | hy
    · decide
    · obtain ⟨w, hw, rfl⟩ := List.mem_map.mp hy
      exact Nat.le_trans (h w hw).le (by decide)
theorem mod_mirror {n : Int} (hn : 0 < n) (p : Int) : (n - p).fmod n = n - 1 - (p - 1).fmod n := by
  rw [Int.fmod_eq_emod_of_nonneg _ (Int.le_of_lt hn), Int.fmod_eq_emod_of_nonneg _ (Int.le_of_lt hn)]
  have h1 := Int.emod_nonneg (p - 1) (show n ≠ 0 by omega)
  have h2 := Int.emod_lt_of_pos (p - 1) hn
  have h3 := Int.mul_ediv_add_emod (p - 1) n
  have e : n - p = (n - 1 - (p - 1) % n) + n * (-((p - 1) / n)) := by rw [Int.mul_neg]; omega
  rw [e, Int.add_mul_emod_self_left]
  exact Int.emod_eq_of_lt (Int.sub_nonneg_of_le (Int.le_sub_one_of_lt h2)) (Int.lt_of_le_of_lt (Int.sub_le_self _ h1) (Int.sub_lt_self n (by decide)))
theorem mAt_is {ws : List Str} {n : Nat} (hn : ws.length = n) (h3 : 0 < n) (h : ∀ w ∈ ws, GW w) (p : Int) : mAt (mirOf ws) n (n - p) = revS (dropS (wAt ws (p - 1))) := by
  have hp : (0 : Int) < n := Int.natCast_pos.mpr h3
  have h2 := fmod_hi (p - 1) (b := n) hp
  obtain ⟨x, hx⟩ := Int.eq_ofNat_of_zero_le (fmod_lo (p - 1) (b := n) hp)
  rw [hx] at h2
  have hlt : x < n := Int.ofNat_lt.mp h2
  subst hn
  unfold mAt wAt
  rw [mod_mirror hp, hx, nat_sub2 hlt, Int.toNat_natCast, Int.toNat_natCast, mir_get h (Nat.lt_of_le_of_lt (Nat.sub_le _ _) (Nat.sub_lt h3 (Nat.succ_pos 0))), Nat.sub_sub_self (Nat.le_sub_one_of_lt hlt)]
/-- the two rows of pieces -/
noncomputable def gF (ws : List Str) (p : Int) : Str × Str := (((" " : String) : Str), Txt.slice (wAt ws p) (some 1) none)
noncomputable def gB (mir : List Str) (n p : Int) : Str × Str := (((("" : String) : Str)), mAt mir n (n - p) ++ ((" " : String) : Str))
theorem onQ_seg (ws : List Str) (b : Int) (k : Nat) : onQ ws b k = seg (gF ws) 1 b k := by
  unfold onQ seg gF
  apply List.map_congr_left
  intro j _
  rw [Int.one_mul, Int.mul_one]
theorem bkQ_seg (mir : List Str) (n b : Int) (k : Nat) : bkQ mir n (n - b) k = seg (gB mir n) (-1) b k := by
  unfold bkQ seg gB
  apply List.map_congr_left
  intro j _
  rw [show n - b + (j : Int) * 1 = n - (b + -1 * (j : Int)) by omega]
theorem gF_list {ws : List Str} (p : Int) (h : GW (wAt ws p)) : (gF ws p).1.cps.toList ++ (gF ws p).2.cps.toList = (wAt ws p).cps.toList := by
  unfold gF
  rw [h.slice, h.one, sp_lit]; rfl
theorem gB_list {ws : List Str} {n : Nat} (hn : ws.length = n) (h3 : 0 < n) (h : ∀ w ∈ ws, GW w) (p : Int) (hp : GW (wAt ws (p - 1))) : (gB (mirOf ws) n p).1.cps.toList ++ (gB (mirOf ws) n p).2.cps.toList = (wAt ws (p - 1)).cps.toList.reverse := by
  unfold gB
  rw [mAt_is hn h3 h, hp.one, sp_lit, em_lit]
  simp only [cps_toList_append, revS_list, List.reverse_cons]; rfl
theorem row_list (ws : List Str) (low : Int) (k : Nat) : (rowOf ws low k).cps.toList = (List.range k).flatMap fun (j : Nat) => (wAt ws (low + j)).cps.toList := by
  unfold rowOf
  have e : Str.empty = Str.ofString "" := by decide
  conv => lhs; rw [e]
  rw [join0, List.flatMap_map]
  congr 1
  funext j
  rw [Int.mul_one]
theorem row_front (ws : List Str) (low : Int) (k : Nat) : (rowOf ws low (k + 1)).cps.toList = (wAt ws low).cps.toList ++ (rowOf ws (low + 1) k).cps.toList := by
  rw [row_list, row_list, List.range_succ_eq_map, List.flatMap_cons, List.flatMap_map]
  congr 1
  · simp
  · congr 1
    funext j
    rw [show low + ((Nat.succ j : Nat) : Int) = low + 1 + j by omega]
theorem row_len {ws : List Str} (h : ∀ i, GW (wAt ws i)) (low : Int) (k : Nat) : 2 * k ≤ (rowOf ws low k).cps.toList.length ∧ (rowOf ws low k).cps.toList.length ≤ 5 * k := by
  induction k generalizing low with
  | zero => rw [row_list]; simp
  | succ k ih =>
    rw [row_front, List.length_append, Array.length_toList]
    have a := (h low).len
    have b := ih (low + 1)
    rw [Nat.mul_succ, Nat.mul_succ, Nat.add_comm (wAt ws low).cps.size]; exact ⟨Nat.add_le_add b.1 a.1, Nat.add_le_add b.2 a.2⟩
theorem row_cnt {ws : List Str} (h : ∀ i, GW (wAt ws i)) (low : Int) (k : Nat) : cnt 32 (rowOf ws low k).cps.toList = (k : Int) := by
  induction k generalizing low with
  | zero => rw [row_list]; rfl
  | succ k ih => rw [row_front, cnt_append, (h low).cnt, ih]; omega
theorem row_mem {ws : List Str} {low : Int} {k : Nat} {c : Nat} (hc : c ∈ (rowOf ws low k).cps.toList) : ∃ i, c ∈ (wAt ws i).cps.toList := by
  rw [row_list, List.mem_flatMap] at hc
  obtain ⟨j, _, hj⟩ := hc
  exact ⟨_, hj⟩
theorem row_asc {ws : List Str} (h : ∀ i, GW (wAt ws i)) (low : Int) (k : Nat) : ∀ c ∈ (rowOf ws low k).cps.toList, c < 128 := by
  intro c hc
  obtain ⟨i, hi⟩ := row_mem hc
  exact of_decide_eq_true (List.all_eq_true.mp (h i).asc' c hi)
theorem row_nl {ws : List Str} (h : ∀ i, GW (wAt ws i)) (low : Int) (k : Nat) : 10 ∉ (rowOf ws low k).cps.toList := by
  intro hc
  obtain ⟨i, hi⟩ := row_mem hc
  exact (h i).nl hi
theorem hF_on {ws : List Str} (h : ∀ i, GW (wAt ws i)) (p : Int) (k : Nat) : id (partsStr (seg (gF ws) 1 p k)) = rowOf ws (min p (p + 1 * k)) k := by
  refine str_ext ?_
  rw [show min p (p + 1 * (k : Int)) = p from Int.min_eq_left (Int.le_add_of_nonneg_right (by rw [Int.one_mul]; exact Int.natCast_nonneg k)), row_list]
  show (partsStr _).cps.toList = _
  rw [parts_list]
  unfold seg
  rw [List.flatMap_map]
  congr 1
  funext j
  rw [gF_list _ (h _), Int.one_mul]
theorem hF_bk {ws : List Str} {n : Nat} (hn : ws.length = n) (h3 : 0 < n) (hm : ∀ w ∈ ws, GW w) (h : ∀ i, GW (wAt ws i)) (p : Int) (k : Nat) : revS (partsStr (seg (gB (mirOf ws) n) (-1) p k)) = rowOf ws (min p (p + -1 * k)) k := by
  refine str_ext ?_
  rw [show min p (p + -1 * (k : Int)) = p - k by rw [Int.neg_one_mul]; exact Int.min_eq_right (Int.sub_le_self p (Int.natCast_nonneg k)), revS_list]
  induction k with
  | zero => rw [row_list]; rfl
  | succ k ih =>
    rw [seg_succ, row_front, show p - ((k + 1 : Nat) : Int) + 1 = p - k by omega, ← ih, parts_list, parts_list, List.flatMap_append, List.reverse_append, List.flatMap_singleton, gB_list hn h3 hm _ (h _), List.reverse_reverse,
      show p + -1 * (k : Int) - 1 = p - ((k + 1 : Nat) : Int) by omega]
theorem partsLen_snoc (l : List (Str × Str)) (q : Str × Str) : partsLen (l ++ [q]) = partsLen l + ((q.1.cps.toList ++ q.2.cps.toList).length : Nat) := by
  simp only [partsLen, List.map_append, List.map_cons, List.map_nil, List.sum_append, List.sum_cons, List.sum_nil, List.length_append, Array.length_toList]
  show _ + ((q.1.cps.size : Int) + (q.2.cps.size : Int) + 0) = _
  push_cast
  omega
theorem len_on {ws : List Str} (h : ∀ i, GW (wAt ws i)) (p : Int) (k : Nat) : partsLen (seg (gF ws) 1 p k) = (spanOf ws p k : Nat) := by
  induction k with
  | zero => rfl
  | succ k ih =>
    rw [seg_succ, partsLen_snoc, ih, gF_list _ (h _), Array.length_toList, Int.one_mul]
    show _ = ((sumTo _ (k + 1) : Nat) : Int)
    rw [sumTo]; push_cast; rfl
theorem len_bk {ws : List Str} {n : Nat} (hn : ws.length = n) (h3 : 0 < n) (hm : ∀ w ∈ ws, GW w) (h : ∀ i, GW (wAt ws i)) (p : Int) (k : Nat) : partsLen (seg (gB (mirOf ws) n) (-1) p k) = (spanOf ws (p - k) k : Nat) := by
  rw [← span_back]
  induction k with
  | zero => rfl
  | succ k ih =>
    rw [seg_succ, partsLen_snoc, ih, gB_list hn h3 hm _ (h _), List.length_reverse, Array.length_toList, sumTo]
    push_cast
    show _ = _ + ((wAt ws (p - 1 + -1 * (k : Int))).cps.size : Int)
    rw [show p + -1 * (k : Int) - 1 = p - 1 + -1 * (k : Int) by omega]
end
-- P5
section
noncomputable def offV (on : List Nat) : List Nat := (List.range on.length).map fun y =>
  if 5 ≤ on.getD ((y + 5 * on.length - 5) % on.length) 0 then 5 else if 4 ≤ on.getD ((y + 5 * on.length - 4) % on.length) 0 then 4 else if 3 ≤ on.getD ((y + 5 * on.length - 3) % on.length) 0 then 3 else if 2 ≤ on.getD ((y + 5 * on.length - 2) % on.length) 0 then 2 else 1
noncomputable def cycV (on : List Nat) : Bool := (List.range on.length).all fun x => Nat.ble (on.getD x 0) (on.getD ((x + 1) % on.length) 0 + 1)
noncomputable def vecs : Nat → List (List Nat)
  | 0 => [[]]
  | n + 1 => (vecs n).flatMap fun v => [1 :: v, 2 :: v, 3 :: v, 4 :: v, 5 :: v]
noncomputable def allSame : List (Int × Int) → Bool
  | [] => false
  | p :: r => r.all (· == p)
noncomputable def altM (m : List Int) : Bool := (List.range m.length).all fun i => m.getD i 0 != m.getD ((i + m.length - 1) % m.length) 0
noncomputable def castV (v : List Nat) : List Int := v.map fun (k : Nat) => (k : Int)
noncomputable def checkV (v : List Nat) : Bool := !cycV v || (allSame ((endlessOf (castV v) 1 ++ endlessOf (castV (offV v)) (-1)).map (·.2)) && altM ((List.range v.length).flatMap fun i => mkOf (endlessOf (castV v) 1) (endlessOf (castV (offV v)) (-1)) (i : Nat)))
theorem check3 : (vecs 3).all checkV = true := by decide +kernel
theorem check4 : (vecs 4).all checkV = true := by decide +kernel
theorem check5a : (vecs 4).all (fun v => checkV (1 :: v)) = true := by decide +kernel
theorem check5b : (vecs 4).all (fun v => checkV (2 :: v)) = true := by decide +kernel
theorem check5c : (vecs 4).all (fun v => checkV (3 :: v)) = true := by decide +kernel
theorem check5d : (vecs 4).all (fun v => checkV (4 :: v)) = true := by decide +kernel
theorem check5e : (vecs 4).all (fun v => checkV (5 :: v)) = true := by decide +kernel
theorem vec_mem : ∀ (n : Nat) (v : List Nat), v.length = n → (∀ x ∈ v, 1 ≤ x ∧ x ≤ 5) → v ∈ vecs n
  | 0, v, h, _ => by rw [List.length_eq_zero_iff.mp h]; exact .head _
  | n + 1, x :: r, h, hv => by
    have ih := vec_mem n r (by simpa using h) fun y hy => hv y (.tail _ hy)
    refine List.mem_flatMap.mpr ⟨r, ih, ?_⟩
    have := hv x (.head _)
    match x, this with
    | 0, h => exact absurd h.1 (by decide)
    | 1, _ => simp
    | 2, _ => simp
    | 3, _ => simp
    | 4, _ => simp
    | 5, _ => simp
    | k + 6, h => exact absurd (Nat.le_trans (Nat.le_add_left 6 k) h.2) (by decide)
theorem check_five : ∀ v : List Nat, v.length = 5 → (∀ x ∈ v, 1 ≤ x ∧ x ≤ 5) → checkV v = true
  | x :: r, hv, hr => by
    have hm := vec_mem 4 r (Nat.succ.inj hv) fun y hy => hr y (.tail _ hy)
    match x, hr x (.head _) with
    | 0, h => exact absurd h.1 (by decide)
    | 1, _ => exact List.all_eq_true.mp check5a r hm
    | 2, _ => exact List.all_eq_true.mp check5b r hm
    | 3, _ => exact List.all_eq_true.mp check5c r hm
    | 4, _ => exact List.all_eq_true.mp check5d r hm
    | 5, _ => exact List.all_eq_true.mp check5e r hm
    | k + 6, h => exact absurd (Nat.le_trans (Nat.le_add_left 6 k) h.2) (by decide)
theorem check_all {n : Nat} (h3 : 3 ≤ n) (h5 : n ≤ 5) {v : List Nat} (hv : v.length = n) (hr : ∀ x ∈ v, 1 ≤ x ∧ x ≤ 5) : checkV v = true :=
  match n, h3, h5, hv with
  | 3, _, _, hv => List.all_eq_true.mp check3 v (vec_mem 3 v hv hr)
  | 4, _, _, hv => List.all_eq_true.mp check4 v (vec_mem 4 v hv hr)
  | 5, _, _, hv => check_five v hv hr
  | k + 6, _, h, _ => absurd (Nat.le_trans (Nat.le_add_left 6 k) h) (by decide)
noncomputable def onN (ws : List Str) (wd : Int) (n : Nat) : List Nat := (List.range n).map fun (j : Nat) => onP ws wd j
theorem onN_get {ws : List Str} {wd : Int} {n i : Nat} (h : i < n) : (onN ws wd n).getD i 0 = onP ws wd i := by
  simp [onN, List.getD_eq_getElem?_getD, h]
theorem onL_cast (ws : List Str) (wd : Int) (n : Nat) : onL ws wd n = castV (onN ws wd n) := by
  simp [onL, castV, onN, onP]
theorem onL_get {ws : List Str} {wd : Int} {n i : Nat} (h : i < n) : (onL ws wd n).getD i 0 = (onP ws wd i : Int) := by
  simp [onL, List.getD_eq_getElem?_getD, h, onP]
theorem offL_get {ws : List Str} {wd : Int} {n i : Nat} (h : i < n) : (offL ws wd n).getD i 0 = (offP ws wd i : Int) := by
  simp [offL, List.getD_eq_getElem?_getD, h, offP]
theorem onL_at {ws : List Str} {wd : Int} {n : Nat} (hn : ws.length = n) (h3 : 0 < n) (p : Int) : (onL ws wd n).getD (p.fmod ws.length).toNat 0 = (onP ws wd p : Int) := by
  have hw : 0 < ws.length := hn.symm ▸ h3
  have h0 : (0 : Int) < ws.length := Int.natCast_pos.mpr hw
  have h1 := fmod_lo p h0
  rw [onL_get (hn ▸ (Int.toNat_lt h1).mpr (fmod_hi p h0)), Int.toNat_of_nonneg h1, onP_mod hw]
theorem offL_at {ws : List Str} {wd : Int} {n : Nat} (hn : ws.length = n) (h3 : 0 < n) (p : Int) : (offL ws wd n).getD (p.fmod ws.length).toNat 0 = (offP ws wd p : Int) := by
  have hw : 0 < ws.length := hn.symm ▸ h3
  have h0 : (0 : Int) < ws.length := Int.natCast_pos.mpr hw
  have h1 := fmod_lo p h0
  rw [offL_get (hn ▸ (Int.toNat_lt h1).mpr (fmod_hi p h0)), Int.toNat_of_nonneg h1, offP_mod hw]
theorem onN_back {ws : List Str} {wd : Int} {n : Nat} (hn : ws.length = n) (h3 : 3 ≤ n) {y k : Nat} (hk : k ≤ 5) : (onN ws wd n).getD ((y + 5 * n - k) % n) 0 = onP ws wd ((y : Int) - k) := by
  rw [onN_get (Nat.mod_lt _ (by omega)), ← onP_mod (by omega), ← onP_mod (a := (y : Int) - k) (by omega)]
  congr 1
  rw [Int.fmod_eq_emod_of_nonneg _ (by omega), Int.fmod_eq_emod_of_nonneg _ (by omega), hn]
  push_cast
  rw [Int.emod_emod_of_dvd _ (Int.dvd_refl _), show (((y + 5 * n - k : Nat)) : Int) = ((y : Int) - k) + n * 5 by omega, Int.add_mul_emod_self_left]
theorem offL_cast {ws : List Str} {wd : Int} {n : Nat} (hn : ws.length = n) (h3 : 3 ≤ n) (hl : ∀ i, 2 ≤ lAt ws i) (hw : wd ≤ 11) : offL ws wd n = castV (offV (onN ws wd n)) := by
  have e0 : (onN ws wd n).length = n := by simp [onN]
  unfold castV offV offL
  rw [e0, List.map_map]
  apply List.map_congr_left
  intro y _
  simp only [Function.comp]
  rw [onN_back hn h3 (by decide), onN_back hn h3 (by decide), onN_back hn h3 (by decide), onN_back hn h3 (by decide)]
  have r := off_rng (ws := ws) (wd := wd) (p := y) hl hw
  have q5 := off_on (ws := ws) (wd := wd) (p := y) hl hw (m := 5) (by decide)
  have q4 := off_on (ws := ws) (wd := wd) (p := y) hl hw (m := 4) (by decide)
  have q3 := off_on (ws := ws) (wd := wd) (p := y) hl hw (m := 3) (by decide)
  have q2 := off_on (ws := ws) (wd := wd) (p := y) hl hw (m := 2) (by decide)
  show ((offP ws wd y : Nat) : Int) = _
  congr 1
  by_cases c5 : 5 ≤ offP ws wd y
  · rw [if_pos (q5.mp c5)]; omega
  · rw [if_neg (fun x => c5 (q5.mpr x))]
    by_cases c4 : 4 ≤ offP ws wd y
    · rw [if_pos (q4.mp c4)]; omega
    · rw [if_neg (fun x => c4 (q4.mpr x))]
      by_cases c3 : 3 ≤ offP ws wd y
      · rw [if_pos (q3.mp c3)]; omega
      · rw [if_neg (fun x => c3 (q3.mpr x))]
        by_cases c2 : 2 ≤ offP ws wd y
        · rw [if_pos (q2.mp c2)]; omega
        · rw [if_neg (fun x => c2 (q2.mpr x))]; omega
theorem onN_cyc {ws : List Str} {wd : Int} {n : Nat} (hn : ws.length = n) (h3 : 3 ≤ n) (hl : ∀ i, 2 ≤ lAt ws i) (hw : wd ≤ 11) : cycV (onN ws wd n) = true := by
  have e0 : (onN ws wd n).length = n := by simp [onN]
  unfold cycV
  rw [e0, List.all_eq_true]
  intro x hx
  rw [List.mem_range] at hx
  apply Nat.ble_eq.mpr
  rw [onN_get hx, onN_get (Nat.mod_lt _ (by omega))]
  have e : onP ws wd (((x + 1) % n : Nat) : Int) = onP ws wd ((x : Int) + 1) := by
    rw [← onP_mod (a := (x : Int) + 1) (by omega)]
    congr 1
    rw [Int.fmod_eq_emod_of_nonneg _ (by omega), hn]; push_cast; rfl
  rw [e]
  exact on_cyc hl hw
end
-- P6
section
theorem revS_inv (x : Str) : revS (revS x) = x := by refine str_ext ?_; rw [revS_list, revS_list, List.reverse_reverse]
theorem written_ne (wd : Int) (qs : List (Str × Str)) : writtenL wd qs ≠ [] := by unfold writtenL; simp
section
variable {ws : List Str} {n : Nat} {wd : Int}
theorem two_le (WO : WordsOk ws n) (h3 : 3 ≤ n) (h5 : n ≤ 5) (i : Int) : 2 ≤ lAt ws i := (gw_at WO h3 h5 i).len.1
theorem written_on (WO : WordsOk ws n) (h3 : 3 ≤ n) (h5 : n ≤ 5) (hw : wd ≤ 11) (b : Int) : writtenL wd (onQ ws b (2 * n)) = toldAll ws (onL ws wd n) b 1 := by
  have hl := two_le WO h3 h5
  have := greedy_all (g := gF ws) (wy := 1) (wd := wd) (ws := ws) (ns := onL ws wd n) (O := onP ws wd) (F := id) (fun p => (on_rng hl hw).1) (onL_at WO.len (by omega)) (hF_on (gw_at WO h3 h5))
    (fun p k hk => by rw [len_on (gw_at WO h3 h5)]; exact (on_iff hl hw (by omega)).symm) (by have := WO.len; omega) b
  rw [List.map_id, WO.len, ← onQ_seg] at this
  exact this
theorem written_bk (WO : WordsOk ws n) (h3 : 3 ≤ n) (h5 : n ≤ 5) (hw : wd ≤ 11) (b : Int) : (writtenL wd (bkQ (mirOf ws) n (n - b) (2 * n))).map revS = toldAll ws (offL ws wd n) b (-1) := by
  have hl := two_le WO h3 h5
  have hm : ∀ w ∈ ws, GW w := fun w hw => gw_mem WO h5 hw
  have := greedy_all (g := gB (mirOf ws) n) (wy := -1) (wd := wd) (ws := ws) (ns := offL ws wd n) (O := offP ws wd) (F := revS) (fun p => (off_rng hl hw).1) (offL_at WO.len (by omega)) (hF_bk WO.len (by omega) hm (gw_at WO h3 h5))
    (fun p k hk => by rw [len_bk WO.len (by omega) hm (gw_at WO h3 h5)]; exact (off_iff hl hw (by omega)).symm) (by have := WO.len; omega) b
  rw [WO.len, ← bkQ_seg] at this
  exact this
theorem on_ge (WO : WordsOk ws n) (h3 : 3 ≤ n) (h5 : n ≤ 5) (hw : wd ≤ 11) (p : Int) : 1 ≤ (onL ws wd n).getD (p.fmod ws.length).toNat 0 := by
  rw [onL_at WO.len (by omega)]
  have := (on_rng (ws := ws) (wd := wd) (p := p) (two_le WO h3 h5) hw).1
  omega
theorem off_ge (WO : WordsOk ws n) (h3 : 3 ≤ n) (h5 : n ≤ 5) (hw : wd ≤ 11) (p : Int) : 1 ≤ (offL ws wd n).getD (p.fmod ws.length).toNat 0 := by
  rw [offL_at WO.len (by omega)]
  have := (off_rng (ws := ws) (wd := wd) (p := p) (two_le WO h3 h5) hw).1
  omega
/-- every told row -/
theorem told_on (WO : WordsOk ws n) (h3 : 3 ≤ n) (h5 : n ≤ 5) (hw : wd ≤ 11) (b : Int) : ∀ y ∈ toldAll ws (onL ws wd n) b 1, ∃ low k, 1 ≤ k ∧ k ≤ 10 ∧ y = rowOf ws low k := by
  intro y hy
  unfold toldAll at hy
  rw [show ((2 : Int) * (ws.length : Int)) = ((2 * ws.length : Nat) : Int) by omega] at hy
  obtain ⟨low, k, a, b, c⟩ := told_mem (on_ge WO h3 h5 hw) _ _ _ y hy
  have := WO.len
  exact ⟨low, k, a, by omega, c⟩
theorem told_bk (WO : WordsOk ws n) (h3 : 3 ≤ n) (h5 : n ≤ 5) (hw : wd ≤ 11) (b : Int) : ∀ y ∈ toldAll ws (offL ws wd n) b (-1), ∃ low k, 1 ≤ k ∧ k ≤ 10 ∧ y = rowOf ws low k := by
  intro y hy
  unfold toldAll at hy
  rw [show ((2 : Int) * (ws.length : Int)) = ((2 * ws.length : Nat) : Int) by omega] at hy
  obtain ⟨low, k, a, b, c⟩ := told_mem (off_ge WO h3 h5 hw) _ _ _ y hy
  have := WO.len
  exact ⟨low, k, a, by omega, c⟩
theorem written_bk' (WO : WordsOk ws n) (h3 : 3 ≤ n) (h5 : n ≤ 5) (hw : wd ≤ 11) (b : Int) : writtenL wd (bkQ (mirOf ws) n (n - b) (2 * n)) = (toldAll ws (offL ws wd n) b (-1)).map revS := by
  rw [← written_bk WO h3 h5 hw b, List.map_map]
  have : (revS ∘ revS) = id := by funext x; exact revS_inv x
  rw [this, List.map_id]
theorem fRow_is (WO : WordsOk ws n) (h3 : 3 ≤ n) (h5 : n ≤ 5) (hw : wd ≤ 11) (b : Nat) : fRow ws wd n b = toldAll ws (onL ws wd n) b 1 := by
  unfold fRow fText
  rw [nl_lit, split_join (written_ne _ _), written_on WO h3 h5 hw]
  rw [written_on WO h3 h5 hw]
  intro x hx
  obtain ⟨low, k, _, _, rfl⟩ := told_on WO h3 h5 hw _ x hx
  exact row_nl (gw_at WO h3 h5) _ _
theorem bRow_is (WO : WordsOk ws n) (h3 : 3 ≤ n) (h5 : n ≤ 5) (hw : wd ≤ 11) (b : Nat) : bRow (mirOf ws) wd n b = (toldAll ws (offL ws wd n) b (-1)).reverse := by
  unfold bRow bText
  rw [nl_lit, split_join_rev (written_ne _ _), written_bk WO h3 h5 hw]
  rw [written_bk' WO h3 h5 hw]
  intro x hx
  obtain ⟨y, hy, rfl⟩ := List.mem_map.mp hx
  obtain ⟨low, k, _, _, rfl⟩ := told_bk WO h3 h5 hw _ y hy
  rw [revS_list, List.mem_reverse]
  exact row_nl (gw_at WO h3 h5) _ _
theorem cF_is (WO : WordsOk ws n) (h3 : 3 ≤ n) (h5 : n ≤ 5) (hw : wd ≤ 11) {b : Nat} (hb : b < n) : cF (fRow ws wd n b) = (onP ws wd b : Int) := by
  have hl := WO.len
  have hr := on_rng (ws := ws) (wd := wd) (p := b) (two_le WO h3 h5) hw
  obtain ⟨r, low, e⟩ := told_first (ws := ws) (ns := onL ws wd n) (wy := 1) (p := b) (t := onP ws wd b) (by omega) (onL_at WO.len (by omega) _) (by omega)
  unfold cF
  rw [fRow_is WO h3 h5 hw, e, sp_lit, count_cnt]
  exact row_cnt (gw_at WO h3 h5) _ _
theorem cB_is (WO : WordsOk ws n) (h3 : 3 ≤ n) (h5 : n ≤ 5) (hw : wd ≤ 11) {b : Nat} (hb : b < n) : cB (bRow (mirOf ws) wd n b) = (offP ws wd b : Int) := by
  have hl := WO.len
  have hr := off_rng (ws := ws) (wd := wd) (p := b) (two_le WO h3 h5) hw
  obtain ⟨r, low, e⟩ := told_first (ws := ws) (ns := offL ws wd n) (wy := -1) (p := b) (t := offP ws wd b) (by omega) (offL_at WO.len (by omega) _) (by omega)
  unfold cB
  rw [bRow_is WO h3 h5 hw, e, sp_lit, count_cnt]
  have : (rowOf ws low (offP ws wd b) :: r).reverse.getD ((rowOf ws low (offP ws wd b) :: r).reverse.length - 1) Str.empty = rowOf ws low (offP ws wd b) := by
    rw [List.reverse_cons, List.getD_eq_getElem?_getD]; simp
  rw [this]
  exact row_cnt (gw_at WO h3 h5) _ _
theorem ahead_is (WO : WordsOk ws n) (h3 : 3 ≤ n) (h5 : n ≤ 5) (hw : wd ≤ 11) : aheadOf ws wd n = endlessOf (castV (onN ws wd n)) 1 := by
  unfold aheadOf
  congr 1
  rw [List.map_map]
  unfold castV onN
  rw [List.map_map]
  apply List.map_congr_left
  intro b hb
  exact cF_is WO h3 h5 hw (List.mem_range.mp hb)
theorem behind_is (WO : WordsOk ws n) (h3 : 3 ≤ n) (h5 : n ≤ 5) (hw : wd ≤ 11) : behindOf (mirOf ws) wd n = endlessOf (castV (offV (onN ws wd n))) (-1) := by
  unfold behindOf
  rw [← offL_cast WO.len h3 (two_le WO h3 h5) hw]
  congr 1
  rw [List.map_map]
  unfold offL
  apply List.map_congr_left
  intro b hb
  exact cB_is WO h3 h5 hw (List.mem_range.mp hb)
end
theorem endless_le (ns : List Int) (wy : Int) : ∀ k, (endlessTo ns wy k).length ≤ k
  | 0 => Nat.le_refl _
  | k + 1 => by
    have := endless_le ns wy k
    rw [endlessTo, List.length_append]
    split <;> simp <;> omega
theorem same_of {l : List (Int × Int)} (h : allSame l = true) : ∃ p, l[0]? = some p ∧ ∀ q ∈ l, q = p := by
  cases l with
  | nil => cases h
  | cons p r =>
    refine ⟨p, rfl, fun q hq => ?_⟩
    rcases List.mem_cons.mp hq with rfl | hq
    · rfl
    · exact beq_iff_eq.mp (List.all_eq_true.mp h q hq)
theorem alt_of {m : List Int} (h : altM m = true) (i : Nat) (hi : i < m.length) : m.getD i 0 ≠ m.getD ((i + m.length - 1) % m.length) 0 :=
  bne_iff_ne.mp (List.all_eq_true.mp h i (List.mem_range.mpr hi))
theorem join_bound {ys : List Str} {c : Nat} {B : Nat} (h : ∀ y ∈ ys, y.cps.toList.length ≤ B) (hl : ys.length ≤ 10) : (Txt.join ⟨#[c]⟩ ys).length ≤ 10 * (B + 1) := by
  have a := join_len_c c ys
  have b := sum_leB h
  have e : (Txt.join ⟨#[c]⟩ ys).length = (Str.join ⟨#[c]⟩ ys).cps.toList.length := by rw [txt_join, Array.length_toList]; rfl
  have := Nat.mul_le_mul_right (B + 1) hl
  omega
theorem rowD_ok {ws : List Str} (h : ∀ i, GW (wAt ws i)) (low : Int) (k : Nat) : PyData.strOk (rowOf ws low k) = true := by
  unfold PyData.strOk
  rw [← Array.all_toList, List.all_eq_true]
  intro c hc
  have := row_asc h low k c hc
  exact decide_eq_true (by omega)
end
-- P7
section
section
variable {ws : List Str} {n : Nat} {wd : Int}
theorem sp_one : (((" " : String) : Str)).length ≤ 1 ∧ PyData.strOk ((" " : String) : Str) = true := by decide +kernel
theorem em_one : ((("" : String) : Str)).length ≤ 1 ∧ PyData.strOk (("" : String) : Str) = true := by decide +kernel
theorem bytes_len {y : Str} {B : Nat} (h : y.cps.toList.length ≤ B) : y.length ≤ B := by rw [Array.length_toList] at h; exact h
theorem onQ_good (WO : WordsOk ws n) (h3 : 3 ≤ n) (h5 : n ≤ 5) (b : Nat) : ∀ q ∈ onQ ws b (2 * n), GoodQ q ∧ q.1 = " " := by
  intro q hq
  unfold onQ at hq
  obtain ⟨j, _, rfl⟩ := List.mem_map.mp hq
  have g := gw_at WO h3 h5 ((b : Int) + (j : Int) * 1)
  refine ⟨⟨sp_one.1, ?_, ⟨sp_one.2, ?_⟩, ?_⟩, rfl⟩
  · show (Txt.slice _ _ _).length ≤ 10
    rw [g.slice]; exact Nat.le_trans (bytes_len g.le) (by decide)
  · show PyData.strOk (Txt.slice _ _ _) = true
    rw [g.slice]; unfold PyData.strOk
    rw [← Array.all_toList, List.all_eq_true]
    intro c hc
    have := of_decide_eq_true (List.all_eq_true.mp g.asc c hc)
    exact decide_eq_true (by omega)
  · obtain ⟨c, hc, hv⟩ := List.any_eq_true.mp g.vis
    refine ⟨c, ?_, by simpa using hv⟩
    show c ∈ (Txt.slice _ _ _).cps.toList
    rw [g.slice]; exact hc
theorem bkQ_good (WO : WordsOk ws n) (h3 : 3 ≤ n) (h5 : n ≤ 5) (b : Nat) : ∀ q ∈ bkQ (mirOf ws) n ((n : Int) - b) (2 * n), GoodQ q ∧ q.1 = "" ∧ q.2.cps.back? = some 32 := by
  intro q hq
  have hm : ∀ w ∈ ws, GW w := fun w hw => gw_mem WO h5 hw
  rw [bkQ_seg] at hq
  unfold seg at hq
  obtain ⟨j, _, rfl⟩ := List.mem_map.mp hq
  have g := gw_at WO h3 h5 ((b : Int) + -1 * (j : Int) - 1)
  have e := gB_list WO.len (by omega) hm _ g
  have e1 : (gB (mirOf ws) n ((b : Int) + -1 * (j : Int))).1 = (("" : String) : Str) := rfl
  rw [e1, em_lit, show (⟨#[]⟩ : Str).cps.toList = [] from rfl, List.nil_append] at e
  have hlen := congrArg List.length e
  rw [List.length_reverse, Array.length_toList, Array.length_toList] at hlen
  have gl := g.len
  have el : (wAt ws ((b : Int) + -1 * (j : Int) - 1)).length = (wAt ws ((b : Int) + -1 * (j : Int) - 1)).cps.size := rfl
  refine ⟨⟨by rw [e1]; exact em_one.1, ?_, ⟨by rw [e1]; exact em_one.2, ?_⟩, ?_⟩, e1, ?_⟩
  · show (gB (mirOf ws) n ((b : Int) + -1 * (j : Int))).2.cps.size ≤ 10
    omega
  · unfold PyData.strOk
    rw [← Array.all_toList, e, List.all_eq_true]
    intro c hc
    have := of_decide_eq_true (List.all_eq_true.mp g.asc' c (List.mem_reverse.mp hc))
    exact decide_eq_true (by omega)
  · obtain ⟨c, hc, hv⟩ := List.any_eq_true.mp g.vis
    refine ⟨c, ?_, by simpa using hv⟩
    rw [e, List.mem_reverse, g.one]; exact .tail _ hc
  · rw [← Array.getLast?_toList, e, g.one]; simp
theorem fText_small (WO : WordsOk ws n) (h3 : 3 ≤ n) (h5 : n ≤ 5) (hw : wd ≤ 11) (b : Nat) : (fText ws wd n b).length < 2000 := by
  unfold fText
  rw [nl_lit, written_on WO h3 h5 hw]
  have hl := WO.len
  have := join_bound (c := 10) (B := 50) (ys := toldAll ws (onL ws wd n) b 1) (fun y hy => by
    obtain ⟨low, k, _, h2, rfl⟩ := told_on WO h3 h5 hw _ y hy
    have := (row_len (gw_at WO h3 h5) low k).2
    omega) (by unfold toldAll; exact Nat.le_trans (told_len _ _ _) (by omega))
  omega
theorem told_ne (WO : WordsOk ws n) (h3 : 3 ≤ n) (h5 : n ≤ 5) (hw : wd ≤ 11) (b : Int) : toldAll ws (offL ws wd n) b (-1) ≠ [] := by
  have hl := WO.len
  have hr := off_rng (ws := ws) (wd := wd) (p := b) (two_le WO h3 h5) hw
  obtain ⟨r, low, e⟩ := told_first (ws := ws) (ns := offL ws wd n) (wy := -1) (p := b) (t := offP ws wd b) (by omega) (offL_at WO.len (by omega) _) (by omega)
  rw [e]; simp
theorem told_ne' (WO : WordsOk ws n) (h3 : 3 ≤ n) (h5 : n ≤ 5) (hw : wd ≤ 11) (b : Int) : toldAll ws (onL ws wd n) b 1 ≠ [] := by
  have hl := WO.len
  have hr := on_rng (ws := ws) (wd := wd) (p := b) (two_le WO h3 h5) hw
  obtain ⟨r, low, e⟩ := told_first (ws := ws) (ns := onL ws wd n) (wy := 1) (p := b) (t := onP ws wd b) (by omega) (onL_at WO.len (by omega) _) (by omega)
  rw [e]; simp
theorem join_pos (c : Nat) : ∀ {ys : List Str}, ys ≠ [] → (∀ y ∈ ys, 1 ≤ y.cps.toList.length) → 1 ≤ (Str.join ⟨#[c]⟩ ys).cps.toList.length
  | [], h, _ => absurd rfl h
  | [y], _, h => by rw [join_one]; exact h y (.head _)
  | x :: y :: r, _, h => by rw [join_cons2, List.length_append]; have := h x (.head _); omega
theorem bText_ok (WO : WordsOk ws n) (h3 : 3 ≤ n) (h5 : n ≤ 5) (hw : wd ≤ 11) (b : Nat) : (bText (mirOf ws) wd n b).length < 1000 ∧ 0 < (bText (mirOf ws) wd n b).cps.size ∧ (bText (mirOf ws) wd n b).cps.all (· < 128) = true := by
  unfold bText
  rw [nl_lit, written_bk' WO h3 h5 hw]
  have hl := WO.len
  have hrow : ∀ y ∈ (toldAll ws (offL ws wd n) b (-1)).map revS, ∃ low k, 1 ≤ k ∧ k ≤ 10 ∧ y.cps.toList = (rowOf ws low k).cps.toList.reverse := by
    intro y hy
    obtain ⟨x, hx, rfl⟩ := List.mem_map.mp hy
    obtain ⟨low, k, h1, h2, rfl⟩ := told_bk WO h3 h5 hw _ x hx
    exact ⟨low, k, h1, h2, revS_list _⟩
  have hne : (toldAll ws (offL ws wd n) b (-1)).map revS ≠ [] := by
    intro h; rw [List.map_eq_nil_iff] at h; exact told_ne WO h3 h5 hw _ h
  refine ⟨?_, ?_, ?_⟩
  · have := join_bound (c := 10) (B := 50) (ys := (toldAll ws (offL ws wd n) b (-1)).map revS) (fun y hy => by
      obtain ⟨low, k, _, h2, e⟩ := hrow y hy
      have := (row_len (gw_at WO h3 h5) low k).2
      rw [e, List.length_reverse]; omega) (by rw [List.length_map]; unfold toldAll; exact Nat.le_trans (told_len _ _ _) (by omega))
    omega
  · rw [← Array.length_toList, txt_join]
    refine join_pos 10 hne fun y hy => ?_
    obtain ⟨low, k, h1, _, e⟩ := hrow y hy
    have := (row_len (gw_at WO h3 h5) low k).1
    rw [e, List.length_reverse]; omega
  · rw [← Array.all_toList, List.all_eq_true, txt_join]
    intro c hc
    rcases (mem_join _ c _).mp hc with ⟨t, ht, hct⟩ | ⟨_, hs⟩
    · obtain ⟨low, k, _, _, e⟩ := hrow t ht
      rw [e, List.mem_reverse] at hct
      exact decide_eq_true (row_asc (gw_at WO h3 h5) low k c hct)
    · have : c = 10 := by simpa using hs
      subst this; rfl
theorem pieces_ok (WO : WordsOk ws n) (h3 : 3 ≤ n) (h5 : n ≤ 5) (hw : wd ≤ 11) : PiecesOk ws (mirOf ws) wd n :=
  ⟨fun b _ => onQ_good WO h3 h5 b, fun b _ => bkQ_good WO h3 h5 b, fun b _ => fText_small WO h3 h5 hw b, fun b _ => bText_ok WO h3 h5 hw b⟩
theorem rowF (WO : WordsOk ws n) (h3 : 3 ≤ n) (h5 : n ≤ 5) (hw : wd ≤ 11) {r : List Str} (hr : r ∈ (List.range n).map (fRow ws wd n)) : ∃ b : Nat, r = toldAll ws (onL ws wd n) b 1 := by
  obtain ⟨b, _, rfl⟩ := List.mem_map.mp hr
  exact ⟨b, fRow_is WO h3 h5 hw b⟩
theorem rowB (WO : WordsOk ws n) (h3 : 3 ≤ n) (h5 : n ≤ 5) (hw : wd ≤ 11) {r : List Str} (hr : r ∈ (List.range n).map (bRow (mirOf ws) wd n)) : ∃ b : Nat, r = (toldAll ws (offL ws wd n) b (-1)).reverse := by
  obtain ⟨b, _, rfl⟩ := List.mem_map.mp hr
  exact ⟨b, bRow_is WO h3 h5 hw b⟩
theorem plain_ok (WO : WordsOk ws n) (h3 : 3 ≤ n) (h5 : n ≤ 5) (hw : wd ≤ 11) : PlainOk ws (mirOf ws) wd n := by
  have hm : ∀ w ∈ ws, GW w := fun w hw => gw_mem WO h5 hw
  have hl := WO.len
  have h2 := two_le WO h3 h5
  have e0 : (onN ws wd n).length = n := by simp [onN]
  have hc := check_all h3 h5 (v := onN ws wd n) e0 (fun x hx => by
    obtain ⟨j, _, rfl⟩ := List.mem_map.mp hx
    exact on_rng h2 hw)
  have hcy := onN_cyc (ws := ws) (wd := wd) hl h3 h2 hw
  unfold checkV at hc
  rw [hcy, Bool.not_true, Bool.false_or, Bool.and_eq_true, e0] at hc
  obtain ⟨k1, k2⟩ := hc
  refine ⟨pieces_ok WO h3 h5 hw, ?_, ?_, ?_, ?_, ?_, ?_, ?_, ?_, ?_, ?_, ?_, ?_, ?_, ?_, ?_, ?_, ?_⟩
  · intro r hr
    obtain ⟨b, rfl⟩ := rowF WO h3 h5 hw hr
    exact List.length_pos_iff.mpr (told_ne' WO h3 h5 hw _)
  · intro r hr
    obtain ⟨b, rfl⟩ := rowB WO h3 h5 hw hr
    rw [List.length_reverse]; exact List.length_pos_iff.mpr (told_ne WO h3 h5 hw _)
  · unfold aheadOf endlessOf
    exact Nat.le_trans (endless_le _ _ _) (by simpa using h5)
  · unfold behindOf endlessOf
    exact Nat.le_trans (endless_le _ _ _) (by simpa using h5)
  · rw [ahead_is WO h3 h5 hw, behind_is WO h3 h5 hw]
    exact same_of k1
  · unfold marksOf
    rw [ahead_is WO h3 h5 hw, behind_is WO h3 h5 hw]
    exact alt_of k2
  · unfold marksOf
    refine Nat.le_trans (flat_le _ (fun j => ?_) n) (by omega)
    unfold mkOf
    rw [List.length_append]
    have a := mk1_le (behindOf (mirOf ws) wd n) j (-1)
    have b := mk1_le (aheadOf ws wd n) j 1
    omega
  · apply List.map_congr_left
    intro b _
    rw [fRow_is WO h3 h5 hw]; rfl
  · apply List.map_congr_left
    intro b _
    rw [bRow_is WO h3 h5 hw]; rfl
  · intro r hr y hy
    obtain ⟨b, rfl⟩ := rowF WO h3 h5 hw hr
    obtain ⟨low, k, _, _, rfl⟩ := told_on WO h3 h5 hw _ y hy
    exact rowD_ok (gw_at WO h3 h5) _ _
  · intro r hr y hy
    obtain ⟨b, rfl⟩ := rowB WO h3 h5 hw hr
    obtain ⟨low, k, _, _, rfl⟩ := told_bk WO h3 h5 hw _ y (List.mem_reverse.mp hy)
    exact rowD_ok (gw_at WO h3 h5) _ _
  · intro i hi
    rw [onL_get (by omega)]
    have := on_rng (ws := ws) (wd := wd) (p := i) h2 hw
    omega
  · intro i hi
    rw [offL_get (by omega)]
    have := off_rng (ws := ws) (wd := wd) (p := i) h2 hw
    omega
  · intro i
    by_cases hi : i < n
    · exact (gw_get WO h5 hi).len.2
    · rw [List.getD_eq_getElem?_getD, List.getElem?_eq_none (by omega)]; decide
  · intro i hi
    have := (gw_get WO h5 (i := i) (by omega)).len.1
    omega
  · exact mir_short hm
  · rw [mir_len hm]; omega
end
theorem sum_words {ws : List Str} (h : ∀ w ∈ ws, GW w) : (ws.map (·.length)).sum ≤ 5 * ws.length ∧ 2 * ws.length ≤ (ws.map (·.length)).sum := by
  induction ws with
  | nil => simp
  | cons w r ih =>
    have := ih fun x hx => h x (.tail _ hx)
    have := (h w (.head _)).len
    simp only [List.map_cons, List.sum_cons, List.length_cons]; omega
theorem flat_len (ws : List Str) : (ws.flatMap (·.cps.toList)).length = (ws.map (·.length)).sum := by
  induction ws with
  | nil => rfl
  | cons w r ih => rw [List.flatMap_cons, List.length_append, ih, List.map_cons, List.sum_cons, Array.length_toList]; rfl
theorem plainLaw : PlainLaw where
  ok ws n wd h3 h5 _ h11 WO := plain_ok WO h3 h5 h11
  sum ws n h5 WO := by
    have := sum_words fun w hw => gw_mem WO h5 hw
    have := WO.len
    omega
  asc ws n h5 WO := by
    rw [← Array.all_toList, join0, List.all_eq_true]
    intro c hc
    obtain ⟨w, hw, hcw⟩ := List.mem_flatMap.mp hc
    exact List.all_eq_true.mp (gw_mem WO h5 hw).asc' c hcw
  pos ws n h3 h5 WO := by
    have := sum_words fun w hw => gw_mem WO h5 hw
    have := WO.len
    rw [← Array.length_toList, join0, flat_len]
    omega
end
-- Q1
section
theorem law_good {c : ClaimW} {cl : Str → Option Addr} {mean : ExcName → Option Value} {args : List WData} {s₁ s' : Shared} {v : Value} (hT : TabsAt [(144, 140), (151, 147)] s₁.heap) (x : LawOut s₁ v s') (hn : ∀ cls, c.raises args cls = false) (hp : c.post args (.bool true) args = true) : GoodWG c cl mean args s₁ (.ok (.ret v)) s' := by
  obtain ⟨rfl, h', tk', g', rfl, G', k, t1, t2, a1, a2, _, _⟩ := x
  have q1 := hT (144, 140) (.head _)
  have q2 := hT (151, 147) (.tail _ (.head _))
  refine ⟨.inl ⟨_, _, _, rfl, hn, .bool true, hp, unshared_nil⟩, ⟨fun b o e => ?_, fun b o e => ?_⟩, rfl, G'⟩
  · by_cases h1 : b = 140
    · subst h1
      have e2 : s₁.heap.get? 140 = some (tabObj #[]) := q1.2
      rw [e] at e2; cases e2
      exact .inr (.inl ⟨(q1.1.tab q1.2).isCodeTable, rfl, #[], t1, rfl, by rw [Array.empty_append]; exact a1⟩)
    · by_cases h2 : b = 147
      · subst h2
        have e2 : s₁.heap.get? 147 = some (tabObj #[]) := q2.2
        rw [e] at e2; cases e2
        exact .inr (.inl ⟨(q2.1.tab q2.2).isCodeTable, rfl, #[], t2, rfl, by rw [Array.empty_append]; exact a2⟩)
      · exact .inl (k b o (hideAll_get _ e (by simp [h1, h2])))
  · by_cases h1 : b = 140
    · subst h1; exact ⟨_, a1⟩
    · by_cases h2 : b = 147
      · subst h2; exact ⟨_, a2⟩
      · exact ⟨_, k b o (hideAll_get _ e (by simp [h1, h2]))⟩
end
-- H2
section
set_option maxHeartbeats 8000000
theorem whole : _root_.PySem.Challenge.rw_pe0169_01.Holds := by
  refine hd ?_
  k_fill
  intro w s₀ s₁ mg mb G Y fa o pm cd doc dV kV ho hd' hcd hD hmg hg args vals as hpre hlay hrd hwl hlo
  have KX := km_in_of Y
  have hT8 := km_tabs_of Y
  have X := (Ground.X G).1
  have V := (Ground.X G).2
  refine Ground.open G ?_
  intro T B D TE TW
  have hT9 : TabsAt [(144, 140), (151, 147)] s₁.heap := List.forall_mem_cons.mpr ⟨⟨codeHd_of_K (c := 144) (P := 140) KX (by kernel_rfl), hT8 140 (by simp)⟩, List.forall_mem_cons.mpr ⟨⟨codeHd_of_K (c := 151) (P := 147) KX (by kernel_rfl), hT8 147 (by simp)⟩, fun _ h => nomatch h⟩⟩
  have hfa : fa = 225 := Value.ref.inj (Option.some.inj (hmg.symm.trans (mg_of (v := .ref 225) KX (Top.g T) (by kernel_rfl))))
  subst hfa
  wrow_args hpre hlay hrd hwl hlo
  rename Heap.IsList _ _ _ => hL
  rename IntsAre _ _ => hI
  rename ¬ ((63 : Nat) : Int) < _ => hc
  refine wpC_mono (law_spec plainLaw (ghost_K hT9 KX (by kernel_rfl)) (ghost_top hT9 T) ⟨#[], #[], hT8 140 (by simp), hT8 147 (by simp), .inl rfl, .inl rfl⟩ (.of_eq hg) (ghost_list hT9 hL) hI (by omega)) (fun v s' hh => law_good hT9 hh.go ?_ ?_) (fun _ _ h => h)
  · exact fun _ => rfl
  · wrow_post
end
end Mine
theorem PySem.Challenge.cw_pe0169_01_holds : PySem.Challenge.rw_pe0169_01.Holds := by
  exact Mine.whole
