import PyProof.Rows.All
import Wide.All
import OpenK.AllK
import Wide.FinOn
import PySem.Challenge.RW_ff5026_01
open PySem PySem.W PyProof.Rows
set_option Elab.async false
namespace Mine
set_option maxRecDepth 100000 in
set_option maxHeartbeats 8000000 in
open_top hd for PySem.Challenge.rw_ff5026_01
end Mine
open PySem.Calls PySem.Spec
set_option maxRecDepth 100000
namespace Mine
theorem fill : Mine.hd.heap_39 = Mine.hd.heap_39 ∧ PySem.Challenge.rw_ff5026_01 = PySem.Challenge.rw_ff5026_01 := by
  k_fill
  exact ⟨rfl, rfl⟩

theorem enter0 {prog : Program} {w : World} {A : Around} {s : Shared} {K : Frag} {mg mb : Str → Option Value} {p : Program} {loose : List Str} {mean : ExcName → Option Value}
    {R : Result → Shared → Prop} {name qual : Str} {params : Arguments} {body : List Stmt} {scope : Scope} {dV kV doc pm cdv ct oc : Value} {an od : Option Addr} {osl : Array (Option Value)} {f : Addr} {args : Args} {binds : List (Str × Value)}
    (X : K.In s.heap) (T : Top p loose mean mg mb s.heap)
    (ho : K.lookup f = some ⟨oc, od, .func (fnOf name qual params body scope dV kV doc pm an cdv ct), osl⟩) (hcd : codeIn K cdv qual = true) (hroom : A.depth < recursionLimit)
    (hbind : BindsTo s (fnOf name qual params body scope dV kV doc pm an cdv ct) args binds) (hloc : ∀ y ∈ binds, scope.names.lookup y.1 = some .local)
    (h : ∀ L' h₁, Fr s.heap L' h₁ (fun y => binds.reverse.lookup y) →
      wpAny (model prog w) (A.deeper (envX qual scope L' f cdv [])) (execs body (envX qual scope L' f cdv []))
        (fun fl s' => R (.ok (.ret (match fl with | .ret v => v | _ => .none))) s')
        (fun _ _ => False)
        { s with heap := h₁, toks := s.toks + binds.length })
    (hco : scope.isCoroutine = false) (hgen : scope.isGenerator = false) (hk : scope.kind = .function)
    (hcell : ∀ x ∈ scope.names, x.2 ≠ .cell) : codeAny (model prog w) A (.call (.ref f) args) R s := by
  refine codeAny_call_def (fd := fnX name qual params body scope [] dV kV doc pm an cdv ct) (body := body) (binds := binds) hroom (X _ _ ho) rfl T.nolimit (codeRec_of X hcd) rfl hbind hcell hloc (fun h₁ hns hk₁ => ?_) hco hgen hk
  exact wpAny_mono (h s.heap.objs.size h₁ ⟨hns, hk₁, Nat.le_refl _⟩) (fun _ _ x => x) (fun _ _ x => x.elim)

def nearI (up down : Int) : Int :=
  if 2 * (up - Int.fdiv up down * down) > down ∨ (2 * (up - Int.fdiv up down * down) = down ∧ Int.fmod (Int.fdiv up down) 2 = 1) then Int.fdiv up down + 1 else Int.fdiv up down

theorem near_ret {s : Shared} {Q : Value → Shared → Prop} {x y : Int} {t : Tok} {h : Heap} {tk : Nat} {L : Addr} {m : Str → Option Value}
    (hQ : ∀ t h' tk, (∀ b o, s.heap.get? b = some o → h'.get? b = some o) → Q (.int x t) { s with heap := h', toks := tk }) (e : y = x) (F : Fr s.heap L h m) : Q (.int y t) { s with heap := h, toks := tk } := by
  subst e
  exact hQ t h tk F.keep

set_option maxHeartbeats 4000000 in
theorem near_ok {prog : Program} {w : World} {dp un : Nat} {fr : Option (List Env)} {gd : Option (List Code)} {s : Shared} {mg mb : Str → Option Value} {p : Program} {loose : List Str} {mean : ExcName → Option Value}
    {up down : Int} {tu td : Tok} {Q E : Value → Shared → Prop}
    (X : (Mine.hd.heap_39 w.params).In s.heap) (T : Top p loose mean mg mb s.heap) (hd : dp + 1 < recursionLimit) (hu : un + 8 < cLine) (hdn : 0 < down) (hds : down < 1073741824)
    (hQ : ∀ t h' tk, (∀ b o, s.heap.get? b = some o → h'.get? b = some o) → Q (.int (nearI up down) t) { s with heap := h', toks := tk }) :
    wpAny (model prog w) { handled := none, depth := dp, frames := fr, guards := gd, units := un } (call (.ref 325) [.int up tu, .int down td]) Q E s := by
  have := fill
  refine wpAny_call ?_
  refine' enter0 (binds := [(Str.ofString "up", .int up tu), (Str.ofString "down", .int down td)]) X T ?k6 ?k7 ?k8 ?k9 ?kB ?_ ?c2 ?c3 ?c4 ?c5
  case k6 => k_is
  case k7 => k_is
  case k8 => exact Nat.lt_of_succ_lt hd
  case k9 => exact BindsTo.of_eq rfl
  case kB => exact locs rfl
  case c2 => rfl
  case c3 => rfl
  case c4 => rfl
  case c5 => decide
  intro L' h₁ F
  (try dsimp only)
  (try k_fold)
  have N : News s.heap L' h₁ [] := News.nil
  k_steps
  all_goals dsimp only
  all_goals (refine near_ret hQ ?_ (by assumption))
  all_goals unfold nearI
  all_goals (split <;> omega)
end Mine

namespace Mine

theorem fresh_none {h : Heap} {a : Addr} (ha : h.objs.size ≤ a) : h.get? a = none := by
  cases e : h.get? a with
  | none => rfl
  | some o => exact absurd (Heap.lt_size e) (Nat.not_lt.mpr ha)

section
variable {prog : Program} {w : World} {A : Around} {E : Value → Shared → Prop} {s : Shared} {env : Env}

/-- a comprehension over pairs: what its block does -/
theorem pairs_block {elt iter : PySem.Expr} {a b : Str} {pa pb tp : Pos} {kk : Nat} {scope : Scope} {cl : List (Str × Addr)} {pos : Pos} {s₂ : Shared} {I : Addr} {fp wr : List Addr} {n : Nat}
    {Pt : Nat → Array Value → Prop} {St : Nat → Heap → Prop} {Mid : Nat → Addr → Heap → Prop} {RR : Value → Addr → Result → Shared → Prop}
    (W : WalksU prog w A I fp wr n Pt St Mid) (hh : A.handled = none) (hsz : n ≤ sizeLine) (Fy : Nat → Value → Prop)
    (hcell : ∀ y ∈ scope.names, y.2 ≠ .cell) (hkind : scope.kind = .function) (hxa : scope.names.lookup a = some .local) (hxb : scope.names.lookup b = some .local) (hab : a ≠ b)
    (hPt : ∀ i vals, Pt i vals → ∃ va vb, vals = #[va, vb]) (hst : St 0 s₂.heap) (hfp : ∀ b ∈ fp, b < s₂.heap.objs.size)
    (helt : ∀ C i va vb s₃ m₃ E', s₂.heap.objs.size ≤ C → i < n → Pt i #[va, vb] → s₃.heap.Ns C m₃ → m₃ a = some va → m₃ b = some vb →
      (∀ b o, b ∉ wr → s₂.heap.get? b = some o → s₃.heap.get? b = some o) →
      wpAny (model prog w) A (eval elt (compEnvC scope cl C env)) (fun y s₄ => Fy i y ∧ Keeps s₃ s₄) E' s₃)
    (hRR : ∀ D C h' tk m' ys, s₂.heap.objs.size ≤ D → s₂.heap.get? C = none → D ≠ C → h'.Ns C m' → h'.PlainList D ys → ys.size = n → (∀ i y, ys[i]? = some y → Fy i y) →
      (∀ b o, b ∉ wr → s₂.heap.get? b = some o → h'.get? b = some o) → RR (.ref D) C (.ok .next) { s₂ with heap := h', toks := tk }) :
    wpAny (model prog w) A (newList []) (fun acc s₃ => wpAny (model prog w) A (newFunctionEnv scope env.globals cl [] env.qual none .none (some env)) (fun cenv s₄ =>
      codeAny (model prog w) A (.compStart (.ListComp elt [⟨.Tuple [.Name a pa, .Name b pb] kk tp, iter, [], 0⟩] scope pos) 0 (.ref I) acc { cenv with scope := relabel scope env }) (RR acc cenv.locals) s₄) E s₃) E s₂ := by
  refine wpAny_newObj_type (wpAny_newFunctionEnv hcell (by intro y hy; simp at hy) (fun h₁ hns₁ hsb₁ => ?_) hkind)
  dsimp only at hns₁ hsb₁ ⊢
  generalize hH2 : s₂.heap.push { cls := .type "list", dict := none, data := .seq ([] : List Value).toArray } = H2 at hns₁ hsb₁ ⊢
  have hC : H2.objs.size = s₂.heap.objs.size + 1 := by rw [← hH2, Heap.size_push]
  have hDC : s₂.heap.objs.size ≠ H2.objs.size := by rw [hC]; exact Nat.ne_of_lt (Nat.lt_succ_self _)
  have below : ∀ b, b < s₂.heap.objs.size → b ≠ H2.objs.size ∧ b ≠ s₂.heap.objs.size := fun b hb => ⟨by rw [hC]; exact Nat.ne_of_lt (Nat.lt_succ_of_lt hb), Nat.ne_of_lt hb⟩
  have hDf : s₂.heap.objs.size ∉ fp := fun hm => Nat.lt_irrefl _ (hfp _ hm)
  have hCf : H2.objs.size ∉ fp := fun hm => by have := hfp _ hm; rw [hC] at this; exact Nat.lt_irrefl _ (Nat.lt_of_succ_lt this)
  have hDw : s₂.heap.objs.size ∉ wr := fun hm => hDf (W.sub _ hm)
  have hCw : H2.objs.size ∉ wr := fun hm => hCf (W.sub _ hm)
  have old : ∀ b o, s₂.heap.get? b = some o → h₁.get? b = some o := fun b o e => hsb₁.extBut b o (below b (Heap.lt_size e)).1 (Heap.get?_push_of_some _ (hH2 ▸ Heap.get?_push_of_some _ e))
  have hacc : h₁.PlainList s₂.heap.objs.size #[] := ⟨_, hsb₁.extBut _ _ hDC (Heap.get?_push_of_some _ (hH2 ▸ Heap.get?_push_size _ rfl))⟩
  have hst₁ : St 0 h₁ := W.frame _ _ _ hst fun b _ o e => old b o e
  have loop : ∀ s₃ : Shared, s₃ = { s₂ with heap := h₁, toks := s₂.toks + ([] : List (Str × Value)).length } →
      codeAny (model prog w) A (.compLoop (.ListComp elt [⟨.Tuple [.Name a pa, .Name b pb] kk tp, iter, [], 0⟩] scope pos) 0 (.ref I) (.ref s₂.heap.objs.size) (compEnvC scope cl H2.objs.size env))
        (RR (.ref s₂.heap.objs.size) H2.objs.size) s₃ := by
    rintro s₃ rfl
    refine LCp.codeAny_compLoop_pair
      (fun k s' => ∃ h' tk ys m', s' = { s₂ with heap := h', toks := tk } ∧ ys.size ≤ n ∧ k = n + 1 - ys.size ∧ St ys.size h' ∧ h'.PlainList s₂.heap.objs.size ys ∧ h'.Ns H2.objs.size m' ∧
        (∀ i y, ys[i]? = some y → Fy i y) ∧ (∀ b o, b ∉ wr → s₂.heap.get? b = some o → h'.get? b = some o)) ?_ (n + 1)
      ⟨h₁, _, #[], _, rfl, Nat.zero_le _, rfl, hst₁, hacc, hns₁, fun i y e => by simp at e, fun b o _ e => old b o e⟩
    rintro k s' ⟨h', tk, ys, m', rfl, hi, rfl, hst', hacc', hn', hF, hk⟩
    by_cases hlt : ys.size < n
    · refine W.item ys.size _ _ _ hlt hst' fun T vals h₂ tk₂ hPv hT hmid hk₂ => ?_
      obtain ⟨va, vb, rfl⟩ := hPt _ _ hPv
      refine W.go _ _ _ ys.size T _ _ _ hmid fun h₃ hst₃ hk₃ => ?_
      have hT₃ : h₃.IsTuple T #[va, vb] := let ⟨o, e, r⟩ := hT; ⟨o, hk₃ _ o (W.apart _ T _ hmid) e, r⟩
      refine wpAny_assign_Tuple hh hT₃ rfl rfl fun h₄ hx₄ => ?_
      replace hx₄ : Heap.ExtBut h₃.objs.size h₃ h₄ := hx₄
      have old₄ : ∀ b o, h₃.get? b = some o → h₄.get? b = some o := fun b o e => hx₄ b o (Nat.ne_of_lt (Heap.lt_size e)) e
      have up₄ : ∀ b o, b ∉ wr → h'.get? b = some o → h₄.get? b = some o := fun b o hb e => old₄ b o (hk₃ b o hb (hk₂ b o hb e))
      refine assignInOrder_cons (wpAny_assign_Name (wpAny_storeName_local (lookup_relabel_local hxa) (hn'.at' fun o e => up₄ _ o hCw e) (fun h₅ hn₅ hs₅ => ?_) (by simp [compEnvC, relabel, hkind])))
      refine assignInOrder_cons (wpAny_assign_Name (wpAny_storeName_local (lookup_relabel_local hxb) hn₅ (fun h₆ hn₆ hs₆ => ?_) (by simp [compEnvC, relabel, hkind])))
      refine assignInOrder_nil ?_
      have up₆ : ∀ b o, b ∉ wr → b ≠ H2.objs.size → h'.get? b = some o → h₆.get? b = some o := fun b o hb hbC e => hs₆.extBut b o hbC (hs₅.extBut b o hbC (up₄ b o hb e))
      have hst₆ : St (ys.size + 1) h₆ := W.frame _ _ _ hst₃ fun b hb o e => hs₆.extBut b o (fun (q : b = H2.objs.size) => hCf (q ▸ hb)) (hs₅.extBut b o (fun (q : b = H2.objs.size) => hCf (q ▸ hb)) (old₄ b o e))
      refine wpAny_mono (helt H2.objs.size ys.size va vb _ _ _ (by rw [hC]; exact Nat.le_succ _) hlt hPv hn₆ (by simp [hab]) (by simp) fun b o hb e =>
        up₆ b o hb (below b (Heap.lt_size e)).1 (hk b o hb e)) (fun y s₇ h₇ => ?_) fun _ _ e => e
      obtain ⟨hy, h₇, tk₇, rfl, hk₇⟩ := h₇
      have hacc₇ : h₇.PlainList s₂.heap.objs.size ys := hacc'.at fun o e => hk₇ _ o (up₆ _ o hDw hDC e)
      refine wpAny_list_append_plain (hsz := Nat.le_trans hi hsz) hacc₇ fun h₈ hl₈ hs₈ => ?_
      refine ⟨n + 1 - (ys.size + 1), by omega, h₈, tk₇, ys.push y, _, rfl, by rw [Array.size_push]; exact hlt, by rw [Array.size_push],
        by rw [Array.size_push]; exact W.frame _ _ _ hst₆ fun b hb o e => hs₈.extBut b o (fun q => hDf (q ▸ hb)) (hk₇ b o e), hl₈,
        (hn₆.keeps hk₇).sameBut hs₈ (Ne.symm hDC), fun i y' e => ?_, fun b o hb e => hs₈.extBut b o (below b (Heap.lt_size e)).2 (hk₇ b o (up₆ b o hb (below b (Heap.lt_size e)).1 (hk b o hb e)))⟩
      rw [Array.getElem?_push] at e
      split at e
      · rename_i q; cases e; rw [q]; exact hy
      · exact hF i y' e
    · have hin : ys.size = n := Nat.le_antisymm hi (Nat.le_of_not_lt hlt)
      rw [hin] at hst'
      refine W.done _ _ _ hst' fun h₂ tk₂ hk₂ => ?_
      exact hRR _ _ h₂ tk₂ m' ys (Nat.le_refl _) (fresh_none (by rw [hC]; exact Nat.le_succ _)) hDC (hn'.at' fun o e => hk₂ _ o hCw e) (hacc'.at fun o e => hk₂ _ o hDw e) hin hF
        fun b o hb e => hk₂ b o hb (hk b o hb e)
  exact codeAny_compStart_list (loop _ rfl) (W.self 0 _ _ _ hst₁ (loop _ rfl))

/-- y = [elt for a, b in iter] -/
theorem pairs_assign {elt iter : PySem.Expr} {a b y : Str} {pa pb tp py : Pos} {kk : Nat} {scope : Scope} {cl : List (Str × Addr)} {pos spos : Pos} {Q : Flow → Shared → Prop} (Fy : Nat → Value → Prop)
    (hh : A.handled = none)
    (hsw : swapsWith (.ListComp elt [⟨.Tuple [.Name a pa, .Name b pb] kk tp, iter, [], 0⟩] scope pos) (some (.Name y py)) spos.line env = pure true)
    (hclos : closureFor scope env = pure cl) (hcell : ∀ z ∈ scope.names, z.2 ≠ .cell) (hkind : scope.kind = .function)
    (hnames : ∀ z ∈ scope.names, z.2 = .local → scope.names.lookup z.1 = some .local) (hxa : scope.names.lookup a = some .local) (hxb : scope.names.lookup b = some .local) (hab : a ≠ b)
    (hy : env.kindOf y = some .local) (hp : (env.scope.kind == .class || (env.scope.kind == .module && env.locals != env.globals)) = false)
    (h : wpAny (model prog w) A (eval iter env) (fun xv s₁ => wpAny (model prog w) A (pyIter xv) (fun it s₂ => ∃ I fp wr n Pt St Mid m, it = .ref I ∧ WalksU prog w A I fp wr n Pt St Mid ∧ n ≤ sizeLine ∧ St 0 s₂.heap ∧ (∀ b ∈ fp, b < s₂.heap.objs.size) ∧
      (∀ i vals, Pt i vals → ∃ va vb, vals = #[va, vb]) ∧ env.locals ∉ wr ∧ s₂.heap.Ns env.locals m ∧
      (∀ C i va vb s₃ m₃ E', s₂.heap.objs.size ≤ C → i < n → Pt i #[va, vb] → s₃.heap.Ns C m₃ → m₃ a = some va → m₃ b = some vb → (∀ b o, b ∉ wr → s₂.heap.get? b = some o → s₃.heap.get? b = some o) →
        wpAny (model prog w) A (eval elt (compEnvC scope cl C env)) (fun y s₄ => Fy i y ∧ Keeps s₃ s₄) E' s₃) ∧
      (∀ D h' tk ys, s₂.heap.objs.size ≤ D → D ≠ env.locals → h'.PlainList D ys → ys.size = n → (∀ i y, ys[i]? = some y → Fy i y) →
        h'.Ns env.locals (fun z => if z = y then some (.ref D) else m z) → (∀ b o, b ≠ env.locals → b ∉ wr → s₂.heap.get? b = some o → h'.get? b = some o) → Q .next { s₂ with heap := h', toks := tk })) E s₁) E s)
    (hs : ∀ x, foldedSetIterable iter env x = pure x) :
    wpAny (model prog w) A (exec (.Assign [.Name y py] (.ListComp elt [⟨.Tuple [.Name a pa, .Name b pb] kk tp, iter, [], 0⟩] scope pos) spos) env) Q E s := by
  rw [exec_Assign_Name_used _ _ _ _ hsw]
  refine wpAny_bind (wpAny_standAt (wpAny_bind ?_))
  show wpAny _ A (do let _ ← comprehension (.ListComp elt [⟨.Tuple [.Name a pa, .Name b pb] kk tp, iter, [], 0⟩] scope pos) scope env _ (newList []) false (eval iter env) (some (assign (.Name y py) env))) _ _ s
  refine wpAny_bind (wpAny_mono (wpAny_comprehension_free (use := some (assign (.Name y py) env)) (Q := fun _ s' => Q .next s') rfl hs hclos hkind hnames
    (wpAny_mono h (fun xv s₁ h₁ => wpAny_mono h₁ (fun it s₂ h₂ => ?_) fun _ _ e => e) fun _ _ e => e)) (fun _ s' hq => wpAny_pure (wpAny_pure hq)) fun _ _ e => e)
  obtain ⟨I, fp, wr, n, Pt, St, Mid, m, rfl, W, hsz, hst, hfp, hPt, hLw, hn, helt, hQ⟩ := h₂
  refine pairs_block (RR := fun acc C => compPost (model prog w) A E (some (assign (.Name y py) env)) (fun _ s' => Q .next s') acc C) W hh hsz Fy hcell hkind hxa hxb hab hPt hst hfp helt ?_
  intro D C h' tk m' ys hD hC hDC hnC hlD hlen hF hk
  have hLC : env.locals ≠ C := by rintro rfl; obtain ⟨o, _, _, ho, _⟩ := hn; rw [hC] at ho; cases ho
  have hLD : env.locals ≠ D := by rintro rfl; exact Nat.lt_irrefl _ (Nat.lt_of_lt_of_le hn.lt hD)
  show wpAny _ A (assign (.Name y py) env (.ref D)) _ _ _
  refine wpAny_assign_Name (wpAny_storeName_local hy (hn.at' fun o e => hk _ o hLw e) (fun h₂ hn₂ hs₂ => ?_) hp)
  refine ⟨m', hnC.sameBut hs₂ (Ne.symm hLC), fun h₃ hs₃ => ?_⟩
  exact hQ D h₃ _ ys hD (Ne.symm hLD) ((hlD.extBut hs₂.extBut (Ne.symm hLD)).extBut hs₃.extBut hDC) hlen hF (hn₂.sameBut hs₃ hLC) fun b o hbL hbf e =>
    hs₃.extBut b o (by rintro rfl; rw [hC] at e; cases e) (hs₂.extBut b o hbL (hk b o hbf e))
end
end Mine

namespace Mine
section
variable {prog : Program} {w : World} {A : Around} {E : Value → Shared → Prop} {s : Shared} {K : Frag} {h₀ : Heap} {L a : Addr} {m mg mb : Str → Option Value} {cn : Str} {cs : Scope} {ccd : Value} {cl : List (Str × Addr)} {p : Program} {loose : List Str} {mean : ExcName → Option Value}
  {news : List (Addr × Obj)}

theorem zip_eval {n1 n2 : Str} {p1 p2 pz pc : Pos} {l1 l2 : Addr} {xs ys : Array Value} {Q : Value → Shared → Prop} (F : Fr h₀ L s.heap m) (X : K.In h₀) (T : TopRead p loose mg mb h₀)
    (e : nsIn K mainGlobals (Str.ofString "zip") = some none) (hk : cs.kind = .function) (hzk : (envX cn cs L a ccd cl).kindOf (Str.ofString "zip") = some .globalImplicit)
    (hk1 : (envX cn cs L a ccd cl).kindOf n1 = some .local) (hk2 : (envX cn cs L a ccd cl).kindOf n2 = some .local) (hd1 : (n1 == ("__debug__" : Str)) = false) (hd2 : (n2 == ("__debug__" : Str)) = false)
    (h1 : m n1 = some (.ref l1)) (h2 : m n2 = some (.ref l2)) (hl1 : s.heap.IsList l1 xs) (hl2 : s.heap.IsList l2 ys)
    (k : ∀ h' z TI TO i1 i2, ZipApart z TI TO i1 i2 l1 l2 →
      (IsZip h' z TI TO .none ∧ IsPair h' TI (.ref i1) (.ref i2) ∧ (∃ a b, IsPair h' TO a b) ∧ h'.IsListIter i1 l1 0 ∧ h'.IsListIter i2 l2 0 ∧ h'.IsList l1 xs ∧ h'.IsList l2 ys) →
      Fr h₀ L h' m → (∀ b o, s.heap.get? b = some o → h'.get? b = some o) → s.heap.objs.size ≤ z → s.heap.objs.size ≤ TO → s.heap.objs.size ≤ i1 → s.heap.objs.size ≤ i2 → (L < z ∧ L < TO ∧ L < i1 ∧ L < i2) → Q (.ref z) { s with heap := h' }) :
    wpAny (model prog w) A (eval (.Call (.Name (Str.ofString "zip") pz) [.Name n1 p1, .Name n2 p2] [] pc) (envX cn cs L a ccd cl)) Q E s := by
  refine Call_ ?_
  refine nameX_B F X T e (v := .type "zip") (by kernel_rfl) (by decide) ?_ hk hzk
  refine Pv.callWith_type1 ?_
  refine spliced_more (nameX_L F h1 ?_ hk hk1 hd1)
  refine spliced_more (nameX_L F h2 ?_ hk hk2 hd2)
  exact spliced_none (zip_rows F hl1 hl2 k)

/-- y = [elt for a, b in zip(n1, n2)] in a function's frame -/
theorem zcomp {elt : PySem.Expr} {x1 x2 y n1 n2 : Str} {pa pb tp py p1 p2 pz pc : Pos} {kk : Nat} {scope : Scope} {cl' : List (Str × Addr)} {pos spos : Pos} {Q : Flow → Shared → Prop} {l1 l2 : Addr} {us1 us2 : List Value}
    (Fy : Value → Value → Value → Prop) (hh : A.handled = none) (F : Fr h₀ L s.heap m) (N : News h₀ L s.heap news) (X : K.In h₀) (T : TopRead p loose mg mb h₀)
    (e : nsIn K mainGlobals (Str.ofString "zip") = some none) (hk : cs.kind = .function)
    (hsw : swapsWith (.ListComp elt [⟨.Tuple [.Name x1 pa, .Name x2 pb] kk tp, .Call (.Name (Str.ofString "zip") pz) [.Name n1 p1, .Name n2 p2] [] pc, [], 0⟩] scope pos) (some (.Name y py)) spos.line (envX cn cs L a ccd cl) = pure true)
    (hclos : closureFor scope (envX cn cs L a ccd cl) = pure cl') (hcell : ∀ z ∈ scope.names, z.2 ≠ .cell) (hkind : scope.kind = .function)
    (hnames : ∀ z ∈ scope.names, z.2 = .local → scope.names.lookup z.1 = some .local) (hxa : scope.names.lookup x1 = some .local) (hxb : scope.names.lookup x2 = some .local) (hab : x1 ≠ x2)
    (hy : (envX cn cs L a ccd cl).kindOf y = some .local) (hzk : (envX cn cs L a ccd cl).kindOf (Str.ofString "zip") = some .globalImplicit)
    (hk1 : (envX cn cs L a ccd cl).kindOf n1 = some .local) (hk2 : (envX cn cs L a ccd cl).kindOf n2 = some .local) (hd1 : (n1 == ("__debug__" : Str)) = false) (hd2 : (n2 == ("__debug__" : Str)) = false)
    (h1 : m n1 = some (.ref l1)) (h2 : m n2 = some (.ref l2)) (hl1 : s.heap.IsList l1 us1.toArray) (hl2 : s.heap.IsList l2 us2.toArray) (hlen : us1.length = us2.length) (hsz : us1.length ≤ sizeLine)
    (helt : ∀ C (i : Nat) va vb s₃ m₃ E', us1[i]? = some va → us2[i]? = some vb → s₃.heap.Ns C m₃ → m₃ x1 = some va → m₃ x2 = some vb → (∀ b o, s.heap.get? b = some o → s₃.heap.get? b = some o) →
      wpAny (model prog w) A (eval elt (compEnvC scope cl' C (envX cn cs L a ccd cl))) (fun y s₄ => Fy va vb y ∧ Keeps s₃ s₄) E' s₃)
    (hQ : ∀ D h' tk (ys : List Value) c, Fr h₀ L h' (fun z => if z = y then some (.ref D) else m z) → News h₀ L h' ((D, listOf ys.toArray c) :: news) → s.heap.objs.size ≤ D → ys.length = us1.length →
      (∀ (i : Nat) va vb y, us1[i]? = some va → us2[i]? = some vb → ys[i]? = some y → Fy va vb y) → Q .next { s with heap := h', toks := tk })
    (hs : ∀ x, foldedSetIterable (.Call (.Name (Str.ofString "zip") pz) [.Name n1 p1, .Name n2 p2] [] pc) (envX cn cs L a ccd cl) x = pure x) :
    wpAny (model prog w) A (exec (.Assign [.Name y py] (.ListComp elt [⟨.Tuple [.Name x1 pa, .Name x2 pb] kk tp, .Call (.Name (Str.ofString "zip") pz) [.Name n1 p1, .Name n2 p2] [] pc, [], 0⟩] scope pos) spos) (envX cn cs L a ccd cl)) Q E s := by
  refine pairs_assign (fun i y => ∀ va vb, us1[i]? = some va → us2[i]? = some vb → Fy va vb y) hh hsw hclos hcell hkind hnames hxa hxb hab hy (by show (cs.kind == .class || (cs.kind == .module && L != mainGlobals)) = false; rw [hk]; rfl) ?_ hs
  refine zip_eval F X T e hk hzk hk1 hk2 hd1 hd2 h1 h2 hl1 hl2 fun h' z TI TO i1 i2 D st F' hkp kz kTO k1 k2 kL => ?_
  have W := (WalksT.zip2 (prog := prog) (w := w) hh z TI TO i1 i2 l1 l2 D us1.toArray us2.toArray).toU
  have lt1 : l1 < s.heap.objs.size := by obtain ⟨_, e, _⟩ := hl1; exact Heap.lt_size e
  have lt2 : l2 < s.heap.objs.size := by obtain ⟨_, e, _⟩ := hl2; exact Heap.lt_size e
  have hwr : ∀ b ∈ [z, TO, i1, i2], s.heap.objs.size ≤ b := by
    intro b hb
    simp only [List.mem_cons, List.not_mem_nil, or_false] at hb
    rcases hb with rfl | rfl | rfl | rfl <;> assumption
  have hold : ∀ b, b < s.heap.objs.size → b ∉ [z, TO, i1, i2] := fun b hb hm => Nat.lt_irrefl _ (Nat.lt_of_lt_of_le hb (hwr b hm))
  have hLlt : L < s.heap.objs.size := F.ns.lt
  refine W.self 0 _ _ _ st ?_
  refine ⟨z, _, _, _, _, _, _, m, rfl, W, by simp only [List.size_toArray]; omega, st, ?_, ?_, hold L hLlt, F'.ns, ?_, ?_⟩
  · obtain ⟨hz, hTI, ⟨ta, tb, hTO⟩, ⟨o1, e1, _⟩, ⟨o2, e2, _⟩, ⟨o3, e3, _⟩, ⟨o4, e4, _⟩⟩ := st
    intro b hb
    simp only [List.mem_cons, List.not_mem_nil, or_false] at hb
    rcases hb with rfl | rfl | rfl | rfl | rfl | rfl | rfl <;> first | exact Heap.lt_size hz | exact Heap.lt_size hTI | exact Heap.lt_size hTO | exact Heap.lt_size e1 | exact Heap.lt_size e2 | exact Heap.lt_size e3 | exact Heap.lt_size e4
  · rintro i vals ⟨x, y, _, _, rfl⟩
    exact ⟨x, y, rfl⟩
  · rintro C i va vb s₃ m₃ E' hC hi ⟨x, y, hx, hy', e'⟩ hn ha hb hk3
    obtain ⟨e1, e2⟩ : va = x ∧ vb = y := by simpa using congrArg Array.toList e'
    subst e1 e2
    refine wpAny_mono (helt C i va vb s₃ m₃ E' (by simpa using hx) (by simpa using hy') hn ha hb fun b o eb => hk3 b o (hold b (Heap.lt_size eb)) (hkp b o eb)) (fun y' s₄ h₄ => ⟨fun va' vb' q1 q2 => ?_, h₄.2⟩) fun _ _ e => e
    have q1' : us1[i]? = some va := by simpa using hx
    have q2' : us2[i]? = some vb := by simpa using hy'
    rw [q1'] at q1
    rw [q2'] at q2
    cases q1
    cases q2
    exact h₄.1
  · intro Dd h'' tk ys hDs hDL hpl hys hF hns hkeep
    obtain ⟨c, hc⟩ := hpl
    have hsz' : s.heap.objs.size ≤ h'.objs.size := Nat.le_trans kz (Nat.le_of_lt (Heap.lt_size st.1))
    have hDs' : s.heap.objs.size ≤ Dd := Nat.le_trans hsz' hDs
    have old : ∀ b o, b ≠ L → s.heap.get? b = some o → h''.get? b = some o := fun b o hb eb => hkeep b o hb (hold b (Heap.lt_size eb)) (hkp b o eb)
    have nolow : ∀ b, h₀.objs.size ≤ b → h₀.get? b = none := fun b hb => fresh_none hb
    refine hQ Dd h'' tk ys.toList c ⟨hns, fun b o eb => old b o (fun q => ?_) (F.keep b o eb), F.above⟩ (fun q hq => ?_) hDs' ?_ ?_
    · rw [q, nolow L F.above] at eb; cases eb
    · rcases List.mem_cons.mp hq with rfl | hq
      · exact ⟨by simpa using hc, hDL, nolow _ (Nat.le_trans F.above (Nat.le_trans (Nat.le_of_lt hLlt) hDs'))⟩
      · have z := N q hq
        exact ⟨old _ _ z.2.1 z.1, z.2⟩
    · simp only [Array.length_toList, hys, List.size_toArray]; omega
    · intro i va vb y q1 q2 q3
      exact hF i y (by simpa using q3) va vb q1 q2
end
end Mine

namespace Mine

theorem typeCall_zip3 (a b c : Value) : checkTypeCall "zip" ⟨[a, b, c], []⟩ = pure () := by kernel_rfl
theorem newCall_zip3 (a b c : Value) : checkBuiltinCall "zip.__new__" ⟨[.type "zip", a, b, c], []⟩ = pure () := by kernel_rfl
theorem args_object_init4 (a b c d : Value) : argsOk "object.__init__" ⟨[a, b, c, d], []⟩ := by
  unfold argsOk; rw [signature?_of (id := "object.__init__") (n := ['_', '_', 't', 'i', 'n', 'i', '_', '_']) (o := ['t', 'c', 'e', 'j', 'b', 'o']) (by kernel_rfl) F.owner_object]; kernel_rfl

abbrev tup3 (a b c : Value) : Obj := { cls := .type "tuple", data := .seq #[a, b, c] }
abbrev zipObj (f0 : Value) (TI TO : Addr) : Obj := { cls := .type "zip", dict := none, data := .fields #[f0, .bool false, .bool false, .ref TI, .ref TO], slots := #[] }

/-- a zip over three lists, its parts laid from n on -/
structure Z3 (n l1 l2 l3 : Nat) (xs ys zs : Array Value) (k1 k2 k3 : Nat) (f0 : Value) (h : Heap) : Prop where
  z : h.get? (n + 5) = some (zipObj f0 (n + 3) (n + 4))
  ti : h.get? (n + 3) = some (tup3 (.ref n) (.ref (n + 1)) (.ref (n + 2)))
  i1 : h.IsListIter n l1 k1
  i2 : h.IsListIter (n + 1) l2 k2
  i3 : h.IsListIter (n + 2) l3 k3
  a1 : h.IsList l1 xs
  a2 : h.IsList l2 ys
  a3 : h.IsList l3 zs

structure Z3Low (n l1 l2 l3 : Nat) : Prop where
  b1 : l1 < n
  b2 : l2 < n
  b3 : l3 < n

theorem ne_of {a b : Nat} (h : a < b ∨ b < a) : a ≠ b := h.elim Nat.ne_of_lt fun x => Nat.ne_of_gt x

section
variable {prog : Program} {w : World} {A : Around} {E : Value → Shared → Prop} {s : Shared} {n l1 l2 l3 : Nat} {xs ys zs : Array Value} {k1 k2 k3 : Nat} {f0 : Value}

theorem Z3.keep {h h' : Heap} (x : Z3 n l1 l2 l3 xs ys zs k1 k2 k3 f0 h) (hk : ∀ b o, h.get? b = some o → h'.get? b = some o) : Z3 n l1 l2 l3 xs ys zs k1 k2 k3 f0 h' :=
  ⟨hk _ _ x.z, hk _ _ x.ti, x.i1.at fun o e => hk _ o e, x.i2.at fun o e => hk _ o e, x.i3.at fun o e => hk _ o e, x.a1.at fun o e => hk _ o e, x.a2.at fun o e => hk _ o e, x.a3.at fun o e => hk _ o e⟩

theorem Z3.ext {h h' : Heap} {a : Nat} (x : Z3 n l1 l2 l3 xs ys zs k1 k2 k3 f0 h) (B : Z3Low n l1 l2 l3) (hs : Heap.ExtBut a h h') (ha : n + 5 < a ∨ a = n + 4) : Z3 n l1 l2 l3 xs ys zs k1 k2 k3 f0 h' := by
  obtain ⟨b1, b2, b3⟩ := B
  have ne : ∀ b : Nat, b ≤ n + 5 → b ≠ n + 4 → b ≠ a := fun b h1 h2 => by rcases ha with ha | ha <;> omega
  exact ⟨hs _ _ (ne _ (by omega) (by omega)) x.z, hs _ _ (ne _ (by omega) (by omega)) x.ti, x.i1.extBut hs (ne _ (by omega) (by omega)), x.i2.extBut hs (ne _ (by omega) (by omega)), x.i3.extBut hs (ne _ (by omega) (by omega)),
    x.a1.extBut hs (ne _ (by omega) (by omega)), x.a2.extBut hs (ne _ (by omega) (by omega)), x.a3.extBut hs (ne _ (by omega) (by omega))⟩

/-- the record's own field is written -/
theorem Z3.put {h h' : Heap} {f1 : Value} (x : Z3 n l1 l2 l3 xs ys zs k1 k2 k3 f0 h) (B : Z3Low n l1 l2 l3) (hs : Heap.SameBut (n + 5) h h') (hz : h'.get? (n + 5) = some (zipObj f1 (n + 3) (n + 4))) : Z3 n l1 l2 l3 xs ys zs k1 k2 k3 f1 h' := by
  obtain ⟨b1, b2, b3⟩ := B
  have ne : ∀ b : Nat, b < n + 5 → b ≠ n + 5 := fun b h1 => by omega
  exact ⟨hz, hs.extBut _ _ (ne _ (by omega)) x.ti, x.i1.extBut hs.extBut (ne _ (by omega)), x.i2.extBut hs.extBut (ne _ (by omega)), x.i3.extBut hs.extBut (ne _ (by omega)),
    x.a1.extBut hs.extBut (ne _ (by omega)), x.a2.extBut hs.extBut (ne _ (by omega)), x.a3.extBut hs.extBut (ne _ (by omega))⟩
theorem Z3.step1 {h h' : Heap} {k1' : Nat} (x : Z3 n l1 l2 l3 xs ys zs k1 k2 k3 f0 h) (B : Z3Low n l1 l2 l3) (hs : Heap.ExtBut n h h') (hi : h'.IsListIter n l1 k1') : Z3 n l1 l2 l3 xs ys zs k1' k2 k3 f0 h' := by
  obtain ⟨b1, b2, b3⟩ := B
  have ne : ∀ b : Nat, b < n ∨ n < b → b ≠ n := fun b h1 => by omega
  exact ⟨hs _ _ (ne _ (by omega)) x.z, hs _ _ (ne _ (by omega)) x.ti, hi, x.i2.extBut hs (ne _ (by omega)), x.i3.extBut hs (ne _ (by omega)),
    x.a1.extBut hs (ne _ (by omega)), x.a2.extBut hs (ne _ (by omega)), x.a3.extBut hs (ne _ (by omega))⟩
theorem Z3.step2 {h h' : Heap} {k2' : Nat} (x : Z3 n l1 l2 l3 xs ys zs k1 k2 k3 f0 h) (B : Z3Low n l1 l2 l3) (hs : Heap.ExtBut (n + 1) h h') (hi : h'.IsListIter (n + 1) l2 k2') : Z3 n l1 l2 l3 xs ys zs k1 k2' k3 f0 h' := by
  obtain ⟨b1, b2, b3⟩ := B
  have ne : ∀ b : Nat, b < n + 1 ∨ n + 1 < b → b ≠ n + 1 := fun b h1 => by omega
  exact ⟨hs _ _ (ne _ (by omega)) x.z, hs _ _ (ne _ (by omega)) x.ti, x.i1.extBut hs (ne _ (by omega)), hi, x.i3.extBut hs (ne _ (by omega)),
    x.a1.extBut hs (ne _ (by omega)), x.a2.extBut hs (ne _ (by omega)), x.a3.extBut hs (ne _ (by omega))⟩
theorem Z3.step3 {h h' : Heap} {k3' : Nat} (x : Z3 n l1 l2 l3 xs ys zs k1 k2 k3 f0 h) (B : Z3Low n l1 l2 l3) (hs : Heap.ExtBut (n + 2) h h') (hi : h'.IsListIter (n + 2) l3 k3') : Z3 n l1 l2 l3 xs ys zs k1 k2 k3' f0 h' := by
  obtain ⟨b1, b2, b3⟩ := B
  have ne : ∀ b : Nat, b < n + 2 ∨ n + 2 < b → b ≠ n + 2 := fun b h1 => by omega
  exact ⟨hs _ _ (ne _ (by omega)) x.z, hs _ _ (ne _ (by omega)) x.ti, x.i1.extBut hs (ne _ (by omega)), x.i2.extBut hs (ne _ (by omega)), hi,
    x.a1.extBut hs (ne _ (by omega)), x.a2.extBut hs (ne _ (by omega)), x.a3.extBut hs (ne _ (by omega))⟩

theorem put3 {T : Addr} {a b c x : Value} {k : Nat} {Q : Unit → Shared → Prop} (hT : s.heap.get? T = some (tup3 a b c))
    (h : ∀ h', h'.get? T = some { cls := .type "tuple", data := .seq ((#[a, b, c] : Array Value).setIfInBounds k x) } → Heap.SameBut T s.heap h' → Q () { s with heap := h' }) :
    wpAny (model prog w) A (updateSeq T (·.setIfInBounds k x)) Q E s := by
  refine wpAny_updateSeq hT rfl (h _ ?_ (Heap.SameBut.update ..))
  rw [Heap.get?_update_self _ hT rfl]
  simp [Obj.mapSeq]

theorem zip3_item {x y v : Value} {a b c : Value} {Q : Value → Shared → Prop} (B : Z3Low n l1 l2 l3) (st : Z3 n l1 l2 l3 xs ys zs k1 k2 k3 .none s.heap) (hTO : s.heap.get? (n + 4) = some (tup3 a b c))
    (hx : xs[k1]? = some x) (hy : ys[k2]? = some y) (hv : zs[k3]? = some v)
    (hQ : ∀ h', Z3 n l1 l2 l3 xs ys zs (k1 + 1) (k2 + 1) (k3 + 1) (rawInt s.heap.objs.size) h' → h'.get? (n + 4) = some (tup3 x y v) → h'.get? s.heap.objs.size = some (tup3 x y v) →
      (∀ c o, c ≠ n → c ≠ n + 1 → c ≠ n + 2 → c ≠ n + 4 → c ≠ n + 5 → s.heap.get? c = some o → h'.get? c = some o) → Q (.ref s.heap.objs.size) { s with heap := h' }) :
    wpAny (model prog w) A (Builtin.«zip.__next__» ⟨[.ref (n + 5)], []⟩) (fun fin s' => ∃ v, fin = .done (.ret v) ∧ Q v s') E s := by
  show wpAny _ _ (field (.ref (n + 5)) 2 >>= _) _ _ _
  refine wpAny_bind (wpAny_field st.z rfl (x := .bool false) rfl ?_)
  show wpAny _ _ (field (.ref (n + 5)) 3 >>= _) _ _ _
  refine wpAny_bind (wpAny_field st.z rfl (x := .ref (n + 3)) rfl ?_)
  refine wpAny_bind (wpAny_seqItems st.ti rfl ?_)
  show wpAny _ _ (Builtin.SmallTypes.ownedTupleIsFree (.ref (n + 5)) >>= _) _ _ _
  refine wpAny_bind ?_
  unfold Builtin.SmallTypes.ownedTupleIsFree
  refine wpAny_bind (wpAny_field st.z rfl (x := .none) rfl (wpAny_pure ?_))
  simp only [if_true]
  refine wpAny_bind (wpAny_rule ?_)
  refine wpAny_bind (wpAny_field st.z rfl (x := .ref (n + 4)) rfl ?_)
  refine wpAny_bind (wpAny_setField_rec st.z (by simp) fun h₁ hz₁ hs₁ => ?_)
  have st₁ : Z3 n l1 l2 l3 xs ys zs k1 k2 k3 .ellipsis h₁ := st.put B hs₁ hz₁
  have hTO₁ : h₁.get? (n + 4) = some (tup3 a b c) := hs₁.extBut _ _ (ne_of (by omega)) hTO
  refine wpAny_bind ?_
  simp only [List.zipIdx_cons, List.zipIdx_nil, List.forIn_cons, List.forIn_nil]
  refine wpAny_bind (wpAny_bind (wpAny_onRaise ?_))
  show wpAny _ _ (Builtin.SmallTypes.nextOf (.ref n) >>= _) _ _ _
  refine wpAny_bind (wpAny_nextOf_list_item st₁.i1 st₁.a1 hx fun h₂ hi₂ hs₂ => wpAny_pure ?_)
  have st₂ := st₁.step1 B hs₂.extBut hi₂
  have hTO₂ : h₂.get? (n + 4) = some (tup3 a b c) := hs₂.extBut _ _ (ne_of (by omega)) hTO₁
  refine wpAny_bind (wpAny_seqItems hTO₂ rfl ?_)
  refine wpAny_bind (put3 hTO₂ fun h₃ hTO₃ hs₃ => ?_)
  replace hTO₃ : h₃.get? (n + 4) = some (tup3 x b c) := hTO₃
  have st₃ := st₂.ext B hs₃.extBut (.inr rfl)
  refine wpAny_bind (wpAny_letGo (wpAny_pure ?_))
  refine wpAny_bind (wpAny_bind (wpAny_onRaise ?_))
  show wpAny _ _ (Builtin.SmallTypes.nextOf (.ref (n + 1)) >>= _) _ _ _
  refine wpAny_bind (wpAny_nextOf_list_item st₃.i2 st₃.a2 hy fun h₄ hi₄ hs₄ => wpAny_pure ?_)
  have st₄ := st₃.step2 B hs₄.extBut hi₄
  have hTO₄ : h₄.get? (n + 4) = some (tup3 x b c) := hs₄.extBut _ _ (ne_of (by omega)) hTO₃
  refine wpAny_bind (wpAny_seqItems hTO₄ rfl ?_)
  refine wpAny_bind (put3 hTO₄ fun h₅ hTO₅ hs₅ => ?_)
  replace hTO₅ : h₅.get? (n + 4) = some (tup3 x y c) := hTO₅
  have st₅ := st₄.ext B hs₅.extBut (.inr rfl)
  refine wpAny_bind (wpAny_letGo (wpAny_pure ?_))
  refine wpAny_bind (wpAny_bind (wpAny_onRaise ?_))
  show wpAny _ _ (Builtin.SmallTypes.nextOf (.ref (n + 2)) >>= _) _ _ _
  refine wpAny_bind (wpAny_nextOf_list_item st₅.i3 st₅.a3 hv fun h₆ hi₆ hs₆ => wpAny_pure ?_)
  have st₆ := st₅.step3 B hs₆.extBut hi₆
  have hTO₆ : h₆.get? (n + 4) = some (tup3 x y c) := hs₆.extBut _ _ (ne_of (by omega)) hTO₅
  refine wpAny_bind (wpAny_seqItems hTO₆ rfl ?_)
  refine wpAny_bind (put3 hTO₆ fun h₇ hTO₇ hs₇ => ?_)
  replace hTO₇ : h₇.get? (n + 4) = some (tup3 x y v) := hTO₇
  have st₇ := st₆.ext B hs₇.extBut (.inr rfl)
  refine wpAny_bind (wpAny_letGo (wpAny_pure (wpAny_pure ?_)))
  refine wpAny_bind (wpAny_seqItems hTO₇ rfl ?_)
  refine wpAny_bind (wpAny_newTuple ?_)
  have hsz : h₇.objs.size = s.heap.objs.size := by rw [hs₇.1, hs₆.1, hs₅.1, hs₄.1, hs₃.1, hs₂.1, hs₁.1]
  have hzlt : n + 5 < h₇.objs.size := Heap.lt_size st₇.z
  show wpAny _ _ (Builtin.SmallTypes.ownedTupleHandOut (.ref (n + 5)) (.ref h₇.objs.size) >>= _) _ _ _
  refine wpAny_bind ?_
  unfold Builtin.SmallTypes.ownedTupleHandOut
  have st₈ : Z3 n l1 l2 l3 xs ys zs (k1 + 1) (k2 + 1) (k3 + 1) .ellipsis (h₇.push (tup3 x y v)) := st₇.keep fun _ _ e => Heap.get?_push_of_some _ e
  refine wpAny_bind (wpAny_setField_rec st₈.z (by simp) fun h₉ hz₉ hs₉ => ?_)
  have st₉ : Z3 n l1 l2 l3 xs ys zs (k1 + 1) (k2 + 1) (k3 + 1) (rawInt h₇.objs.size) h₉ := st₈.put B hs₉ hz₉
  refine wpAny_setField_rec st₉.z (by simp) fun h' hz' hs' => ?_
  have st' : Z3 n l1 l2 l3 xs ys zs (k1 + 1) (k2 + 1) (k3 + 1) (rawInt h₇.objs.size) h' := st₉.put B hs' hz'
  have up : ∀ c o, c ≠ n + 5 → h₇.get? c = some o → h'.get? c = some o := fun c o hc e => hs'.extBut _ _ hc (hs₉.extBut _ _ hc (Heap.get?_push_of_some _ e))
  have hT' : h'.get? h₇.objs.size = some (tup3 x y v) := hs'.extBut _ _ (Nat.ne_of_gt hzlt) (hs₉.extBut _ _ (Nat.ne_of_gt hzlt) (Heap.get?_push_size _ rfl))
  rw [hsz] at st' hT'
  refine wpAny_pure ⟨_, rfl, ?_⟩
  show Q (.ref h₇.objs.size) _
  rw [hsz]
  exact hQ h' st' (up _ _ (ne_of (by omega)) hTO₇) hT' fun c o c1 c2 c3 c4 c5 e => up c o c5 (hs₇.extBut _ _ c4 (hs₆.extBut _ _ c3 (hs₅.extBut _ _ c4 (hs₄.extBut _ _ c2 (hs₃.extBut _ _ c4 (hs₂.extBut _ _ c1 (hs₁.extBut _ _ c5 e)))))))

theorem zip3_end {Q : Fin → Shared → Prop} (hh : A.handled = none) (B : Z3Low n l1 l2 l3) (st : Z3 n l1 l2 l3 xs ys zs k1 k2 k3 .none s.heap) (hend : xs[k1]? = none) {a b c : Value} (hTO : s.heap.get? (n + 4) = some (tup3 a b c))
    (hE : ∀ h' e, (∀ c o, c ≠ n → c ≠ n + 1 → c ≠ n + 2 → c ≠ n + 4 → c ≠ n + 5 → s.heap.get? c = some o → h'.get? c = some o) → (∃ o, h'.get? e = some o ∧ o.cls = .type "StopIteration") → E (.ref e) { s with heap := h' }) :
    wpAny (model prog w) A (Builtin.«zip.__next__» ⟨[.ref (n + 5)], []⟩) Q E s := by
  show wpAny _ _ (field (.ref (n + 5)) 2 >>= _) _ _ _
  refine wpAny_bind (wpAny_field st.z rfl (x := .bool false) rfl ?_)
  show wpAny _ _ (field (.ref (n + 5)) 3 >>= _) _ _ _
  refine wpAny_bind (wpAny_field st.z rfl (x := .ref (n + 3)) rfl ?_)
  refine wpAny_bind (wpAny_seqItems st.ti rfl ?_)
  show wpAny _ _ (Builtin.SmallTypes.ownedTupleIsFree (.ref (n + 5)) >>= _) _ _ _
  refine wpAny_bind ?_
  unfold Builtin.SmallTypes.ownedTupleIsFree
  refine wpAny_bind (wpAny_field st.z rfl (x := .none) rfl (wpAny_pure ?_))
  simp only [if_true]
  refine wpAny_bind (wpAny_rule ?_)
  refine wpAny_bind (wpAny_field st.z rfl (x := .ref (n + 4)) rfl ?_)
  refine wpAny_bind (wpAny_setField_rec st.z (by simp) fun h₁ hz₁ hs₁ => ?_)
  have st₁ : Z3 n l1 l2 l3 xs ys zs k1 k2 k3 .ellipsis h₁ := st.put B hs₁ hz₁
  refine wpAny_bind ?_
  simp only [List.zipIdx_cons, List.zipIdx_nil, List.forIn_cons, List.forIn_nil]
  refine wpAny_bind (wpAny_bind (wpAny_onRaise ?_))
  show wpAny _ _ (Builtin.SmallTypes.nextOf (.ref n) >>= _) _ _ _
  refine wpAny_bind (wpAny_nextOf_list_end hh st₁.i1 st₁.a1 hend fun h₂ e hs₂ he => ?_)
  obtain ⟨oe, hoe, hce⟩ := he
  have hz₂ := hs₂ _ _ (ne_of (by omega)) st₁.z
  have hez : e ≠ n + 5 := fun x => by subst x; rw [hz₂] at hoe; cases hoe; simp at hce
  refine wpAny_setField_rec hz₂ (by simp) fun h₃ _ hs₃ => hE h₃ e (fun c o c1 _ _ _ c5 x => hs₃.extBut _ _ c5 (hs₂ _ _ c1 (hs₁.extBut _ _ c5 x))) ⟨oe, hs₃.extBut _ _ hez hoe, hce⟩

theorem next_zip3_item {x y v : Value} {a b c : Value} {Q : Option Value → Shared → Prop} (B : Z3Low n l1 l2 l3) (st : Z3 n l1 l2 l3 xs ys zs k1 k2 k3 .none s.heap) (hTO : s.heap.get? (n + 4) = some (tup3 a b c))
    (hx : xs[k1]? = some x) (hy : ys[k2]? = some y) (hv : zs[k3]? = some v)
    (hQ : ∀ h', Z3 n l1 l2 l3 xs ys zs (k1 + 1) (k2 + 1) (k3 + 1) (rawInt s.heap.objs.size) h' → h'.get? (n + 4) = some (tup3 x y v) → h'.get? s.heap.objs.size = some (tup3 x y v) →
      (∀ c o, c ≠ n → c ≠ n + 1 → c ≠ n + 2 → c ≠ n + 4 → c ≠ n + 5 → s.heap.get? c = some o → h'.get? c = some o) → Q (some (.ref s.heap.objs.size)) { s with heap := h' }) :
    wpAny (model prog w) A (pyNext (.ref (n + 5))) Q E s := by
  have hT : s.TypeIs (.ref (n + 5)) "zip" := ⟨_, st.z, rfl⟩
  unfold pyNext
  exact wpAny_bind (wpAny_attempt (wpAny_callSpecial?_slot (name := Str.ofString "__next__") hT F.slot_zip_next
    (wpAny_call_entry F.slot_zip_next hT F.entry_zip_next
      (zip3_item B st hTO hx hy hv fun h' a1 a2 a3 a4 => wpAny_pure (hQ h' a1 a2 a3 a4)) (F.args_zip_next_1 _))))

theorem next_zip3_end {Q : Option Value → Shared → Prop} (hh : A.handled = none) (B : Z3Low n l1 l2 l3) (st : Z3 n l1 l2 l3 xs ys zs k1 k2 k3 .none s.heap) (hend : xs[k1]? = none) {a b c : Value} (hTO : s.heap.get? (n + 4) = some (tup3 a b c))
    (hQ : ∀ h', (∀ c o, c ≠ n → c ≠ n + 1 → c ≠ n + 2 → c ≠ n + 4 → c ≠ n + 5 → s.heap.get? c = some o → h'.get? c = some o) → Q none { s with heap := h' }) : wpAny (model prog w) A (pyNext (.ref (n + 5))) Q E s := by
  have hT : s.TypeIs (.ref (n + 5)) "zip" := ⟨_, st.z, rfl⟩
  unfold pyNext
  refine wpAny_bind (wpAny_attempt (wpAny_callSpecial?_slot (name := Str.ofString "__next__") hT F.slot_zip_next
    (wpAny_call_entry F.slot_zip_next hT F.entry_zip_next (zip3_end hh B st hend hTO fun h' e hk he => ?_) (F.args_zip_next_1 _))))
  obtain ⟨o, ho, hc⟩ := he
  refine wpAny_bind (wpAny_isInstance (T := "StopIteration") (b := true) ⟨o, ho, hc⟩ isSubtype_stop ?_)
  exact wpAny_pure (hQ _ hk)

theorem letGo_zip3 {elts : List PySem.Expr} {x1} {pos : Pos} {T : Addr} {Q : Unit → Shared → Prop} (B : Z3Low n l1 l2 l3) (st : Z3 n l1 l2 l3 xs ys zs k1 k2 k3 (rawInt T) s.heap)
    (hQ : ∀ h', Z3 n l1 l2 l3 xs ys zs k1 k2 k3 .none h' → Heap.SameBut (n + 5) s.heap h' → Q () { s with heap := h' }) :
    wpAny (model prog w) A (letOwnedTupleGo (.Tuple elts x1 pos) (.ref (n + 5)) (.ref T)) Q E s := by
  unfold letOwnedTupleGo
  refine wpAny_bind (wpAny_load st.z ?_)
  show wpAny _ _ (if (["enumerate", "zip", "dict_itemiterator", "dict_reverseitemiterator", "odict_iterator", "itertools.zip_longest", "itertools.pairwise"].contains "zip" &&
      (#[rawInt T, .bool false, .bool false, .ref (n + 3), .ref (n + 4)] : Array Value)[0]? == some (rawInt T)) = true then _ else _) Q E s
  rw [if_pos (by simp)]
  refine wpAny_bind (wpAny_rule ?_)
  show wpAny _ _ (setField (.ref (n + 5)) 0 .none) Q E s
  exact wpAny_setField_rec st.z (by simp) fun h' hz' hs' => hQ h' (st.put B hs' hz') hs'

theorem iter_zip3 {Q : Value → Shared → Prop} (st : Z3 n l1 l2 l3 xs ys zs k1 k2 k3 f0 s.heap) (h : Q (.ref (n + 5)) s) : wpAny (model prog w) A (pyIter (.ref (n + 5))) Q E s := by
  have hT : s.TypeIs (.ref (n + 5)) "zip" := ⟨_, st.z, rfl⟩
  refine wpAny_pyIter_slot hT F.slot_zip_iter (wpAny_call_entry F.slot_zip_iter hT F.entry_zip_iter ?_ (F.args_zip_iter_1 _))
  show wpAny _ _ (ret (.ref (n + 5))) _ _ s
  exact wpAny_pure ⟨_, rfl, "zip", _, hT, F.slot_zip_next.lookup, h⟩
end
end Mine

namespace Mine
abbrev itObj (l : Addr) : Obj := { cls := .type "list_iterator", data := .fields #[.ref l, .int 0 0] }
abbrev z3H1 (h : Heap) (l1 : Addr) : Heap := h.push (itObj l1)
abbrev z3H2 (h : Heap) (l1 l2 : Addr) : Heap := (z3H1 h l1).push (itObj l2)
abbrev z3H3 (h : Heap) (l1 l2 l3 : Addr) : Heap := (z3H2 h l1 l2).push (itObj l3)
abbrev z3H4 (h : Heap) (l1 l2 l3 : Addr) : Heap := (z3H3 h l1 l2 l3).push (tup3 (.ref h.objs.size) (.ref (z3H1 h l1).objs.size) (.ref (z3H2 h l1 l2).objs.size))
abbrev z3H5 (h : Heap) (l1 l2 l3 : Addr) : Heap := (z3H4 h l1 l2 l3).push (tup3 .none .none .none)
abbrev z3H6 (h : Heap) (l1 l2 l3 : Addr) : Heap := (z3H5 h l1 l2 l3).push (zipObj .none (z3H3 h l1 l2 l3).objs.size (z3H4 h l1 l2 l3).objs.size)

set_option maxHeartbeats 4000000 in
theorem meets_zip3_new (l1 l2 l3 : Addr) (xs ys zs : Array Value) :
    Meets (Builtin.«zip.__new__» ⟨[.type "zip", .ref l1, .ref l2, .ref l3], []⟩) (fun _ R s => s.heap.IsList l1 xs ∧ s.heap.IsList l2 ys ∧ s.heap.IsList l3 zs ∧
      R (.ok (.ret (.ref (z3H5 s.heap l1 l2 l3).objs.size))) { s with heap := z3H6 s.heap l1 l2 l3 }) :=
  .of_wp fun prog w A R s h => by
    obtain ⟨hp, g, d, tk, os⟩ := s; obtain ⟨hl1, hl2, hl3, h⟩ := h
    have hsub := sub_zip
    have hL1 : Heap.IsList (Shared.heap ⟨hp, g, d, tk, os⟩) l1 xs := hl1
    have hL2 : Heap.IsList (Shared.heap ⟨hp.push { cls := .type "list_iterator", data := .fields #[.ref l1, .int 0 0] }, g, d, tk, os⟩) l2 ys := Heap.IsList.push hl2 _
    have hL3 : Heap.IsList (Shared.heap ⟨(hp.push { cls := .type "list_iterator", data := .fields #[.ref l1, .int 0 0] }).push { cls := .type "list_iterator", data := .fields #[.ref l2, .int 0 0] }, g, d, tk, os⟩) l3 zs := Heap.IsList.push (Heap.IsList.push hl3 _) _
    wp_walk using wpAny_pyIter_list hL1, wpAny_pyIter_list hL2, wpAny_pyIter_list hL3
    exact ⟨_, rfl, h⟩

section
variable {prog : Program} {w : World} {A : Around} {E : Value → Shared → Prop} {s : Shared}
theorem call_zip3 {l1 l2 l3 : Addr} {xs ys zs : Array Value} {Q : Value → Shared → Prop} (hl1 : s.heap.IsList l1 xs) (hl2 : s.heap.IsList l2 ys) (hl3 : s.heap.IsList l3 zs)
    (h : ∀ h', Z3Low s.heap.objs.size l1 l2 l3 → Z3 s.heap.objs.size l1 l2 l3 xs ys zs 0 0 0 .none h' → h'.get? (s.heap.objs.size + 4) = some (tup3 .none .none .none) →
      (∀ c o, s.heap.get? c = some o → h'.get? c = some o) → Q (.ref (s.heap.objs.size + 5)) { s with heap := h' }) :
    wpAny (model prog w) A (call (.type "zip") [.ref l1, .ref l2, .ref l3]) Q E s := by
  refine callType_new F.called_zip (by decide) (typeCall_zip3 _ _ _) (newCall_zip3 _ _ _) (fun obj => args_object_init4 obj _ _ _) F.entry_zip_new
    (meets_zip3_new l1 l2 l3 xs ys zs) ⟨hl1, hl2, hl3, ?_⟩
  have z1 : (z3H1 s.heap l1).objs.size = s.heap.objs.size + 1 := Heap.size_push ..
  have z2 : (z3H2 s.heap l1 l2).objs.size = s.heap.objs.size + 2 := by rw [Heap.size_push, z1]
  have z3 : (z3H3 s.heap l1 l2 l3).objs.size = s.heap.objs.size + 3 := by rw [Heap.size_push, z2]
  have z4 : (z3H4 s.heap l1 l2 l3).objs.size = s.heap.objs.size + 4 := by rw [Heap.size_push, z3]
  have z5 : (z3H5 s.heap l1 l2 l3).objs.size = s.heap.objs.size + 5 := by rw [Heap.size_push, z4]
  have g6 : (z3H6 s.heap l1 l2 l3).get? (z3H5 s.heap l1 l2 l3).objs.size = some _ := Heap.get?_push_size _ rfl
  have g5 : (z3H6 s.heap l1 l2 l3).get? (z3H4 s.heap l1 l2 l3).objs.size = some _ := Heap.get?_push_of_some _ (Heap.get?_push_size _ rfl)
  have g4 : (z3H6 s.heap l1 l2 l3).get? (z3H3 s.heap l1 l2 l3).objs.size = some _ := Heap.get?_push_of_some _ (Heap.get?_push_of_some _ (Heap.get?_push_size _ rfl))
  have g3 : (z3H6 s.heap l1 l2 l3).get? (z3H2 s.heap l1 l2).objs.size = some _ := Heap.get?_push_of_some _ (Heap.get?_push_of_some _ (Heap.get?_push_of_some _ (Heap.get?_push_size _ rfl)))
  have g2 : (z3H6 s.heap l1 l2 l3).get? (z3H1 s.heap l1).objs.size = some _ := Heap.get?_push_of_some _ (Heap.get?_push_of_some _ (Heap.get?_push_of_some _ (Heap.get?_push_of_some _ (Heap.get?_push_size _ rfl))))
  have g1 : (z3H6 s.heap l1 l2 l3).get? s.heap.objs.size = some _ := Heap.get?_push_of_some _ (Heap.get?_push_of_some _ (Heap.get?_push_of_some _ (Heap.get?_push_of_some _ (Heap.get?_push_of_some _ (Heap.get?_push_size _ rfl)))))
  have up : ∀ c o, s.heap.get? c = some o → (z3H6 s.heap l1 l2 l3).get? c = some o := fun c o x =>
    Heap.get?_push_of_some _ (Heap.get?_push_of_some _ (Heap.get?_push_of_some _ (Heap.get?_push_of_some _ (Heap.get?_push_of_some _ (Heap.get?_push_of_some _ x)))))
  show _ ∧ _
  rw [z3, z4, z5] at g6
  rw [z1, z2, z3] at g4
  rw [z4] at g5
  rw [z2] at g3
  rw [z1] at g2
  rw [z5]
  refine ⟨⟨_, g6, rfl⟩, h _ ⟨?_, ?_, ?_⟩ ⟨g6, g4, ⟨_, g1, rfl, rfl⟩, ⟨_, g2, rfl, rfl⟩, ⟨_, g3, rfl, rfl⟩, hl1.at fun o e => up _ o e, hl2.at fun o e => up _ o e, hl3.at fun o e => up _ o e⟩ g5 up⟩
  · obtain ⟨_, e, _⟩ := hl1; exact Heap.lt_size e
  · obtain ⟨_, e, _⟩ := hl2; exact Heap.lt_size e
  · obtain ⟨_, e, _⟩ := hl3; exact Heap.lt_size e
end
end Mine

namespace Mine
theorem slot_mdget : Slot "method_descriptor" "__get__" "method_descriptor.__get__" :=
  .of (owner := "method_descriptor") (n := "__get__") (by rw [typeLookup_type, builtinLookup_eq_fast]; kernel_rfl) (by decide +kernel) (by decide +kernel) (by decide +kernel)
    (by first | exact .inl (by decide +kernel) | exact .inr (by decide +kernel)) (by rw [isSubtype_type]; kernel_rfl)
theorem entry_mdget : entryFor table "method_descriptor.__get__" = some Builtin.«method_descriptor.__get__» := entryFor_of_tree (by kernel_rfl)
theorem args_mdget (a b c : Value) : argsOk "method_descriptor.__get__" ⟨[a, b, c], []⟩ := by unfold argsOk; kernel_rfl
theorem type_append : typeOf (.builtin "list.append") = pure (.type "method_descriptor") := by show builtinType _ = _; rw [builtinType_eq_fast]; kernel_rfl
theorem look_append : typeLookup (.type "list") "append" = pure (some (.builtin "list.append")) := by rw [typeLookup_type, builtinLookup_eq_fast]; kernel_rfl
theorem look_mdset : typeLookup (.type "method_descriptor") "__set__" = pure none := by rw [typeLookup_type, builtinLookup_eq_fast]; kernel_rfl
theorem look_mddel : typeLookup (.type "method_descriptor") "__delete__" = pure none := by rw [typeLookup_type, builtinLookup_eq_fast]; kernel_rfl
theorem owner_append : (".".intercalate ("list.append".cutAt '.').dropLast) = "list" := by decide +kernel
theorem sub_list_list : isSubtype (.type "list") (.type "list") = pure true := by rw [isSubtype_type]; kernel_rfl
abbrev boundAppend (a : Addr) : Obj := { cls := .type "builtin_function_or_method", data := .fields #[.builtin "list.append", .ref a] }

set_option maxHeartbeats 4000000 in
theorem meets_md_get (a : Addr) :
    Meets (Builtin.«method_descriptor.__get__» ⟨[.builtin "list.append", .ref a, .type "list"], []⟩) (fun A R s => s.TypeIs (.ref a) "list" ∧
      R (.ok (.ret (.ref s.heap.objs.size))) { s with heap := s.heap.push (boundAppend a) }) :=
  Meets.of_wp fun prog w A R s hs => by
    obtain ⟨hp, g, d, tk, os⟩ := s
    obtain ⟨hx, hs⟩ := hs
    have f1 := sub_list_list
    unfold Builtin.«method_descriptor.__get__»
    repeat (any_goals (first | assumption | wp_step))
    rw [owner_append]
    repeat (any_goals (first | assumption | wp_step))
    exact ⟨_, rfl, hs⟩

set_option maxHeartbeats 4000000 in
theorem meets_getattribute_append (a : Addr) (xs : Array Value) (k : Nat) (sl : Array (Option Value)) (u : Tok) :
    Meets (Builtin.«object.__getattribute__» ⟨[.ref a, .str (Str.ofString "append") u], []⟩) (fun A R s => s.heap.get? a = some { cls := .type "list", dict := none, data := .seq xs k, slots := sl } ∧
      R (.ok (.ret (.ref s.heap.objs.size))) { s with heap := s.heap.push (boundAppend a) }) :=
  Meets.of_wp fun prog w A R s hs => by
    obtain ⟨hp, g, d, tk, os⟩ := s
    obtain ⟨hx, hs⟩ := hs
    have hT : (⟨hp, g, d, tk, os⟩ : Shared).TypeIs (.ref a) "list" := ⟨_, hx, rfl⟩
    have f1 := look_append
    have f2 := type_append
    have f3 := slot_mdget.lookup
    have f4 := look_mdset
    have f5 := look_mddel
    unfold Builtin.«object.__getattribute__»
    repeat (any_goals (first | assumption | ((with_reducible show wpAny _ _ (call (Value.builtin "method_descriptor.__get__") _ _) _ _ _); refine call_meets slot_mdget f2 entry_mdget (args_mdget _ _ _) (meets_md_get a) ⟨hT, ?_⟩) | wp_step))
    exact wpAny_pure ⟨_, rfl, hs⟩

set_option maxHeartbeats 4000000 in
theorem getAttr_append {prog : Program} {w : World} {A : Around} {E : Value → Shared → Prop} {s : Shared} {a : Addr} {xs : Array Value} {k : Nat} {Q : Value → Shared → Prop}
    (hx : s.heap.get? a = some { cls := .type "list", dict := none, data := .seq xs k })
    (h : ∀ tk, Q (.ref s.heap.objs.size) { s with heap := s.heap.push (boundAppend a), toks := tk }) : wpAny (model prog w) A (getAttr (.ref a) (Str.ofString "append") true) Q E s := by
  obtain ⟨hp, g, d, tk, os⟩ := s
  have hT : ∀ tk', (⟨hp, g, d, tk', os⟩ : Shared).TypeIs (.ref a) "list" := fun _ => ⟨_, hx, rfl⟩
  have f3 := F.slot_list_getattribute.lookup
  have f4 := F.slot_list_getattribute.bind (.ref a)
  have f5 := am_list_getattr_none
  unfold getAttr getAttrBy
  repeat (any_goals (first | assumption | exact hT _ | ((with_reducible show wpAny _ _ (call (Value.builtin "list.__getattribute__") _ _) _ _ _); refine call_meets F.slot_list_getattribute (hT _) am_entry_list_getattribute (F.args_list_getattribute_2 _ _) (meets_getattribute_append a xs k #[] _) ⟨hx, ?_⟩) | wp_step))
  exact wpAny_pure (h _)
end Mine

namespace Mine
theorem sub_list_module : isSubtype (.type "list") (.type "module") = pure false := by rw [isSubtype_type]; kernel_rfl
theorem kind_append : builtinKind "list.append" = some .method := by decide +kernel

def sigAppend : Manifest.Signature := (List.lookup (String.ofList ['d', 'n', 'e', 'p', 'p', 'a'].reverse) Manifest.sig_list).get (by kernel_rfl)
theorem sigAppend_is : List.lookup (String.ofList ['d', 'n', 'e', 'p', 'p', 'a'].reverse) Manifest.sig_list = some sigAppend := by kernel_rfl
theorem sigAppend_ok (a x : Value) : Bind.checkArgs "list.append" { machinery := sigAppend.machinery, full := toString (Bind.lastOf "list") ++ toString "." ++ toString (Bind.lastOf "list.append"), short := sigAppend.short, receiver := sigAppend.receiver, params := sigAppend.params } { pos := [a, x] } = pure () := by kernel_rfl
theorem varargs_append : Manifest.varargsMethods.contains "list.append" = false := by decide +kernel

set_option maxHeartbeats 4000000 in
theorem checkBound_append {M : Model} {A : Around} {E : Value → Shared → Prop} {s : Shared} {a : Addr} {x : Value} {Q : Unit → Shared → Prop} {xs : Array Value} {k : Nat} (hx : s.heap.get? a = some { cls := .type "list", dict := none, data := .seq xs k }) (h : Q () s) :
    wpAny M A (checkBoundCall "list.append" ⟨[.ref a, x], []⟩) Q E s := by
  obtain ⟨hp, g, d, tk, os⟩ := s
  have hT : (⟨hp, g, d, tk, os⟩ : Shared).TypeIs (.ref a) "list" := ⟨_, hx, rfl⟩
  have f1 := sub_list_module
  unfold checkBoundCall
  rw [signature?_of (id := "list.append") (n := ['d', 'n', 'e', 'p', 'p', 'a']) (o := ['t', 's', 'i', 'l']) (by kernel_rfl) F.owner_list, sigAppend_is]
  dsimp only
  rw [kind_append]
  dsimp only
  rw [if_neg (by decide)]
  refine wpAny_bind (wpAny_isInstance (T := "list") (b := false) hT f1 ?_)
  rw [varargs_append]
  rw [if_neg (by decide)]
  refine wpAny_bind ?_
  show wpAny M A (do return match (← loadHead a).data with | .cls _ => true | _ => false) _ E _
  unfold loadHead
  refine wpAny_bind (wpAny_loadPart hx (wpAny_pure ?_))
  dsimp only
  rw [if_neg (by decide)]
  show wpAny M A (typeOf (.ref a) >>= _) _ E _
  refine wpAny_bind ?_
  show wpAny M A (do return (← loadPart a (some headPart)).cls) _ E _
  refine wpAny_bind (wpAny_loadPart hx (wpAny_pure ?_))
  dsimp only
  rw [sigAppend_ok]
  exact wpAny_pure h

theorem call_bound_append {prog : Program} {w : World} {A : Around} {E : Value → Shared → Prop} {s : Shared} {q a : Addr} {x : Value} {Q : Value → Shared → Prop} {xs : Array Value} {k : Nat}
    (hq : s.heap.get? q = some (boundAppend a)) (hx : s.heap.get? a = some { cls := .type "list", dict := none, data := .seq xs k })
    (h : ∀ h', Heap.SameBut a s.heap h' → h'.get? a = some { cls := .type "list", data := .seq (xs.push x) (k + 1) } → Q .none { s with heap := h' }) (hsz : xs.size ≤ sizeLine) :
    wpAny (model prog w) A (call (.ref q) [x]) Q E s := by
  refine wpAny_call (codeAny_of_tree ?_)
  show wpAny _ A.in1 (callAny (.ref q) _) _ _ s
  simp only [callAny]
  refine wpAny_bind (wpAny_load hq ?_)
  dsimp only
  rw [if_pos (by decide)]
  show wpAny _ A.in1 (do checkBoundCall "list.append" { pos := [Value.ref a, x] }; again (Code.builtin "list.append" { pos := [Value.ref a, x] })) _ _ s
  refine wpAny_bind (checkBound_append hx (wpAny_pure (And.intro (plainId_quiet slot_list_append.plain _) (codeAny_builtin entry_list_append ?_))))
  show wpAny _ _ (updateSeq a (·.push x) >>= fun _ => ret .none) _ _ s
  refine wpAny_bind ?_
  refine wpAny_updateSeq hx rfl (wpAny_pure (h _ (Heap.SameBut.update ..) ?_))
  rw [Heap.get?_update_self _ hx (by rw [Obj.mapSeq_push_plain]; rfl), Obj.mapSeq_push_plain]
end Mine

namespace Mine
section
variable {prog : Program} {w : World} {A : Around} {E : Value → Shared → Prop} {s : Shared} {K : Frag} {h₀ : Heap} {L a : Addr} {m mg mb : Str → Option Value} {cn : Str} {cs : Scope} {ccd : Value} {cl : List (Str × Addr)} {p : Program} {loose : List Str} {mean : ExcName → Option Value}
  {news : List (Addr × Obj)}

theorem newsSub {h₀ h : Heap} {L : Addr} {l l' : List (Addr × Obj)} (N : News h₀ L h l) (hs : ∀ p ∈ l', p ∈ l) : News h₀ L h l' := fun p hp => N p (hs p hp)

theorem append_attr {l : Addr} {its : Array Value} {k : Nat} {Q : Value → Shared → Prop} (F : Fr h₀ L s.heap m) (N : News h₀ L s.heap news) (hm : (l, listOf its k) ∈ news)
    (h : ∀ q h' tk, Fr h₀ L h' m → News h₀ L h' ((q, boundAppend l) :: news) → (∀ p ∈ news, p.1 < q) → Q (.ref q) { s with heap := h', toks := tk }) : wpAny (model prog w) A (getAttr (.ref l) (Str.ofString "append") true) Q E s :=
  getAttr_append (N _ hm).1 fun tk => h _ _ tk (F.push _) (N.push F _) fun p hp => Heap.lt_size (N p hp).1

theorem bound_append {q l : Addr} {x : Value} {its : Array Value} {k : Nat} {pre post : List (Addr × Obj)} {Q : Value → Shared → Prop} (F : Fr h₀ L s.heap m) (N : News h₀ L s.heap (pre ++ (l, listOf its k) :: post)) (hq : (q, boundAppend l) ∈ pre ++ (l, listOf its k) :: post)
    (h1 : ∀ p ∈ pre, p.1 ≠ l) (h2 : ∀ p ∈ post, p.1 ≠ l) (hsz : its.size ≤ sizeLine)
    (h : ∀ h', Fr h₀ L h' m → News h₀ L h' (pre ++ (l, listOf (its.push x) (k + 1)) :: post) → Q .none { s with heap := h' }) :
    wpAny (model prog w) A (call (.ref q) [x]) Q E s := by
  have z := N (l, listOf its k) (List.mem_append.mpr (.inr (.head _)))
  refine call_bound_append (N _ hq).1 z.1 (fun h' hs ho' => h h' (F.change hs z.2.1 z.2.2) fun p hp => ?_) hsz
  rcases List.mem_append.mp hp with hp | hp
  · have y := N p (List.mem_append_left _ hp)
    exact ⟨hs.extBut _ _ (h1 p hp) y.1, y.2⟩
  · rcases List.mem_cons.mp hp with rfl | hp
    · exact ⟨ho', z.2⟩
    · have y := N p (List.mem_append_right _ (.tail _ hp))
      exact ⟨hs.extBut _ _ (h2 p hp) y.1, y.2⟩

/-- what a turn of a loop hands on: the frame, the own ledger, and what the iterator owns -/
def TurnEnd (h₀ : Heap) (L : Addr) (s : Shared) (own : List (Addr × Obj)) (J : List (Addr × Obj) → (Str → Option Value) → Prop) (s₂ : Shared) : Prop :=
  ∃ h' tk' m₂ nx' rest, s₂ = { s with heap := h', toks := tk' } ∧ Fr h₀ L h' m₂ ∧ News h₀ L h' rest ∧ (∀ p ∈ own, p ∈ rest) ∧ (∀ p ∈ nx', p ∈ rest) ∧ J nx' m₂

set_option maxHeartbeats 1000000 in
theorem for_zip3 {x1 x2 x3 n1 n2 n3 : Str} {q1 q2 q3 tp p1 p2 p3 pz pc pos : Pos} {kk : Nat} {body : List Stmt} {Q : Flow → Shared → Prop} {l1 l2 l3 : Addr} {us1 us2 us3 : List Value} {n : Nat}
    (J : Nat → List (Addr × Obj) → (Str → Option Value) → Prop) (hh : A.handled = none) (F : Fr h₀ L s.heap m) (N : News h₀ L s.heap news) (X : K.In h₀) (T : TopRead p loose mg mb h₀)
    (e : nsIn K mainGlobals (Str.ofString "zip") = some none) (hk : cs.kind = .function)
    (hx1 : (envX cn cs L a ccd cl).kindOf x1 = some .local) (hx2 : (envX cn cs L a ccd cl).kindOf x2 = some .local) (hx3 : (envX cn cs L a ccd cl).kindOf x3 = some .local) (h12 : x1 ≠ x2) (h13 : x1 ≠ x3) (h23 : x2 ≠ x3)
    (hzk : (envX cn cs L a ccd cl).kindOf (Str.ofString "zip") = some .globalImplicit)
    (hk1 : (envX cn cs L a ccd cl).kindOf n1 = some .local) (hk2 : (envX cn cs L a ccd cl).kindOf n2 = some .local) (hk3 : (envX cn cs L a ccd cl).kindOf n3 = some .local)
    (hd1 : (n1 == ("__debug__" : Str)) = false) (hd2 : (n2 == ("__debug__" : Str)) = false) (hd3 : (n3 == ("__debug__" : Str)) = false)
    (h1 : m n1 = some (.ref l1)) (h2 : m n2 = some (.ref l2)) (h3 : m n3 = some (.ref l3)) (hl1 : s.heap.IsList l1 us1.toArray) (hl2 : s.heap.IsList l2 us2.toArray) (hl3 : s.heap.IsList l3 us3.toArray)
    (e1 : us1.length = n) (e2 : us2.length = n) (e3 : us3.length = n) (h0 : J 0 news m)
    (hlow : ∀ k nx m', J k nx m' → ∀ p ∈ nx, p.1 < s.heap.objs.size)
    (hstay : ∀ k nx m' m'', J k nx m' → (∀ y, y ≠ x1 → y ≠ x2 → y ≠ x3 → m'' y = m' y) → J k nx m'')
    (hlists : ∀ k nx m' h, J k nx m' → Fr h₀ L h m' → News h₀ L h nx → h.IsList l1 us1.toArray ∧ h.IsList l2 us2.toArray ∧ h.IsList l3 us3.toArray)
    (turn : ∀ k va vb vc h tk m' nx own E', us1[k]? = some va → us2[k]? = some vb → us3[k]? = some vc → J k nx m' → (∀ q ∈ own, s.heap.objs.size ≤ q.1) → m' x1 = some va → m' x2 = some vb → m' x3 = some vc →
      Fr h₀ L h m' → News h₀ L h (nx ++ own) →
      wpAny (model prog w) A (execs body (envX cn cs L a ccd cl)) (fun f s₂ => f = .next ∧ TurnEnd h₀ L s own (J (k + 1)) s₂) E' { s with heap := h, toks := tk })
    (done : ∀ h tk m' nx, Fr h₀ L h m' → News h₀ L h nx → J n nx m' → Q .next { s with heap := h, toks := tk })
    (hs : ∀ x, foldedSetIterable (.Call (.Name (Str.ofString "zip") pz) [.Name n1 p1, .Name n2 p2, .Name n3 p3] [] pc) (envX cn cs L a ccd cl) x = pure x) :
    wpAny (model prog w) A (exec (.For (.Tuple [.Name x1 q1, .Name x2 q2, .Name x3 q3] kk tp) (.Call (.Name (Str.ofString "zip") pz) [.Name n1 p1, .Name n2 p2, .Name n3 p3] [] pc) body [] pos) (envX cn cs L a ccd cl)) Q E s := by
  refine wpAny_For ?_ hs
  refine Call_ ?_
  refine nameX_B F X T e (v := .type "zip") (by kernel_rfl) (by decide) ?_ hk hzk
  refine Pv.callWith_type1 ?_
  refine spliced_more (nameX_L F h1 ?_ hk hk1 hd1)
  refine spliced_more (nameX_L F h2 ?_ hk hk2 hd2)
  refine spliced_more (nameX_L F h3 ?_ hk hk3 hd3)
  refine spliced_none (call_zip3 hl1 hl2 hl3 fun h₁ B st hTO hkp => ?_)
  refine iter_zip3 st ?_
  have hLlt : L < s.heap.objs.size := F.ns.lt
  have hh₀ : ∀ b, s.heap.objs.size ≤ b → h₀.get? b = none := fun b hb => fresh_none (Nat.le_trans F.above (Nat.le_trans (Nat.le_of_lt hLlt) hb))
  have hp : ((envX cn cs L a ccd cl).scope.kind == .class || ((envX cn cs L a ccd cl).scope.kind == .module && (envX cn cs L a ccd cl).locals != (envX cn cs L a ccd cl).globals)) = false := by
    show (cs.kind == .class || (cs.kind == .module && L != mainGlobals)) = false; rw [hk]; rfl
  refine codeAny_forLoop_any
    (fun j s' => ∃ k h' tk m' nx a b c, s' = { s with heap := h', toks := tk } ∧ k ≤ n ∧ j = n + 1 - k ∧ Fr h₀ L h' m' ∧ News h₀ L h' nx ∧ J k nx m' ∧
      Z3 s.heap.objs.size l1 l2 l3 us1.toArray us2.toArray us3.toArray k k k .none h' ∧ h'.get? (s.heap.objs.size + 4) = some (tup3 a b c)) ?_ (n + 1)
    ⟨0, h₁, s.toks, m, news, .none, .none, .none, rfl, Nat.zero_le _, rfl, F.keeps hkp, N.grown hkp, h0, st, hTO⟩
  rintro j s' ⟨k, h', tk, m', nx, ta, tb, tc, rfl, hkn, rfl, F', N', hJ, st', hTO'⟩
  have low := hlow k nx m' hJ
  by_cases hlt : k < n
  · have g1 : us1[k]? = some us1[k] := List.getElem?_eq_getElem (by omega)
    have g2 : us2[k]? = some us2[k] := List.getElem?_eq_getElem (by omega)
    have g3 : us3[k]? = some us3[k] := List.getElem?_eq_getElem (by omega)
    refine next_zip3_item (x := us1[k]) (y := us2[k]) (v := us3[k]) B st' hTO' (by simp) (by simp) (by simp) fun h₂ st₂ hTO₂ hT₂ hk₂ => ?_
    refine letGo_zip3 B st₂ fun h₃ st₃ hs₃ => ?_
    have hTs : (h'.objs.size : Nat) ≠ s.heap.objs.size + 5 := Nat.ne_of_gt (Heap.lt_size st'.z)
    have hT₃ : h₃.get? h'.objs.size = some (tup3 us1[k] us2[k] us3[k]) := hs₃.extBut _ _ hTs hT₂
    have hTO₃ : h₃.get? (s.heap.objs.size + 4) = some (tup3 us1[k] us2[k] us3[k]) := hs₃.extBut _ _ (ne_of (.inl (Nat.lt_succ_self _))) hTO₂
    refine wpAny_assign_Tuple hh (t := h'.objs.size) (items := #[us1[k], us2[k], us3[k]]) ⟨_, hT₃, rfl, _, rfl⟩ rfl rfl fun h₄ hx₄ => ?_
    replace hx₄ : Heap.ExtBut h₃.objs.size h₃ h₄ := hx₄
    have old₄ : ∀ b o, h₃.get? b = some o → h₄.get? b = some o := fun b o e => hx₄ b o (Nat.ne_of_lt (Heap.lt_size e)) e
    have up₄ : ∀ b o, b < s.heap.objs.size → h'.get? b = some o → h₄.get? b = some o := fun b o hb e =>
      old₄ b o (hs₃.extBut b o (ne_of (.inl (Nat.lt_of_lt_of_le hb (Nat.le_add_right _ _)))) (hk₂ b o (Nat.ne_of_lt hb) (ne_of (.inl (Nat.lt_succ_of_lt hb))) (ne_of (.inl (Nat.lt_of_lt_of_le hb (Nat.le_add_right _ _)))) (ne_of (.inl (Nat.lt_of_lt_of_le hb (Nat.le_add_right _ _)))) (ne_of (.inl (Nat.lt_of_lt_of_le hb (Nat.le_add_right _ _)))) e))
    have F₄ : Fr h₀ L h₄ m' := ⟨F'.ns.at' fun o e => up₄ _ o hLlt e, fun b o e => up₄ b o (Nat.lt_of_not_le fun q => by rw [hh₀ b q] at e; cases e) (F'.keep b o e), F'.above⟩
    refine assignInOrder_cons (wpAny_assign_Name (wpAny_storeName_local hx1 F₄.ns (fun h₅ hn₅ hs₅ => ?_) hp))
    have F₅ := F₄.set hn₅ hs₅
    refine assignInOrder_cons (wpAny_assign_Name (wpAny_storeName_local hx2 F₅.ns (fun h₆ hn₆ hs₆ => ?_) hp))
    have F₆ := F₅.set hn₆ hs₆
    refine assignInOrder_cons (wpAny_assign_Name (wpAny_storeName_local hx3 F₆.ns (fun h₇ hn₇ hs₇ => ?_) hp))
    have F₇ := F₆.set hn₇ hs₇
    refine assignInOrder_nil ?_
    have up₇ : ∀ b o, b ≠ L → h₄.get? b = some o → h₇.get? b = some o := fun b o hb e => hs₇.extBut b o hb (hs₆.extBut b o hb (hs₅.extBut b o hb e))
    have neL : ∀ d, s.heap.objs.size + d ≠ L := fun d => Nat.ne_of_gt (Nat.lt_of_lt_of_le hLlt (Nat.le_add_right _ _))
    have st₄ : Z3 s.heap.objs.size l1 l2 l3 us1.toArray us2.toArray us3.toArray (k + 1) (k + 1) (k + 1) .none h₄ := st₃.keep old₄
    obtain ⟨o1, g1', c1, d1⟩ := st₄.i1
    obtain ⟨o2, g2', c2, d2⟩ := st₄.i2
    obtain ⟨o3, g3', c3, d3⟩ := st₄.i3
    have own : News h₀ L h₇ [(s.heap.objs.size + 5, zipObj .none (s.heap.objs.size + 3) (s.heap.objs.size + 4)), (s.heap.objs.size + 3, tup3 (.ref s.heap.objs.size) (.ref (s.heap.objs.size + 1)) (.ref (s.heap.objs.size + 2))),
        (s.heap.objs.size + 4, tup3 us1[k] us2[k] us3[k]), (s.heap.objs.size, o1), (s.heap.objs.size + 1, o2), (s.heap.objs.size + 2, o3)] := by
      intro q hq
      simp only [List.mem_cons, List.not_mem_nil, or_false] at hq
      rcases hq with rfl | rfl | rfl | rfl | rfl | rfl
      · exact ⟨up₇ _ _ (neL 5) st₄.z, neL 5, hh₀ _ (Nat.le_add_right _ _)⟩
      · exact ⟨up₇ _ _ (neL 3) st₄.ti, neL 3, hh₀ _ (Nat.le_add_right _ _)⟩
      · exact ⟨up₇ _ _ (neL 4) (old₄ _ _ hTO₃), neL 4, hh₀ _ (Nat.le_add_right _ _)⟩
      · exact ⟨up₇ _ _ (neL 0) g1', neL 0, hh₀ _ (Nat.le_refl _)⟩
      · exact ⟨up₇ _ _ (neL 1) g2', neL 1, hh₀ _ (Nat.le_add_right _ _)⟩
      · exact ⟨up₇ _ _ (neL 2) g3', neL 2, hh₀ _ (Nat.le_add_right _ _)⟩
    refine wpAny_mono (turn k us1[k] us2[k] us3[k] h₇ (tk + 1 + 1 + 1) _ nx [(s.heap.objs.size + 5, zipObj .none (s.heap.objs.size + 3) (s.heap.objs.size + 4)), (s.heap.objs.size + 3, tup3 (.ref s.heap.objs.size) (.ref (s.heap.objs.size + 1)) (.ref (s.heap.objs.size + 2))), (s.heap.objs.size + 4, tup3 us1[k] us2[k] us3[k]), (s.heap.objs.size, o1), (s.heap.objs.size + 1, o2), (s.heap.objs.size + 2, o3)] _ g1 g2 g3 (hstay k nx m' _ hJ fun y y1 y2 y3 => by simp [y1, y2, y3]) (fun q hq => ?_) (by simp [h12, h13]) (by simp [h23]) (by simp) F₇ (fun q hq => ?_)) (fun f s₈ h₈ => ?_) fun _ _ e => e
    · simp only [List.mem_cons, List.not_mem_nil, or_false] at hq
      rcases hq with rfl | rfl | rfl | rfl | rfl | rfl <;> first | exact Nat.le_refl _ | exact Nat.le_add_right _ _
    · rcases List.mem_append.mp hq with hq | hq
      · have z := N' q hq
        exact ⟨up₇ _ _ z.2.1 (up₄ _ _ (low q hq) z.1), z.2⟩
      · exact own q hq
    · obtain ⟨rfl, h₉, tk₉, m₉, nx₉, rest, rfl, F₉, N₉, hown, hnx, hJ₉⟩ := h₈
      have L₉ := hlists _ _ _ _ hJ₉ F₉ (newsSub N₉ hnx)
      refine ⟨n + 1 - (k + 1), by omega, k + 1, h₉, tk₉, m₉, nx₉, us1[k], us2[k], us3[k], rfl, hlt, rfl, F₉, newsSub N₉ hnx, hJ₉, ⟨(N₉ _ (hown _ (.head _))).1, (N₉ _ (hown _ (.tail _ (.head _)))).1,
        ⟨o1, (N₉ _ (hown (s.heap.objs.size, o1) (by simp))).1, c1, d1⟩, ⟨o2, (N₉ _ (hown (s.heap.objs.size + 1, o2) (by simp))).1, c2, d2⟩, ⟨o3, (N₉ _ (hown (s.heap.objs.size + 2, o3) (by simp))).1, c3, d3⟩, L₉.1, L₉.2.1, L₉.2.2⟩, (N₉ _ (hown _ (.tail _ (.tail _ (.head _))))).1⟩
  · have hkn' : k = n := Nat.le_antisymm hkn (Nat.le_of_not_lt hlt)
    subst hkn'
    refine next_zip3_end hh B st' (by simp [e1]) hTO' fun h₂ hk₂ => wpAny_execs_nil ?_
    have up₂ : ∀ b o, b < s.heap.objs.size → h'.get? b = some o → h₂.get? b = some o := fun b o hb e =>
      hk₂ b o (Nat.ne_of_lt hb) (ne_of (.inl (Nat.lt_succ_of_lt hb))) (ne_of (.inl (Nat.lt_of_lt_of_le hb (Nat.le_add_right _ _)))) (ne_of (.inl (Nat.lt_of_lt_of_le hb (Nat.le_add_right _ _)))) (ne_of (.inl (Nat.lt_of_lt_of_le hb (Nat.le_add_right _ _)))) e
    exact done h₂ tk m' nx ⟨F'.ns.at' fun o e => up₂ _ o hLlt e, fun b o e => up₂ b o (Nat.lt_of_not_le fun q => by rw [hh₀ b q] at e; cases e) (F'.keep b o e), F'.above⟩
      (fun q hq => by have z := N' q hq; exact ⟨up₂ _ _ (low q hq) z.1, z.2⟩) hJ
end
end Mine

namespace Mine
theorem fill2 : Mine.hd.heap_39 = Mine.hd.heap_39 ∧ PySem.Challenge.rw_ff5026_01 = PySem.Challenge.rw_ff5026_01 := by
  k_fill
  exact ⟨rfl, rfl⟩

def Stop (P : Prop) : Prop := P
theorem stop_here {P : Prop} (h : Stop P) : P := h
theorem wpAny_stop {α : Type} {M : Model} {A : Around} {t : Sem α} {Q : α → Shared → Prop} {E : Value → Shared → Prop} {s : Shared} (h : wpAny M A t (fun a s => Stop (Q a s)) E s) : wpAny M A t Q E s := h
theorem Stop.go {P : Prop} (h : P) : Stop P := h
local macro_rules | `(tactic| walk_at "exec For Tuple Call") => `(tactic| (refine stop_here ?_))
local macro_rules | `(tactic| walk_at "callWith ref") => `(tactic| (refine stop_here ?_))

theorem ints_of : ∀ {ys : List Value} {ns : List Int}, ys.length = ns.length → (∀ (i : Nat) y n, ys[i]? = some y → ns[i]? = some n → ∃ t, y = .int n t) → IntsAre ys ns
  | [], [], _, _ => .nil
  | y :: ys, n :: ns, hl, h => by
    obtain ⟨t, rfl⟩ := h 0 y n rfl rfl
    exact .cons n t (ints_of (by simpa using hl) fun i y' n' h1 h2 => h (i + 1) y' n' (by simpa using h1) (by simpa using h2))
  | [], _ :: _, hl, _ => by cases hl
  | _ :: _, [], hl, _ => by cases hl
theorem ints_at {vs : List Value} {ns : List Int} (h : IntsAre vs ns) : ∀ {i : Nat} {v : Value}, vs[i]? = some v → ∃ n t, ns[i]? = some n ∧ v = .int n t := by
  induction h with
  | nil => intro i v e; simp at e
  | cons n t _ ih =>
    intro i v e
    cases i with
    | zero => simp at e; exact ⟨n, t, rfl, e.symm⟩
    | succ i => simpa using ih (by simpa using e)

theorem callWith_bound {M : Model} {A : Around} {E : Value → Shared → Prop} {s : Shared} {env : Env} {pos : Pos} {q l : Addr} {e : PySem.Expr} {rest : List PySem.Expr} {Q : Value → Shared → Prop}
    (h : wpAny M A (spliced (backTo pos (starEach (e :: rest) env))) (fun vs s₁ => Stop (s₁.heap.get? q = some (boundAppend l) ∧ wpAny M A (call (.ref q) vs) Q E s₁)) E s)
    (he : starEach (e :: rest) env = (false, eval e env) :: starEach rest env := by rfl) (hplain : (backTo pos (starEach rest env)).any (·.1) = false := by rfl) :
    wpAny M A (callWith pos (.ref q) [] (backTo pos (starEach (e :: rest) env)) []) Q E s := by
  rw [he] at h ⊢
  refine callWith_of (P := fun h => h.get? q = some (boundAppend l)) (by show ((false || (backTo pos (starEach rest env)).any (·.1)) || false) = false; rw [hplain]; rfl) (fun h x => ⟨.machine, .inr (.inl rfl), (Looks.ld (part := none) x).andThen .now⟩) (evalArgs_plain h)

/-- what one turn takes away -/
def cutI (r mx tr rem : Int) : Int :=
  if ((r * rem).fdiv tr + if decide (tr < 2 * (r * rem).fmod tr + ((r * rem).fdiv tr).fmod 2) = true then 1 else 0) < mx then (r * rem).fdiv tr + if decide (tr < 2 * (r * rem).fmod tr + ((r * rem).fdiv tr).fmod 2) = true then 1 else 0 else mx
/-- the loop of ratio_reduce -/
def rrGo : List Int → List Int → List Int → Int → Int → List Int
  | r :: rs, mx :: mxs, v :: vs, tr, rem => if r ≠ 0 ∧ 0 < tr then (v - cutI r mx tr rem) :: rrGo rs mxs vs (tr - r) (rem - cutI r mx tr rem) else v :: rrGo rs mxs vs tr rem
  | _, _, _, _, _ => []

theorem turnEnd3 {h₀ h : Heap} {L : Addr} {s : Shared} {tk : Nat} {m₂ : Str → Option Value} {own : List (Addr × Obj)} {J : List (Addr × Obj) → (Str → Option Value) → Prop} {a b c : Addr × Obj}
    (F : Fr h₀ L h m₂) (N : News h₀ L h (a :: b :: c :: own)) (hJ : J [a, b, c] m₂) : TurnEnd h₀ L s own J { s with heap := h, toks := tk } :=
  ⟨h, tk, m₂, [a, b, c], _, rfl, F, N, fun p hp => .tail _ (.tail _ (.tail _ hp)), fun p hp => by
    simp only [List.mem_cons, List.not_mem_nil, or_false] at hp ⊢
    rcases hp with rfl | rfl | rfl
    · exact .inl rfl
    · exact .inr (.inl rfl)
    · exact .inr (.inr (.inl rfl)), hJ⟩
theorem ints_snoc {us : List Value} {ns : List Int} (h : IntsAre us ns) (n : Int) (t : Tok) : IntsAre (us ++ [.int n t]) (ns ++ [n]) := by
  induction h with
  | nil => exact .cons n t .nil
  | cons a b _ ih => exact .cons a b ih
theorem sum_01 : ∀ {rs : List Int}, (∀ r ∈ rs, r = 0 ∨ r = 1) → 0 ≤ rs.sum ∧ rs.sum ≤ rs.length
  | [], _ => ⟨Int.le_refl _, Int.le_refl _⟩
  | r :: rs, h => by
    have ih := sum_01 (rs := rs) fun x hx => h x (.tail _ hx)
    have h1 := h r (.head _)
    simp only [List.sum_cons, List.length_cons]
    omega

set_option maxHeartbeats 4000000 in
theorem rr_ok {prog : Program} {w : World} {dp un : Nat} {fr : Option (List Env)} {gd : Option (List Code)} {s : Shared} {mg mb : Str → Option Value} {p : Program} {loose : List Str} {mean : ExcName → Option Value}
    {total : Int} {tt : Tok} {l1 l2 l3 : Addr} {us1 us2 us3 : List Value} {rs mxs vs : List Int} {Q E : Value → Shared → Prop}
    (X : (Mine.hd.heap_39 w.params).In s.heap) (T : Top p loose mean mg mb s.heap) (hd : dp + 1 < recursionLimit) (hu : un + 8 < cLine)
    (hl1 : s.heap.IsList l1 us1.toArray) (hi1 : IntsAre us1 rs) (hl2 : s.heap.IsList l2 us2.toArray) (hi2 : IntsAre us2 mxs) (hl3 : s.heap.IsList l3 us3.toArray) (hi3 : IntsAre us3 vs)
    (hn1 : rs.length = mxs.length) (hn2 : vs.length = mxs.length) (hn : mxs.length ≤ 63) (hmx : ∀ x ∈ mxs, x ≠ 0) (hr01 : ∀ r ∈ rs, r = 0 ∨ r = 1) (hrs : 0 < rs.sum)
    (hQ : ∀ r us c h' tk, (∀ b o, s.heap.get? b = some o → h'.get? b = some o) → s.heap.objs.size ≤ r → h'.get? r = some (listOf us.toArray c) → IntsAre us (rrGo rs mxs vs rs.sum total) → Q (.ref r) { s with heap := h', toks := tk }) :
    wpAny (model prog w) { handled := none, depth := dp, frames := fr, guards := gd, units := un } (call (.ref 26) [.int total tt, .ref l1, .ref l2, .ref l3]) Q E s := by
  have := fill2
  have hL1 := hi1.length
  have hL2 := hi2.length
  have hL3 := hi3.length
  refine wpAny_call ?_
  refine' enter0 (binds := [(Str.ofString "total", .int total tt), (Str.ofString "ratios", .ref l1), (Str.ofString "maximums", .ref l2), (Str.ofString "values", .ref l3)]) X T ?k6 ?k7 ?k8 ?k9 ?kB ?_ ?c2 ?c3 ?c4 ?c5
  case k6 => k_is
  case k7 => k_is
  case k8 => exact Nat.lt_of_succ_lt hd
  case k9 => exact BindsTo.of_eq rfl
  case kB => exact locs rfl
  case c2 => rfl
  case c3 => rfl
  case c4 => rfl
  case c5 => decide
  intro L' h₁ F
  (try dsimp only)
  (try k_fold)
  have N : News s.heap L' h₁ [] := News.nil
  refine wpAny_execs_cons ?_
  refine' zcomp (us1 := us1) (us2 := us2) (fun va vb y => ∀ r t m u, va = .int r t → vb = .int m u → m ≠ 0 → ∃ t', y = .int r t') rfl F N X (topRead_of T) ?e rfl ?hsw ?hclos ?hcell rfl ?hnames rfl rfl ?hab rfl rfl rfl rfl ?hd1 ?hd2 rfl rfl ?hl1 ?hl2 ?hlen ?hsz ?helt ?hQ ?hs
  case e => k_is
  case hsw => with_unfolding_all rfl
  case hclos => with_unfolding_all rfl
  case hcell => decide
  case hnames => decide
  case hab => decide
  case hd1 => decide
  case hd2 => decide
  case hl1 => exact F.lst hl1
  case hl2 => exact F.lst hl2
  case hlen => omega
  case hsz => rw [sizeLine_eq]; omega
  case hs => intro _; rfl
  case helt =>
    intro C i va vb s₃ m₃ E' h1 h2 hns ha hb hk
    obtain ⟨r, t, hr, rfl⟩ := ints_at hi1 h1
    obtain ⟨mm, u, hm, rfl⟩ := ints_at hi2 h2
    have hm0 : mm ≠ 0 := hmx _ (List.mem_of_getElem? hm)
    refine wpAny_IfExp (isTrue_plain (wpAny_Name (wpAny_loadName_local rfl rfl hns hb (truthy_int ?_))))
    rw [show (mm != 0) = true by simpa using hm0]
    simp only [if_true]
    exact wpAny_Name (wpAny_loadName_local rfl rfl hns ha ⟨fun r' t' m' u' e1 e2 e3 => by cases e1; exact ⟨_, rfl⟩, _, _, rfl, fun _ _ e => e⟩)
  case hQ =>
    intro D h' tk ys c F' N' hDs hys hF
    have hiD : IntsAre ys rs := ints_of (by omega) fun i y n h1 h2 => by
      have i1 : i < us1.length := by have := (List.getElem?_eq_some_iff.mp h1).1; omega
      have i2 : i < us2.length := by omega
      obtain ⟨r, t, hr, e1⟩ := ints_at hi1 (List.getElem?_eq_getElem i1)
      obtain ⟨mm, u, hm, e2⟩ := ints_at hi2 (List.getElem?_eq_getElem i2)
      rw [h2] at hr
      cases hr
      exact hF i _ _ y (List.getElem?_eq_getElem i1) (List.getElem?_eq_getElem i2) h1 _ _ _ _ e1 e2 (hmx _ (List.mem_of_getElem? hm))
    have hsD : s.heap.objs.size ≤ D := Nat.le_trans F.above (Nat.le_trans (Nat.le_of_lt F.ns.lt) hDs)
    clear F N
    dsimp only
    k_steps
    rotate_left
    · exfalso; omega
    rename Fr _ _ _ _ => F1
    rename News _ _ _ _ => N1
    refine append_attr F1 N1 (.head _) fun q h₂ tk₂ F2 N2 lq => ?_
    clear F1 N1
    k_steps
    refine Stop.go ?_
    rename Fr _ _ _ _ => F3
    rename News _ _ _ _ => N3
    rename_i lr _ hDl _ hh3
    have hlq : lr < q := lq _ (.head _)
    have hDq : D < q := lq _ (.tail _ (.head _))
    have hq3 : q < hh3.objs.size := Heap.lt_size (N3 _ (.head _)).1
    refine' for_zip3 (us1 := ys) (us2 := us2) (us3 := us3) (n := mxs.length)
      (fun k nx m' => ∃ tr rem ta tb us c', nx = [(q, boundAppend lr), (lr, listOf us.toArray c'), (D, listOf ys.toArray c)] ∧ us.length = k ∧ k ≤ mxs.length ∧ tr = (rs.drop k).sum ∧
        (∃ outs, IntsAre us outs ∧ rrGo rs mxs vs rs.sum total = outs ++ rrGo (rs.drop k) (mxs.drop k) (vs.drop k) tr rem) ∧
        m' (Str.ofString "append") = some (.ref q) ∧ m' (Str.ofString "result") = some (.ref lr) ∧ m' (Str.ofString "total_remaining") = some (.int rem ta) ∧ m' (Str.ofString "total_ratio") = some (.int tr tb))
      rfl F3 N3 X (topRead_of T) ?e rfl rfl rfl rfl ?n12 ?n13 ?n23 rfl rfl rfl rfl ?d1 ?d2 ?d3 rfl rfl rfl ?g1 ?g2 ?g3 ?e1 ?e2 ?e3 ?h0 ?hlow ?hstay ?hlists ?turn ?done ?hs
    case e => k_is
    case n12 => decide
    case n13 => decide
    case n23 => decide
    case d1 => decide
    case d2 => decide
    case d3 => decide
    case g1 => exact ⟨_, (N3 _ (.tail _ (.tail _ (.head _)))).1, rfl, _, rfl⟩
    case g2 => exact F3.lst hl2
    case g3 => exact F3.lst hl3
    case e1 => omega
    case e2 => omega
    case e3 => omega
    case hs => intro _; rfl
    case h0 => exact ⟨rs.sum, total, _, _, [], 0, rfl, rfl, Nat.zero_le _, rfl, ⟨[], .nil, rfl⟩, rfl, rfl, rfl, rfl⟩
    case hlow =>
      rintro k nx m' ⟨tr, rem, ta, tb, us, c', rfl, _⟩ p hp
      have z1 := Heap.lt_size (N3 _ (.head _)).1
      simp only [List.mem_cons, List.not_mem_nil, or_false] at hp
      rcases hp with rfl | rfl | rfl
      · exact z1
      · exact Nat.lt_trans hlq z1
      · exact Nat.lt_trans hDq z1
    case hstay =>
      rintro k nx m' m'' ⟨tr, rem, ta, tb, us, c', rfl, e1, e2, e3, e4, e5, e6, e7, e8⟩ hm
      exact ⟨tr, rem, ta, tb, us, c', rfl, e1, e2, e3, e4, (hm _ (by decide) (by decide) (by decide)).trans e5, (hm _ (by decide) (by decide) (by decide)).trans e6, (hm _ (by decide) (by decide) (by decide)).trans e7, (hm _ (by decide) (by decide) (by decide)).trans e8⟩
    case hlists =>
      rintro k nx m' h ⟨tr, rem, ta, tb, us, c', rfl, _⟩ F N
      exact ⟨⟨_, (N _ (.tail _ (.tail _ (.head _)))).1, rfl, _, rfl⟩, F.lst hl2, F.lst hl3⟩
    case done =>
      rintro h tk m' nx F N ⟨tr, rem, ta, tb, us, c', rfl, e1, e2, e3, ⟨outs, e4, e4'⟩, e5, e6, e7, e8⟩
      have F' : Fr s.heap L' h (fun y => if y = Str.ofString "result" then some (.ref lr) else m' y) := by
        have em : (fun y => if y = Str.ofString "result" then some (.ref lr) else m' y) = m' := by
          funext y
          split
          · rename_i hy; rw [hy]; exact e6.symm
          · rfl
        rw [em]; exact F
      clear F
      dsimp only
      k_steps
      have en : rs.drop mxs.length = [] := List.drop_eq_nil_of_le (by omega)
      rw [en] at e4'
      simp only [rrGo, List.append_nil] at e4'
      exact hQ lr us c' _ _ F'.keep (Nat.le_trans hsD (Nat.le_of_lt hDl)) (N _ (.tail _ (.head _))).1 (e4' ▸ e4)
    case turn =>
      rintro k va vb vc h tk m' nx own E' g1 g2 g3 ⟨tr, rem, ta, tb, us, c', rfl, e1, e2, e3, ⟨outs, e4, e4'⟩, e5, e6, e7, e8⟩ hown x1 x2 x3 F N
      obtain ⟨r, t1, hr, rfl⟩ := ints_at hiD g1
      obtain ⟨mm, t2, hm, rfl⟩ := ints_at hi2 g2
      obtain ⟨v, t3, hv, rfl⟩ := ints_at hi3 g3
      have hr1 := hr01 _ (List.mem_of_getElem? hr)
      have hkr : k < rs.length := (List.getElem?_eq_some_iff.mp hr).1
      have hdr : rs.drop k = r :: rs.drop (k + 1) := by
        rw [List.drop_eq_getElem_cons hkr]; congr 1; exact (List.getElem?_eq_some_iff.mp hr).2
      have hs01 := sum_01 (rs := rs.drop k) fun x hx => hr01 x (List.mem_of_mem_drop hx)
      rw [← e3, List.length_drop] at hs01
      have hkm : k < mxs.length := (List.getElem?_eq_some_iff.mp hm).1
      have hkv : k < vs.length := (List.getElem?_eq_some_iff.mp hv).1
      have hdm : mxs.drop k = mm :: mxs.drop (k + 1) := by
        rw [List.drop_eq_getElem_cons hkm]; congr 1; exact (List.getElem?_eq_some_iff.mp hm).2
      have hdv : vs.drop k = v :: vs.drop (k + 1) := by
        rw [List.drop_eq_getElem_cons hkv]; congr 1; exact (List.getElem?_eq_some_iff.mp hv).2
      rw [hdr, hdm, hdv] at e4'
      rw [rrGo] at e4'
      have e3' : tr - r = (rs.drop (k + 1)).sum := by rw [e3, hdr, List.sum_cons]; omega
      have hs02 := (sum_01 (rs := rs.drop (k + 1)) fun x hx => hr01 x (List.mem_of_mem_drop hx)).1
      rw [← e3'] at hs02
      have F' : Fr s.heap L' h (fun y => if y = Str.ofString "append" then some (.ref q) else if y = Str.ofString "result" then some (.ref lr) else if y = Str.ofString "total_remaining" then some (.int rem ta) else if y = Str.ofString "total_ratio" then some (.int tr tb) else
          if y = Str.ofString "ratio" then some (.int r t1) else if y = Str.ofString "maximum" then some (.int mm t2) else if y = Str.ofString "value" then some (.int v t3) else m' y) := by
        have em : (fun y => if y = Str.ofString "append" then some (.ref q) else if y = Str.ofString "result" then some (.ref lr) else if y = Str.ofString "total_remaining" then some (.int rem ta) else if y = Str.ofString "total_ratio" then some (.int tr tb) else
          if y = Str.ofString "ratio" then some (.int r t1) else if y = Str.ofString "maximum" then some (.int mm t2) else if y = Str.ofString "value" then some (.int v t3) else m' y) = m' := by
          funext y
          repeat' split
          all_goals first | rfl | (rename_i hy; rw [hy]; first | exact e5.symm | exact e6.symm | exact e7.symm | exact e8.symm | exact x1.symm | exact x2.symm | exact x3.symm)
        rw [em]; exact F
      clear F
      simp only [List.cons_append, List.nil_append] at N
      refine wpAny_stop ?_
      k_steps
      all_goals (
        refine Stop.go ?_
        refine callWith_bound (l := lr) ?_
        k_steps
        refine Stop.go ?_
        rename Fr _ _ _ _ => F9
        rename News _ _ _ _ => N9
        have N8 := newsSub (l' := (q, boundAppend lr) :: (lr, listOf us.toArray c') :: (D, listOf ys.toArray c) :: own) N9 (by
          intro p9 h9
          first | exact h9 | exact .tail _ h9 | exact .tail _ (.tail _ h9) | exact .tail _ (.tail _ (.tail _ h9)))
        clear N9
        refine ⟨(N8 _ (.head _)).1, ?_⟩
        refine bound_append (pre := [(q, boundAppend lr)]) (post := (D, listOf ys.toArray c) :: own) F9 N8 (.head _) ?_ ?_ ?_ fun h9 F7 N7 => ?_
        · intro p9 h9
          rw [List.mem_singleton.mp h9]
          exact Nat.ne_of_gt hlq
        · intro p9 h9
          rcases List.mem_cons.mp h9 with rfl | h9
          · exact Nat.ne_of_lt hDl
          · exact Nat.ne_of_gt (Nat.lt_of_lt_of_le (Nat.lt_trans hlq hq3) (hown _ h9))
        · rw [List.size_toArray, sizeLine_eq]; omega
        clear N8 F9
        simp only [List.cons_append, List.nil_append] at N7
        k_steps)
      all_goals (
        refine Stop.go ⟨rfl, ?_⟩
        rename Fr _ _ _ _ => F9
        rename News _ _ _ _ => N9
        simp only [List.push_toArray] at N9)
      · rw [if_pos ⟨by omega, by omega⟩] at e4'
        refine turnEnd3 F9 N9 ⟨tr - r, rem - cutI r mm tr rem, _, _, _, c' + 1, rfl, ?_, hkm, e3', ⟨outs ++ [v - cutI r mm tr rem], ints_snoc e4 _ _, ?_⟩, rfl, rfl, rfl, rfl⟩
        · simp [e1]
        · rw [e4', List.append_assoc]; rfl
      · rw [if_neg (by intro hc; exact hc.1 (by assumption))] at e4'
        have hr0 : r = 0 := by assumption
        refine turnEnd3 F9 N9 ⟨tr, rem, _, _, _, c' + 1, rfl, ?_, hkm, by rw [hr0] at e3'; omega, ⟨outs ++ [v], ints_snoc e4 _ _, ?_⟩, rfl, rfl, rfl, rfl⟩
        · simp [e1]
        · rw [e4', List.append_assoc]; rfl
end Mine

namespace Mine
theorem ints_at' {vs : List Value} {ns : List Int} (h : IntsAre vs ns) : ∀ {i : Nat} {n : Int}, ns[i]? = some n → ∃ t, vs[i]? = some (.int n t) := by
  induction h with
  | nil => intro i v e; simp at e
  | cons n t _ ih =>
    intro i v e
    cases i with
    | zero => simp at e; exact ⟨t, by simp [e]⟩
    | succ i => simpa using ih (by simpa using e)

section
variable {prog : Program} {w : World} {A : Around} {E : Value → Shared → Prop} {s : Shared} {h₀ : Heap} {L l : Addr} {m : Str → Option Value} {news : List (Addr × Obj)} {vs : List Value}
theorem range_any_ne (ns : List Int) : ((List.range ns.length).any fun i => ns.getD i 0 != 0) = ns.any (· != 0) := by
  rw [Bool.eq_iff_iff, List.any_eq_true, List.any_eq_true]
  constructor
  · rintro ⟨i, hi, e⟩
    have hi' := List.mem_range.mp hi
    rw [List.getD_eq_getElem?_getD, List.getElem?_eq_getElem hi', Option.getD_some] at e
    exact ⟨_, List.getElem_mem hi', e⟩
  · rintro ⟨b, hb, e⟩
    obtain ⟨i, hi, rfl⟩ := List.getElem_of_mem hb
    exact ⟨i, List.mem_range.mpr hi, by rw [List.getD_eq_getElem?_getD, List.getElem?_eq_getElem hi, Option.getD_some]; exact e⟩
theorem any_ints {ns : List Int} {Q : Value → Shared → Prop} (F : Fr h₀ L s.heap m) (N : News h₀ L s.heap news) (hh : A.handled = none) (hl : s.heap.IsList l vs.toArray) (hb : IntsAre vs ns)
    (h : ∀ h' tk, Fr h₀ L h' m → News h₀ L h' news → Q (.bool (ns.any (· != 0))) { s with heap := h', toks := tk }) : wpAny (model prog w) A (call (.builtin "any") [.ref l]) Q E s := by
  have hlt : l < s.heap.objs.size := by obtain ⟨_, e, _⟩ := hl; exact Heap.lt_size e
  refine call_any_walk (wpAny_pyIter_list hl ?_)
  refine ⟨s.heap.objs.size, [s.heap.objs.size, l], [s.heap.objs.size], vs.toArray.size, _, _, fun i => ns.getD i 0 != 0, rfl, Walks.list (A := A.in1) hh _ l (Nat.ne_of_lt hlt) vs.toArray,
    ⟨⟨_, Heap.get?_push_size _ rfl, rfl, rfl⟩, hl.push _⟩, fun i v s' Q' E' hP hQ => ?_, fun h' tk hk => ?_⟩
  · obtain ⟨n, t, e, rfl⟩ := ints_at hb (i := i) (v := v) (by simpa using hP)
    have e' : ns.getD i 0 = n := by rw [List.getD_eq_getElem?_getD, e, Option.getD_some]
    refine truthy_int ?_
    rw [← e']
    exact hQ
  · have e : ((List.range vs.toArray.size).any fun i => ns.getD i 0 != 0) = ns.any (· != 0) := by
      rw [List.size_toArray, hb.length]; exact range_any_ne ns
    rw [e]
    exact h h' tk (F.keeps (LSm.kept_iter hk)) (N.grown (LSm.kept_iter hk))

theorem flat_rep {α : Type} (x : α) : ∀ (k : Nat) (acc : Array α), List.foldl (fun x1 x2 => x1 ++ x2) acc (List.replicate k #[x]) = (acc.toList ++ List.replicate k x).toArray
  | 0, acc => by simp
  | k + 1, acc => by
    rw [List.replicate_succ, List.foldl_cons, flat_rep x k]
    simp [List.replicate_succ]

theorem mul_one {q : Addr} {x n : Int} {t u : Tok} {c : Nat} {Q : Value → Shared → Prop} (F : Fr h₀ L s.heap m) (N : News h₀ L s.heap news) (hq : s.heap.get? q = some (listOf #[.int x t] c)) (h0 : 0 ≤ n) (h1 : n ≤ 63)
    (h : ∀ h' t', Fr h₀ L h' m → News h₀ L h' ((s.heap.objs.size, listOf (List.replicate n.toNat (.int x t')).toArray 0) :: news) → Q (.ref s.heap.objs.size) { s with heap := h' }) :
    wpAny (model prog w) A (binaryOp .Mult (.ref q) (.int n u)) Q E s := by
  refine mul_list F N hq (by omega) (by omega) ?_ fun h' F' N' => ?_
  · show 1 * n.toNat ≤ _
    omega
  · have e : (List.foldl (fun x1 x2 => x1 ++ x2) #[] (List.replicate (if (#[Value.int x t]).isEmpty = true then 0 else n.toNat) #[Value.int x t])) = (List.replicate n.toNat (Value.int x t)).toArray := by
      rw [if_neg (by simp), flat_rep]; rfl
    rw [e] at N'
    exact h h' t F' N'
end

theorem ints_rep (x : Int) (t : Tok) : ∀ n, IntsAre (List.replicate n (.int x t)) (List.replicate n x)
  | 0 => .nil
  | n + 1 => .cons x t (ints_rep x t n)

theorem cut_bounds {mx tr rem : Int} (hm : 0 < mx) (ht : 0 < tr) (hr : 0 ≤ rem) : 0 ≤ cutI 1 mx tr rem ∧ cutI 1 mx tr rem ≤ rem ∧ cutI 1 mx tr rem ≤ mx ∧ (tr = 1 → 0 < rem → 0 < cutI 1 mx tr rem) := by
  have e1 : (1 * rem).fdiv tr = rem / tr := by rw [Int.one_mul, Int.fdiv_eq_ediv_of_nonneg _ (Int.le_of_lt ht)]
  have e2 : (1 * rem).fmod tr = rem % tr := by rw [Int.one_mul, Int.fmod_eq_emod_of_nonneg _ (Int.le_of_lt ht)]
  have e3 : (rem / tr).fmod 2 = rem / tr % 2 := Int.fmod_eq_emod_of_nonneg _ (by decide)
  unfold cutI
  rw [e1, e2, e3]
  have hq : 0 ≤ rem / tr := Int.ediv_nonneg hr (Int.le_of_lt ht)
  have hm0 := Int.emod_nonneg rem (Int.ne_of_gt ht)
  have hm1 := Int.emod_lt_of_pos rem ht
  have hd := Int.mul_ediv_add_emod rem tr
  have hqt : rem / tr ≤ tr * (rem / tr) := by
    have := Int.mul_le_mul_of_nonneg_right (show (1 : Int) ≤ tr by omega) hq
    omega
  have h1 : tr = 1 → rem / tr = rem := fun e => by rw [e, Int.ediv_one]
  generalize rem / tr = q at *
  generalize rem % tr = r at *
  generalize tr * q = z at *
  simp only [decide_eq_true_eq]
  refine ⟨?_, ?_, ?_, ?_⟩
  · split <;> split <;> omega
  · split <;> split <;> omega
  · split <;> split <;> omega
  · intro e1 e2
    have := h1 e1
    split <;> split <;> omega

theorem rr_facts : ∀ (rs mxs vs : List Int) (rem : Int), rs.length = vs.length → mxs.length = vs.length → (∀ r ∈ rs, r = 0 ∨ r = 1) → (∀ x ∈ mxs, 0 < x) → 0 ≤ rem →
    (rrGo rs mxs vs rs.sum rem).length = vs.length ∧ (rrGo rs mxs vs rs.sum rem).sum ≤ vs.sum ∧ (0 < rem → 0 < rs.sum → (rrGo rs mxs vs rs.sum rem).sum < vs.sum) ∧
      ∀ (i : Nat) r mx v x, rs[i]? = some r → mxs[i]? = some mx → vs[i]? = some v → (rrGo rs mxs vs rs.sum rem)[i]? = some x → x ≤ v ∧ v - mx ≤ x ∧ (r = 0 → x = v)
  | [], mxs, vs, rem, hl, _, _, _, _ => by
    cases vs with
    | nil => simp [rrGo]
    | cons => cases hl
  | r :: rs, [], [], rem, hl, _, _, _, _ => by cases hl
  | r :: rs, _ :: _, [], rem, hl, _, _, _, _ => by cases hl
  | r :: rs, [], _ :: _, rem, hl, h2, _, _, _ => by cases h2
  | r :: rs, mx :: mxs, v :: vs, rem, hl, hl2, h01, hm, hr => by
    have hs := sum_01 (rs := rs) fun x hx => h01 x (.tail _ hx)
    have hr01 := h01 r (.head _)
    have hmx := hm mx (.head _)
    have hl' : rs.length = vs.length := by simpa using hl
    have hl2' : mxs.length = vs.length := by simpa using hl2
    rw [rrGo]
    by_cases hc : r ≠ 0 ∧ 0 < (r :: rs).sum
    · rw [if_pos hc]
      have hr1 : r = 1 := by omega
      subst hr1
      have hb := cut_bounds hmx hc.2 hr
      have e : (1 :: rs).sum - 1 = rs.sum := by rw [List.sum_cons]; omega
      rw [e]
      obtain ⟨a1, a2, a3, a4⟩ := rr_facts rs mxs vs (rem - cutI 1 mx (1 :: rs).sum rem) hl' hl2' (fun x hx => h01 x (.tail _ hx)) (fun x hx => hm x (.tail _ hx)) (by omega)
      have hsm : (1 :: rs).sum = 1 + rs.sum := List.sum_cons
      generalize cutI 1 mx (1 :: rs).sum rem = c at *
      refine ⟨by simp [a1], by simp only [List.sum_cons]; omega, fun h1 _ => ?_, ?_⟩
      · simp only [List.sum_cons]
        by_cases hrs : rs.sum = 0
        · have := hb.2.2.2 (by omega) h1; omega
        · by_cases hc0 : c = 0
          · have := a3 (by omega) (by omega); omega
          · omega
      · intro i r' mx' v' x' g1 g2 g3 g4
        cases i with
        | zero =>
          simp only [List.getElem?_cons_zero, Option.some.injEq] at g1 g2 g3 g4
          subst g1 g2 g3 g4
          exact ⟨by omega, by omega, by omega⟩
        | succ i => exact a4 i r' mx' v' x' (by simpa using g1) (by simpa using g2) (by simpa using g3) (by simpa using g4)
    · rw [if_neg hc]
      have hr0 : r = 0 := by
        rcases hr01 with h | h
        · exact h
        · exfalso; apply hc; subst h; rw [List.sum_cons]; omega
      subst hr0
      have e : (0 :: rs).sum = rs.sum := by rw [List.sum_cons]; omega
      rw [e]
      obtain ⟨a1, a2, a3, a4⟩ := rr_facts rs mxs vs rem hl' hl2' (fun x hx => h01 x (.tail _ hx)) (fun x hx => hm x (.tail _ hx)) hr
      refine ⟨by simp [a1], by simp only [List.sum_cons]; omega, fun h1 h2 => ?_, ?_⟩
      · simp only [List.sum_cons]; have := a3 h1 h2; omega
      · intro i r' mx' v' x' g1 g2 g3 g4
        cases i with
        | zero =>
          simp only [List.getElem?_cons_zero, Option.some.injEq] at g1 g2 g3 g4
          subst g1 g2 g3 g4
          exact ⟨by omega, by omega, by omega⟩
        | succ i => exact a4 i r' mx' v' x' (by simpa using g1) (by simpa using g2) (by simpa using g3) (by simpa using g4)
def sndVal (M : Int) (b : Bool) (w : Int) : Int := if b = true ∧ w ≠ M then w else 0
def IsTop (bs : List Bool) (ws : List Int) (M : Int) : Prop := (∃ i : Nat, bs[i]? = some true ∧ ws[i]? = some M) ∧ ∀ (i : Nat) x, bs[i]? = some true → ws[i]? = some x → x ≤ M
def IsSnd (bs : List Bool) (ws : List Int) (M S : Int) : Prop := (∃ (i : Nat) (b : Bool) (w : Int), bs[i]? = some b ∧ ws[i]? = some w ∧ S = sndVal M b w) ∧ ∀ (i : Nat) b w, bs[i]? = some b → ws[i]? = some w → sndVal M b w ≤ S
def tie (M : Int) (bs : List Bool) (ws : List Int) : List Int := List.zipWith (fun b w => if w = M ∧ b = true then 1 else 0) bs ws
def cwPass (bs : List Bool) (ws : List Int) (M S ex : Int) : List Int := rrGo (tie M bs ws) (List.replicate ws.length (min ex (M - S))) ws (tie M bs ws).sum ex
inductive CWL (bs : List Bool) (room : Int) : List Int → List Int → Prop
  | stop {ws} : ¬ (ws.sum ≠ 0 ∧ 0 < ws.sum - room) → CWL bs room ws ws
  | brk {ws} (M S : Int) : ws.sum ≠ 0 → 0 < ws.sum - room → IsTop bs ws M → IsSnd bs ws M S → M - S = 0 → CWL bs room ws ws
  | step {ws out} (M S : Int) : ws.sum ≠ 0 → 0 < ws.sum - room → IsTop bs ws M → IsSnd bs ws M S → M - S ≠ 0 → CWL bs room (cwPass bs ws M S (ws.sum - room)) out → CWL bs room ws out


theorem zw_get {α β γ : Type} {f : α → β → γ} {as : List α} {bs : List β} {i : Nat} {a : α} {b : β} (h1 : as[i]? = some a) (h2 : bs[i]? = some b) : (List.zipWith f as bs)[i]? = some (f a b) := by
  rw [List.getElem?_zipWith, h1, h2]
theorem tie_01 {M : Int} {bs : List Bool} {ws : List Int} : ∀ r ∈ tie M bs ws, r = 0 ∨ r = 1 := by
  intro r hr
  obtain ⟨i, hi, rfl⟩ := List.getElem_of_mem hr
  simp only [tie, List.getElem_zipWith]
  split
  · exact .inr rfl
  · exact .inl rfl
theorem tie_len {M : Int} {bs : List Bool} {ws : List Int} (h : ws.length = bs.length) : (tie M bs ws).length = ws.length := by simp [tie, h]
theorem tie_get {M : Int} {bs : List Bool} {ws : List Int} {i : Nat} {b : Bool} {v : Int} (h1 : bs[i]? = some b) (h2 : ws[i]? = some v) : (tie M bs ws)[i]? = some (if v = M ∧ b = true then 1 else 0) := zw_get h1 h2
theorem le_sum_of_mem : ∀ {rs : List Int}, (∀ r ∈ rs, r = 0 ∨ r = 1) → ∀ {x}, x ∈ rs → x ≤ rs.sum
  | r :: rs, h, x, hx => by
    have h1 := sum_01 (rs := rs) fun y hy => h y (.tail _ hy)
    have h2 := h r (.head _)
    rw [List.sum_cons]
    rcases List.mem_cons.mp hx with rfl | hx
    · omega
    · have := le_sum_of_mem (rs := rs) (fun y hy => h y (.tail _ hy)) hx
      omega
theorem tie_pos {M : Int} {bs : List Bool} {ws : List Int} (h : IsTop bs ws M) : 0 < (tie M bs ws).sum := by
  obtain ⟨⟨i, h1, h2⟩, _⟩ := h
  have e := tie_get (M := M) h1 h2
  rw [if_pos ⟨rfl, rfl⟩] at e
  have := le_sum_of_mem (tie_01 (M := M) (bs := bs) (ws := ws)) (List.mem_of_getElem? e)
  omega
theorem snd_bounds {M S : Int} {bs : List Bool} {ws : List Int} (h0 : ∀ x ∈ ws, 0 ≤ x) (ht : IsTop bs ws M) (hs : IsSnd bs ws M S) : 0 ≤ S ∧ S ≤ M := by
  obtain ⟨⟨i, h1, h2⟩, h3⟩ := ht
  obtain ⟨⟨j, b, v, g1, g2, g3⟩, g4⟩ := hs
  have a1 := g4 i _ _ h1 h2
  have a2 := h0 M (List.mem_of_getElem? h2)
  rw [sndVal, if_neg (by simp)] at a1
  refine ⟨a1, ?_⟩
  rw [g3, sndVal]
  split
  · rename_i hc
    exact h3 j v (by rw [g1, hc.1]) g2
  · exact a2
theorem cw_facts {M S ex : Int} {bs : List Bool} {ws : List Int} (hl : ws.length = bs.length) (h0 : ∀ x ∈ ws, 0 ≤ x) (ht : IsTop bs ws M) (hs : IsSnd bs ws M S) (hd : M - S ≠ 0) (hx : 0 < ex) :
    (cwPass bs ws M S ex).length = ws.length ∧ (cwPass bs ws M S ex).sum < ws.sum ∧ (∀ x ∈ cwPass bs ws M S ex, 0 ≤ x) ∧
      ∀ (i : Nat) b v x, bs[i]? = some b → ws[i]? = some v → (cwPass bs ws M S ex)[i]? = some x → x ≤ v ∧ (¬ (v = M ∧ b = true) → x = v) ∧ v - (M - S) ≤ x := by
  have hb := snd_bounds h0 ht hs
  have hmx : 0 < min ex (M - S) := by omega
  obtain ⟨a1, a2, a3, a4⟩ := rr_facts (tie M bs ws) (List.replicate ws.length (min ex (M - S))) ws ex (tie_len hl) (by simp) tie_01 (fun x hx => by rw [List.eq_of_mem_replicate hx]; exact hmx) (by omega)
  have key : ∀ (i : Nat) b v x, bs[i]? = some b → ws[i]? = some v → (cwPass bs ws M S ex)[i]? = some x → x ≤ v ∧ (¬ (v = M ∧ b = true) → x = v) ∧ v - (M - S) ≤ x := by
    intro i b v x h1 h2 h3
    have h4 : (List.replicate ws.length (min ex (M - S)))[i]? = some (min ex (M - S)) := by
      rw [List.getElem?_replicate, if_pos (List.getElem?_eq_some_iff.mp h2).1]
    obtain ⟨c1, c2, c3⟩ := a4 i _ _ v x (tie_get h1 h2) h4 h2 h3
    exact ⟨c1, fun hn => c3 (if_neg hn), by omega⟩
  refine ⟨a1, a3 hx (tie_pos ht), fun x hx' => ?_, key⟩
  obtain ⟨i, hi, rfl⟩ := List.getElem_of_mem hx'
  have hi1 : i < ws.length := by
    have : (cwPass bs ws M S ex).length = ws.length := a1
    omega
  have hi2 : i < bs.length := by omega
  obtain ⟨k1, k2, k3⟩ := key i _ _ _ (List.getElem?_eq_getElem hi2) (List.getElem?_eq_getElem hi1) (List.getElem?_eq_getElem hi)
  by_cases hc : ws[i] = M ∧ bs[i] = true
  · omega
  · rw [k2 hc]; exact h0 _ (List.getElem_mem hi1)

theorem isTop_of {bs : List Bool} {ws : List Int} {M : Int} {n : Nat} (hl : ws.length = bs.length) (hn : n = ws.length) (h1 : ∃ i, i < n ∧ bs.getD i false = true ∧ M = ws.getD i 0) (h2 : ∀ i, i < n → bs.getD i false = true → ws.getD i 0 ≤ M) : IsTop bs ws M := by
  subst hn
  obtain ⟨i, hi, hb, hm⟩ := h1
  have hib : i < bs.length := by omega
  refine ⟨⟨i, ?_, ?_⟩, fun j x g1 g2 => ?_⟩
  · rw [List.getD_eq_getElem?_getD, List.getElem?_eq_getElem hib, Option.getD_some] at hb
    rw [List.getElem?_eq_getElem hib, hb]
  · rw [List.getD_eq_getElem?_getD, List.getElem?_eq_getElem hi, Option.getD_some] at hm
    rw [List.getElem?_eq_getElem hi, hm]
  · have hj := (List.getElem?_eq_some_iff.mp g2).1
    have := h2 j hj (by rw [List.getD_eq_getElem?_getD, g1, Option.getD_some])
    rw [List.getD_eq_getElem?_getD, g2, Option.getD_some] at this
    exact this
theorem isSnd_of {bs : List Bool} {ws : List Int} {M S : Int} {n : Nat} (hl : ws.length = bs.length) (hn : n = ws.length) (h1 : ∃ i, i < n ∧ true = true ∧ S = sndVal M (bs.getD i false) (ws.getD i 0)) (h2 : ∀ i, i < n → true = true → sndVal M (bs.getD i false) (ws.getD i 0) ≤ S) : IsSnd bs ws M S := by
  subst hn
  obtain ⟨i, hi, _, hm⟩ := h1
  have hib : i < bs.length := by omega
  refine ⟨⟨i, _, _, List.getElem?_eq_getElem hib, List.getElem?_eq_getElem hi, ?_⟩, fun j b x g1 g2 => ?_⟩
  · rw [List.getD_eq_getElem?_getD, List.getD_eq_getElem?_getD, List.getElem?_eq_getElem hib, List.getElem?_eq_getElem hi, Option.getD_some, Option.getD_some] at hm
    exact hm
  · have hj := (List.getElem?_eq_some_iff.mp g2).1
    have := h2 j hj rfl
    rw [List.getD_eq_getElem?_getD, List.getD_eq_getElem?_getD, g1, g2, Option.getD_some, Option.getD_some] at this
    exact this

theorem while_stop {prog : Program} {w : World} {A : Around} {R : Result → Shared → Prop} {s : Shared} {test : PySem.Expr} {body orelse : List Stmt} {env : Env} (I : Nat → Shared → Prop)
    (turn : ∀ n s, I n s →
      wpAny (model prog w) A (isTrue test env (eval test env)) (fun b s₂ =>
        if b then wpAny (model prog w) A (execs body env) (fun f s₃ => match f with
            | .next | .cont => Stop (∃ m, m < n ∧ I m s₃)
            | .brk => R (.ok .next) s₃
            | .ret v => R (.ok (.ret v)) s₃) (notedBy (model prog w) A env fun e s' => R (.error e) s') s₂
        else wpAny (model prog w) A (execs orelse env) (fun f s₃ => R (.ok f) s₃) (notedBy (model prog w) A env fun e s' => R (.error e) s') s₂)
        (notedBy (model prog w) A env fun e s' => R (.error e) s') s)
    (n : Nat) (h : I n s) : codeAny (model prog w) A (.whileLoop test body orelse env) R s := codeAny_whileLoop I turn n h

theorem sum_nonneg : ∀ {l : List Int}, (∀ x ∈ l, 0 ≤ x) → 0 ≤ l.sum
  | [], _ => Int.le_refl _
  | a :: l, h => by
    have h1 := h a (.head _)
    have h2 := sum_nonneg (l := l) fun x hx => h x (.tail _ hx)
    rw [List.sum_cons]; omega
theorem cw_less {M S ex : Int} {bs : List Bool} {ws : List Int} (hl : ws.length = bs.length) (h0 : ∀ x ∈ ws, 0 ≤ x) (ht : IsTop bs ws M) (hs : IsSnd bs ws M S) (hd : M - S ≠ 0) (hx : 0 < ex) (hne : ws.sum ≠ 0) : (cwPass bs ws M S ex).sum.toNat < ws.sum.toNat := by
  have h1 := (cw_facts hl h0 ht hs hd hx).2.1
  have h2 := sum_nonneg h0
  omega
end Mine

namespace Mine
section
variable {prog : Program} {w : World} {A : Around} {E : Value → Shared → Prop} {s : Shared} {K : Frag} {h₀ : Heap} {L a cA P : Addr} {m mg mb : Str → Option Value} {cn : Str} {cs : Scope} {cl : List (Str × Addr)} {p : Program} {loose : List Str} {mean : ExcName → Option Value}
  {news : List (Addr × Obj)} {ps : Array Value}

/-- a generator expression's code: found in the table or laid there -/
theorem genCode {M : Model} {env : Env} {pos : Pos} {qn : Str} {scope : Scope} {Q : Value → Shared → Prop} (hc : env.code = .ref cA) (C : CodeHd s.heap cA P) (hP : s.heap.get? P = some (tabObj ps)) (ht : TriplesOk ps.toList)
    (h : ∀ code h' tk ps', Heap.ExtBut P s.heap h' → s.heap.objs.size ≤ h'.objs.size → h'.get? P = some (tabObj ps') → TriplesOk ps'.toList → Q code { s with heap := h', toks := tk }) :
    wpAny M A (genexprCode env pos qn scope) Q E s := by
  cases hf : codeAmong pos ps.toList with
  | some cv => exact wpAny_genexprCode_hit hc (C.code hP ht) hf (h cv s.heap s.toks ps (fun _ _ _ e => e) (Nat.le_refl _) hP ht)
  | none =>
    refine wpAny_genexprCodeX hc (C.code hP ht) (C.tab hP) hf fun c' h' tk hx hge hlt hcode _ htab _ => ?_
    refine h _ h' tk _ hx (Nat.le_trans hge (Nat.le_of_lt hlt)) htab.2 ?_
    obtain ⟨o, vs, file, tf, flags, tg, inF, text, tt, op, ho, hd, h11, h2, h7, h9, h10, hop, hpd, htr, hne⟩ := hcode
    exact htr

theorem gen_zip {elt : PySem.Expr} {x1 x2 n1 n2 : Str} {pa pb tp p1 p2 pz pc : Pos} {kk : Nat} {ifs : List PySem.Expr} {scope : Scope} {cl' : List (Str × Addr)} {pos : Pos} {Q : Value → Shared → Prop} {l1 l2 : Addr} {us1 us2 : List Value}
    (pt : Nat → Bool) (val : Nat → Int) (hh : A.handled = none) (F : Fr h₀ L s.heap m) (N : News h₀ L s.heap ((P, tabObj ps) :: news)) (hPn : ∀ q ∈ news, q.1 ≠ P) (X : K.In h₀) (T : Top p loose mean mg mb h₀)
    (C : CodeHd h₀ cA P) (ht : TriplesOk ps.toList) (G : AllBare s.gens)
    (e : nsIn K mainGlobals (Str.ofString "zip") = some none) (hk : cs.kind = .function)
    (hco : scope.isCoroutine = false) (hclos : closureFor scope (envX cn cs L a (.ref cA) cl) = pure cl') (hcell : ∀ z ∈ scope.names, z.2 ≠ .cell) (h0 : scope.names.lookup (".0" : Str) = some NameKind.local) (hkind : scope.kind = .function)
    (hxa : scope.names.lookup x1 = some .local) (hxb : scope.names.lookup x2 = some .local) (hab : x1 ≠ x2) (hroom : A.depth < recursionLimit)
    (hzk : (envX cn cs L a (.ref cA) cl).kindOf (Str.ofString "zip") = some .globalImplicit)
    (hk1 : (envX cn cs L a (.ref cA) cl).kindOf n1 = some .local) (hk2 : (envX cn cs L a (.ref cA) cl).kindOf n2 = some .local) (hd1 : (n1 == ("__debug__" : Str)) = false) (hd2 : (n2 == ("__debug__" : Str)) = false)
    (h1 : m n1 = some (.ref l1)) (h2 : m n2 = some (.ref l2)) (hl1 : s.heap.IsList l1 us1.toArray) (hl2 : s.heap.IsList l2 us2.toArray) (hlen : us1.length = us2.length)
    (htest : ∀ C code (A' : Around) E' (i : Nat) va vb (t : Shared) m₂, A'.handled = none → us1[i]? = some va → us2[i]? = some vb → t.heap.Ns C m₂ → m₂ x1 = some va → m₂ x2 = some vb →
      (∀ b o, b ≠ P → s.heap.get? b = some o → t.heap.get? b = some o) →
      wpAny (model prog w) A' (forIn ifs true fun c r => if r = true then do let ok ← isTrue c (genEnv scope cl' C code builtinsNs (envX cn cs L a (.ref cA) cl)) (eval c (genEnv scope cl' C code builtinsNs (envX cn cs L a (.ref cA) cl))); pure (ForInStep.yield ok) else pure (ForInStep.yield r))
        (fun ok s₃ => ok = pt i ∧ Keeps t s₃) E' t)
    (helt : ∀ C code (A' : Around) E' (i : Nat) va vb (t : Shared) m₂, A'.handled = none → us1[i]? = some va → us2[i]? = some vb → pt i = true → t.heap.Ns C m₂ → m₂ x1 = some va → m₂ x2 = some vb →
      (∀ b o, b ≠ P → s.heap.get? b = some o → t.heap.get? b = some o) →
      wpAny (model prog w) A' (eval elt (genEnv scope cl' C code builtinsNs (envX cn cs L a (.ref cA) cl))) (fun y s₃ => (∃ tk, y = .int (val i) tk) ∧ Keeps t s₃) E' t)
    (hQ : ∀ g s₅ ps', Fr h₀ L s₅.heap m → News h₀ L s₅.heap ((P, tabObj ps') :: news) → TriplesOk ps'.toList → AllBare s₅.gens → s₅.os = s.os → s.heap.objs.size ≤ s₅.heap.objs.size →
      (∀ b o, b ≠ P → s.heap.get? b = some o → s₅.heap.get? b = some o) →
      Gen prog w A (s.heap.objs.size - 1) g (passing pt us1.length 0).length (fun j y => ∃ i, (passing pt us1.length 0)[j]? = some i ∧ ∃ tk, y = .int (val i) tk) s₅ → Q (.ref g) s₅)
    (hs : ∀ x, genFold (.Call (.Name (Str.ofString "zip") pz) [.Name n1 p1, .Name n2 p2] [] pc) (envX cn cs L a (.ref cA) cl) x = pure x) :
    wpAny (model prog w) A (eval (.GeneratorExp elt [⟨.Tuple [.Name x1 pa, .Name x2 pb] kk tp, .Call (.Name (Str.ofString "zip") pz) [.Name n1 p1, .Name n2 p2] [] pc, ifs, 0⟩] scope pos) (envX cn cs L a (.ref cA) cl)) Q E s := by
  have hPm := N (P, tabObj ps) (.head _)
  have hLlt : L < s.heap.objs.size := F.ns.lt
  have hPlt : P < s.heap.objs.size := Heap.lt_size hPm.1
  have nP : ∀ {h : Heap} {l : Addr} {xs : Array Value}, h.get? P = some (tabObj ps) → h.IsList l xs → l ≠ P := fun hp hl q => by
    obtain ⟨o, ho, hc, _⟩ := hl
    rw [q, hp] at ho; cases ho; cases hc
  have n1 := nP hPm.1 hl1
  have n2 := nP hPm.1 hl2
  have hh₀ : ∀ b, s.heap.objs.size ≤ b → h₀.get? b = none := fun b hb => fresh_none (Nat.le_trans F.above (Nat.le_trans (Nat.le_of_lt hLlt) hb))
  have h₀P : ∀ b o, h₀.get? b = some o → b ≠ P := fun b o e q => by rw [q, hPm.2.2] at e; cases e
  refine wpAny_GeneratorExp_walksQTD hh hco hclos hcell h0 hxa hxb hab hkind hroom ?_ hs
  refine zip_eval F X (topRead_of T) e hk hzk hk1 hk2 hd1 hd2 h1 h2 hl1 hl2 fun h' z TI TO i1 i2 D st F' hkp kz kTO k1 k2 kL => ?_
  have W := fun (A' : Around) (hA : A'.handled = none) => (WalksT.zip2 (prog := prog) (w := w) hA z TI TO i1 i2 l1 l2 D us1.toArray us2.toArray).toU
  have hwr : ∀ b ∈ [z, TO, i1, i2], s.heap.objs.size ≤ b := by
    intro b hb
    simp only [List.mem_cons, List.not_mem_nil, or_false] at hb
    rcases hb with rfl | rfl | rfl | rfl <;> assumption
  have hold : ∀ b, b < s.heap.objs.size → b ∉ [z, TO, i1, i2] := fun b hb hm => Nat.lt_irrefl _ (Nat.lt_of_lt_of_le hb (hwr b hm))
  have hfp : ∀ b ∈ [z, TI, TO, i1, i2, l1, l2], b < h'.objs.size ∧ b ≠ P := by
    have tP := hkp _ _ hPm.1
    obtain ⟨hz, hTI, ⟨ta, tb, hTO⟩, ⟨o1, e1, c1, _⟩, ⟨o2, e2, c2, _⟩, ⟨o3, e3, c3, _⟩, ⟨o4, e4, c4, _⟩⟩ := st
    have ne : ∀ {b : Addr} {o : Obj}, h'.get? b = some o → o.cls ≠ .none → b < h'.objs.size ∧ b ≠ P := fun e hc => ⟨Heap.lt_size e, fun q => by rw [q, tP] at e; cases e; exact hc rfl⟩
    intro b hb
    simp only [List.mem_cons, List.not_mem_nil, or_false] at hb
    rcases hb with rfl | rfl | rfl | rfl | rfl | rfl | rfl
    · exact ne hz (by simp)
    · exact ne hTI (by simp)
    · exact ne hTO (by simp)
    · exact ne e1 (by rw [c1]; simp)
    · exact ne e2 (by rw [c2]; simp)
    · exact ne e3 (by rw [c3]; simp)
    · exact ne e4 (by rw [c4]; simp)
  refine (W A hh).self 0 _ _ _ st ?_
  have NL := T.nolimit.keeps F'.keep
  refine ⟨NL, genCode (env := envX cn cs L a (.ref cA) cl) rfl (C.keeps F'.keep) (hkp _ _ hPm.1) ht fun code h₃ tk₃ ps' hx₃ hsz₃ hP₃ ht₃ => ?_⟩
  have up₃ : ∀ b o, b ≠ P → s.heap.get? b = some o → h₃.get? b = some o := fun b o hb e => hx₃ b o hb (hkp b o e)
  have F₃ : Fr h₀ L h₃ m := ⟨F'.ns.extBut hx₃ (Ne.symm hPm.2.1), fun b o e => hx₃ b o (h₀P b o e) (F'.keep b o e), F'.above⟩
  have N₃ : News h₀ L h₃ ((P, tabObj ps') :: news) := fun q hq => by
    rcases List.mem_cons.mp hq with rfl | hq
    · exact ⟨hP₃, hPm.2⟩
    · have y := N q (.tail _ hq)
      exact ⟨up₃ _ _ (hPn q hq) y.1, y.2⟩
  have hsz : h'.objs.size ≤ h₃.objs.size := hsz₃
  have hss : s.heap.objs.size ≤ h'.objs.size := Nat.le_trans kz (Nat.le_of_lt (Heap.lt_size st.1))
  have hgs := T.g.keeps F₃.keep
  obtain ⟨bm, ob, b1, b2, b3, b4, b5, b6⟩ := T.bmain
  refine wpAny_builtinsFor hgs b1 b2 (F₃.keep _ _ b3) b4 b5 b6 ?_
  have NL₃ := T.nolimit.keeps F₃.keep
  have hcst : cStatics < s.heap.objs.size := by obtain ⟨_, hn, _⟩ := T.nolimit.keeps F.keep; exact hn.lt
  refine ⟨z, _, _, _, _, _, _, pt, (fun i y => ∃ tk, y = .int (val i) tk), rfl, W, (fun i vals hv => by obtain ⟨x, y, _, _, e⟩ := hv; exact ⟨x, y, e⟩), (W A hh).frame _ _ _ st (fun b hb o e => hx₃ b o (hfp b hb).2 e),
    (fun b hb => Nat.lt_of_lt_of_le (hfp b hb).1 hsz), NL₃, hold _ hcst, (fun href hhref => ?_), fun g h₅ tk gs hgb hag hsz₅ hk₅ WS hat => ?_⟩
  · have inB : ∀ (t : Shared), (∀ b ∈ List.range h₃.objs.size, b ∉ [z, TO, i1, i2] → ∀ o, href.get? b = some o → t.heap.get? b = some o) → ∀ b o, b ≠ P → s.heap.get? b = some o → t.heap.get? b = some o := fun t hkp' b o hbP e =>
      hkp' b (List.mem_range.mpr (Heap.lt_size (up₃ b o hbP e))) (hold b (Heap.lt_size e)) o (hhref b o (up₃ b o hbP e))
    refine ⟨fun A' E' i va vb t m₂ hA _ _ hP hn ha hb hkp' => ?_, fun A' E' i va vb t m₂ hA _ _ hP hpz hn ha hb hkp' => ?_⟩
    · obtain ⟨x, y, hx, hy, e'⟩ := hP
      obtain ⟨e1, e2⟩ : va = x ∧ vb = y := by simpa using congrArg Array.toList e'
      subst e1 e2
      exact htest _ code A' E' i va vb t m₂ hA (by simpa using hx) (by simpa using hy) hn ha hb (inB t hkp')
    · obtain ⟨x, y, hx, hy, e'⟩ := hP
      obtain ⟨e1, e2⟩ : va = x ∧ vb = y := by simpa using congrArg Array.toList e'
      subst e1 e2
      exact helt _ code A' E' i va vb t m₂ hA (by simpa using hx) (by simpa using hy) hpz hn ha hb (inB t hkp')
  · have hmin : min us1.toArray.size us2.toArray.size = us1.length := by simp [hlen]
    rw [hmin] at WS hat
    have hs5 : s.heap.objs.size ≤ h₅.objs.size := by rw [hsz₅]; exact Nat.le_succ_of_le (Nat.le_of_lt (Nat.lt_of_le_of_lt (Nat.le_trans hss hsz) hag))
    refine hQ g _ ps' (F₃.keeps hk₅) (N₃.grown hk₅) ht₃ (G.push hgb) rfl hs5 (fun b o hb e => hk₅ b o (up₃ b o hb e)) ⟨_, _, _, _, WS, hat, (fun i s' st => st.1.typeIs), List.mem_cons_self, ?_, ?_⟩
    · intro b hb
      show b < h₅.objs.size
      rw [hsz₅]
      rcases List.mem_cons.mp hb with rfl | hb
      · exact Nat.lt_succ_self _
      · rcases List.mem_cons.mp hb with rfl | hb
        · exact Nat.lt_succ_of_lt hag
        · exact Nat.lt_succ_of_lt (Nat.lt_trans (List.mem_range.mp hb) hag)
    · have lt : ∀ b, s.heap.objs.size ≤ b → s.heap.objs.size - 1 < b := fun b hb => Nat.lt_of_lt_of_le (Nat.sub_lt (Nat.lt_of_le_of_lt (Nat.zero_le _) hLlt) (by decide)) hb
      intro b hb
      rcases List.mem_cons.mp hb with rfl | hb
      · exact lt _ (Nat.le_trans hss hsz)
      · exact lt _ (hwr b hb)

/-- max over such a generator -/
theorem gen_max {g : Addr} {n : Nat} {pt : Nat → Bool} {val : Nat → Int} {Q : Value → Shared → Prop} {Kb : Addr} (F : Fr h₀ L s.heap m) (N : News h₀ L s.heap news) (G : AllBare s.gens) (hLK : L ≤ Kb) (hNK : ∀ q ∈ news, q.1 ≤ Kb)
    (X : Gen prog w A Kb g (passing pt n 0).length (fun j y => ∃ i, (passing pt n 0)[j]? = some i ∧ ∃ tk, y = .int (val i) tk) s) (hn : ∃ i, i < n ∧ pt i = true)
    (hQ : ∀ s' M t', Fr h₀ L s'.heap m → News h₀ L s'.heap news → AllBare s'.gens → s'.os = s.os → (∀ b o, b ≤ Kb → s.heap.get? b = some o → s'.heap.get? b = some o) → (∃ i, i < n ∧ pt i = true ∧ M = val i) → (∀ i, i < n → pt i = true → val i ≤ M) → Q (.int M t') s') :
    wpAny (model prog w) A (call (.builtin "max") [.ref g]) Q E s := by
  have hpass : passing pt n 0 = (List.range n).filter pt := by simp [passing]
  rw [hpass] at X
  have hmem : ∀ i, i ∈ (List.range n).filter pt ↔ i < n ∧ pt i = true := fun i => by simp
  have hlen : 0 < ((List.range n).filter pt).length := by
    obtain ⟨i, h1, h2⟩ := hn
    exact List.length_pos_of_mem ((hmem i).mpr ⟨h1, h2⟩)
  refine max_rowsK F G X hLK hlen (fun j => val (((List.range n).filter pt).getD j 0)) (fun j v hv => ?_) fun s' j t' F' G' hos hk hj hall => ?_
  · obtain ⟨i, hi, tk, rfl⟩ := hv
    exact ⟨tk, by simp [List.getD_eq_getElem?_getD, hi]⟩
  · have e : ((List.range n).filter pt).getD j 0 = ((List.range n).filter pt)[j] := by rw [List.getD_eq_getElem?_getD, List.getElem?_eq_getElem hj, Option.getD_some]
    refine hQ s' _ t' F' (fun q hq => ⟨hk _ _ (hNK q hq) (N q hq).1, (N q hq).2⟩) G' hos hk ⟨_, ?_, ?_, by rw [e]⟩ fun i h1 h2 => ?_
    · exact ((hmem _).mp (List.getElem_mem hj)).1
    · exact ((hmem _).mp (List.getElem_mem hj)).2
    · obtain ⟨j', hj', e'⟩ := List.getElem_of_mem ((hmem i).mpr ⟨h1, h2⟩)
      have := hall j' hj'
      rwa [show ((List.range n).filter pt).getD j' 0 = i by rw [List.getD_eq_getElem?_getD, List.getElem?_eq_getElem hj', Option.getD_some, e']] at this
end
end Mine

namespace Mine
section
variable {prog : Program} {w : World} {A : Around} {s : Shared} {K : Frag} {hb : Heap} {mg mb : Str → Option Value} {p : Program} {loose : List Str} {mean : ExcName → Option Value}
    {R : Result → Shared → Prop} {name qual : Str} {params : Arguments} {body : List Stmt} {scope : Scope} {dV kV doc pm cdv ct oc : Value} {an od : Option Addr} {osl : Array (Option Value)} {f : Addr} {args : Args} {binds : List (Str × Value)}
    {news : List (Addr × Obj)}

/-- a call of a def with captured locals, some objects laid aside -/
theorem enterC (X : K.In s.heap) (T : s.heap.NoLimit)
    (ho : K.lookup f = some ⟨oc, od, .func (fnOf name qual params body scope dV kV doc pm an cdv ct), osl⟩) (hcd : codeIn K cdv qual = true) (hroom : A.depth < recursionLimit)
    (hbind : BindsTo s (fnOf name qual params body scope dV kV doc pm an cdv ct) args binds)
    (hkind : (binds.all fun y => scope.names.lookup y.1 == some .local || scope.names.lookup y.1 == some .cell) = true)
    (hnd : ((cellsFrom 0 scope.names []).map (·.1)).Nodup) (hnews : ∀ q ∈ news, s.heap.get? q.1 = some q.2)
    (h : ∀ L' h₁ tk cells, Fr (hideAll s.heap (news.map (·.1))) L' h₁ (bindL (envOfC qual scope L' f cdv).kindOf binds fun _ => none) → News (hideAll s.heap (news.map (·.1))) L' h₁ (cells ++ news) →
      CellsAre (bindC (envOfC qual scope L' f cdv).kindOf binds fun _ => none) (cellsFrom (L' + 1) scope.names []) cells → (∀ q ∈ news, q.1 < L') →
      wpAny (model prog w) (A.deeper (envOfC qual scope L' f cdv)) (execs body (envOfC qual scope L' f cdv))
        (fun fl s' => R (.ok (.ret (match fl with | .ret v => v | _ => .none))) s') (fun _ _ => False) { s with heap := h₁, toks := tk })
    (hco : scope.isCoroutine = false) (hgen : scope.isGenerator = false) (hk : scope.kind = .function) : codeAny (model prog w) A (.call (.ref f) args) R s := by
  refine codeAny_call_function (fd := fnX name qual params body scope [] dV kV doc pm an cdv ct) hroom (X _ _ ho) rfl hco hgen rfl (codeRec_of X hcd) (hbind _ _ _ _ ?_)
  refine wpAny_newFunctionEnv_cells hk (kindsX hkind _) fun env' he s' x => ?_
  subst he
  refine ⟨T.keeps x.toInCall.keep, codeAny_func ?_⟩
  obtain ⟨h₁, tk, rfl, _⟩ := x.done
  have hk₁ := x.toInCall.keep
  obtain ⟨cells, NC, Y⟩ := Cl.news (h₀ := s.heap) (Nat.le_refl _) fun n c hm => ⟨x.cell n c (lookup_of_mem_nodup (cellsFrom_names scope.names 0 (s.heap.objs.size + 1) [] [] rfl ▸ hnd) hm), x.above n c hm⟩
  refine wpAny_mono (h s.heap.objs.size h₁ tk cells ⟨x.toInCall.ns, fun b o e => hk₁ b o (of_hideAll _ e), Nat.le_of_eq (hideAll_size _ _)⟩ (fun p hp => ?_) Y (fun p hp => Heap.lt_size (hnews p hp))) (fun _ _ y => y) fun _ _ y => y.elim
  rcases List.mem_append.mp hp with hp | hp
  · refine ⟨(NC p hp).1, (NC p hp).2.1, ?_⟩
    cases q : (hideAll s.heap (news.map (·.1))).get? p.1 with
    | none => rfl
    | some o => have := of_hideAll _ q; rw [(NC p hp).2.2] at this; cases this
  · exact ⟨hk₁ _ _ (hnews p hp), Nat.ne_of_lt (Heap.lt_size (hnews p hp)), hideAll_none _ (List.mem_map_of_mem hp)⟩
end
end Mine

namespace Mine
theorem fill4 : Mine.hd.heap_39 = Mine.hd.heap_39 ∧ PySem.Challenge.rw_ff5026_01 = PySem.Challenge.rw_ff5026_01 := by
  k_fill
  exact ⟨rfl, rfl⟩
local macro_rules | `(tactic| walk_at "exec While") => `(tactic| (refine stop_here ?_))
local macro_rules | `(tactic| walk_at "eval GeneratorExp") => `(tactic| (refine stop_here ?_))
local macro_rules | `(tactic| walk_at "call builtin:max") => `(tactic| (refine stop_here ?_))
local macro_rules | `(tactic| walk_at "exec Assign cons ListComp") => `(tactic| (refine stop_here ?_))
local macro_rules | `(tactic| walk_at "call builtin:any") => `(tactic| (refine stop_here ?_))
local macro_rules | `(tactic| walk_at "binaryOp Mult ref int") => `(tactic| (refine stop_here ?_))
local macro_rules | `(tactic| walk_at "call ref") => `(tactic| (refine stop_here ?_))

set_option maxHeartbeats 4000000 in
theorem cw_ok {prog : Program} {w : World} {dp un : Nat} {fr : Option (List Env)} {gd : Option (List Code)} {s : Shared} {hb : Heap} {mg mb : Str → Option Value} {p : Program} {loose : List Str} {mean : ExcName → Option Value}
    {room : Int} {tr : Tok} {cls : Value} {lw la : Addr} {us ub : List Value} {cw : Nat} {ws : List Int} {bs : List Bool} {ps : Array Value} {Q E : Value → Shared → Prop}
    (X : (Mine.hd.heap_39 w.params).In hb) (T : Top p loose mean mg mb hb) (hsub : ∀ b o, hb.get? b = some o → s.heap.get? b = some o) (hbP : hb.get? 272 = none) (hbw : hb.get? lw = none) (C : CodeHd hb 274 272)
    (hP : s.heap.get? 272 = some (tabObj ps)) (ht : TriplesOk ps.toList) (G : AllBare s.gens)
    (hd : dp + 3 < recursionLimit) (hu : un + 32 < cLine)
    (hw : s.heap.get? lw = some (listOf us.toArray cw)) (hi : IntsAre us ws) (hla : s.heap.IsList la ub.toArray) (hib : LSm.BoolsAre ub bs)
    (hlaw : la ≠ lw) (hlen : ws.length = bs.length) (hn : ws.length ≤ 63) (h0 : ∀ x ∈ ws, 0 ≤ x)
    (hQ : ∀ r us' c' ws' s', (r = lw ∨ s.heap.get? r = none) → (∀ b o, b ≠ 272 → s.heap.get? b = some o → s'.heap.get? b = some o) → (∃ ps', TriplesOk ps'.toList ∧ s'.heap.get? 272 = some (tabObj ps')) → AllBare s'.gens → s'.os = s.os →
      s'.heap.get? r = some (listOf us'.toArray c') → IntsAre us' ws' → (bs.any id = false ∧ ws' = ws ∨ bs.any id = true ∧ CWL bs room ws ws') → Q (.ref r) s') :
    codeAny (model prog w) { handled := none, depth := dp, frames := fr, guards := gd, units := un } (.call (.ref 275) ⟨[cls, .ref lw, .ref la, .int room tr], []⟩) (fun r s' => match r with | .ok (.ret v) => Q v s' | .ok _ => False | .error e => E e s') s := by
  have := fill4
  have hL1 := hi.length
  have hL2 := hib.length
  have hlwP : lw ≠ 272 := fun q => by rw [q, hP] at hw; cases hw
  refine' enterC (news := [(272, tabObj ps), (lw, listOf us.toArray cw)]) (binds := [(Str.ofString "cls", cls), (Str.ofString "widths", .ref lw), (Str.ofString "wrapable", .ref la), (Str.ofString "max_width", .int room tr)])
    (K := Mine.hd.heap_39 w.params) (fun a o e => hsub a o (X a o e)) (T.nolimit.keeps hsub) ?k6 ?k7 ?k8 ?k9 ?kB ?kD ?kN ?_ ?c2 ?c3 ?c4
  case k6 => k_is
  case k7 => k_is
  case k8 => show dp < _; omega
  case k9 => exact BindsTo.of_eq rfl
  case kB => exact rfl
  case kD => decide +kernel
  case kN =>
    intro q hq
    simp only [List.mem_cons, List.not_mem_nil, or_false] at hq
    rcases hq with rfl | rfl
    · exact hP
    · exact hw
  case c2 => rfl
  case c3 => rfl
  case c4 => rfl
  intro L' h₁ tk cells F N Y hlow
  obtain ⟨oc, rfl, hoc⟩ := CellsAre.one Y
  generalize hg : hideAll s.heap _ = g at F N
  have hbg : ∀ b o, hb.get? b = some o → g.get? b = some o := fun b o e => by
    rw [← hg]
    refine hideAll_get _ (hsub b o e) fun q => ?_
    simp only [List.map_cons, List.map_nil, List.mem_cons, List.not_mem_nil, or_false] at q
    rcases q with rfl | rfl
    · rw [hbP] at e; cases e
    · rw [hbw] at e; cases e
  have X' := X.keeps hbg
  have T' := T.keeps hbg
  have C' := C.keeps hbg
  have hlag : g.IsList la ub.toArray := by
    obtain ⟨o, ho, hc, n, hd'⟩ := hla
    refine ⟨o, ?_, hc, n, hd'⟩
    rw [← hg]
    refine hideAll_get _ ho fun q => ?_
    simp only [List.map_cons, List.map_nil, List.mem_cons, List.not_mem_nil, or_false] at q
    rcases q with rfl | rfl
    · rw [hP] at ho; cases ho; cases hc
    · exact hlaw rfl
  have F1 : Fr g L' h₁ (fun y => if y = Str.ofString "max_width" then some (.int room tr) else if y = Str.ofString "wrapable" then some (.ref la) else if y = Str.ofString "widths" then some (.ref lw) else if y = Str.ofString "cls" then some cls else none) := by
    with_unfolding_all exact F
  have N1 : News g L' h₁ [(L' + 1, oc), (lw, listOf us.toArray cw), (272, tabObj ps)] := newsSub N fun q hq => by
    simp only [List.mem_cons, List.not_mem_nil, or_false, List.cons_append, List.nil_append] at hq ⊢
    rcases hq with rfl | rfl | rfl
    · exact .inl rfl
    · exact .inr (.inr rfl)
    · exact .inr (.inl rfl)
  have hlwL : lw < L' := hlow _ (.tail _ (.head _))
  have hPL : 272 < L' := hlow _ (.head _)
  have hoc' : oc.data = Data.cell none := hoc
  clear F N Y hlow hoc
  have hfr : ∀ (h' : Heap) (r : Addr) (o : Obj) ps', g.get? r = none → h'.get? r = some o → o.cls = .type "list" → h'.get? 272 = some (tabObj ps') → (r = lw ∨ s.heap.get? r = none) := by
    intro h' r o ps' e1 e2 e3 e4
    by_cases hr : r = lw
    · exact .inl hr
    · refine .inr ?_
      cases q : s.heap.get? r with
      | none => rfl
      | some o' =>
        exfalso
        have h272 : r ≠ 272 := fun z => by rw [z, e4] at e2; cases e2; cases e3
        have := hideAll_get [272, lw] q (by
          intro z
          simp only [List.mem_cons, List.not_mem_nil, or_false] at z
          rcases z with z | z
          · exact h272 z
          · exact hr z)
        have hg' : hideAll s.heap [272, lw] = g := hg
        rw [hg', e1] at this
        cases this
  have hkeep : ∀ h' : Heap, (∀ b o, g.get? b = some o → h'.get? b = some o) → h'.get? lw = some (listOf us.toArray cw) → ∀ b o, b ≠ 272 → s.heap.get? b = some o → h'.get? b = some o := by
    intro h' hk e b o hb ho
    by_cases hbl : b = lw
    · subst hbl; rw [hw] at ho; rw [← ho]; exact e
    · refine hk b o ?_
      rw [← hg]
      refine hideAll_get _ ho fun q => ?_
      simp only [List.map_cons, List.map_nil, List.mem_cons, List.not_mem_nil, or_false] at q
      rcases q with q | q
      · exact hb q
      · exact hbl q
  dsimp only
  k_steps
  refine Stop.go ?_
  rename Fr _ _ _ _ => F2
  rename News _ _ _ _ => N2
  refine LSm.any_bools F2 N2 rfl (F2.lst hlag) hib ?_
  intro h2 tk2 F3 N3
  clear F2 N2
  cases hany : bs.any id
  · dsimp only
    k_steps
    exact hQ lw us cw ws _ (.inl rfl) (hkeep _ F3.keep (N3 _ (.tail _ (.head _))).1) ⟨ps, ht, (N3 _ (.tail _ (.tail _ (.head _)))).1⟩ G rfl (N3 _ (.tail _ (.head _))).1 hi (.inl ⟨hany, rfl⟩)
  · dsimp only
    k_steps
    refine Stop.go ?_
    refine wpAny_While ?_
    refine while_stop (fun n s' => ∃ m' us' ws' lw' c' oc' vc ps' tT tE, n = ws'.sum.toNat ∧ Fr g L' s'.heap m' ∧ News g L' s'.heap [(272, tabObj ps'), (L' + 1, oc'), (lw', listOf us'.toArray c'), (lw, listOf us.toArray cw)] ∧
        oc'.data = Data.cell vc ∧ TriplesOk ps'.toList ∧ AllBare s'.gens ∧ s'.os = s.os ∧ m' (Str.ofString "widths") = some (.ref lw') ∧ m' (Str.ofString "wrapable") = some (.ref la) ∧ m' (Str.ofString "max_width") = some (.int room tr) ∧
        m' (Str.ofString "total_width") = some (.int ws'.sum tT) ∧ m' (Str.ofString "excess_width") = some (.int (ws'.sum - room) tE) ∧ IntsAre us' ws' ∧ ws'.length = bs.length ∧ (∀ x ∈ ws', 0 ≤ x) ∧ (∀ out, CWL bs room ws' out → CWL bs room ws out))
      ?turn ws.sum.toNat ?init
    case init =>
      exact ⟨_, us, ws, lw, cw, oc, _, ps, _, _, rfl, F3, newsSub N3 (by
        intro q hq
        simp only [List.mem_cons, List.not_mem_nil, or_false] at hq ⊢
        rcases hq with rfl | rfl | rfl | rfl
        · exact .inr (.inr rfl)
        · exact .inl rfl
        · exact .inr (.inl rfl)
        · exact .inr (.inl rfl)), hoc', ht, G, rfl, rfl, rfl, rfl, rfl, rfl, hi, hlen, h0, fun _ x => x⟩
    case turn =>
      clear F3 N3
      rintro n s' ⟨m', us', ws', lw', c', oc', vc, ps', tT, tE, rfl, F, N, hoc, ht', G', hos, e1, e2, e3, e4, e5, hi', hlen', h0', hstep⟩
      have F' : Fr g L' s'.heap (fun y => if y = Str.ofString "widths" then some (.ref lw') else if y = Str.ofString "wrapable" then some (.ref la) else if y = Str.ofString "max_width" then some (.int room tr) else if y = Str.ofString "total_width" then some (.int ws'.sum tT) else
          if y = Str.ofString "excess_width" then some (.int (ws'.sum - room) tE) else m' y) := by
        have em : (fun y => if y = Str.ofString "widths" then some (.ref lw') else if y = Str.ofString "wrapable" then some (.ref la) else if y = Str.ofString "max_width" then some (.int room tr) else if y = Str.ofString "total_width" then some (.int ws'.sum tT) else
          if y = Str.ofString "excess_width" then some (.int (ws'.sum - room) tE) else m' y) = m' := by
          funext y
          repeat' split
          all_goals first | rfl | (rename_i hy; rw [hy]; first | exact e1.symm | exact e2.symm | exact e3.symm | exact e4.symm | exact e5.symm)
        rw [em]; exact F
      clear F e1 e2 e3 e4 e5
      k_steps
      · have hpos : 0 < ws'.sum - room := by assumption
        have hne : ws'.sum ≠ 0 := by assumption
        refine Stop.go ?_
        have hL1' := hi'.length
        have hlwP' : lw' ≠ 272 := fun q => by
          have z1 := (N _ (.tail _ (.tail _ (.head _)))).1
          have z2 := (N _ (.head _)).1
          rw [q, z2] at z1; cases z1
        refine' gen_zip (ps := ps') (us1 := us') (us2 := ub) (news := [(L' + 1, oc'), (lw', listOf us'.toArray c'), (lw, listOf us.toArray cw)]) (fun i => bs.getD i false) (fun i => ws'.getD i 0) rfl F' N ?hPn X' T' C' ht' G' ?e rfl rfl ?hclos ?hcell rfl rfl rfl rfl ?hab ?hroom rfl rfl rfl rfl rfl rfl rfl ?hl1 ?hl2 ?hlen ?htest ?helt ?hQ ?hs
        case hPn =>
          intro q hq
          simp only [List.mem_cons, List.not_mem_nil, or_false] at hq
          rcases hq with rfl | rfl | rfl
          · exact Nat.ne_of_gt (Nat.lt_succ_of_lt hPL)
          · exact hlwP'
          · exact hlwP
        case e => k_is
        case hclos => with_unfolding_all rfl
        case hcell => decide
        case hab => decide
        case hroom => show dp + 1 < recursionLimit; omega
        case hl1 => exact ⟨_, (N _ (.tail _ (.tail _ (.head _)))).1, rfl, _, rfl⟩
        case hl2 => exact F'.lst hlag
        case hlen => have := hib.length; omega
        case hs => intro _; rfl
        case htest =>
          intro C code A' E' i va vb t m₂ hA h1 h2 hn ha hb hk
          obtain ⟨b, hb', rfl⟩ := hib.get _ _ h2
          have eb : bs.getD i false = b := by rw [List.getD_eq_getElem?_getD, hb', Option.getD_some]
          refine wpAny_tests_one ?_
          refine isTrue_plain (wpAny_Name (wpAny_loadName_local rfl rfl hn hb (wpAny_truthy_bool ?_)))
          exact ⟨eb.symm, _, _, rfl, fun _ _ e => e⟩
        case helt =>
          intro C code A' E' i va vb t m₂ hA h1 h2 hp hn ha hb hk
          obtain ⟨n, tk, hn', rfl⟩ := ints_at hi' h1
          refine wpAny_Name (wpAny_loadName_local rfl rfl hn ha ⟨⟨tk, ?_⟩, _, _, rfl, fun _ _ e => e⟩)
          show _ = Value.int (ws'.getD i 0) tk
          rw [List.getD_eq_getElem?_getD, hn', Option.getD_some]
        case hQ =>
          intro g1 s5 ps5 F5 N5 ht5 G5 hos5 hsz5 hk5 X5
          have hcs : ∀ q ∈ [(272, tabObj ps5), (L' + 1, oc'), (lw', listOf us'.toArray c'), (lw, listOf us.toArray cw)], q.1 ≤ s'.heap.objs.size - 1 := by
            have key : ∀ p ∈ [(272, tabObj ps'), (L' + 1, oc'), (lw', listOf us'.toArray c'), (lw, listOf us.toArray cw)], p.1 ≤ s'.heap.objs.size - 1 := fun p hp => Nat.le_sub_one_of_lt (Heap.lt_size (N p hp).1)
            intro q hq
            rcases List.mem_cons.mp hq with rfl | hq
            · exact key (272, tabObj ps') (.head _)
            · exact key _ (.tail _ hq)
          have hLK : L' ≤ s'.heap.objs.size - 1 := Nat.le_sub_one_of_lt F'.ns.lt
          clear N ht' G' F'
          k_steps
          refine Stop.go ?_
          refine gen_max F5 N5 G5 hLK hcs X5 ?_ ?_
          · obtain ⟨b, hbm, hbt⟩ := List.any_eq_true.mp hany
            obtain ⟨i, hi, e⟩ := List.getElem_of_mem hbm
            refine ⟨i, by omega, ?_⟩
            show bs.getD i false = true
            rw [List.getD_eq_getElem?_getD, List.getElem?_eq_getElem hi, Option.getD_some, e]
            exact hbt
          intro s6 M t6 F6 N6 G6 hos6 hk6 hM1 hM2
          clear F5 N5 G5 X5
          (try dsimp only)
          k_steps
          refine Stop.go ?_
          rename_i h7 o7 F7 N7 hd7
          simp only [List.cons_append, List.nil_append] at N7
          have hc7 : ∀ (h : Heap), (∀ b o, b ≠ 272 → h7.get? b = some o → h.get? b = some o) → h.IsCell (L' + 1) (some (.int M t6)) := fun h hk => ⟨o7, hk _ _ (Nat.ne_of_gt (Nat.lt_succ_of_lt hPL)) (N7 _ (.tail _ (.head _))).1, hd7⟩
          refine' gen_zip (ps := ps5) (us1 := us') (us2 := ub) (news := [(L' + 1, o7), (lw', listOf us'.toArray c'), (lw, listOf us.toArray cw)]) (fun i => true) (fun i => sndVal M (bs.getD i false) (ws'.getD i 0)) rfl F7 N7 ?hPn X' T' C' ht5 G6 ?e rfl rfl ?hclos ?hcell rfl rfl rfl rfl ?hab ?hroom rfl rfl rfl rfl rfl rfl rfl ?hl1 ?hl2 ?hlen ?htest ?helt ?hQ ?hs
          case hPn =>
            intro q hq
            simp only [List.mem_cons, List.not_mem_nil, or_false] at hq
            rcases hq with rfl | rfl | rfl
            · exact Nat.ne_of_gt (Nat.lt_succ_of_lt hPL)
            · exact hlwP'
            · exact hlwP
          case e => k_is
          case hclos => with_unfolding_all rfl
          case hcell => decide
          case hab => decide
          case hroom => show dp + 1 < recursionLimit; omega
          case hl1 => exact ⟨_, (N7 _ (.tail _ (.tail _ (.head _)))).1, rfl, _, rfl⟩
          case hl2 => exact F7.lst hlag
          case hlen => have := hib.length; omega
          case hs => intro _; rfl
          case htest =>
            intro C code A' E' i va vb t m₂ hA h1 h2 hn ha hb hk
            exact wpAny_tests_nil ⟨rfl, _, _, rfl, fun _ _ e => e⟩
          case helt =>
            intro C code A' E' i va vb t m₂ hA h1 h2 hp hn ha hb hk
            obtain ⟨n, tk, hn', rfl⟩ := ints_at hi' h1
            obtain ⟨b, hb', rfl⟩ := hib.get _ _ h2
            have en : ws'.getD i 0 = n := by rw [List.getD_eq_getElem?_getD, hn', Option.getD_some]
            have eb : bs.getD i false = b := by rw [List.getD_eq_getElem?_getD, hb', Option.getD_some]
            show wpAny _ _ _ (fun y s₃ => (∃ tk, y = Value.int (sndVal M (bs.getD i false) (ws'.getD i 0)) tk) ∧ Keeps t s₃) _ _
            rw [en, eb]
            refine wpAny_IfExp (isTrue_and (isTrue_plain (wpAny_Name (wpAny_loadName_local rfl rfl hn hb (wpAny_truthy_bool ?_)))))
            cases b
            · simp only [Bool.false_eq_true, if_false]
              refine wpAny_Constant_int ⟨?_, _, _, rfl, fun _ _ e => e⟩
              exact ⟨_, rfl⟩
            · simp only [if_true]
              refine isTrue_and (wpAny_isTrue_Compare1 (wpAny_Name (wpAny_loadName_local rfl rfl hn ha (wpAny_Name (wpAny_loadName_free (c := L' + 1) rfl rfl ?_ (hc7 _ hk) (ne_int (wpAny_truthy_bool ?_)))))))
              · rfl
              by_cases hnm : n = M
              · rw [show (n != M) = false by simp [hnm]]
                simp only [Bool.false_eq_true, if_false]
                exact wpAny_Constant_int ⟨⟨_, by rw [sndVal, if_neg (by simp [hnm])]⟩, _, _, rfl, fun _ _ e => e⟩
              · rw [show (n != M) = true by simpa using hnm]
                simp only [if_true]
                refine isTrue_and_nil ?_
                simp only [if_true]
                exact wpAny_Name (wpAny_loadName_local rfl rfl hn ha ⟨⟨tk, by rw [sndVal, if_pos ⟨rfl, hnm⟩]⟩, _, _, rfl, fun _ _ e => e⟩)
          case hQ =>
            intro g8 s8 ps8 F8 N8 ht8 G8 hos8 hsz8 hk8 X8
            have hcs8 : ∀ q ∈ [(272, tabObj ps8), (L' + 1, o7), (lw', listOf us'.toArray c'), (lw, listOf us.toArray cw)], q.1 ≤ h7.objs.size - 1 := by
              have key : ∀ p ∈ [(272, tabObj ps5), (L' + 1, o7), (lw', listOf us'.toArray c'), (lw, listOf us.toArray cw)], p.1 ≤ h7.objs.size - 1 := fun p hp => Nat.le_sub_one_of_lt (Heap.lt_size (N7 p hp).1)
              intro q hq
              rcases List.mem_cons.mp hq with rfl | hq
              · exact key (272, tabObj ps5) (.head _)
              · exact key _ (.tail _ hq)
            have hLK8 : L' ≤ h7.objs.size - 1 := Nat.le_sub_one_of_lt F7.ns.lt
            clear N7 ht5 G6 F7
            k_steps
            refine Stop.go ?_
            refine gen_max F8 N8 G8 hLK8 hcs8 X8 ?_ ?_
            · obtain ⟨i, hi, _⟩ := hM1
              exact ⟨i, hi, rfl⟩
            intro s9 S t9 F9 N9 G9 hos9 hk9 hS1 hS2
            have hTop := isTop_of hlen' hL1' hM1 hM2
            have hSnd := isSnd_of hlen' hL1' hS1 hS2
            clear F8 N8 G8 X8
            (try dsimp only)
            k_steps
            refine Stop.go ?_
            rename Fr _ _ _ _ => F10
            rename News _ _ _ _ => N10
            rename_i h10
            refine' zcomp (us1 := us') (us2 := ub) (fun va vb y => ∀ n t b, va = .int n t → vb = .bool b → ∃ t', y = .int (if n = M ∧ b = true then 1 else 0) t') rfl F10 N10 X' (topRead_of T') ?e rfl ?hsw ?hclos ?hcell rfl ?hnames rfl rfl ?hab rfl rfl rfl rfl ?hd1 ?hd2 rfl rfl ?hl1 ?hl2 ?hlen ?hsz ?helt ?hQ ?hs
            case e => k_is
            case hsw => with_unfolding_all rfl
            case hclos => with_unfolding_all rfl
            case hcell => decide
            case hnames => decide
            case hab => decide
            case hd1 => decide
            case hd2 => decide
            case hl1 => exact ⟨_, (N10 _ (.tail _ (.tail _ (.head _)))).1, rfl, _, rfl⟩
            case hl2 => exact F10.lst hlag
            case hlen => have := hib.length; omega
            case hsz => rw [sizeLine_eq]; omega
            case hs => intro _; rfl
            case helt =>
              intro C i va vb s₃ m₃ E' h1 h2 hns ha hb hk
              obtain ⟨n, tk, hn', rfl⟩ := ints_at hi' h1
              obtain ⟨b, hb', rfl⟩ := hib.get _ _ h2
              have hfin : ∀ x t', x = (if n = M ∧ b = true then (1 : Int) else 0) → ∀ n' t b', Value.int n tk = .int n' t → Value.bool b = .bool b' → ∃ t'', Value.int x t' = .int (if n' = M ∧ b' = true then 1 else 0) t'' := fun x t' ex n' t b' q1 q2 => by
                cases q1; cases q2; exact ⟨t', by rw [ex]⟩
              refine wpAny_IfExp (isTrue_and (wpAny_isTrue_Compare1 (wpAny_Name (wpAny_loadName_local rfl rfl hns ha (wpAny_Name (wpAny_loadName_cell (c := L' + 1) rfl rfl ?_ ⟨o7, hk _ _ (N10 _ (.tail _ (.head _))).1, hd7⟩ (eq_int (wpAny_truthy_bool ?_))))))))
              · rfl
              by_cases hnm : n = M
              · rw [show (n == M) = true by simp [hnm]]
                simp only [if_true]
                refine isTrue_and (isTrue_plain (wpAny_Name (wpAny_loadName_local rfl rfl hns hb (wpAny_truthy_bool ?_))))
                cases b
                · simp only [Bool.false_eq_true, if_false]
                  exact wpAny_Constant_int ⟨hfin 0 _ (by simp), _, _, rfl, fun _ _ e => e⟩
                · simp only [if_true]
                  refine isTrue_and_nil ?_
                  simp only [if_true]
                  exact wpAny_Constant_int ⟨hfin 1 _ (by simp [hnm]), _, _, rfl, fun _ _ e => e⟩
              · rw [show (n == M) = false by simpa using hnm]
                simp only [Bool.false_eq_true, if_false]
                exact wpAny_Constant_int ⟨hfin 0 _ (by simp [hnm]), _, _, rfl, fun _ _ e => e⟩
            case hQ =>
              intro D h11 tk11 ys cD F11 N11 hDs hys hF
              have hiD : IntsAre ys (tie M bs ws') := ints_of (by rw [hys, tie_len hlen', hL1']) fun i y n h1 h2 => by
                have i1 : i < us'.length := by have := (List.getElem?_eq_some_iff.mp h1).1; omega
                have i2 : i < ub.length := by omega
                obtain ⟨v, t, hv, q1⟩ := ints_at hi' (List.getElem?_eq_getElem i1)
                obtain ⟨b, hb', q2⟩ := hib.get _ _ (List.getElem?_eq_getElem i2)
                rw [tie_get hb' hv] at h2
                obtain ⟨t', et⟩ := hF i _ _ y (List.getElem?_eq_getElem i1) (List.getElem?_eq_getElem i2) h1 _ _ _ q1 q2
                exact ⟨t', by rw [et]; cases h2; rfl⟩
              clear F10 N10
              (try dsimp only)
              k_steps
              refine Stop.go ?_
              rename Fr _ _ _ _ => F12
              rename News _ _ _ _ => N12
              refine any_ints F12 N12 rfl ⟨_, (N12 _ (.head _)).1, rfl, _, rfl⟩ hiD ?_
              intro h13 tk13 F13 N13
              have hpt := tie_pos hTop
              have hany1 : (tie M bs ws').any (· != 0) = true := by
                obtain ⟨⟨i, b1, b2⟩, _⟩ := hTop
                have e := tie_get (M := M) b1 b2
                rw [if_pos ⟨rfl, rfl⟩] at e
                exact List.any_eq_true.mpr ⟨1, List.mem_of_getElem? e, rfl⟩
              rw [hany1]
              clear F12 N12
              (try dsimp only)
              k_steps
              rotate_left
              · exact hQ lw' us' c' ws' _ (hfr _ _ _ ps8 (N13 _ (.tail _ (.tail _ (.tail _ (.head _))))).2.2 (N13 _ (.tail _ (.tail _ (.tail _ (.head _))))).1 rfl (N13 _ (.tail _ (.head _))).1) (hkeep _ F13.keep (N13 _ (.tail _ (.tail _ (.tail _ (.tail _ (.head _)))))).1) ⟨ps8, ht8, (N13 _ (.tail _ (.head _))).1⟩ G9 (hos9.trans (hos8.trans (hos6.trans (hos5.trans hos)))) (N13 _ (.tail _ (.tail _ (.tail _ (.head _))))).1 hi' (.inr ⟨hany, hstep _ (.brk M S hne hpos hTop hSnd (by assumption))⟩)
              have hMS : M - S ≠ 0 := by assumption
              refine Stop.go ?_
              rename Fr _ _ _ _ => F14
              rename News _ _ _ _ => N14
              rw [show (if M - S < ws'.sum - room then M - S else ws'.sum - room) = min (ws'.sum - room) (M - S) by (split <;> omega)] at N14
              refine mul_one F14 N14 (N14 _ (.head _)).1 (by omega) (by omega) fun h15 tt F15 N15 => ?_
              rw [Int.toNat_natCast] at N15
              clear F14 N14
              k_steps
              refine Stop.go ?_
              rename Fr _ _ _ _ => F16
              rename News _ _ _ _ => N16
              refine rr_ok (dp := dp + 1) (us1 := ys) (us2 := List.replicate ws'.length (.int (min (ws'.sum - room) (M - S)) tt)) (us3 := us') (rs := tie M bs ws') (mxs := List.replicate ws'.length (min (ws'.sum - room) (M - S))) (vs := ws') (X'.keeps F16.keep) (T'.keeps F16.keep) ?_ ?_ ?_ hiD ?_ ?_ ?_ hi' ?_ ?_ ?_ ?_ tie_01 hpt ?_
              · omega
              · show un + 3 + 8 < cLine
                omega
              · exact ⟨_, (N16 _ (.tail _ (.tail _ (.head _)))).1, rfl, _, rfl⟩
              · exact ⟨_, (N16 _ (.head _)).1, rfl, _, rfl⟩
              · exact ints_rep _ _ _
              · exact ⟨_, (N16 _ (.tail _ (.tail _ (.tail _ (.tail _ (.tail _ (.head _))))))).1, rfl, _, rfl⟩
              · rw [tie_len hlen', List.length_replicate]
              · rw [List.length_replicate]
              · rw [List.length_replicate]; omega
              · have hb := snd_bounds h0' hTop hSnd
                intro x hx
                rw [List.eq_of_mem_replicate hx]
                omega
              intro r us2 c2 h17 tk17 hk17 hr17 hrg hi17
              obtain ⟨q1, q2, q3, q4⟩ := cw_facts hlen' h0' hTop hSnd hMS hpos
              have hiw : IntsAre us2 (cwPass bs ws' M S (ws'.sum - room)) := hi17
              have F17 := F16.keeps hk17
              have hrL : L' < r := Nat.lt_of_lt_of_le F16.ns.lt hr17
              have hrn : g.get? r = none := fresh_none (Nat.le_trans F16.above (Nat.le_of_lt hrL))
              have N17 : News g L' h17 [(272, tabObj ps8), (L' + 1, o7), (r, listOf us2.toArray c2), (lw, listOf us.toArray cw)] := by
                intro q hq
                simp only [List.mem_cons, List.not_mem_nil, or_false] at hq
                have N18 := N16.grown hk17
                rcases hq with rfl | rfl | rfl | rfl
                · exact N18 _ (.tail _ (.tail _ (.tail _ (.head _))))
                · exact N18 _ (.tail _ (.tail _ (.tail _ (.tail _ (.head _)))))
                · exact ⟨hrg, Nat.ne_of_gt hrL, hrn⟩
                · exact N18 _ (.tail _ (.tail _ (.tail _ (.tail _ (.tail _ (.tail _ (.head _)))))))
              clear F16 N16 hi17
              k_steps
              refine Stop.go ?_
              rename Fr _ _ _ _ => F20
              rename News _ _ _ _ => N20
              refine ⟨(cwPass bs ws' M S (ws'.sum - room)).sum.toNat, cw_less hlen' h0' hTop hSnd hMS hpos hne, _, us2, cwPass bs ws' M S (ws'.sum - room), r, c2, o7, _, ps8, _, _, rfl, F20, N20, hd7, ht8, G9, hos9.trans (hos8.trans (hos6.trans (hos5.trans hos))), rfl, rfl, rfl, rfl, rfl, hiw, q1.trans hlen', q3, fun out hout => hstep _ (.step M S hne hpos hTop hSnd hMS hout)⟩
      all_goals exact hQ lw' us' c' ws' _ (hfr _ _ _ ps' (N _ (.tail _ (.tail _ (.head _)))).2.2 (N _ (.tail _ (.tail _ (.head _)))).1 rfl (N _ (.head _)).1) (hkeep _ F'.keep (N _ (.tail _ (.tail _ (.tail _ (.head _))))).1) ⟨ps', ht', (N _ (.head _)).1⟩ G' hos (N _ (.tail _ (.tail _ (.head _)))).1 hi' (.inr ⟨hany, hstep _ (.stop (by omega))⟩)
end Mine

namespace Mine

theorem ints_paired {pt : Int → Bool} {val : Int → Int} : ∀ {vs : List Value} {ks : List Int}, IntsAre vs ks → ∀ {ys : List Value},
    Paired (fun v y => ∀ k t, v = Value.int k t → ∃ t', y = Value.int (val k) t') (vs.filter fun v => match v with | .int k _ => pt k | _ => false) ys → IntsAre ys ((ks.filter pt).map val) := by
  intro vs ks h
  induction h with
  | nil => intro ys hp; simp only [List.filter_nil] at hp; cases hp; exact .nil
  | cons k t _ ih =>
    intro ys hp
    rw [List.filter_cons] at hp
    rw [List.filter_cons]
    by_cases hk : pt k = true
    · rw [if_pos hk] at hp
      rw [if_pos hk]
      cases hp with
      | cons h1 h2 =>
        obtain ⟨t', rfl⟩ := h1 k t rfl
        exact .cons _ _ (ih h2)
    · rw [if_neg hk] at hp
      rw [if_neg hk]
      exact ih hp

section
variable {prog : Program} {w : World} {A : Around} {E : Value → Shared → Prop} {s : Shared} {h₀ : Heap} {L : Addr} {m : Str → Option Value} {news : List (Addr × Obj)}

theorem src_list {l : Addr} {us : List Value} {ks : List Int} {R : Value → Shared → Prop} (hh : A.handled = none) (hl : s.heap.IsList l us.toArray) (hi : IntsAre us ks)
    (h : ∀ h' I fp wr P St, Walks prog w A I fp wr ks.length P St → St 0 h' → (∀ b ∈ fp, b < h'.objs.size) → (∀ b ∈ wr, s.heap.objs.size ≤ b) → (∀ i v, P i v → ∃ k t, ks[i]? = some k ∧ v = .int k t) →
      (∀ b o, s.heap.get? b = some o → h'.get? b = some o) → (∀ b ∈ fp, b = l ∨ s.heap.objs.size ≤ b) → R (.ref I) { s with heap := h' }) : wpAny (model prog w) A (pyIter (.ref l)) R E s := by
  have hlt : l < s.heap.objs.size := by obtain ⟨_, e, _⟩ := hl; exact Heap.lt_size e
  refine wpAny_pyIter_list hl ?_
  have W := Walks.list (prog := prog) (w := w) (A := A) hh s.heap.objs.size l (Nat.ne_of_lt hlt) us.toArray
  have e9 : us.toArray.size = ks.length := by rw [List.size_toArray]; exact hi.length
  rw [e9] at W
  refine h _ s.heap.objs.size _ _ _ _ W ⟨⟨_, Heap.get?_push_size _ rfl, rfl, rfl⟩, hl.push _⟩ ?_ ?_ ?_ (fun b o e => Heap.get?_push_of_some _ e) (fun b hb => by
    simp only [List.mem_cons, List.not_mem_nil, or_false] at hb
    rcases hb with rfl | rfl
    · exact .inr (Nat.le_refl _)
    · exact .inl rfl)
  · intro b hb
    rw [Heap.size_push]
    simp only [List.mem_cons, List.not_mem_nil, or_false] at hb
    rcases hb with rfl | rfl
    · exact Nat.lt_succ_self _
    · exact Nat.lt_succ_of_lt hlt
  · intro b hb
    rw [List.mem_singleton.mp hb]
    exact Nat.le_refl _
  · intro i v hv
    exact ints_at hi (by simpa using hv)

def rangeI (n : Nat) : List Int := (List.range n).map Int.ofNat
theorem rangeI_len (n : Nat) : (rangeI n).length = n := by simp [rangeI]
theorem rangeI_get {n i : Nat} (h : i < n) : (rangeI n)[i]? = some (i : Int) := by simp [rangeI, h]

theorem Walks.bound {I : Addr} {fp wr : List Addr} {n : Nat} {P : Nat → Value → Prop} {St : Nat → Heap → Prop} (W : Walks prog w A I fp wr n P St) : Walks prog w A I fp wr n (fun i v => i < n ∧ P i v) St where
  sub := W.sub
  frame := W.frame
  item := fun i s Q E hi st hQ => W.item i s Q E hi st fun v h' tk hp => hQ v h' tk ⟨hi, hp⟩
  done := W.done
  self := W.self

theorem src_range {r : Addr} {n : Nat} {t u v : Tok} {R : Value → Shared → Prop} (hh : A.handled = none) (hr : IsRange s.heap r 0 n 1 t u v) (hn : n ≤ 1000)
    (h : ∀ h' I fp wr P St, Walks prog w A I fp wr (rangeI n).length P St → St 0 h' → (∀ b ∈ fp, b < h'.objs.size) → (∀ b ∈ wr, s.heap.objs.size ≤ b) → (∀ i v, P i v → ∃ k t, (rangeI n)[i]? = some k ∧ v = .int k t) →
      (∀ b o, s.heap.get? b = some o → h'.get? b = some o) → (∀ b ∈ fp, s.heap.objs.size ≤ b) → R (.ref I) { s with heap := h' }) : wpAny (model prog w) A (pyIter (.ref r)) R E s := by
  have hsz : Builtin.Range.rangeSize 0 (n : Int) 1 = n := by
    rw [rangeSize_one]
    split <;> omega
  refine wpAny_pyIter_range hr ?_ ?_
  · unfold Builtin.Range.small Builtin.Range.rangeFitsLong
    rw [hsz]
    simp
    omega
  have W := Walks.bound (Walks.range (prog := prog) (w := w) (A := A) hh s.heap.objs.size 0 1 n)
  rw [rangeI_len] at h
  refine h _ s.heap.objs.size _ _ _ _ W ?_ ?_ ?_ ?_ (fun b o e => Heap.get?_push_of_some _ e) (fun b hb => by rw [List.mem_singleton.mp hb]; exact Nat.le_refl _)
  · have := Heap.get?_push_size (h := s.heap) (o := { cls := .type "range_iterator", data := .fields #[rawInt 0, rawInt (Builtin.Range.rangeSize 0 n 1), rawInt 1] }) rfl
    rw [hsz] at this
    rw [hsz]
    exact this
  · intro b hb
    rw [Heap.size_push, List.mem_singleton.mp hb]
    exact Nat.lt_succ_self _
  · intro b hb
    rw [List.mem_singleton.mp hb]
    exact Nat.le_refl _
  · rintro i v ⟨hi, t, rfl⟩
    exact ⟨_, t, rangeI_get hi, by simp⟩

def pickI (pt : Int → Bool) : Value → Bool := fun v => match v with | .int k _ => pt k | _ => false
def relI (val : Int → Int) : Value → Value → Prop := fun v y => ∀ k t, v = Value.int k t → ∃ t', y = .int (val k) t'

theorem quiet_ints {env : Env} {elt : PySem.Expr} {x : Str} {ifs : List PySem.Expr} {scope : Scope} {cl : List (Str × Addr)} {ks : List Int} {pt : Int → Bool} {val : Int → Int} {h' : Heap} {wr : List Addr} {P : Nat → Value → Prop}
    (hwr : ∀ b ∈ wr, s.heap.objs.size ≤ b) (hP : ∀ i v, P i v → ∃ k t, ks[i]? = some k ∧ v = .int k t) (hk : ∀ b o, s.heap.get? b = some o → h'.get? b = some o)
    (htest : ∀ C (k : Int) t (s₃ : Shared) m₃ E', k ∈ ks → s₃.heap.Ns C m₃ → m₃ x = some (.int k t) → (∀ b o, s.heap.get? b = some o → s₃.heap.get? b = some o) →
      wpAny (model prog w) A (forIn ifs true fun c r => if r = true then do let ok ← isTrue c (compEnvC scope cl C env) (eval c (compEnvC scope cl C env)); pure (ForInStep.yield ok) else pure (ForInStep.yield r)) (fun ok s₄ => ok = pt k ∧ Keeps s₃ s₄) E' s₃)
    (helt : ∀ C (k : Int) t (s₃ : Shared) m₃ E', k ∈ ks → pt k = true → s₃.heap.Ns C m₃ → m₃ x = some (.int k t) → (∀ b o, s.heap.get? b = some o → s₃.heap.get? b = some o) →
      wpAny (model prog w) A (eval elt (compEnvC scope cl C env)) (fun y s₄ => (∃ t', y = .int (val k) t') ∧ Keeps s₃ s₄) E' s₃) :
    QuietOnC prog w A env scope cl x ifs elt wr P (pickI pt) (relI val) { s with heap := h' } where
  tests := fun C i v s₃ m₃ E' hC hv hn hx hkp _ => by
    obtain ⟨k, t, hk', rfl⟩ := hP i v hv
    exact htest C k t s₃ m₃ E' (List.mem_of_getElem? hk') hn hx fun b o e => hkp b o (fun hb => Nat.lt_irrefl _ (Nat.lt_of_lt_of_le (Heap.lt_size e) (hwr b hb))) (hk b o e)
  elt := fun C i v s₃ m₃ E' hC hv hp hn hx hkp _ => by
    obtain ⟨k, t, hk', rfl⟩ := hP i v hv
    refine wpAny_mono (helt C k t s₃ m₃ E' (List.mem_of_getElem? hk') hp hn hx fun b o e => hkp b o (fun hb => Nat.lt_irrefl _ (Nat.lt_of_lt_of_le (Heap.lt_size e) (hwr b hb))) (hk b o e)) (fun y s₄ h₄ => ⟨fun k' t' e => ?_, h₄.2⟩) fun _ _ e => e
    cases e
    exact h₄.1

theorem ints_vs {vs : List Value} {ks : List Int} {P : Nat → Value → Prop} (hP : ∀ i v, P i v → ∃ k t, ks[i]? = some k ∧ v = .int k t) (hl : vs.length = ks.length) (hv : ∀ j v, vs[j]? = some v → P j v) : IntsAre vs ks :=
  ints_of hl fun i y n h1 h2 => by
    obtain ⟨k, t, hk, rfl⟩ := hP i y (hv i y h1)
    rw [h2] at hk
    cases hk
    exact ⟨t, rfl⟩

theorem comp_eval {env : Env} {elt iter : PySem.Expr} {x : Str} {px : Pos} {ifs : List PySem.Expr} {scope : Scope} {cl : List (Str × Addr)} {pos : Pos} {Q : Value → Shared → Prop} {ks : List Int} (pt : Int → Bool) (val : Int → Int)
    (hclos : closureFor scope env = pure cl) (hcell : ∀ y ∈ scope.names, y.2 ≠ .cell) (hkind : scope.kind = .function)
    (hnames : ∀ y ∈ scope.names, y.2 = .local → scope.names.lookup y.1 = some .local) (hx : scope.names.lookup x = some .local) (hs : ∀ x, foldedSetIterable iter env x = pure x) (hsz : ks.length ≤ 1000)
    (h : wpAny (model prog w) A (eval iter env) (fun xv s₁ => Stop (wpAny (model prog w) A (pyIter xv) (fun it s₂ => ∃ s : Shared, ∃ h₀ L m news h' I fp wr P St, s₂ = { s with heap := h' } ∧ it = .ref I ∧
      Walks prog w A I fp wr ks.length P St ∧ St 0 h' ∧ (∀ b ∈ fp, b < h'.objs.size) ∧ (∀ b ∈ wr, s.heap.objs.size ≤ b) ∧ (∀ i v, P i v → ∃ k t, ks[i]? = some k ∧ v = .int k t) ∧ (∀ b o, s.heap.get? b = some o → h'.get? b = some o) ∧
      Fr h₀ L s.heap m ∧ News h₀ L s.heap news ∧
      (∀ C (k : Int) t (s₃ : Shared) m₃ E', k ∈ ks → s₃.heap.Ns C m₃ → m₃ x = some (.int k t) → (∀ b o, s.heap.get? b = some o → s₃.heap.get? b = some o) →
        wpAny (model prog w) A (forIn ifs true fun c r => if r = true then do let ok ← isTrue c (compEnvC scope cl C env) (eval c (compEnvC scope cl C env)); pure (ForInStep.yield ok) else pure (ForInStep.yield r)) (fun ok s₄ => ok = pt k ∧ Keeps s₃ s₄) E' s₃) ∧
      (∀ C (k : Int) t (s₃ : Shared) m₃ E', k ∈ ks → pt k = true → s₃.heap.Ns C m₃ → m₃ x = some (.int k t) → (∀ b o, s.heap.get? b = some o → s₃.heap.get? b = some o) →
        wpAny (model prog w) A (eval elt (compEnvC scope cl C env)) (fun y s₄ => (∃ t', y = .int (val k) t') ∧ Keeps s₃ s₄) E' s₃) ∧
      (∀ D h'' tk ys c, Fr h₀ L h'' m → News h₀ L h'' ((D, listOf ys.toArray c) :: news) → (∀ q ∈ news, q.1 ≠ D) → IntsAre ys ((ks.filter pt).map val) → Q (.ref D) { s with heap := h'', toks := tk })) E s₁)) E s) :
    wpAny (model prog w) A (eval (.ListComp elt [⟨.Name x px, iter, ifs, 0⟩] scope pos) env) Q E s := by
  refine wpAny_ListComp_free (pickI pt) (relI val) hclos hcell hkind hnames hx (wpAny_mono h (fun xv s₁ h₁ => wpAny_mono h₁ (fun it s₂ h₂ => ?_) fun _ _ e => e) fun _ _ e => e) hs
  obtain ⟨s₀, h₀, L, m, news, h', I, fp, wr, P, St, rfl, rfl, W, hst, hfp, hwr, hP, hk, F, N, htest, helt, hQ⟩ := h₂
  refine ⟨I, fp, wr, ks.length, P, St, rfl, W, by rw [sizeLine_eq]; omega, hst, hfp, quiet_ints hwr hP hk htest helt, ?_⟩
  intro D h'' tk ys vs hD _ hpl hlen hv hpair hkp
  obtain ⟨c, hc⟩ := hpl
  have up : ∀ b o, s₀.heap.get? b = some o → h''.get? b = some o := fun b o e => hkp b o (fun hb => Nat.lt_irrefl _ (Nat.lt_of_lt_of_le (Heap.lt_size e) (hwr b hb))) (hk b o e)
  have hD' : h'.get? D = none := hD
  have nD : ∀ b o, s₀.heap.get? b = some o → b ≠ D := fun b o e q => by have := hk b o e; rw [q, hD'] at this; cases this
  refine hQ D h'' tk ys.toList c (F.keeps up) (fun q hq => ?_) (fun q hq => nD _ _ (N q hq).1) (ints_paired (ints_vs hP hlen hv) hpair)
  rcases List.mem_cons.mp hq with rfl | hq
  · refine ⟨by simpa using hc, ?_, ?_⟩
    · obtain ⟨o, _, _, ho, _⟩ := F.ns
      exact Ne.symm (nD _ _ ho)
    · cases e : h₀.get? D with
      | none => rfl
      | some o => exact absurd rfl (nD _ _ (F.keep _ _ e))
  · exact N.grown up q hq

theorem comp_assign {env : Env} {elt iter : PySem.Expr} {x y : Str} {px py : Pos} {ifs : List PySem.Expr} {scope : Scope} {cl : List (Str × Addr)} {pos spos : Pos} {Q : Flow → Shared → Prop} {ks : List Int} (pt : Int → Bool) (val : Int → Int)
    (hsw : swapsWith (.ListComp elt [⟨.Name x px, iter, ifs, 0⟩] scope pos) (some (.Name y py)) spos.line env = pure true)
    (hclos : closureFor scope env = pure cl) (hcell : ∀ y ∈ scope.names, y.2 ≠ .cell) (hkind : scope.kind = .function)
    (hnames : ∀ y ∈ scope.names, y.2 = .local → scope.names.lookup y.1 = some .local) (hx : scope.names.lookup x = some .local) (hs : ∀ x, foldedSetIterable iter env x = pure x) (hsz : ks.length ≤ 1000)
    (hy : env.kindOf y = some .local) (hp : (env.scope.kind == .class || (env.scope.kind == .module && env.locals != env.globals)) = false)
    (h : wpAny (model prog w) A (eval iter env) (fun xv s₁ => Stop (wpAny (model prog w) A (pyIter xv) (fun it s₂ => ∃ s : Shared, ∃ h₀ m news h' I fp wr P St, s₂ = { s with heap := h' } ∧ it = .ref I ∧
      Walks prog w A I fp wr ks.length P St ∧ St 0 h' ∧ (∀ b ∈ fp, b < h'.objs.size) ∧ (∀ b ∈ wr, s.heap.objs.size ≤ b) ∧ (∀ i v, P i v → ∃ k t, ks[i]? = some k ∧ v = .int k t) ∧ (∀ b o, s.heap.get? b = some o → h'.get? b = some o) ∧
      Fr h₀ env.locals s.heap m ∧ News h₀ env.locals s.heap news ∧
      (∀ C (k : Int) t (s₃ : Shared) m₃ E', k ∈ ks → s₃.heap.Ns C m₃ → m₃ x = some (.int k t) → (∀ b o, s.heap.get? b = some o → s₃.heap.get? b = some o) →
        wpAny (model prog w) A (forIn ifs true fun c r => if r = true then do let ok ← isTrue c (compEnvC scope cl C env) (eval c (compEnvC scope cl C env)); pure (ForInStep.yield ok) else pure (ForInStep.yield r)) (fun ok s₄ => ok = pt k ∧ Keeps s₃ s₄) E' s₃) ∧
      (∀ C (k : Int) t (s₃ : Shared) m₃ E', k ∈ ks → pt k = true → s₃.heap.Ns C m₃ → m₃ x = some (.int k t) → (∀ b o, s.heap.get? b = some o → s₃.heap.get? b = some o) →
        wpAny (model prog w) A (eval elt (compEnvC scope cl C env)) (fun y s₄ => (∃ t', y = .int (val k) t') ∧ Keeps s₃ s₄) E' s₃) ∧
      (∀ D h'' tk ys c, Fr h₀ env.locals h'' (fun z => if z = y then some (.ref D) else m z) → News h₀ env.locals h'' ((D, listOf ys.toArray c) :: news) → (∀ q ∈ news, q.1 ≠ D) → IntsAre ys ((ks.filter pt).map val) → Q .next { s with heap := h'', toks := tk })) E s₁)) E s) :
    wpAny (model prog w) A (exec (.Assign [.Name y py] (.ListComp elt [⟨.Name x px, iter, ifs, 0⟩] scope pos) spos) env) Q E s := by
  refine wpAny_Assign_ListComp_free (pickI pt) (relI val) hsw hclos hcell hkind hnames hx hy hp (wpAny_mono h (fun xv s₁ h₁ => wpAny_mono h₁ (fun it s₂ h₂ => ?_) fun _ _ e => e) fun _ _ e => e) hs
  obtain ⟨s₀, h₀, m, news, h', I, fp, wr, P, St, rfl, rfl, W, hst, hfp, hwr, hP, hk, F, N, htest, helt, hQ⟩ := h₂
  have up0 : ∀ b o, s₀.heap.get? b = some o → b ∉ wr := fun b o e hb => Nat.lt_irrefl _ (Nat.lt_of_lt_of_le (Heap.lt_size e) (hwr b hb))
  have hLw : env.locals ∉ wr := by obtain ⟨o, _, _, ho, _⟩ := F.ns; exact up0 _ _ ho
  refine ⟨I, fp, wr, ks.length, P, St, m, rfl, W, by rw [sizeLine_eq]; omega, hst, hfp, hLw, F.ns.keeps hk, quiet_ints hwr hP hk htest helt, ?_⟩
  intro D h'' tk ys vs hD _ hpl hlen hv hpair hns hkp
  obtain ⟨c, hc⟩ := hpl
  have up : ∀ b o, b ≠ env.locals → s₀.heap.get? b = some o → h''.get? b = some o := fun b o hb e => hkp b o hb (up0 b o e) (hk b o e)
  have hD' : h'.get? D = none := hD
  have nD : ∀ b o, s₀.heap.get? b = some o → b ≠ D := fun b o e q => by have := hk b o e; rw [q, hD'] at this; cases this
  refine hQ D h'' tk ys.toList c ⟨hns, fun b o e => up b o (fun q => ?_) (F.keep b o e), F.above⟩ (fun q hq => ?_) (fun q hq => nD _ _ (N q hq).1) (ints_paired (ints_vs hP hlen hv) hpair)
  · rw [q, fresh_none F.above] at e; cases e
  · rcases List.mem_cons.mp hq with rfl | hq
    · refine ⟨by simpa using hc, ?_, ?_⟩
      · obtain ⟨o, _, _, ho, _⟩ := F.ns
        exact Ne.symm (nD _ _ ho)
      · cases e : h₀.get? D with
        | none => rfl
        | some o => exact absurd rfl (nD _ _ (F.keep _ _ e))
    · have z := N q hq
      exact ⟨up _ _ z.2.1 z.1, z.2⟩

theorem sub_cell {env : Env} {a k : Str} {c l : Addr} {i : Int} {t : Tok} {items : Array Value} {v : Value} {m₃ : Str → Option Value} {p1 p2 pos : Pos} {Q : Value → Shared → Prop} (hk : env.scope.kind = .function) (hka : env.kindOf a = some .cell)
    (hc : env.cells.lookup a = some c) (hcell : s.heap.IsCell c (some (.ref l))) (hkk : env.kindOf k = some .local) (hn : s.heap.Ns env.locals m₃) (hm : m₃ k = some (.int i t)) (hl : s.heap.IsList l items) (h0 : 0 ≤ i) (hf : i < 2 ^ 63)
    (hx : items[i.toNat]? = some v) (h : Q v s) (hd1 : (a == ("__debug__" : Str)) = false := by decide) (hd2 : (k == ("__debug__" : Str)) = false := by decide) :
    wpAny (model prog w) A (eval (.Subscript (.Name a p1) (.Name k p2) pos) env) Q E s :=
  wpAny_Subscript_Name slot_list_getitem.lookup (wpAny_Name (wpAny_loadName_cell hk hka hc hcell (wpAny_Name (wpAny_loadName_local hk hkk hn hm ⟨hl.typeIs, wpAny_getItem_list hl h0 hf hx h⟩) hd2)) hd1) (by intro _ _; rfl)
end
theorem mem_rangeI {n : Nat} {k : Int} (h : k ∈ rangeI n) : ∃ i, i < n ∧ k = (i : Int) := by
  simp only [rangeI, List.mem_map, List.mem_range] at h
  obtain ⟨i, hi, e⟩ := h
  exact ⟨i, hi, e.symm⟩
/-- the open places -/
def opens (bs : List Bool) : List Int := (rangeI bs.length).filter fun k => bs.getD k.toNat false
theorem mem_opens {bs : List Bool} {k : Int} (h : k ∈ opens bs) : ∃ i : Nat, i < bs.length ∧ k = (i : Int) ∧ bs[i]? = some true := by
  obtain ⟨h1, h2⟩ := List.mem_filter.mp h
  obtain ⟨i, hi, rfl⟩ := mem_rangeI h1
  refine ⟨i, hi, rfl, ?_⟩
  rw [List.getElem?_eq_getElem hi]
  rw [Int.toNat_natCast, List.getD_eq_getElem?_getD, List.getElem?_eq_getElem hi, Option.getD_some] at h2
  rw [h2]
theorem mem_opens_of {bs : List Bool} {i : Nat} (h : bs[i]? = some true) : (i : Int) ∈ opens bs := by
  have hi := (List.getElem?_eq_some_iff.mp h).1
  refine List.mem_filter.mpr ⟨?_, ?_⟩
  · simp only [rangeI, List.mem_map, List.mem_range]
    exact ⟨i, hi, rfl⟩
  · rw [Int.toNat_natCast, List.getD_eq_getElem?_getD, h, Option.getD_some]

theorem opens_any {bs : List Bool} {uo : List Value} (h : IntsAre uo (opens bs)) : (!uo.toArray.isEmpty) = bs.any id := by
  have hl := h.length
  cases hb : bs.any id
  · have he : opens bs = [] := by
      cases ho : opens bs with
      | nil => rfl
      | cons k r =>
        obtain ⟨i, hi, rfl, hbi⟩ := mem_opens (bs := bs) (k := k) (by rw [ho]; exact .head _)
        have : bs.any id = true := List.any_eq_true.mpr ⟨true, List.mem_of_getElem? hbi, rfl⟩
        rw [hb] at this; cases this
    rw [he] at hl
    have : uo = [] := List.eq_nil_of_length_eq_zero (by simpa using hl)
    subst this
    rfl
  · obtain ⟨b, hbm, hbt⟩ := List.any_eq_true.mp hb
    obtain ⟨i, hi, e⟩ := List.getElem_of_mem hbm
    have hm := mem_opens_of (bs := bs) (i := i) (by rw [List.getElem?_eq_getElem hi, e]; exact congrArg some hbt)
    cases uo with
    | nil =>
      have he : opens bs = [] := List.eq_nil_of_length_eq_zero (by simpa using hl.symm)
      rw [he] at hm; cases hm
    | cons => rfl
def atI (ws : List Int) (k : Int) : Int := ws.getD k.toNat 0
theorem atI_nat {ws : List Int} {i : Nat} {x : Int} (h : ws[i]? = some x) : atI ws (i : Int) = x := by
  rw [atI, Int.toNat_natCast, List.getD_eq_getElem?_getD, h, Option.getD_some]
theorem top_of_opens {bs : List Bool} {ws : List Int} {M : Int} (hl : ws.length = bs.length) (h1 : M ∈ ((opens bs).filter fun _ => true).map (atI ws)) (h2 : ∀ a, a ∈ ((opens bs).filter fun _ => true).map (atI ws) → a ≤ M) : IsTop bs ws M := by
  have ef : ((opens bs).filter fun _ => true) = opens bs := List.filter_eq_self.mpr fun _ _ => rfl
  rw [ef] at h1 h2
  obtain ⟨k, hk, e⟩ := List.mem_map.mp h1
  obtain ⟨i, hi, rfl, hb⟩ := mem_opens hk
  have hiw : i < ws.length := by omega
  rw [atI_nat (List.getElem?_eq_getElem hiw)] at e
  refine ⟨⟨i, hb, by rw [List.getElem?_eq_getElem hiw, e]⟩, fun j x g1 g2 => h2 x (List.mem_map.mpr ⟨(j : Int), mem_opens_of g1, atI_nat g2⟩)⟩
theorem snd_of_opens {bs : List Bool} {ws : List Int} {M S : Int} (hl : ws.length = bs.length) (ht : IsTop bs ws M)
    (h1 : S ∈ ((opens bs).filter fun k => atI ws k != M).map (atI ws) ++ [0]) (h2 : ∀ a, a ∈ ((opens bs).filter fun k => atI ws k != M).map (atI ws) ++ [0] → a ≤ S) : IsSnd bs ws M S := by
  refine ⟨?_, fun j b x g1 g2 => ?_⟩
  · rcases List.mem_append.mp h1 with h1 | h1
    · obtain ⟨k, hk, e⟩ := List.mem_map.mp h1
      obtain ⟨hk1, hk2⟩ := List.mem_filter.mp hk
      obtain ⟨i, hi, rfl, hb⟩ := mem_opens hk1
      have hiw : i < ws.length := by omega
      rw [atI_nat (List.getElem?_eq_getElem hiw)] at e hk2
      exact ⟨i, true, _, hb, List.getElem?_eq_getElem hiw, by rw [sndVal, if_pos ⟨rfl, by simpa using hk2⟩, e]⟩
    · obtain ⟨⟨i, g1, g2⟩, _⟩ := ht
      refine ⟨i, true, M, g1, g2, ?_⟩
      rw [sndVal, if_neg (by simp)]
      exact List.mem_singleton.mp h1
  · rw [sndVal]
    split
    · rename_i hc
      refine h2 x (List.mem_append_left _ (List.mem_map.mpr ⟨(j : Int), List.mem_filter.mpr ⟨mem_opens_of (by rw [g1, hc.1]), ?_⟩, atI_nat g2⟩))
      rw [atI_nat g2]
      simpa using hc.2
    · exact h2 0 (List.mem_append_right _ (.head _))
def tiedI (bs : List Bool) (ws : List Int) (M : Int) : List Int := (opens bs).filter fun k => atI ws k == M
theorem opens_len (bs : List Bool) : (opens bs).length ≤ bs.length := by
  have := List.length_filter_le (fun k => bs.getD k.toNat false) (rangeI bs.length)
  rw [rangeI_len] at this
  exact this
end Mine

namespace Mine
def nwGo (M mx : Int) : List Int → List Int → Int → Int → List Int
  | [], f, _, _ => f
  | k :: ks, f, rest, many => nwGo M mx ks (f.set k.toNat (M - min mx (nearI rest many))) (rest - min mx (nearI rest many)) (many - 1)

theorem cut_near {mx tr rem : Int} (ht : 0 < tr) : cutI 1 mx tr rem = min mx (nearI rem tr) := by
  have e2 : rem.fmod tr = rem - tr * rem.fdiv tr := Int.fmod_def _ _
  have e3 : tr * rem.fdiv tr = rem.fdiv tr * tr := Int.mul_comm _ _
  have h2 : (rem.fdiv tr).fmod 2 = rem.fdiv tr % 2 := Int.fmod_eq_emod_of_nonneg _ (by decide)
  unfold cutI nearI
  rw [Int.one_mul, e2, e3, h2]
  generalize rem.fdiv tr * tr = z at *
  generalize rem.fdiv tr = q at *
  simp only [decide_eq_true_eq]
  split <;> split <;> split <;> omega

def tiedFrom (M : Int) : Nat → List Bool → List Int → List Int
  | o, b :: bs, w :: ws => if w = M ∧ b = true then (o : Int) :: tiedFrom M (o + 1) bs ws else tiedFrom M (o + 1) bs ws
  | _, _, _ => []

theorem set_pre {α : Type} (pre : List α) (a b : α) (r : List α) : (pre ++ a :: r).set pre.length b = pre ++ b :: r := by
  induction pre with
  | nil => rfl
  | cons c p ih => simp [ih]

theorem nwGo_from (M mx : Int) : ∀ (bs : List Bool) (ws pre : List Int) (rem : Int), ws.length = bs.length →
    nwGo M mx (tiedFrom M pre.length bs ws) (pre ++ ws) rem (tie M bs ws).sum = pre ++ rrGo (tie M bs ws) (List.replicate ws.length mx) ws (tie M bs ws).sum rem
  | [], ws, pre, rem, h => by
    have : ws = [] := List.eq_nil_of_length_eq_zero (by simpa using h)
    subst this
    simp [tiedFrom, nwGo, tie, rrGo]
  | b :: bs, [], pre, rem, h => by cases h
  | b :: bs, w :: ws, pre, rem, h => by
    have h' : ws.length = bs.length := by simpa using h
    have hs := (sum_01 (rs := tie M bs ws) tie_01).1
    have et : tie M (b :: bs) (w :: ws) = (if w = M ∧ b = true then 1 else 0) :: tie M bs ws := rfl
    rw [tiedFrom, et, List.length_cons, List.replicate_succ]
    by_cases hc : w = M ∧ b = true
    · rw [if_pos hc, if_pos hc]
      have e1 : ((1 : Int) :: tie M bs ws).sum = 1 + (tie M bs ws).sum := List.sum_cons
      rw [nwGo, rrGo, if_pos ⟨by decide, by omega⟩, Int.toNat_natCast, set_pre, cut_near (by omega)]
      have e2 : ((1 : Int) :: tie M bs ws).sum - 1 = (tie M bs ws).sum := by omega
      rw [e2, hc.1]
      have ih := nwGo_from M mx bs ws (pre ++ [M - min mx (nearI rem ((1 : Int) :: tie M bs ws).sum)]) (rem - min mx (nearI rem ((1 : Int) :: tie M bs ws).sum)) h'
      rw [List.length_append, List.append_assoc, List.append_assoc] at ih
      exact ih
    · rw [if_neg hc, if_neg hc]
      have e1 : ((0 : Int) :: tie M bs ws).sum = (tie M bs ws).sum := by rw [List.sum_cons]; omega
      rw [rrGo, if_neg (by simp), e1]
      have ih := nwGo_from M mx bs ws (pre ++ [w]) rem h'
      rw [List.length_append, List.append_assoc, List.append_assoc] at ih
      exact ih

theorem tied_range (M : Int) (B : List Bool) (W : List Int) : ∀ (bs : List Bool) (ws : List Int) (o : Nat), ws.length = bs.length → B.drop o = bs → W.drop o = ws →
    (((List.range' o bs.length).map Int.ofNat).filter fun k => B.getD k.toNat false).filter (fun k => atI W k == M) = tiedFrom M o bs ws
  | [], ws, o, h, _, _ => by
    have : ws = [] := List.eq_nil_of_length_eq_zero (by simpa using h)
    subst this
    simp [tiedFrom]
  | b :: bs, [], o, h, _, _ => by cases h
  | b :: bs, w :: ws, o, h, hB, hW => by
    have h' : ws.length = bs.length := by simpa using h
    have gB : B[o]? = some b := by have := congrArg (fun l : List Bool => l[0]?) hB; simpa [List.getElem?_drop] using this
    have gW : W[o]? = some w := by have := congrArg (fun l : List Int => l[0]?) hW; simpa [List.getElem?_drop] using this
    have dB : B.drop (o + 1) = bs := by rw [← List.tail_drop, hB]; rfl
    have dW : W.drop (o + 1) = ws := by rw [← List.tail_drop, hW]; rfl
    have ih := tied_range M B W bs ws (o + 1) h' dB dW
    rw [List.length_cons, List.range'_succ, List.map_cons, List.filter_cons, tiedFrom]
    have e1 : B.getD (Int.ofNat o).toNat false = b := by
      rw [show (Int.ofNat o).toNat = o from rfl, List.getD_eq_getElem?_getD, gB, Option.getD_some]
    rw [e1]
    have e2 : atI W (Int.ofNat o) = w := atI_nat gW
    cases b
    · simp only [Bool.false_eq_true, if_false, and_false]
      exact ih
    · simp only [if_true, and_true]
      rw [List.filter_cons, e2]
      by_cases hm : w = M
      · rw [if_pos (by simpa using hm), if_pos hm, ih]; rfl
      · rw [if_neg (by simpa using hm), if_neg hm, ih]

theorem tiedI_eq {M : Int} {bs : List Bool} {ws : List Int} (h : ws.length = bs.length) : tiedI bs ws M = tiedFrom M 0 bs ws := by
  have := tied_range M bs ws bs ws 0 h rfl rfl
  rw [← this, tiedI, opens, rangeI, List.range_eq_range']
theorem tiedFrom_len (M : Int) : ∀ (bs : List Bool) (ws : List Int) (o : Nat), ws.length = bs.length → ((tiedFrom M o bs ws).length : Int) = (tie M bs ws).sum
  | [], ws, o, h => by
    have : ws = [] := List.eq_nil_of_length_eq_zero (by simpa using h)
    subst this
    simp [tiedFrom, tie]
  | b :: bs, [], o, h => by cases h
  | b :: bs, w :: ws, o, h => by
    have ih := tiedFrom_len M bs ws (o + 1) (by simpa using h)
    have et : tie M (b :: bs) (w :: ws) = (if w = M ∧ b = true then 1 else 0) :: tie M bs ws := rfl
    rw [tiedFrom, et, List.sum_cons]
    by_cases hc : w = M ∧ b = true
    · rw [if_pos hc, if_pos hc, List.length_cons]; omega
    · rw [if_neg hc, if_neg hc]; omega
/-- the inner loop of the law is the pass of the program -/
theorem nwGo_pass {bs : List Bool} {ws : List Int} {M S ex : Int} (h : ws.length = bs.length) : nwGo M (min ex (M - S)) (tiedI bs ws M) ws ex ((tiedI bs ws M).length : Int) = cwPass bs ws M S ex := by
  rw [tiedI_eq h, tiedFrom_len M bs ws 0 h]
  exact nwGo_from M (min ex (M - S)) bs ws [] ex h
theorem min_of {X a b : Int} (h1 : X ∈ [a, b]) (h2 : ∀ y, y ∈ [a, b] → X ≤ y) : X = min a b := by
  have h3 := h2 a (.head _)
  have h4 := h2 b (.tail _ (.head _))
  simp only [List.mem_cons, List.not_mem_nil, or_false] at h1
  omega
theorem ints_set {f : List Int} {us : List Value} (h : IntsAre us f) : ∀ (i : Nat) (x : Int) (t : Tok), IntsAre (us.set i (.int x t)) (f.set i x) := by
  induction h with
  | nil => intro i x t; exact .nil
  | cons n u _ ih =>
    intro i x t
    cases i with
    | zero => exact .cons x t (by assumption)
    | succ i => exact .cons n u (ih i x t)
end Mine

namespace Mine
theorem fill5 : Mine.hd.heap_39 = Mine.hd.heap_39 ∧ PySem.Challenge.rw_ff5026_01 = PySem.Challenge.rw_ff5026_01 := by
  k_fill
  exact ⟨rfl, rfl⟩
local macro_rules | `(tactic| walk_at "exec While") => `(tactic| (refine stop_here ?_))
local macro_rules | `(tactic| walk_at "exec Assign cons ListComp") => `(tactic| (refine stop_here ?_))
local macro_rules | `(tactic| walk_at "eval ListComp") => `(tactic| (refine stop_here ?_))
local macro_rules | `(tactic| walk_at "binaryOp Add ref ref") => `(tactic| (refine stop_here ?_))
local macro_rules | `(tactic| walk_at "call builtin:min") => `(tactic| (refine stop_here ?_))
local macro_rules | `(tactic| walk_at "call ref") => `(tactic| (refine stop_here ?_))
local macro_rules | `(tactic| walk_at "setItem ref int") => `(tactic| (refine stop_here ?_))
local macro_rules | `(tactic| walk_at "truthy ref") => `(tactic| (refine stop_here ?_))
local macro_rules | `(tactic| walk_at "call builtin:max") => `(tactic| (refine stop_here ?_))
local macro_rules | `(tactic| walk_at "exec For Name Name cons nil") => `(tactic| (refine stop_here ?_))
inductive NWL (bs : List Bool) (room : Int) : List Int → List Int → Prop
  | stop {ws} : ¬ 0 < ws.sum - room → NWL bs room ws ws
  | brk {ws} (M S : Int) : 0 < ws.sum - room → IsTop bs ws M → IsSnd bs ws M S → M = S → NWL bs room ws ws
  | step {ws out} (M S : Int) : 0 < ws.sum - room → IsTop bs ws M → IsSnd bs ws M S → M ≠ S → NWL bs room (cwPass bs ws M S (ws.sum - room)) out → NWL bs room ws out

theorem CellsAre.three {cm : Str → Option Value} {n1 n2 n3 : Str} {c1 c2 c3 : Addr} {cells : List (Addr × Obj)} (x : CellsAre cm [(n1, c1), (n2, c2), (n3, c3)] cells) :
    ∃ o1 o2 o3, cells = [(c1, o1), (c2, o2), (c3, o3)] ∧ o1.data = .cell (cm n1) ∧ o2.data = .cell (cm n2) ∧ o3.data = .cell (cm n3) := by
  cases x with | cons h r => obtain ⟨o', o'', rfl, h', h''⟩ := r.two; exact ⟨_, o', o'', rfl, h, h', h''⟩

set_option maxHeartbeats 1000000 in
theorem nw_ok {prog : Program} {w : World} {dp un : Nat} {fr : Option (List Env)} {gd : Option (List Code)} {s : Shared} {mg mb : Str → Option Value} {p : Program} {loose : List Str} {mean : ExcName → Option Value}
    {room : Int} {tr : Tok} {lw la : Addr} {us ub : List Value} {ws : List Int} {bs : List Bool} {Q E : Value → Shared → Prop}
    (X : (Mine.hd.heap_39 w.params).In s.heap) (T : Top p loose mean mg mb s.heap)
    (hd : dp + 3 < recursionLimit) (hu : un + 32 < cLine)
    (hw : s.heap.IsList lw us.toArray) (hi : IntsAre us ws) (hla : s.heap.IsList la ub.toArray) (hib : LSm.BoolsAre ub bs)
    (hlen : ws.length = bs.length) (hn : ws.length ≤ 63) (h0 : ∀ x ∈ ws, 0 ≤ x)
    (hQ : ∀ r us' c' ws' h' tk, (∀ b o, s.heap.get? b = some o → h'.get? b = some o) → h'.get? r = some (listOf us'.toArray c') → IntsAre us' ws' → (bs.any id = false ∧ ws' = ws ∨ bs.any id = true ∧ NWL bs room ws ws') → Q (.ref r) { s with heap := h', toks := tk }) :
    wpAny (model prog w) { handled := none, depth := dp, frames := fr, guards := gd, units := un } (call (.ref 330) [.ref lw, .ref la, .int room tr]) Q E s := by
  have := fill5
  have hL1 := hi.length
  have hL2 := hib.length
  refine wpAny_call ?_
  refine' enterC (news := []) (binds := [(Str.ofString "widths", .ref lw), (Str.ofString "able", .ref la), (Str.ofString "room", .int room tr)])
    (K := Mine.hd.heap_39 w.params) X T.nolimit ?k6 ?k7 ?k8 ?k9 ?kB ?kD ?kN ?_ ?c2 ?c3 ?c4
  case k6 => k_is
  case k7 => k_is
  case k8 => show dp < _; omega
  case k9 => exact BindsTo.of_eq rfl
  case kB => exact rfl
  case kD => decide +kernel
  case kN => intro q hq; cases hq
  case c2 => rfl
  case c3 => rfl
  case c4 => rfl
  intro L' h₁ tk cells F N Y _
  obtain ⟨o1, o2, o3, rfl, z1, z2, z3⟩ := CellsAre.three Y
  generalize hg : hideAll s.heap _ = g at F N
  have hsg : ∀ b o, s.heap.get? b = some o → g.get? b = some o := fun b o e => by
    rw [← hg]
    exact hideAll_get _ e fun q => by cases q
  have X' := X.keeps hsg
  have T' := T.keeps hsg
  have hlag : g.IsList la ub.toArray := by obtain ⟨o, e, r⟩ := hla; exact ⟨o, hsg _ _ e, r⟩
  have hlwg : g.IsList lw us.toArray := by obtain ⟨o, e, r⟩ := hw; exact ⟨o, hsg _ _ e, r⟩
  have F1 : Fr g L' h₁ (fun y => if y = Str.ofString "room" then some (.int room tr) else if y = Str.ofString "widths" then some (.ref lw) else none) := by
    with_unfolding_all exact F
  have N1 : News g L' h₁ [(L' + 1, o3), (L' + 2, o2), (L' + 3, o1)] := newsSub N fun q hq => by
    simp only [List.mem_cons, List.not_mem_nil, or_false, List.cons_append, List.nil_append] at hq ⊢
    rcases hq with rfl | rfl | rfl
    · exact .inr (.inr rfl)
    · exact .inr (.inl rfl)
    · exact .inl rfl
  have hd1 : o1.data = Data.cell none := z1
  have hd2 : o2.data = Data.cell none := z2
  have hd3 : o3.data = Data.cell (some (.ref la)) := z3
  clear F N Y z1 z2 z3
  dsimp only
  k_steps
  refine Stop.go ?_
  refine' comp_assign (ks := rangeI ws.length) (fun k => bs.getD k.toNat false) (fun k => k) ?hsw ?hclos ?hcell rfl ?hnames rfl ?hs ?hsz rfl rfl ?h
  case hsw => with_unfolding_all rfl
  case hclos => with_unfolding_all rfl
  case hcell => decide
  case hnames => decide
  case hs => intro _; rfl
  case hsz => rw [rangeI_len]; omega
  k_steps
  refine Stop.go ?_
  rename Fr _ _ _ _ => F3
  rename News _ _ _ _ => N3
  rename IsRange _ _ _ _ _ _ _ _ => R3
  refine src_range rfl R3 (by omega) fun h' I fp wr P St W hst hfp hwr hP hk _ => ?_
  refine ⟨_, _, _, _, h', I, fp, wr, P, St, rfl, rfl, W, hst, hfp, hwr, hP, hk, F3, N3, ?_, ?_, ?_⟩
  · intro C k t s₃ m₃ E' hkm hns hx hk3
    obtain ⟨i, hi', rfl⟩ := mem_rangeI hkm
    have hbi : i < bs.length := by omega
    obtain ⟨b, hb⟩ : ∃ b, bs[i]? = some b := ⟨_, List.getElem?_eq_getElem hbi⟩
    have hui : i < ub.length := by omega
    obtain ⟨b', hb', hv⟩ := hib.get i _ (List.getElem?_eq_getElem hui)
    rw [hb] at hb'
    cases hb'
    refine wpAny_tests_one (isTrue_plain (sub_cell (c := L' + 1) (l := la) (items := ub.toArray) (v := .bool b) rfl rfl rfl ⟨o3, hk3 _ _ (N3 _ (.tail _ (.head _))).1, hd3⟩ rfl hns hx ?_ (by omega) (by omega) ?_ (wpAny_truthy_bool ?_)))
    · exact (F3.lst hlag).at fun o e => hk3 _ o e
    · simp only [Int.toNat_natCast, List.getElem?_toArray]
      rw [List.getElem?_eq_getElem hui, hv]
    · refine ⟨?_, _, _, rfl, fun _ _ e => e⟩
      rw [Int.toNat_natCast, List.getD_eq_getElem?_getD, hb, Option.getD_some]
  · intro C k t s₃ m₃ E' hkm hp hns hx hk3
    exact wpAny_Name (wpAny_loadName_local rfl rfl hns hx ⟨⟨t, rfl⟩, _, _, rfl, fun _ _ e => e⟩)
  clear W hst hfp hwr hP hk
  intro OO h4 tk4 uo co F4 N4 hneO hio
  have hio' : IntsAre uo (opens bs) := by
    rw [List.map_id' , hlen] at hio
    exact hio
  have F5 : Fr g L' h4 _ := F4
  obtain ⟨D, cD, o2, N5, ho2, hDl, hOl⟩ : ∃ D cD o2, News g L' h4 [(OO, listOf uo.toArray co), (D, listOf us.toArray cD), (L' + 1, o3), (L' + 2, o2), (L' + 3, o1)] ∧ o2.data = Data.cell (some (.ref D)) ∧ (L' + 1 < D ∧ L' + 2 < D ∧ L' + 3 < D) ∧
      (D ≠ OO ∧ L' + 1 ≠ OO ∧ L' + 2 ≠ OO ∧ L' + 3 ≠ OO) :=
    ⟨_, _, _, N4, by assumption, by assumption, hneO _ (.head _), hneO _ (.tail _ (.head _)), hneO _ (.tail _ (.tail _ (.head _))), hneO _ (.tail _ (.tail _ (.tail _ (.head _))))⟩
  clear F3 N3 hio F4 N4
  k_steps
  refine Stop.go ?_
  refine wpAny_While ?_
  refine while_stop (fun n s' => ∃ h' tk' m' us' ws' c' ot vt tl, n = (ws'.sum - room).toNat ∧ s' = { s with heap := h', toks := tk' } ∧ Fr g L' h' m' ∧ News g L' h' [(D, listOf us'.toArray c'), (OO, listOf uo.toArray co), (L' + 1, o3), (L' + 2, o2), (L' + 3, ot)] ∧
      ot.data = Data.cell vt ∧ m' (Str.ofString "open_ones") = some (.ref OO) ∧ m' (Str.ofString "room") = some (.int room tr) ∧ m' (Str.ofString "left") = some (.int (ws'.sum - room) tl) ∧
      IntsAre us' ws' ∧ ws'.length = bs.length ∧ (∀ x ∈ ws', 0 ≤ x) ∧ (bs.any id = true → ∀ out, NWL bs room ws' out → NWL bs room ws out) ∧ (bs.any id = false → ws' = ws))
      ?turn (ws.sum - room).toNat ?init
  case init =>
    exact ⟨_, _, _, us, ws, _, o1, _, _, rfl, rfl, F5, newsSub N5 (by
      intro q hq
      simp only [List.mem_cons, List.not_mem_nil, or_false] at hq ⊢
      rcases hq with rfl | rfl | rfl | rfl | rfl
      · exact .inr (.inl rfl)
      · exact .inl rfl
      · exact .inr (.inr (.inl rfl))
      · exact .inr (.inr (.inr (.inl rfl)))
      · exact .inr (.inr (.inr (.inr rfl)))), hd1, rfl, rfl, rfl, hi, hlen, h0, fun _ _ x => x, fun _ => rfl⟩
  case turn =>
    clear F5 N5
    rintro n s' ⟨h', tk', m', us', ws', c', ot, vt, tl, rfl, rfl, F, N, hot, e1, e2, e3, hi', hlen', h0', hstep, hst0⟩
    have F' : Fr g L' h' (fun y => if y = Str.ofString "open_ones" then some (.ref OO) else if y = Str.ofString "room" then some (.int room tr) else if y = Str.ofString "left" then some (.int (ws'.sum - room) tl) else m' y) := by
      have em : (fun y => if y = Str.ofString "open_ones" then some (.ref OO) else if y = Str.ofString "room" then some (.int room tr) else if y = Str.ofString "left" then some (.int (ws'.sum - room) tl) else m' y) = m' := by
        funext y
        repeat' split
        all_goals first | rfl | (rename_i hy; rw [hy]; first | exact e1.symm | exact e2.symm | exact e3.symm)
      rw [em]; exact F
    clear F e1 e2 e3
    k_steps
    rotate_left
    · cases hany : bs.any id
      · exact hQ D us' c' ws' _ _ (fun b o e => F'.keep b o (hsg b o e)) (N _ (.head _)).1 hi' (.inl ⟨hany, hst0 hany⟩)
      · exact hQ D us' c' ws' _ _ (fun b o e => F'.keep b o (hsg b o e)) (N _ (.head _)).1 hi' (.inr ⟨hany, hstep hany _ (.stop (by assumption))⟩)
    have hpos : 0 < ws'.sum - room := by assumption
    refine Stop.go ?_
    refine wpAny_truthy_list (items := uo.toArray) ⟨_, (N _ (.tail _ (.head _))).1, rfl, _, rfl⟩ (by rw [List.size_toArray, hio'.length]; have := opens_len bs; omega) ?_
    rw [opens_any hio']
    cases hany : bs.any id
    · k_steps
      exact hQ D us' c' ws' _ _ (fun b o e => F'.keep b o (hsg b o e)) (N _ (.head _)).1 hi' (.inl ⟨hany, hst0 hany⟩)
    have hstep1 := hstep hany
    clear hst0 hstep
    (try dsimp only)
    k_steps
    refine Stop.go ?_
    have hlo := opens_len bs
    refine' comp_eval (ks := opens bs) (fun k => true) (atI ws') ?hclos ?hcell rfl ?hnames rfl ?hs ?hsz ?h
    case hclos => with_unfolding_all rfl
    case hcell => decide
    case hnames => decide
    case hs => intro _; rfl
    case hsz => omega
    k_steps
    refine Stop.go ?_
    have hat : ∀ (k : Int), k ∈ opens bs → ∃ (t : Tok) (x : Int), us'.toArray[k.toNat]? = some (.int x t) ∧ x = atI ws' k ∧ 0 ≤ k ∧ k < 2 ^ 63 := by
      intro k hk
      obtain ⟨i, hi2, rfl, hb⟩ := mem_opens hk
      have hiw : i < ws'.length := by omega
      obtain ⟨t, e⟩ := ints_at' hi' (List.getElem?_eq_getElem hiw)
      exact ⟨t, _, by rw [Int.toNat_natCast, List.getElem?_toArray]; exact e, (atI_nat (List.getElem?_eq_getElem hiw)).symm, by omega, by omega⟩
    rename Fr _ _ _ _ => F6
    rename News _ _ _ _ => N6
    refine src_list (ks := opens bs) rfl ⟨_, (N6 _ (.tail _ (.head _))).1, rfl, _, rfl⟩ hio' fun h' I fp wr P St W hst hfp hwr hP hk _ => ?_
    refine ⟨_, _, _, _, _, h', I, fp, wr, P, St, rfl, rfl, W, hst, hfp, hwr, hP, hk, F6, N6, ?_, ?_, ?_⟩
    · intro C k t s₃ m₃ E' hkm hns hx hk3
      exact wpAny_tests_nil ⟨rfl, _, _, rfl, fun _ _ e => e⟩
    · intro C k t s₃ m₃ E' hkm hp hns hx hk3
      obtain ⟨tx, x, q1, q2, q3, q4⟩ := hat k hkm
      refine sub_cell (c := L' + 2) (l := D) (items := us'.toArray) (v := .int x tx) rfl rfl rfl ⟨o2, hk3 _ _ (N6 _ (.tail _ (.tail _ (.tail _ (.head _))))).1, ho2⟩ rfl hns hx ?_ q3 q4 q1 ⟨⟨tx, by rw [q2]⟩, _, _, rfl, fun _ _ e => e⟩
      exact ⟨_, hk3 _ _ (N6 _ (.head _)).1, rfl, _, rfl⟩
    intro D7 h7 tk7 ys7 c7 F7 N7 hne7 hi7
    clear W hst hfp hwr hP hk F6 N6
    have F7' : Fr g L' h7 _ := F7
    have N7' : News g L' h7 _ := N7
    clear F7 N7
    k_steps
    refine Stop.go ?_
    rename Fr _ _ _ _ => F8
    rename News _ _ _ _ => N8
    refine kso_max F8 N8 ⟨_, (N8 _ (.head _)).1, rfl, _, rfl⟩ hi7 ?_ rfl ?_
    · obtain ⟨b, hbm, hbt⟩ := List.any_eq_true.mp hany
      obtain ⟨i, hi2, e⟩ := List.getElem_of_mem hbm
      have hm := mem_opens_of (bs := bs) (i := i) (by rw [List.getElem?_eq_getElem hi2, e]; exact congrArg some hbt)
      exact List.length_pos_of_mem (List.mem_map.mpr ⟨_, List.mem_filter.mpr ⟨hm, rfl⟩, rfl⟩)
    intro h9 M tM tk9 F9 N9 hM1 hM2
    have hTop := top_of_opens hlen' hM1 hM2
    clear F8 N8
    refine storeX_C F9 N9 (c := L' + 3) rfl (UpdF.tail (Ne.symm (hne7 _ (.tail _ (.tail _ (.tail _ (.tail _ (.head _))))))) (UpdF.tail (Nat.ne_of_gt hDl.2.2) (UpdF.tail (Ne.symm hOl.2.2.2) (UpdF.tail (Nat.ne_of_lt (Nat.add_lt_add_left (by decide) L')) (UpdF.tail (Nat.ne_of_lt (Nat.add_lt_add_left (by decide) L')) (UpdF.head (by intro _ hp; cases hp))))))) hot ?_
    intro h10 o10 F10 N10 hd10
    (try dsimp only at N10)
    clear F9 N9
    k_steps
    refine Stop.go ?_
    refine' comp_eval (ks := opens bs) (fun k => atI ws' k != M) (atI ws') ?hclos ?hcell rfl ?hnames rfl ?hs ?hsz ?h
    case hclos => with_unfolding_all rfl
    case hcell => decide
    case hnames => decide
    case hs => intro _; rfl
    case hsz => omega
    k_steps
    refine Stop.go ?_
    rename Fr _ _ _ _ => F11
    rename News _ _ _ _ => N11
    refine src_list (ks := opens bs) rfl ⟨_, (N11 _ (.tail _ (.tail _ (.head _)))).1, rfl, _, rfl⟩ hio' fun h' I fp wr P St W hst hfp hwr hP hk _ => ?_
    refine ⟨_, _, _, _, _, h', I, fp, wr, P, St, rfl, rfl, W, hst, hfp, hwr, hP, hk, F11, N11, ?_, ?_, ?_⟩
    · intro C k t s₃ m₃ E' hkm hns hx hk3
      obtain ⟨tx, x, q1, q2, q3, q4⟩ := hat k hkm
      refine wpAny_tests_one (wpAny_isTrue_Compare1 (sub_cell (c := L' + 2) (l := D) (items := us'.toArray) (v := .int x tx) rfl rfl rfl ⟨o2, hk3 _ _ (N11 _ (.tail _ (.tail _ (.tail _ (.tail _ (.head _)))))).1, ho2⟩ rfl hns hx ?_ q3 q4 q1
        (wpAny_Name (wpAny_loadName_cell (c := L' + 3) rfl rfl rfl ⟨o10, hk3 _ _ (N11 _ (.tail _ (.tail _ (.tail _ (.tail _ (.tail _ (.head _))))))).1, hd10⟩ (ne_int (wpAny_truthy_bool ?_))))))
      · exact ⟨_, hk3 _ _ (N11 _ (.tail _ (.head _))).1, rfl, _, rfl⟩
      · exact ⟨by rw [q2], _, _, rfl, fun _ _ e => e⟩
    · intro C k t s₃ m₃ E' hkm hp hns hx hk3
      obtain ⟨tx, x, q1, q2, q3, q4⟩ := hat k hkm
      refine sub_cell (c := L' + 2) (l := D) (items := us'.toArray) (v := .int x tx) rfl rfl rfl ⟨o2, hk3 _ _ (N11 _ (.tail _ (.tail _ (.tail _ (.tail _ (.head _)))))).1, ho2⟩ rfl hns hx ?_ q3 q4 q1 ⟨⟨tx, by rw [q2]⟩, _, _, rfl, fun _ _ e => e⟩
      exact ⟨_, hk3 _ _ (N11 _ (.tail _ (.head _))).1, rfl, _, rfl⟩
    intro D12 h12 tk12 ys12 c12 F12 N12 hne12 hi12
    clear W hst hfp hwr hP hk F11 N11
    have F12' : Fr g L' h12 _ := F12
    have N12' : News g L' h12 _ := N12
    clear F12 N12
    k_steps
    refine Stop.go ?_
    rename Fr _ _ _ _ => F13
    rename News _ _ _ _ => N13
    refine kmk_add_ints (vs := ys12) F13 N13 ⟨_, (N13 _ (.tail _ (.head _))).1, rfl, _, rfl⟩ ⟨_, (N13 _ (.head _)).1, rfl, _, rfl⟩ hi12 (.cons 0 _ .nil) ?_ ?_
    rotate_left
    · have := List.length_filter_le (fun k => atI ws' k != M) (opens bs)
      rw [sizeLine_eq, List.length_map]
      show _ + 1 ≤ _
      omega
    intro D14 us14 h14 F14 N14 hlt14 hi14
    clear F13 N13
    k_steps
    refine Stop.go ?_
    rename Fr _ _ _ _ => F15
    rename News _ _ _ _ => N15
    refine kso_max F15 N15 ⟨_, (N15 _ (.head _)).1, rfl, _, rfl⟩ hi14 (by rw [List.length_append]; show 0 < _ + 1; omega) rfl ?_
    intro h16 S tS tk16 F16 N16 hS1 hS2
    have hSnd := snd_of_opens hlen' hTop hS1 hS2
    have N17 : News g L' h16 [(D, listOf us'.toArray c'), (OO, listOf uo.toArray co), (L' + 1, o3), (L' + 2, o2), (L' + 3, o10)] := newsSub N16 (by
      intro q hq
      exact .tail _ (.tail _ (.tail _ (.tail _ hq))))
    clear F15 N15 N16 hi14 hi12 hi7 hlt14
    (try dsimp only)
    k_steps
    · rename Fr _ _ _ _ => F18
      rename News _ _ _ _ => N18
      exact hQ D us' c' ws' _ _ (fun b o e => F18.keep b o (hsg b o e)) (N18 _ (.head _)).1 hi' (.inr ⟨hany, hstep1 _ (.brk M S hpos hTop hSnd (by assumption))⟩)
    have hMS : M ≠ S := by assumption
    refine Stop.go ?_
    refine' comp_assign (ks := opens bs) (fun k => atI ws' k == M) (fun k => k) ?hsw ?hclos ?hcell rfl ?hnames rfl ?hs ?hsz rfl rfl ?h
    case hsw => with_unfolding_all rfl
    case hclos => with_unfolding_all rfl
    case hcell => decide
    case hnames => decide
    case hs => intro _; rfl
    case hsz => omega
    k_steps
    refine Stop.go ?_
    rename Fr _ _ _ _ => F18
    rename News _ _ _ _ => N18
    refine src_list (ks := opens bs) rfl ⟨_, (N18 _ (.tail _ (.head _))).1, rfl, _, rfl⟩ hio' fun h' I fp wr P St W hst hfp hwr hP hk _ => ?_
    refine ⟨_, _, _, _, h', I, fp, wr, P, St, rfl, rfl, W, hst, hfp, hwr, hP, hk, F18, N18, ?_, ?_, ?_⟩
    · intro C k t s₃ m₃ E' hkm hns hx hk3
      obtain ⟨tx, x, q1, q2, q3, q4⟩ := hat k hkm
      refine wpAny_tests_one (wpAny_isTrue_Compare1 (sub_cell (c := L' + 2) (l := D) (items := us'.toArray) (v := .int x tx) rfl rfl rfl ⟨o2, hk3 _ _ (N18 _ (.tail _ (.tail _ (.tail _ (.head _))))).1, ho2⟩ rfl hns hx ?_ q3 q4 q1
        (wpAny_Name (wpAny_loadName_cell (c := L' + 3) rfl rfl rfl ⟨o10, hk3 _ _ (N18 _ (.tail _ (.tail _ (.tail _ (.tail _ (.head _)))))).1, hd10⟩ (eq_int (wpAny_truthy_bool ?_))))))
      · exact ⟨_, hk3 _ _ (N18 _ (.head _)).1, rfl, _, rfl⟩
      · exact ⟨by rw [q2], _, _, rfl, fun _ _ e => e⟩
    · intro C k t s₃ m₃ E' hkm hp hns hx hk3
      exact wpAny_Name (wpAny_loadName_local rfl rfl hns hx ⟨⟨t, rfl⟩, _, _, rfl, fun _ _ e => e⟩)
    intro TT h19 tk19 ut ct F19 N19 hne19 hi19
    have hit : IntsAre ut (tiedI bs ws' M) := by
      rw [List.map_id'] at hi19
      exact hi19
    clear W hst hfp hwr hP hk F18 N18 hi19
    have F19' : Fr g L' h19 _ := F19
    have N19' : News g L' h19 _ := N19
    clear F19 N19
    k_steps
    refine Stop.go ?_
    rename Fr _ _ _ _ => F20
    rename News _ _ _ _ => N20
    refine kso_min (ns := [ws'.sum - room, M - S]) F20 N20 ⟨_, (N20 _ (.head _)).1, rfl, _, rfl⟩ (.cons _ _ (.cons _ _ .nil)) (Nat.succ_pos _) rfl ?_
    intro h21 X21 t21 tk21 F21 N21 hX1 hX2
    have hX := min_of hX1 hX2
    subst hX
    have htl := hit.length
    have htb : (tiedI bs ws' M).length ≤ 63 := by
      have := List.length_filter_le (fun k => atI ws' k == M) (opens bs)
      show ((opens bs).filter _).length ≤ 63
      omega
    clear F20 N20 hX1 hX2
    (try dsimp only)
    k_steps
    refine Stop.go ?_
    rename Fr _ _ _ _ => F22
    rename News _ _ _ _ => N22
    refine For_invU g rfl rfl (wpAny_stop ?_) (by intro _; rfl)
    k_steps
    refine Stop.go ?_
    have hsz22 := F22.ns.lt
    have ltn : ∀ {b : Addr} {o : Obj}, (b, o) ∈ [(D, listOf us'.toArray c'), (OO, listOf uo.toArray co), (L' + 1, o3), (L' + 2, o2), (L' + 3, o10)] → b < _ := fun {b o} hb => Heap.lt_size (N22 (b, o) (.tail _ (.tail _ (.tail _ hb)))).1
    have hTTL : TT ≠ L' := (N22 _ (.tail _ (.tail _ (.head _)))).2.1
    have hDT : D ≠ TT := hne19 _ (.head _)
    have hDlt := ltn (.head _)
    refine src_list (ks := tiedI bs ws' M) rfl ⟨_, (N22 _ (.tail _ (.tail _ (.head _)))).1, rfl, _, rfl⟩ hit fun h' I fp wr P St W hst hfp hwr hP hk hfq => ?_
    refine ⟨I, fp, wr, (tiedI bs ws' M).length, P, St, _, [(D, listOf us'.toArray c'), (OO, listOf uo.toArray co), (L' + 1, o3), (L' + 2, o2), (L' + 3, o10)],
      (fun i m₁ n₁ => ∃ us1 c1 f rest mn t1 t2 t3, n₁ = [(D, listOf us1.toArray c1), (OO, listOf uo.toArray co), (L' + 1, o3), (L' + 2, o2), (L' + 3, o10)] ∧ IntsAre us1 f ∧ f.length = bs.length ∧
        nwGo M (min (ws'.sum - room) (M - S)) (tiedI bs ws' M) ws' (ws'.sum - room) ((tiedI bs ws' M).length : Int) = nwGo M (min (ws'.sum - room) (M - S)) ((tiedI bs ws' M).drop i) f rest mn ∧ mn = ((tiedI bs ws' M).length : Int) - (i : Int) ∧
        m₁ (Str.ofString "rest") = some (.int rest t1) ∧ m₁ (Str.ofString "many") = some (.int mn t2) ∧ m₁ (Str.ofString "most") = some (.int (min (ws'.sum - room) (M - S)) t3) ∧
        m₁ (Str.ofString "open_ones") = some (.ref OO) ∧ m₁ (Str.ofString "room") = some (.int room tr)), rfl, W, ?_, ?_, ?_, hst, F22.keeps hk, (newsSub N22 (fun q hq => .tail _ (.tail _ (.tail _ hq)))).grown hk, ?_, ?_, ?_⟩
    · intro hb
      rcases hfq _ hb with hb | hb
      · exact hTTL hb.symm
      · exact Nat.lt_irrefl _ (Nat.lt_of_lt_of_le hsz22 hb)
    · intro b hb
      exact fresh_none (Nat.le_trans F22.above (Nat.le_trans (Nat.le_of_lt hsz22) (hwr b hb)))
    · intro p hp hb
      exact Nat.lt_irrefl _ (Nat.lt_of_lt_of_le (ltn (b := p.1) (o := p.2) hp) (hwr _ hb))
    · exact ⟨us', c', ws', ws'.sum - room, _, _, _, _, rfl, hi', hlen', by rw [List.drop_zero], by omega, rfl, rfl, rfl, rfl, rfl⟩
    · rintro i v m₁ news₁ s₁ own hi2 hPv ⟨us1, c1, f, rest, mn, t1, t2, t3, rfl, hif, hfl, hgo, hmn, x1, x2, x3, x4, x5⟩ hnw1 hown hown2 hall hst1 F1 N1
      obtain ⟨k, tk', hkk, rfl⟩ := hP i v hPv
      have hnD : ∀ p ∈ own, p.1 ≠ D := fun p hp q => by
        rcases hfq _ (hown p hp) with hb | hb
        · exact hDT (q.symm.trans hb)
        · rw [q] at hb; exact Nat.lt_irrefl _ (Nat.lt_of_lt_of_le hDlt hb)
      obtain ⟨j, hj, rfl, hbj⟩ := mem_opens (List.mem_filter.mp (List.mem_of_getElem? hkk)).1
      have hmn0 : 0 < mn := by omega
      have hmn1 : mn < 1073741824 := by omega
      have hdr : (tiedI bs ws' M).drop i = (j : Int) :: (tiedI bs ws' M).drop (i + 1) := by
        rw [List.drop_eq_getElem_cons hi2]; congr 1; exact (List.getElem?_eq_some_iff.mp hkk).2
      rw [hdr, nwGo, Int.toNat_natCast] at hgo
      have F2 : Fr g L' s₁.heap (fun y => if y = Str.ofString "k" then some (.int (j : Int) tk') else if y = Str.ofString "rest" then some (.int rest t1) else if y = Str.ofString "many" then some (.int mn t2) else if y = Str.ofString "most" then some (.int (min (ws'.sum - room) (M - S)) t3) else
          if y = Str.ofString "open_ones" then some (.ref OO) else if y = Str.ofString "room" then some (.int room tr) else m₁ y) := by
        have em : (fun y => if y = Str.ofString "k" then some (.int (j : Int) tk') else if y = Str.ofString "rest" then some (.int rest t1) else if y = Str.ofString "many" then some (.int mn t2) else if y = Str.ofString "most" then some (.int (min (ws'.sum - room) (M - S)) t3) else
          if y = Str.ofString "open_ones" then some (.ref OO) else if y = Str.ofString "room" then some (.int room tr) else m₁ y) = (fun y => if y = Str.ofString "k" then some (.int (j : Int) tk') else m₁ y) := by
          funext y
          split
          · rfl
          · repeat' split
            all_goals first | rfl | (rename_i hy; rw [hy]; first | exact x1.symm | exact x2.symm | exact x3.symm | exact x4.symm | exact x5.symm)
        rw [em]; exact F1
      have N2 : News g L' s₁.heap ((D, listOf us1.toArray c1) :: (OO, listOf uo.toArray co) :: (L' + 1, o3) :: (L' + 2, o2) :: (L' + 3, o10) :: own) := newsSub N1 (by
        intro q hq
        simp only [List.mem_cons, List.mem_append, List.not_mem_nil, or_false] at hq ⊢
        rcases hq with h | h | h | h | h | h
        · exact .inr (.inl h)
        · exact .inr (.inr (.inl h))
        · exact .inr (.inr (.inr (.inl h)))
        · exact .inr (.inr (.inr (.inr (.inl h))))
        · exact .inr (.inr (.inr (.inr (.inr h))))
        · exact .inl h)
      clear F1 N1 x1 x2 x3 x4 x5 F22 N22
      refine wpAny_stop ?_
      k_steps
      refine Stop.go ?_
      rename Fr _ _ _ _ => F3
      rename News _ _ _ _ => N3
      refine near_ok (dp := dp + 1) (X'.keeps F3.keep) (T'.keeps F3.keep) (by omega) (by show un + 3 + 8 < cLine; omega) hmn0 hmn1 fun tn h4 tk4 hk4 => ?_
      have F4 := F3.keeps hk4
      have N4 := N3.grown hk4
      clear F3 N3
      k_steps
      refine Stop.go ?_
      rename Fr _ _ _ _ => F5
      rename News _ _ _ _ => N5
      refine kso_min (ns := [min (ws'.sum - room) (M - S), nearI rest mn]) F5 N5 ⟨_, (N5 _ (.head _)).1, rfl, _, rfl⟩ (.cons _ _ (.cons _ _ .nil)) (Nat.succ_pos _) rfl ?_
      intro h6 X6 t6 tk6 F6 N6' hX1 hX2
      have hX := min_of hX1 hX2
      rw [← hX] at hgo
      have N6 : News g L' h6 ((D, listOf us1.toArray c1) :: (OO, listOf uo.toArray co) :: (L' + 1, o3) :: (L' + 2, o2) :: (L' + 3, o10) :: own) := newsSub N6' (by
        intro q hq
        exact .tail _ hq)
      clear F5 N5 N6' hX1 hX2 hX
      (try dsimp only)
      k_steps
      refine Stop.go ?_
      rename Fr _ _ _ _ => F7
      rename News _ _ _ _ => N7
      have N8 : News g L' _ ((D, listOf us1.toArray c1) :: (OO, listOf uo.toArray co) :: (L' + 1, o3) :: (L' + 2, o2) :: (L' + 3, o10) :: own) := newsSub N7 (by
        intro q hq
        exact .tail _ hq)
      refine ksa_set (k := (j : Int)) F7 N8 (Upd.head ?_) hif (by omega) (by omega) (by omega) ?_
      · intro p hp
        simp only [List.mem_cons] at hp
        rcases hp with rfl | rfl | rfl | rfl | hp
        · exact Ne.symm hOl.1
        · exact Nat.ne_of_lt hDl.1
        · exact Nat.ne_of_lt hDl.2.1
        · exact Nat.ne_of_lt hDl.2.2
        · exact hnD p hp
      rw [Int.toNat_natCast]
      intro h9 F9 N9 hi9 hl9 _
      clear F7 N7 N8
      k_steps
      refine Stop.go ?_
      rename Fr _ _ _ _ => F10
      rename News _ _ _ _ => N10
      refine LoopStepU.intro (news₂ := [(D, listOf (us1.set j (.int (M - X6) _)).toArray c1), (OO, listOf uo.toArray co), (L' + 1, o3), (L' + 2, o2), (L' + 3, o10)]) F10 (newsSub N10 ?_) ?_ ⟨_, c1, _, rest - X6, mn - 1, _, _, _, rfl, hi9, by rw [List.length_set]; exact hfl, hgo, by omega, rfl, rfl, rfl, rfl, rfl⟩
      · intro q hq
        simp only [List.mem_cons, List.mem_append, List.not_mem_nil, or_false] at hq ⊢
        rcases hq with h | h | h | h | h | h
        · exact .inr (.inr (.inr (.inr (.inr h))))
        · exact .inl h
        · exact .inr (.inl h)
        · exact .inr (.inr (.inl h))
        · exact .inr (.inr (.inr (.inl h)))
        · exact .inr (.inr (.inr (.inr (.inl h))))
      · intro p hp
        simp only [List.mem_cons, List.not_mem_nil, or_false] at hp
        rcases hp with rfl | rfl | rfl | rfl | rfl
        · exact hnw1 (D, listOf us1.toArray c1) (.head _)
        · exact hnw1 _ (.tail _ (.head _))
        · exact hnw1 _ (.tail _ (.tail _ (.head _)))
        · exact hnw1 _ (.tail _ (.tail _ (.tail _ (.head _))))
        · exact hnw1 _ (.tail _ (.tail _ (.tail _ (.tail _ (.head _)))))
    · rintro h23 tk23 m23 n23 F23 N23 _ ⟨us1, c1, f, rest, mn, t1, t2, t3, rfl, hif, hfl, hgo, hmn, x1, x2, x3, x4, x5⟩
      rw [List.drop_length, nwGo, nwGo_pass hlen'] at hgo
      subst hgo
      have F24 : Fr g L' h23 (fun y => if y = Str.ofString "open_ones" then some (.ref OO) else if y = Str.ofString "room" then some (.int room tr) else m23 y) := by
        have em : (fun y => if y = Str.ofString "open_ones" then some (.ref OO) else if y = Str.ofString "room" then some (.int room tr) else m23 y) = m23 := by
          funext y
          repeat' split
          all_goals first | rfl | (rename_i hy; rw [hy]; first | exact x4.symm | exact x5.symm)
        rw [em]; exact F23
      have N24 : News g L' h23 [(D, listOf us1.toArray c1), (OO, listOf uo.toArray co), (L' + 1, o3), (L' + 2, o2), (L' + 3, o10)] := N23
      clear F23 N23 x1 x2 x3 x4 x5 F22 N22
      k_steps
      refine Stop.go ?_
      rename Fr _ _ _ _ => F25
      rename News _ _ _ _ => N25
      have hMS' : M - S ≠ 0 := by omega
      obtain ⟨q1, q2, q3, q4⟩ := cw_facts hlen' h0' hTop hSnd hMS' hpos
      exact ⟨((cwPass bs ws' M S (ws'.sum - room)).sum - room).toNat, by omega, _, _, _, us1, cwPass bs ws' M S (ws'.sum - room), c1, o10, _, _, rfl, rfl, F25, N25, hd10, rfl, rfl, rfl, hif, q1.trans hlen', q3, fun _ out hout => hstep1 _ (.step M S hpos hTop hSnd hMS hout), fun q => by cases q⟩
end Mine

namespace Mine
theorem fill6 : Mine.hd.heap_39 = Mine.hd.heap_39 ∧ PySem.Challenge.rw_ff5026_01 = PySem.Challenge.rw_ff5026_01 := by
  k_fill
  exact ⟨rfl, rfl⟩
set_option maxHeartbeats 1000000 in
theorem draw_ok {prog : Program} {w : World} {dp un : Nat} {fr : Option (List Env)} {gd : Option (List Code)} {s : Shared} {mg mb : Str → Option Value} {p : Program} {loose : List Str} {mean : ExcName → Option Value}
    {hb : Heap} {many : Int} {tm : Tok} {st lc : Addr} {uc : List Value} {cs : List Int} {pos : Int} {tp : Tok} {cst : Nat} {Q E : Value → Shared → Prop}
    (X : (Mine.hd.heap_39 w.params).In hb) (T : Top p loose mean mg mb hb) (hsub : ∀ b o, hb.get? b = some o → s.heap.get? b = some o) (hbst : hb.get? st = none)
    (hd : dp + 3 < recursionLimit) (hu : un + 32 < cLine)
    (hst : s.heap.get? st = some (listOf #[.ref lc, .int pos tp] cst)) (hlc : s.heap.IsList lc uc.toArray) (hic : IntsAre uc cs) (hcl : lc ≠ st) (hn : cs.length ≤ 40) (hp0 : 0 ≤ pos) (hp1 : pos ≤ cs.length) (hm : 0 < many) (hm1 : many < 100)
    (hQ : ∀ v t pos' tp' h' tk, 0 ≤ v → v < many → (∀ b o, b ≠ st → s.heap.get? b = some o → h'.get? b = some o) → h'.get? st = some (listOf #[.ref lc, .int pos' tp'] cst) → 0 ≤ pos' → pos' ≤ cs.length → Q (.int v t) { s with heap := h', toks := tk }) :
    wpAny (model prog w) { handled := none, depth := dp, frames := fr, guards := gd, units := un } (call (.ref 313) [.ref st, .int many tm]) Q E s := by
  have := fill6
  have hL1 := hic.length
  refine wpAny_call ?_
  refine' enterC (news := [(st, listOf #[.ref lc, .int pos tp] cst)]) (binds := [(Str.ofString "state", .ref st), (Str.ofString "many", .int many tm)])
    (K := Mine.hd.heap_39 w.params) (fun a o e => hsub a o (X a o e)) (T.nolimit.keeps hsub) ?k6 ?k7 ?k8 ?k9 ?kB ?kD ?kN ?_ ?c2 ?c3 ?c4
  case k6 => k_is
  case k7 => k_is
  case k8 => show dp < _; omega
  case k9 => exact BindsTo.of_eq rfl
  case kB => exact rfl
  case kD => decide +kernel
  case kN =>
    intro q hq
    rw [List.mem_singleton.mp hq]
    exact hst
  case c2 => rfl
  case c3 => rfl
  case c4 => rfl
  intro L' h₁ tk cells F N Y hlow
  cases Y
  generalize hg : hideAll s.heap _ = g at F N
  have hbg : ∀ b o, hb.get? b = some o → g.get? b = some o := fun b o e => by
    rw [← hg]
    refine hideAll_get _ (hsub b o e) fun q => ?_
    have : b = st := List.mem_singleton.mp q
    rw [this, hbst] at e; cases e
  have X' := X.keeps hbg
  have T' := T.keeps hbg
  have hlcg : g.IsList lc uc.toArray := by
    obtain ⟨o, ho, hc, n, hd'⟩ := hlc
    refine ⟨o, ?_, hc, n, hd'⟩
    rw [← hg]
    exact hideAll_get _ ho fun q => hcl (List.mem_singleton.mp q)
  have hkeep : ∀ h' : Heap, (∀ b o, g.get? b = some o → h'.get? b = some o) → ∀ b o, b ≠ st → s.heap.get? b = some o → h'.get? b = some o := by
    intro h' hk b o hb ho
    refine hk b o ?_
    rw [← hg]
    exact hideAll_get _ ho fun q => hb (List.mem_singleton.mp q)
  have F1 : Fr g L' h₁ (fun y => if y = Str.ofString "many" then some (.int many tm) else if y = Str.ofString "state" then some (.ref st) else none) := by
    with_unfolding_all exact F
  have N1 : News g L' h₁ [(st, listOf #[.ref lc, .int pos tp] cst)] := N
  clear F N hlow
  dsimp only
  k_steps
  · exact hQ 0 _ pos tp _ _ (Int.le_refl 0) hm (hkeep _ F1.keep) (N1 _ (.head _)).1 hp0 hp1
  · rename Fr _ _ _ _ => F2
    rename News _ _ _ _ => N2
    refine hQ _ _ (pos + 1) _ _ _ ?_ ?_ (hkeep _ F2.keep) (N2 _ (.head _)).1 (by omega) (by omega)
    · rw [Int.fmod_eq_emod_of_nonneg _ (Int.le_of_lt hm)]; exact Int.emod_nonneg _ (Int.ne_of_gt hm)
    · rw [Int.fmod_eq_emod_of_nonneg _ (Int.le_of_lt hm)]; exact Int.emod_lt_of_pos _ hm
end Mine

namespace Mine
theorem fill7 : Mine.hd.heap_39 = Mine.hd.heap_39 ∧ PySem.Challenge.rw_ff5026_01 = PySem.Challenge.rw_ff5026_01 := by
  k_fill
  exact ⟨rfl, rfl⟩
set_option maxHeartbeats 1000000 in
theorem state_ok {prog : Program} {w : World} {dp un : Nat} {fr : Option (List Env)} {gd : Option (List Code)} {s : Shared} {mg mb : Str → Option Value} {p : Program} {loose : List Str} {mean : ExcName → Option Value}
    {ls : Addr} {uls : List Value} {xs : List Int} {Q E : Value → Shared → Prop}
    (X : (Mine.hd.heap_39 w.params).In s.heap) (T : Top p loose mean mg mb s.heap)
    (hd : dp + 3 < recursionLimit) (hu : un + 32 < cLine)
    (hls : s.heap.IsList ls uls.toArray) (hix : IntsAre uls xs) (hn : xs.length ≤ 63)
    (hQ : ∀ st lc uc cs tp cst c h' tk, (∀ b o, s.heap.get? b = some o → h'.get? b = some o) → s.heap.get? st = none → s.heap.get? lc = none → lc ≠ st → h'.get? st = some (listOf #[.ref lc, .int 0 tp] cst) → h'.get? lc = some (listOf (List.toArray uc) c) →
      IntsAre uc cs → cs.length ≤ 40 → Q (.ref st) { s with heap := h', toks := tk }) :
    wpAny (model prog w) { handled := none, depth := dp, frames := fr, guards := gd, units := un } (call (.ref 318) [.ref ls]) Q E s := by
  have := fill7
  have hL1 := hix.length
  refine wpAny_call ?_
  refine' enter0 (binds := [(Str.ofString "script", .ref ls)]) X T ?k6 ?k7 ?k8 ?k9 ?kB ?_ ?c2 ?c3 ?c4 ?c5
  case k6 => k_is
  case k7 => k_is
  case k8 => show dp < _; omega
  case k9 => exact BindsTo.of_eq rfl
  case kB => exact locs rfl
  case c2 => rfl
  case c3 => rfl
  case c4 => rfl
  case c5 => decide
  intro L' h₁ F
  (try dsimp only)
  (try k_fold)
  have N : News s.heap L' h₁ [] := News.nil
  k_steps
  rename Fr _ _ _ _ => F2
  rename News _ _ _ _ => N2
  rename_i l1
  refine hQ _ _ _ _ _ _ _ _ _ F2.keep (N2 _ (.head _)).2.2 (N2 _ (.tail _ (.head _))).2.2 (Nat.ne_of_lt l1.1) (N2 _ (.head _)).1 (N2 _ (.tail _ (.head _))).1 (by assumption) ?_
  rw [List.length_map, List.length_take]
  omega
end Mine

namespace Mine
theorem top_unique {bs : List Bool} {ws : List Int} {M M' : Int} (h : IsTop bs ws M) (h' : IsTop bs ws M') : M = M' := by
  obtain ⟨⟨i, a1, a2⟩, a3⟩ := h
  obtain ⟨⟨j, b1, b2⟩, b3⟩ := h'
  have := a3 j _ b1 b2
  have := b3 i _ a1 a2
  omega
theorem snd_unique {bs : List Bool} {ws : List Int} {M S S' : Int} (h : IsSnd bs ws M S) (h' : IsSnd bs ws M S') : S = S' := by
  obtain ⟨⟨i, b, v, a1, a2, a3⟩, a4⟩ := h
  obtain ⟨⟨j, b', v', b1, b2, b3⟩, b4⟩ := h'
  have h1 := a4 j _ _ b1 b2
  have h2 := b4 i _ _ a1 a2
  omega
theorem zero_of_sum : ∀ {l : List Int}, (∀ x ∈ l, 0 ≤ x) → l.sum = 0 → ∀ x ∈ l, x = 0
  | [], _, _, x, hx => by cases hx
  | a :: l, h, hs, x, hx => by
    have h1 := h a (.head _)
    have h2 := sum_nonneg (l := l) fun y hy => h y (.tail _ hy)
    rw [List.sum_cons] at hs
    rcases List.mem_cons.mp hx with rfl | hx
    · omega
    · exact zero_of_sum (l := l) (fun y hy => h y (.tail _ hy)) (by omega) x hx

theorem cw_nw {bs : List Bool} {room : Int} {ws o1 : List Int} (h1 : CWL bs room ws o1) : ∀ {o2 : List Int}, ws.length = bs.length → (∀ x ∈ ws, 0 ≤ x) → NWL bs room ws o2 → o1 = o2 := by
  induction h1 with
  | @stop ws hs =>
    intro o2 hl h0 h2
    cases h2 with
    | stop => rfl
    | brk => rfl
    | step M S hpos ht hsn hne hrest =>
      exfalso
      have hz : ws.sum = 0 := by
        by_cases h : ws.sum = 0
        · exact h
        · exact absurd ⟨h, hpos⟩ hs
      obtain ⟨⟨i, a1, a2⟩, _⟩ := ht
      have hM := zero_of_sum h0 hz M (List.mem_of_getElem? a2)
      have hb := snd_bounds h0 ⟨⟨i, a1, a2⟩, by assumption⟩ hsn
      omega
  | @brk ws M S hsum hpos ht hsn hz =>
    intro o2 hl h0 h2
    cases h2 with
    | stop => rfl
    | brk => rfl
    | step M' S' _ ht' hsn' hne _ =>
      exfalso
      have := top_unique ht ht'
      subst this
      have := snd_unique hsn hsn'
      omega
  | @step ws out M S hsum hpos ht hsn hd _ ih =>
    intro o2 hl h0 h2
    have hf := cw_facts hl h0 ht hsn hd hpos
    cases h2 with
    | stop hs => exact absurd hpos hs
    | brk M' S' _ ht' hsn' he =>
      exfalso
      have := top_unique ht ht'
      subst this
      have := snd_unique hsn hsn'
      omega
    | step M' S' _ ht' hsn' hne hrest =>
      have := top_unique ht ht'
      subst this
      have := snd_unique hsn hsn'
      subst this
      exact ih (hf.1.trans hl) hf.2.2.1 hrest

theorem rr_total : ∀ (rs mxs vs : List Int) (rem : Int), rs.length = vs.length → mxs.length = vs.length → (∀ r ∈ rs, r = 0 ∨ r = 1) → (∀ x ∈ mxs, 0 < x) → 0 ≤ rem → vs.sum - rem ≤ (rrGo rs mxs vs rs.sum rem).sum
  | [], mxs, vs, rem, hl, _, _, _, hr => by
    cases vs with
    | nil => simp [rrGo]; omega
    | cons => cases hl
  | r :: rs, [], [], rem, hl, _, _, _, _ => by cases hl
  | r :: rs, _ :: _, [], rem, hl, _, _, _, _ => by cases hl
  | r :: rs, [], _ :: _, rem, hl, h2, _, _, _ => by cases h2
  | r :: rs, mx :: mxs, v :: vs, rem, hl, hl2, h01, hm, hr => by
    have hs := sum_01 (rs := rs) fun x hx => h01 x (.tail _ hx)
    have hr01 := h01 r (.head _)
    have hmx := hm mx (.head _)
    have hl' : rs.length = vs.length := by simpa using hl
    have hl2' : mxs.length = vs.length := by simpa using hl2
    rw [rrGo]
    by_cases hc : r ≠ 0 ∧ 0 < (r :: rs).sum
    · rw [if_pos hc]
      have hr1 : r = 1 := by omega
      subst hr1
      have hb := cut_bounds hmx hc.2 hr
      have e : (1 :: rs).sum - 1 = rs.sum := by rw [List.sum_cons]; omega
      rw [e]
      have ih := rr_total rs mxs vs (rem - cutI 1 mx (1 :: rs).sum rem) hl' hl2' (fun x hx => h01 x (.tail _ hx)) (fun x hx => hm x (.tail _ hx)) (by omega)
      generalize cutI 1 mx (1 :: rs).sum rem = c at *
      simp only [List.sum_cons]
      omega
    · rw [if_neg hc]
      have hr0 : r = 0 := by
        rcases hr01 with h | h
        · exact h
        · exfalso; apply hc; subst h; rw [List.sum_cons]; omega
      subst hr0
      have e : (0 :: rs).sum = rs.sum := by rw [List.sum_cons]; omega
      rw [e]
      have ih := rr_total rs mxs vs rem hl' hl2' (fun x hx => h01 x (.tail _ hx)) (fun x hx => hm x (.tail _ hx)) hr
      simp only [List.sum_cons]
      omega

/-- what the open columns have -/
def ableS : List Bool → List Int → Int
  | b :: bs, w :: ws => (if b = true then w else 0) + ableS bs ws
  | _, _ => 0
theorem able_diff : ∀ (bs : List Bool) (ws vs : List Int), ws.length = bs.length → vs.length = bs.length → (∀ (i : Nat) v x, bs[i]? = some false → ws[i]? = some v → vs[i]? = some x → x = v) → ableS bs vs - ableS bs ws = vs.sum - ws.sum
  | [], ws, vs, h1, h2, _ => by
    have e1 : ws = [] := List.eq_nil_of_length_eq_zero (by simpa using h1)
    have e2 : vs = [] := List.eq_nil_of_length_eq_zero (by simpa using h2)
    subst e1 e2
    rfl
  | b :: bs, [], _, h1, _, _ => by cases h1
  | b :: bs, _ :: _, [], _, h2, _ => by cases h2
  | b :: bs, w :: ws, v :: vs, h1, h2, h => by
    have ih := able_diff bs ws vs (by simpa using h1) (by simpa using h2) fun i a x g1 g2 g3 => h (i + 1) a x (by simpa using g1) (by simpa using g2) (by simpa using g3)
    have h0 := h 0 w v
    simp only [ableS, List.sum_cons]
    cases b
    · have := h0 rfl rfl rfl
      simp only [Bool.false_eq_true, if_false]
      omega
    · simp only [if_true]
      omega
theorem able_zero : ∀ (bs : List Bool) (ws : List Int), (∀ (i : Nat) v, bs[i]? = some true → ws[i]? = some v → v ≤ 0) → ableS bs ws ≤ 0
  | [], ws, _ => by cases ws <;> exact Int.le_refl _
  | b :: bs, [], _ => Int.le_refl _
  | b :: bs, w :: ws, h => by
    have ih := able_zero bs ws fun i v g1 g2 => h (i + 1) v (by simpa using g1) (by simpa using g2)
    simp only [ableS]
    cases b
    · simp only [Bool.false_eq_true, if_false]; omega
    · have := h 0 w rfl rfl
      simp only [if_true]; omega

/-- what the program's loop hands back -/
theorem cw_law {bs : List Bool} {room : Int} {ws out : List Int} (h1 : CWL bs room ws out) : ws.length = bs.length → (∀ x ∈ ws, 0 ≤ x) →
    out.length = ws.length ∧ (∀ x ∈ out, 0 ≤ x) ∧ (∀ (i : Nat) b v x, bs[i]? = some b → ws[i]? = some v → out[i]? = some x → x ≤ v ∧ (b = false → x = v)) ∧
      (0 ≤ ws.sum - room → ws.sum - room ≤ ableS bs ws → out.sum = room) := by
  induction h1 with
  | @stop ws hs =>
    intro hl h0
    refine ⟨rfl, h0, fun i b v x _ g2 g3 => ?_, fun hp ha => ?_⟩
    · rw [g2] at g3; cases g3; exact ⟨Int.le_refl _, fun _ => rfl⟩
    · by_cases hg : 0 < ws.sum - room
      · exfalso
        have hz : ws.sum = 0 := by
          by_cases h : ws.sum = 0
          · exact h
          · exact absurd ⟨h, hg⟩ hs
        have hall := zero_of_sum h0 hz
        have := able_zero bs ws fun i v _ g2 => by rw [hall v (List.mem_of_getElem? g2)]; exact Int.le_refl _
        omega
      · omega
  | @brk ws M S hsum hpos ht hsn hz =>
    intro hl h0
    refine ⟨rfl, h0, fun i b v x _ g2 g3 => ?_, fun hp ha => ?_⟩
    · rw [g2] at g3; cases g3; exact ⟨Int.le_refl _, fun _ => rfl⟩
    · exfalso
      have hb := snd_bounds h0 ht hsn
      have hM : M ≤ 0 := by
        obtain ⟨⟨j, b, v, g1, g2, g3⟩, _⟩ := hsn
        rw [sndVal] at g3
        split at g3
        · rename_i hc
          exact absurd (by omega) hc.2
        · omega
      have := able_zero bs ws fun i v g1 g2 => by have := ht.2 i v g1 g2; omega
      omega
  | @step ws out M S hsum hpos ht hsn hd _ ih =>
    intro hl h0
    have hf := cw_facts hl h0 ht hsn hd hpos
    obtain ⟨i1, i2, i3, i4⟩ := ih (hf.1.trans hl) hf.2.2.1
    refine ⟨i1.trans hf.1, i2, fun i b v x g1 g2 g3 => ?_, fun hp ha => ?_⟩
    · have hi : i < (cwPass bs ws M S (ws.sum - room)).length := by rw [hf.1]; exact (List.getElem?_eq_some_iff.mp g2).1
      obtain ⟨k1, k2, k3⟩ := hf.2.2.2 i b v _ g1 g2 (List.getElem?_eq_getElem hi)
      obtain ⟨j1, j2⟩ := i3 i b _ x g1 (List.getElem?_eq_getElem hi) g3
      refine ⟨by omega, fun hbf => ?_⟩
      rw [j2 hbf]
      exact k2 fun hc => by rw [hbf] at hc; cases hc.2
    · have hb := snd_bounds h0 ht hsn
      have htot := rr_total (tie M bs ws) (List.replicate ws.length (min (ws.sum - room) (M - S))) ws (ws.sum - room) (tie_len hl) (by simp) tie_01 (fun x hx => by rw [List.eq_of_mem_replicate hx]; omega) (by omega)
      have htot' : ws.sum - (ws.sum - room) ≤ (cwPass bs ws M S (ws.sum - room)).sum := htot
      have hdiff := able_diff bs ws (cwPass bs ws M S (ws.sum - room)) hl (hf.1.trans hl) fun i v x g1 g2 g3 => (hf.2.2.2 i false v x g1 g2 g3).2.1 fun hc => by cases hc.2
      exact i4 (by omega) (by omega)

theorem able_range (B : List Bool) (W : List Int) : ∀ (bs : List Bool) (ws : List Int) (o : Nat), ws.length = bs.length → B.drop o = bs → W.drop o = ws →
    ((((List.range' o bs.length).map Int.ofNat).filter fun k => B.getD k.toNat false).map (atI W)).sum = ableS bs ws
  | [], ws, o, h, _, _ => by
    have : ws = [] := List.eq_nil_of_length_eq_zero (by simpa using h)
    subst this
    simp [ableS]
  | b :: bs, [], o, h, _, _ => by cases h
  | b :: bs, w :: ws, o, h, hB, hW => by
    have h' : ws.length = bs.length := by simpa using h
    have gB : B[o]? = some b := by have := congrArg (fun l : List Bool => l[0]?) hB; simpa [List.getElem?_drop] using this
    have gW : W[o]? = some w := by have := congrArg (fun l : List Int => l[0]?) hW; simpa [List.getElem?_drop] using this
    have dB : B.drop (o + 1) = bs := by rw [← List.tail_drop, hB]; rfl
    have dW : W.drop (o + 1) = ws := by rw [← List.tail_drop, hW]; rfl
    have ih := able_range B W bs ws (o + 1) h' dB dW
    rw [List.length_cons, List.range'_succ, List.map_cons, List.filter_cons, ableS]
    have e1 : B.getD (Int.ofNat o).toNat false = b := by
      rw [show (Int.ofNat o).toNat = o from rfl, List.getD_eq_getElem?_getD, gB, Option.getD_some]
    rw [e1]
    have e2 : atI W (Int.ofNat o) = w := atI_nat gW
    cases b
    · simp only [Bool.false_eq_true, if_false]
      rw [ih]; omega
    · simp only [if_true]
      rw [List.map_cons, List.sum_cons, e2, ih]
theorem able_sum {bs : List Bool} {ws : List Int} (h : ws.length = bs.length) : ((((rangeI bs.length).filter fun k => bs.getD k.toNat false).map (atI ws))).sum = ableS bs ws := by
  have := able_range bs ws bs ws 0 h rfl rfl
  rw [← this, rangeI, List.range_eq_range']
end Mine

namespace Mine
section
variable {prog : Program} {w : World} {A : Around} {E : Value → Shared → Prop} {s : Shared} {env : Env}

/-- a comprehension whose element changes objects that stood before it: what its block does -/
theorem eff_block {elt iter : PySem.Expr} {x : Str} {px : Pos} {scope : Scope} {cl : List (Str × Addr)} {pos : Pos} {s₂ : Shared} {I : Addr} {fp wr : List Addr} {n : Nat} {S : Nat}
    {P : Nat → Value → Prop} {St : Nat → Heap → Prop} {RR : Value → Addr → Result → Shared → Prop}
    (W : Walks prog w A I fp wr n P St) (hsz : n ≤ sizeLine) (Fy : Nat → Value → Prop) (J : Nat → Heap → Prop)
    (hcell : ∀ y ∈ scope.names, y.2 ≠ .cell) (hkind : scope.kind = .function) (hx : scope.names.lookup x = some .local)
    (hst : St 0 s₂.heap) (hfp : ∀ b ∈ fp, b < s₂.heap.objs.size) (hfS : ∀ b ∈ fp, S ≤ b) (hS : S ≤ s₂.heap.objs.size) (h0 : J 0 s₂.heap)
    (hstab : ∀ i h h', J i h → (∀ b o, b < S → h.get? b = some o → h'.get? b = some o) → J i h')
    (helt : ∀ C i v s₃ m₃ E', S ≤ C → i < n → P i v → J i s₃.heap → s₃.heap.Ns C m₃ → m₃ x = some v →
      wpAny (model prog w) A (eval elt (compEnvC scope cl C env)) (fun y s₄ => ∃ h' tk, s₄ = { s₃ with heap := h', toks := tk } ∧ Fy i y ∧ J (i + 1) h' ∧ ∀ b o, S ≤ b → s₃.heap.get? b = some o → h'.get? b = some o) E' s₃)
    (hRR : ∀ D C h' tk m' ys, s₂.heap.objs.size ≤ D → s₂.heap.objs.size ≤ C → D ≠ C → h'.Ns C m' → h'.PlainList D ys → ys.size = n → (∀ i y, ys[i]? = some y → Fy i y) → J n h' → RR (.ref D) C (.ok .next) { s₂ with heap := h', toks := tk }) :
    wpAny (model prog w) A (newList []) (fun acc s₃ => wpAny (model prog w) A (newFunctionEnv scope env.globals cl [] env.qual none .none (some env)) (fun cenv s₄ =>
      codeAny (model prog w) A (.compStart (.ListComp elt [⟨.Name x px, iter, [], 0⟩] scope pos) 0 (.ref I) acc { cenv with scope := relabel scope env }) (RR acc cenv.locals) s₄) E s₃) E s₂ := by
  refine wpAny_newObj_type (wpAny_newFunctionEnv hcell (by intro y hy; simp at hy) (fun h₁ hns₁ hsb₁ => ?_) hkind)
  dsimp only at hns₁ hsb₁ ⊢
  generalize hH2 : s₂.heap.push { cls := .type "list", dict := none, data := .seq ([] : List Value).toArray } = H2 at hns₁ hsb₁ ⊢
  have hC : H2.objs.size = s₂.heap.objs.size + 1 := by rw [← hH2, Heap.size_push]
  have hDC : s₂.heap.objs.size ≠ H2.objs.size := by rw [hC]; exact Nat.ne_of_lt (Nat.lt_succ_self _)
  have below : ∀ b, b < s₂.heap.objs.size → b ≠ H2.objs.size ∧ b ≠ s₂.heap.objs.size := fun b hb => ⟨by rw [hC]; exact Nat.ne_of_lt (Nat.lt_succ_of_lt hb), Nat.ne_of_lt hb⟩
  have hDf : s₂.heap.objs.size ∉ fp := fun hm => Nat.lt_irrefl _ (hfp _ hm)
  have hCf : H2.objs.size ∉ fp := fun hm => by have := hfp _ hm; rw [hC] at this; exact Nat.lt_irrefl _ (Nat.lt_of_succ_lt this)
  have hDw : s₂.heap.objs.size ∉ wr := fun hm => hDf (W.sub _ hm)
  have hCw : H2.objs.size ∉ wr := fun hm => hCf (W.sub _ hm)
  have hSC : S ≤ H2.objs.size := by rw [hC]; exact Nat.le_succ_of_le hS
  have hSw : ∀ b, b < S → b ∉ wr := fun b hb hm => Nat.lt_irrefl _ (Nat.lt_of_lt_of_le hb (hfS _ (W.sub _ hm)))
  have hSne : ∀ b, b < S → b ≠ H2.objs.size ∧ b ≠ s₂.heap.objs.size := fun b hb => below b (Nat.lt_of_lt_of_le hb hS)
  have old : ∀ b o, s₂.heap.get? b = some o → h₁.get? b = some o := fun b o e => hsb₁.extBut b o (below b (Heap.lt_size e)).1 (Heap.get?_push_of_some _ (hH2 ▸ Heap.get?_push_of_some _ e))
  have hacc : h₁.PlainList s₂.heap.objs.size #[] := ⟨_, hsb₁.extBut _ _ hDC (Heap.get?_push_of_some _ (hH2 ▸ Heap.get?_push_size _ rfl))⟩
  have hst₁ : St 0 h₁ := W.frame _ _ _ hst fun b _ o e => old b o e
  have loop : ∀ s₃ : Shared, s₃ = { s₂ with heap := h₁, toks := s₂.toks + ([] : List (Str × Value)).length } →
      codeAny (model prog w) A (.compLoop (.ListComp elt [⟨.Name x px, iter, [], 0⟩] scope pos) 0 (.ref I) (.ref s₂.heap.objs.size) (compEnvC scope cl H2.objs.size env))
        (RR (.ref s₂.heap.objs.size) H2.objs.size) s₃ := by
    rintro s₃ rfl
    refine codeAny_compLoop_tests
      (fun k s' => ∃ h' tk ys m', s' = { s₂ with heap := h', toks := tk } ∧ ys.size ≤ n ∧ k = n + 1 - ys.size ∧ St ys.size h' ∧ h'.PlainList s₂.heap.objs.size ys ∧ h'.Ns H2.objs.size m' ∧
        (∀ i y, ys[i]? = some y → Fy i y) ∧ J ys.size h') ?_ (n + 1)
      ⟨h₁, _, #[], _, rfl, Nat.zero_le _, rfl, hst₁, hacc, hns₁, fun i y e => by simp at e, hstab _ _ _ h0 fun b o _ e => old b o e⟩
    rintro k s' ⟨h', tk, ys, m', rfl, hi, rfl, hst', hacc', hn', hF, hJ⟩
    by_cases hlt : ys.size < n
    · refine W.item ys.size _ _ _ hlt hst' fun v h₂ tk₂ hPv hst₂ hk₂ => ?_
      refine wpAny_assign_Name (wpAny_storeName_local (lookup_relabel_local hx) (hn'.at' fun o e => hk₂ _ o hCw e) (fun h₅ hn₅ hs₅ => ?_) (by simp [compEnvC, relabel, hkind]))
      refine wpAny_tests_nil ?_
      simp only [if_true]
      have up : ∀ b o, b ∉ wr → b ≠ H2.objs.size → h'.get? b = some o → h₅.get? b = some o := fun b o hb hbC e => hs₅.extBut b o hbC (hk₂ b o hb e)
      have hst₅ : St (ys.size + 1) h₅ := W.frame _ _ _ hst₂ fun b hb o e => hs₅.extBut b o (fun (q : b = H2.objs.size) => hCf (q ▸ hb)) e
      have hJ₅ : J ys.size h₅ := hstab _ _ _ hJ fun b o hb e => up b o (hSw b hb) (hSne b hb).1 e
      refine wpAny_mono (helt H2.objs.size ys.size v _ _ _ hSC hlt hPv hJ₅ hn₅ (by simp)) (fun y s₇ h₇ => ?_) fun _ _ e => e
      obtain ⟨h₇, tk₇, rfl, hy, hJ₇, hk₇⟩ := h₇
      have hacc₇ : h₇.PlainList s₂.heap.objs.size ys := hacc'.at fun o e => hk₇ _ o hS (up _ o hDw hDC e)
      refine wpAny_list_append_plain (hsz := Nat.le_trans hi hsz) hacc₇ fun h₈ hl₈ hs₈ => ?_
      have hn₇ : h₇.Ns H2.objs.size _ := hn₅.at' fun o e => hk₇ _ o hSC e
      refine ⟨n + 1 - (ys.size + 1), by omega, h₈, tk₇, ys.push y, _, rfl, by rw [Array.size_push]; exact hlt, by rw [Array.size_push],
        by rw [Array.size_push]; exact W.frame _ _ _ hst₅ fun b hb o e => hs₈.extBut b o (fun q => hDf (q ▸ hb)) (hk₇ b o (hfS b hb) e), hl₈,
        hn₇.sameBut hs₈ (Ne.symm hDC), fun i y' e => ?_, by rw [Array.size_push]; exact hstab _ _ _ hJ₇ fun b o hb e => hs₈.extBut b o (hSne b hb).2 e⟩
      rw [Array.getElem?_push] at e
      split at e
      · rename_i q; cases e; rw [q]; exact hy
      · exact hF i y' e
    · have hin : ys.size = n := Nat.le_antisymm hi (Nat.le_of_not_lt hlt)
      rw [hin] at hst' hJ
      refine W.done _ _ _ hst' fun h₂ tk₂ hk₂ => ?_
      exact hRR _ _ h₂ tk₂ m' ys (Nat.le_refl _) (by rw [hC]; exact Nat.le_succ _) hDC (hn'.at' fun o e => hk₂ _ o hCw e) (hacc'.at fun o e => hk₂ _ o hDw e) hin hF
        (hstab _ _ _ hJ fun b o hb e => hk₂ b o (hSw b hb) e)
  exact codeAny_compStart_list (loop _ rfl) (W.self 0 _ _ _ hst₁ (loop _ rfl))

theorem eff_eval {elt iter : PySem.Expr} {x : Str} {px : Pos} {scope : Scope} {cl : List (Str × Addr)} {pos : Pos} {Q : Value → Shared → Prop}
    (hclos : closureFor scope env = pure cl) (hcell : ∀ z ∈ scope.names, z.2 ≠ .cell) (hkind : scope.kind = .function)
    (hnames : ∀ z ∈ scope.names, z.2 = .local → scope.names.lookup z.1 = some .local) (hx : scope.names.lookup x = some .local) (hs : ∀ x, foldedSetIterable iter env x = pure x)
    (h : wpAny (model prog w) A (eval iter env) (fun xv s₁ => Stop (wpAny (model prog w) A (pyIter xv) (fun it s₂ => ∃ (I : Addr) (fp wr : List Addr) (n S : Nat) (P : Nat → Value → Prop) (St : Nat → Heap → Prop) (Fy : Nat → Value → Prop) (J : Nat → Heap → Prop), it = .ref I ∧
      Walks prog w A I fp wr n P St ∧ n ≤ sizeLine ∧ St 0 s₂.heap ∧ (∀ b ∈ fp, b < s₂.heap.objs.size) ∧ (∀ b ∈ fp, S ≤ b) ∧ S ≤ s₂.heap.objs.size ∧ J 0 s₂.heap ∧
      (∀ i h h', J i h → (∀ b o, b < S → h.get? b = some o → h'.get? b = some o) → J i h') ∧
      (∀ C i v s₃ m₃ E', S ≤ C → i < n → P i v → J i s₃.heap → s₃.heap.Ns C m₃ → m₃ x = some v →
        wpAny (model prog w) A (eval elt (compEnvC scope cl C env)) (fun y s₄ => ∃ h' tk, s₄ = { s₃ with heap := h', toks := tk } ∧ Fy i y ∧ J (i + 1) h' ∧ ∀ b o, S ≤ b → s₃.heap.get? b = some o → h'.get? b = some o) E' s₃) ∧
      (∀ D h' tk ys, S ≤ D → h'.PlainList D ys → ys.size = n → (∀ i y, ys[i]? = some y → Fy i y) → J n h' → Q (.ref D) { s₂ with heap := h', toks := tk })) E s₁)) E s) :
    wpAny (model prog w) A (eval (.ListComp elt [⟨.Name x px, iter, [], 0⟩] scope pos) env) Q E s := by
  rw [eval_ListComp]
  refine wpAny_comprehension_free (use := none) rfl hs hclos hkind hnames (wpAny_mono h (fun xv s₁ h₁ => wpAny_mono h₁ (fun it s₂ h₂ => ?_) fun _ _ e => e) fun _ _ e => e)
  obtain ⟨I, fp, wr, n, S, P, St, Fy, J, rfl, W, hsz, hst, hfp, hfS, hS, h0, hstab, helt, hQ⟩ := h₂
  refine eff_block (RR := fun acc C => compPost (model prog w) A E none Q acc C) W hsz Fy J hcell hkind hx hst hfp hfS hS h0 hstab helt ?_
  intro D C h' tk m' ys hD hC hDC hnC hlD hlen hF hJ
  have hSC : S ≤ C := Nat.le_trans hS hC
  exact ⟨m', hnC, fun h'' hs'' => hQ D h'' tk ys (Nat.le_trans hS hD) (hlD.extBut hs''.extBut hDC) hlen hF (hstab _ _ _ hJ fun b o hb e => hs''.extBut b o (Nat.ne_of_lt (Nat.lt_of_lt_of_le hb hSC)) e)⟩

theorem src_range' {r : Addr} {n : Nat} {t u v : Tok} {R : Value → Shared → Prop} (hh : A.handled = none) (hr : IsRange s.heap r 0 n 1 t u v) (hn : n ≤ 1000)
    (h : ∀ h' I fp wr P St, Walks prog w A I fp wr (rangeI n).length P St → St 0 h' → (∀ b ∈ fp, b < h'.objs.size) → (∀ b ∈ wr, s.heap.objs.size ≤ b) → (∀ i v, P i v → ∃ k t, (rangeI n)[i]? = some k ∧ v = .int k t) →
      (∀ b o, s.heap.get? b = some o → h'.get? b = some o) → (∀ b ∈ fp, s.heap.objs.size ≤ b) → s.heap.objs.size ≤ h'.objs.size → R (.ref I) { s with heap := h' }) : wpAny (model prog w) A (pyIter (.ref r)) R E s := by
  have hsz : Builtin.Range.rangeSize 0 (n : Int) 1 = n := by
    rw [rangeSize_one]
    split <;> omega
  refine wpAny_pyIter_range hr ?_ ?_
  · unfold Builtin.Range.small Builtin.Range.rangeFitsLong
    rw [hsz]
    simp
    omega
  have W := Walks.bound (Walks.range (prog := prog) (w := w) (A := A) hh s.heap.objs.size 0 1 n)
  rw [rangeI_len] at h
  refine h _ s.heap.objs.size _ _ _ _ W ?_ ?_ ?_ ?_ (fun b o e => Heap.get?_push_of_some _ e) (fun b hb => by rw [List.mem_singleton.mp hb]; exact Nat.le_refl _) (by rw [Heap.size_push]; exact Nat.le_succ _)
  · have := Heap.get?_push_size (h := s.heap) (o := { cls := .type "range_iterator", data := .fields #[rawInt 0, rawInt (Builtin.Range.rangeSize 0 n 1), rawInt 1] }) rfl
    rw [hsz] at this
    rw [hsz]
    exact this
  · intro b hb
    rw [Heap.size_push, List.mem_singleton.mp hb]
    exact Nat.lt_succ_self _
  · intro b hb
    rw [List.mem_singleton.mp hb]
    exact Nat.le_refl _
  · rintro i v ⟨hi, t, rfl⟩
    exact ⟨_, t, rangeI_get hi, by simp⟩

end
end Mine

namespace Mine
section
variable {prog : Program} {w : World} {A : Around} {E : Value → Shared → Prop} {s : Shared} {env : Env}
theorem found_test {fo ke ab kk : Str} {p1 p2 p3 p4 p5 p6 p7 p8 p9 p10 p11 p12 p13 p14 p15 p16 p17 p18 p19 p20 p21 p22 p23 p24 p25 : Pos} {kd : Nat} {whole : Sem Value} {m₃ : Str → Option Value} {cF cK cA r kl D : Addr} {x v : Int} {t1 t2 tk : Tok} {b : Bool} {i : Nat} {i1 i2 i3 : Array Value}
    (hk : env.scope.kind = .function) (kF : env.kindOf fo = some .cell) (kK : env.kindOf ke = some .cell) (kA : env.kindOf ab = some .cell) (kX : env.kindOf kk = some .local)
    (lF : env.cells.lookup fo = some cF) (lK : env.cells.lookup ke = some cK) (lA : env.cells.lookup ab = some cA) (d1 : (fo == ("__debug__" : Str)) = false) (d2 : (ke == ("__debug__" : Str)) = false) (d3 : (ab == ("__debug__" : Str)) = false) (d4 : (kk == ("__debug__" : Str)) = false)
    (gF : s.heap.IsCell cF (some (.ref r))) (gK : s.heap.IsCell cK (some (.ref kl))) (gA : s.heap.IsCell cA (some (.ref D))) (hns : s.heap.Ns env.locals m₃) (hx : m₃ kk = some (.int (i : Int) tk))
    (gr : s.heap.IsList r i1) (gk : s.heap.IsList kl i2) (gD : s.heap.IsList D i3) (q1 : i1[i]? = some (.int x t1)) (q2 : i2[i]? = some (.int v t2)) (q3 : i3[i]? = some (.bool b)) (hi : i < 1000)
    (c1 : x ≤ v) (c2 : b = false → x = v) (c3 : 0 ≤ x) :
    wpAny (model prog w) A (isTrue (.BoolOp .Or [.Compare (.Subscript (.Name fo p1) (.Name kk p2) p3) [.Gt] [.Subscript (.Name ke p4) (.Name kk p5) p6] p7,
      .BoolOp .And [.UnaryOp .Not (.Subscript (.Name ab p8) (.Name kk p9) p10) p11, .Compare (.Subscript (.Name fo p12) (.Name kk p13) p14) [.NotEq] [.Subscript (.Name ke p15) (.Name kk p16) p17] p18] p19,
      .Compare (.Subscript (.Name fo p20) (.Name kk p21) p22) [.Lt] [.Constant (.int 0) kd p23] p24] p25) env whole) (fun ok s₄ => ok = false ∧ Keeps s s₄) E s := by
  have z : ((i : Int)).toNat = i := Int.toNat_natCast i
  have q1' : i1[((i : Int)).toNat]? = some (.int x t1) := by rw [z]; exact q1
  have q2' : i2[((i : Int)).toNat]? = some (.int v t2) := by rw [z]; exact q2
  have q3' : i3[((i : Int)).toNat]? = some (.bool b) := by rw [z]; exact q3
  have n0 : (0 : Int) ≤ i := by omega
  have n1 : (i : Int) < 2 ^ 63 := by omega
  refine isTrue_or (wpAny_isTrue_Compare1 (sub_cell hk kF lF gF kX hns hx gr n0 n1 q1' (sub_cell hk kK lK gK kX hns hx gk n0 n1 q2' (gt_int (wpAny_truthy_bool ?_)) d2 d4) d1 d4))
  rw [show decide (v < x) = false by simpa using c1]
  simp only [Bool.false_eq_true, if_false]
  refine isTrue_or (isTrue_and (isTrue_not (isTrue_plain (sub_cell hk kA lA gA kX hns hx gD n0 n1 q3' (wpAny_truthy_bool ?_) d3 d4))))
  have hn : x < 0 → False := fun h => by omega
  cases b
  · simp only [Bool.not_false, if_true]
    refine isTrue_and (wpAny_isTrue_Compare1 (sub_cell hk kF lF gF kX hns hx gr n0 n1 q1' (sub_cell hk kK lK gK kX hns hx gk n0 n1 q2' (ne_int (wpAny_truthy_bool ?_)) d2 d4) d1 d4))
    rw [show (x != v) = false by simpa using c2 rfl]
    simp only [Bool.false_eq_true, if_false]
    refine isTrue_or (wpAny_isTrue_Compare1 (sub_cell hk kF lF gF kX hns hx gr n0 n1 q1' (wpAny_Constant_int (lt_int (wpAny_truthy_bool ?_))) d1 d4))
    rw [show decide (x < 0) = false by simpa using c3]
    simp only [Bool.false_eq_true, if_false]
    exact isTrue_or_nil ⟨rfl, _, _, rfl, fun _ _ e => e⟩
  · simp only [Bool.not_true, Bool.false_eq_true, if_false]
    refine isTrue_or (wpAny_isTrue_Compare1 (sub_cell hk kF lF gF kX hns hx gr n0 n1 q1' (wpAny_Constant_int (lt_int (wpAny_truthy_bool ?_))) d1 d4))
    rw [show decide (x < 0) = false by simpa using c3]
    simp only [Bool.false_eq_true, if_false]
    exact isTrue_or_nil ⟨rfl, _, _, rfl, fun _ _ e => e⟩
end
end Mine

namespace Mine
def topB (bs : List Bool) (ws : List Int) (M : Int) : Bool := (List.zip bs ws).any (fun p => p.1 && p.2 == M) && (List.zip bs ws).all fun p => !p.1 || decide (p.2 ≤ M)
def sndB (bs : List Bool) (ws : List Int) (M S : Int) : Bool := (List.zip bs ws).any (fun p => S == sndVal M p.1 p.2) && (List.zip bs ws).all fun p => decide (sndVal M p.1 p.2 ≤ S)
theorem zip_at {bs : List Bool} {ws : List Int} {i : Nat} {b : Bool} {x : Int} (h1 : bs[i]? = some b) (h2 : ws[i]? = some x) : (b, x) ∈ List.zip bs ws := by
  refine List.mem_of_getElem? (i := i) ?_
  rw [List.getElem?_zip_eq_some]
  exact ⟨h1, h2⟩
theorem top_of_B {bs : List Bool} {ws : List Int} {M : Int} (h : topB bs ws M = true) : IsTop bs ws M := by
  obtain ⟨h1, h2⟩ := Bool.and_eq_true_iff.mp h
  obtain ⟨⟨b, x⟩, hp, hb⟩ := List.any_eq_true.mp h1
  obtain ⟨i, hi, e⟩ := List.getElem_of_mem hp
  have e' := List.getElem?_zip_eq_some.mp ((List.getElem?_eq_getElem hi).trans (congrArg some e))
  obtain ⟨hb1, hb2⟩ := Bool.and_eq_true_iff.mp hb
  have hb1' : b = true := hb1
  have hb2' : x = M := beq_iff_eq.mp hb2
  refine ⟨⟨i, by rw [← hb1']; exact e'.1, by rw [← hb2']; exact e'.2⟩, fun j y g1 g2 => ?_⟩
  have := List.all_eq_true.mp h2 _ (zip_at g1 g2)
  simpa using this
theorem snd_of_B {bs : List Bool} {ws : List Int} {M S : Int} (h : sndB bs ws M S = true) : IsSnd bs ws M S := by
  obtain ⟨h1, h2⟩ := Bool.and_eq_true_iff.mp h
  obtain ⟨⟨b, x⟩, hp, hb⟩ := List.any_eq_true.mp h1
  obtain ⟨i, hi, e⟩ := List.getElem_of_mem hp
  have e' := List.getElem?_zip_eq_some.mp ((List.getElem?_eq_getElem hi).trans (congrArg some e))
  refine ⟨⟨i, b, x, e'.1, e'.2, beq_iff_eq.mp hb⟩, fun j b' y g1 g2 => ?_⟩
  have := List.all_eq_true.mp h2 _ (zip_at g1 g2)
  simpa using this
theorem ex1 {out : List Int} (h : CWL [true, true, false] 15 [10, 8, 3] out) : out = [6, 6, 3] := by
  refine cw_nw h rfl (by decide) ?_
  refine .step 10 8 (by decide) (top_of_B (by decide)) (snd_of_B (by decide)) (by decide) ?_
  rw [show cwPass [true, true, false] [10, 8, 3] 10 8 ([10, 8, 3].sum - 15) = [8, 8, 3] by decide]
  refine .step 8 0 (by decide) (top_of_B (by decide)) (snd_of_B (by decide)) (by decide) ?_
  rw [show cwPass [true, true, false] [8, 8, 3] 8 0 ([8, 8, 3].sum - 15) = [6, 6, 3] by decide]
  exact .stop (by decide)
theorem ex2 {out : List Int} (h : CWL [true, false, true] 7 [4, 4, 4] out) : out = [2, 4, 1] := by
  refine cw_nw h rfl (by decide) ?_
  refine .step 4 0 (by decide) (top_of_B (by decide)) (snd_of_B (by decide)) (by decide) ?_
  rw [show cwPass [true, false, true] [4, 4, 4] 4 0 ([4, 4, 4].sum - 7) = [2, 4, 1] by decide]
  exact .stop (by decide)
end Mine

namespace Mine
theorem ex_call {prog : Program} {w : World} {dp un : Nat} {fr : Option (List Env)} {gd : Option (List Code)} {s : Shared} {g : Heap} {L : Addr} {m : Str → Option Value} {mg mb : Str → Option Value} {p : Program} {loose : List Str} {mean : ExcName → Option Value}
    {room x1 x2 x3 : Int} {tr t1 t2 t3 : Tok} {b1 b2 b3 : Bool} {li lb q : Addr} {ci cb : Nat} {ps : Array Value} {self : Value} {news : List (Addr × Obj)} {Q E : Value → Shared → Prop}
    (X : (Mine.hd.heap_39 w.params).In g) (T : Top p loose mean mg mb g) (C : CodeHd g 274 272) (F : Fr g L s.heap m)
    (N : News g L s.heap ((lb, listOf #[.bool b1, .bool b2, .bool b3] cb) :: (li, listOf #[.int x1 t1, .int x2 t2, .int x3 t3] ci) :: (q, methodObj (.ref 275) self) :: news)) (hP : (272, tabObj ps) ∈ news)
    (ht : TriplesOk ps.toList) (G : AllBare s.gens) (hd : dp + 3 < recursionLimit) (hu : un + 32 < cLine) (hany : [b1, b2, b3].any id = true) (h0 : 0 ≤ x1 ∧ 0 ≤ x2 ∧ 0 ≤ x3)
    (hQ : ∀ r us' c' ws' ps' s', Fr g L s'.heap m → News g L s'.heap [(r, listOf us'.toArray c'), (272, tabObj ps')] → TriplesOk ps'.toList → AllBare s'.gens → s'.os = s.os → IntsAre us' ws' → CWL [b1, b2, b3] room [x1, x2, x3] ws' → Q (.ref r) s') :
    wpAny (model prog w) { handled := none, depth := dp, frames := fr, guards := gd, units := un } (call (.ref q) [.ref li, .ref lb, .int room tr]) Q E s := by
  have eP := N _ (.tail _ (.tail _ (.tail _ hP)))
  have eb := N _ (.head _)
  have ei := N _ (.tail _ (.head _))
  have hbi : lb ≠ li := fun z => by
    have h1 := eb.1
    have h2 := ei.1
    simp only at h1 h2
    rw [z, h2] at h1
    cases h1
  have hi272 : li ≠ 272 := fun z => by
    have h1 := ei.1
    have h2 := eP.1
    simp only at h1 h2
    rw [z, h2] at h1
    cases h1
  refine call_meth N (.tail _ (.tail _ (.head _))) ?_
  refine cw_ok (hb := g) (ps := ps) (us := [.int x1 t1, .int x2 t2, .int x3 t3]) (ub := [.bool b1, .bool b2, .bool b3]) (ws := [x1, x2, x3]) (bs := [b1, b2, b3]) X T F.keep eP.2.2 ei.2.2 C eP.1 ht G hd hu ei.1
    (.cons _ _ (.cons _ _ (.cons _ _ .nil))) ⟨_, eb.1, rfl, _, rfl⟩ (.cons _ (.cons _ (.cons _ .nil))) hbi rfl (by show 3 ≤ 63; decide) ?_ ?_
  · intro x hx
    simp only [List.mem_cons, List.not_mem_nil, or_false] at hx
    rcases hx with rfl | rfl | rfl
    · exact h0.1
    · exact h0.2.1
    · exact h0.2.2
  intro r us' c' ws' s' hr hk ⟨ps', ht', hP'⟩ G' hos hr' hi' hcase
  have hcw : CWL [b1, b2, b3] room [x1, x2, x3] ws' := by
    rcases hcase with ⟨e, _⟩ | ⟨_, e⟩
    · rw [hany] at e; cases e
    · exact e
  have hgP : g.get? 272 = none := eP.2.2
  have hLP : (272 : Addr) ≠ L := eP.2.1
  have hgr : r ≠ L ∧ g.get? r = none := by
    rcases hr with rfl | hr
    · exact ei.2
    · constructor
      · intro z
        obtain ⟨o, _, _, ho, _⟩ := F.ns
        rw [z] at hr; rw [ho] at hr; cases hr
      · cases z : g.get? r with
        | none => rfl
        | some o => have := F.keep r o z; rw [hr] at this; cases this
  refine hQ r us' c' ws' ps' s' ⟨F.ns.at' fun x e => hk _ _ (Ne.symm hLP) e, fun b x e => hk b x (fun z => by rw [z, hgP] at e; cases e) (F.keep b x e), F.above⟩ ?_ ht' G' hos hi' hcw
  intro y hy
  simp only [List.mem_cons, List.not_mem_nil, or_false] at hy
  rcases hy with rfl | rfl
  · exact ⟨hr', hgr⟩
  · exact ⟨hP', hLP, hgP⟩
end Mine

namespace Mine
theorem fill8 : Mine.hd.heap_39 = Mine.hd.heap_39 ∧ PySem.Challenge.rw_ff5026_01 = PySem.Challenge.rw_ff5026_01 := by
  k_fill
  exact ⟨rfl, rfl⟩
local macro_rules | `(tactic| walk_at "call ref") => `(tactic| (refine stop_here ?_))
local macro_rules | `(tactic| walk_at "exec For Name Call cons nil") => `(tactic| (refine stop_here ?_))
local macro_rules | `(tactic| walk_at "call builtin:list.append") => `(tactic| (refine stop_here ?_))
local macro_rules | `(tactic| walk_at "compareOp NotEq ref ref") => `(tactic| (refine stop_here ?_))
local macro_rules | `(tactic| walk_at "compareOp Eq ref ref") => `(tactic| (refine stop_here ?_))
local macro_rules | `(tactic| walk_at "eval IfExp") => `(tactic| (refine stop_here ?_))
local macro_rules | `(tactic| walk_at "eval ListComp") => `(tactic| (refine stop_here ?_))

/-- the ledger and the frame after a call that changed one own object -/
theorem after_draw {g h h' : Heap} {L st : Addr} {m : Str → Option Value} {o o' : Obj} {news : List (Addr × Obj)} (F : Fr g L h m) (N : News g L h ((st, o) :: news)) (hne : ∀ q ∈ news, q.1 ≠ st)
    (hk : ∀ b x, b ≠ st → h.get? b = some x → h'.get? b = some x) (ho : h'.get? st = some o') : Fr g L h' m ∧ News g L h' ((st, o') :: news) := by
  have z := N (st, o) (.head _)
  refine ⟨⟨F.ns.at' fun x e => hk _ _ (Ne.symm z.2.1) e, fun b x e => hk b x (fun q => ?_) (F.keep b x e), F.above⟩, fun q hq => ?_⟩
  · have z2 : g.get? st = none := z.2.2
    rw [q, z2] at e; cases e
  · rcases List.mem_cons.mp hq with rfl | hq
    · exact ⟨ho, z.2⟩
    · have y := N q (.tail _ hq)
      exact ⟨hk _ _ (hne q hq) y.1, y.2⟩

theorem bools_of : ∀ {ys : List Value}, (∀ (i : Nat) y, ys[i]? = some y → ∃ b, y = Value.bool b) → ∃ bs, LSm.BoolsAre ys bs
  | [], _ => ⟨[], .nil⟩
  | y :: ys, h => by
    obtain ⟨b, rfl⟩ := h 0 y rfl
    obtain ⟨bs, hb⟩ := bools_of (ys := ys) fun i y' e => h (i + 1) y' (by simpa using e)
    exact ⟨b :: bs, .cons b hb⟩
theorem append_nn {prog : Program} {w : World} {A : Around} {E : Value → Shared → Prop} {s : Shared} {h₀ : Heap} {L lw : Addr} {m : Str → Option Value} {rest : List (Addr × Obj)} {us : List Value} {c : Nat} {V : Int} {t : Tok} {Q : Value → Shared → Prop}
    (F : Fr h₀ L s.heap m) (N : News h₀ L s.heap ((lw, listOf us.toArray c) :: rest)) (hne : ∀ p ∈ rest, p.1 ≠ lw) (hsz : us.toArray.size ≤ sizeLine) (hV : 0 ≤ V)
    (h : ∀ h' vx tx, 0 ≤ vx → Fr h₀ L h' m → News h₀ L h' ((lw, listOf (us ++ [Value.int vx tx]).toArray (c + 1)) :: rest) → Q .none { s with heap := h' }) :
    wpAny (model prog w) A (call (.builtin "list.append") [.ref lw, .int V t]) Q E s := by
  refine append_K F N (Upd.head hne) (fun h' F' N' => ?_) hsz
  rw [List.push_toArray] at N'
  exact h h' V t hV F' N'
theorem abs_bits (x : Int) : Builtin.Int.intBits (if x < 0 then -x else x) = Builtin.Int.intBits x := by
  split
  · unfold Builtin.Int.intBits
    simp
  · rfl
theorem pick_nonneg {r arm : Int} (h : 0 ≤ r) : 0 ≤ [r.fmod 7, r, r * 10 ^ Int.toNat 40 + r.fmod 5].getD arm.toNat 0 := by
  have h7 : 0 ≤ r.fmod 7 := by rw [Int.fmod_eq_emod_of_nonneg _ (by decide)]; exact Int.emod_nonneg _ (by decide)
  have h5 : 0 ≤ r.fmod 5 := by rw [Int.fmod_eq_emod_of_nonneg _ (by decide)]; exact Int.emod_nonneg _ (by decide)
  have hm : 0 ≤ r * 10 ^ Int.toNat 40 := Int.mul_nonneg h (by decide)
  match arm.toNat with
  | 0 => exact h7
  | 1 => exact h
  | 2 => exact Int.add_nonneg hm h5
  | k + 3 => exact Int.le_refl 0

set_option maxHeartbeats 8000000 in
theorem law_ok {prog : Program} {w : World} {dp un : Nat} {frl : List Env} {gd : Option (List Code)} {s : Shared} {hb : Heap} {mg mb : Str → Option Value} {p : Program} {loose : List Str} {mean : ExcName → Option Value}
    {ls : Addr} {uls : List Value} {xs : List Int} {ps : Array Value} {R : Result → Shared → Prop}
    (X : (Mine.hd.heap_39 w.params).In hb) (T : Top p loose mean mg mb hb) (hsub : ∀ b o, hb.get? b = some o → s.heap.get? b = some o) (hbP : hb.get? 272 = none) (C : CodeHd hb 274 272) (hns : hb.NoSeer) (htree : prog.given.tree = none)
    (hP : s.heap.get? 272 = some (tabObj ps)) (ht : TriplesOk ps.toList) (G : AllBare s.gens)
    (hd : dp + 200 < recursionLimit) (hu : un + 128 < cLine)
    (hls : s.heap.IsList ls uls.toArray) (hix : IntsAre uls xs) (hn : xs.length ≤ 63) (hlay : PyData.layable0 (.list (xs.map .int)) = true)
    (hQ : ∀ s', (∀ b o, b ≠ 272 → s.heap.get? b = some o → s'.heap.get? b = some o) → (∃ ps', TriplesOk ps'.toList ∧ s'.heap.get? 272 = some (tabObj ps')) → AllBare s'.gens → s'.os = s.os → R (.ok (.ret (.bool true))) s') :
    codeAny (model prog w) { handled := none, depth := dp, frames := some frl, guards := gd, units := un } (.call (.ref 335) ⟨[.ref ls], []⟩) R s := by
  have := fill8
  have hL1 := hix.length
  refine' enterC (news := [(272, tabObj ps)]) (binds := [(Str.ofString "script", .ref ls)])
    (K := Mine.hd.heap_39 w.params) (fun a o e => hsub a o (X a o e)) (T.nolimit.keeps hsub) ?k6 ?k7 ?k8 ?k9 ?kB ?kD ?kN ?_ ?c2 ?c3 ?c4
  case k6 => k_is
  case k7 => k_is
  case k8 => show dp < _; omega
  case k9 => exact BindsTo.of_eq rfl
  case kB => exact rfl
  case kD => decide +kernel
  case kN =>
    intro q hq
    rw [List.mem_singleton.mp hq]
    exact hP
  case c2 => rfl
  case c3 => rfl
  case c4 => rfl
  intro L' h₁ tk cells F N Y hlow
  obtain ⟨o1, o2, o3, o4, rfl, z1, z2, z3, z4⟩ := PyProof.Rows.CellsAre.four Y
  generalize hg : hideAll s.heap _ = g at F N
  have hbg : ∀ b o, hb.get? b = some o → g.get? b = some o := fun b o e => by
    rw [← hg]
    refine hideAll_get _ (hsub b o e) fun q => ?_
    have : b = 272 := List.mem_singleton.mp q
    rw [this, hbP] at e; cases e
  have X' := X.keeps hbg
  have T' := T.keeps hbg
  have C' := C.keeps hbg
  have hns' := hns.keeps hbg
  have hlsg : g.IsList ls uls.toArray := by
    obtain ⟨o, ho, hc, n, hd'⟩ := hls
    refine ⟨o, ?_, hc, n, hd'⟩
    rw [← hg]
    refine hideAll_get _ ho fun q => ?_
    rw [List.mem_singleton.mp q, hP] at ho; cases ho; cases hc
  have hkeep : ∀ h' : Heap, (∀ b o, g.get? b = some o → h'.get? b = some o) → ∀ b o, b ≠ 272 → s.heap.get? b = some o → h'.get? b = some o := by
    intro h' hk b o hb ho
    refine hk b o ?_
    rw [← hg]
    exact hideAll_get _ ho fun q => hb (List.mem_singleton.mp q)
  have F1 : Fr g L' h₁ (fun y => if y = Str.ofString "script" then some (.ref ls) else none) := by
    with_unfolding_all exact F
  have hPL : 272 < L' := hlow _ (.head _)
  have N1 : News g L' h₁ [(L' + 1, o4), (L' + 2, o3), (L' + 3, o2), (L' + 4, o1), (272, tabObj ps)] := newsSub N fun q hq => by
    simp only [List.mem_cons, List.not_mem_nil, or_false, List.cons_append, List.nil_append] at hq ⊢
    rcases hq with rfl | rfl | rfl | rfl | rfl
    · exact .inr (.inr (.inr (.inl rfl)))
    · exact .inr (.inr (.inl rfl))
    · exact .inr (.inl rfl)
    · exact .inl rfl
    · exact .inr (.inr (.inr (.inr rfl)))
  have d4 : o4.data = Data.cell none := z4
  have d3 : o3.data = Data.cell none := z3
  have d2 : o2.data = Data.cell none := z2
  have d1 : o1.data = Data.cell none := z1
  clear F N Y hlow z1 z2 z3 z4
  k_steps
  refine Stop.go ?_
  rename Fr _ _ _ _ => F2
  rename News _ _ _ _ => N2
  refine state_ok (dp := dp + 1) (X'.keeps F2.keep) (T'.keeps F2.keep) (by omega) (by show un + 3 + 32 < cLine; omega) (F2.lst hlsg) hix hn ?_
  intro st lc uc cs tp0 cst cc h3 tk3 hk3 hst0 hlc0 hcl hst3 hlc3 hic hcn
  have F3 := F2.keeps hk3
  have hgn : ∀ b, Heap.get? _ b = none → g.get? b = none := fun b e => by
    cases q : g.get? b with
    | none => rfl
    | some o => have := F2.keep b o q; rw [e] at this; cases this
  have hLn : ∀ b, Heap.get? _ b = none → b ≠ L' := fun b e q => by
    obtain ⟨o, _, _, ho, _⟩ := F2.ns
    rw [q] at e; rw [ho] at e; cases e
  have hnn : ∀ b, Heap.get? _ b = none → ∀ q ∈ [(L' + 1, o4), (L' + 2, o3), (L' + 3, o2), (L' + 4, o1), (272, tabObj ps)], q.1 ≠ b := fun b e q hq r => by
    have := (N2 q hq).1
    rw [r, e] at this; cases this
  have hsn := hnn st hst0
  have hln := hnn lc hlc0
  have N3 : News g L' h3 [(st, listOf #[.ref lc, .int 0 tp0] cst), (lc, listOf uc.toArray cc), (L' + 1, o4), (L' + 2, o3), (L' + 3, o2), (L' + 4, o1), (272, tabObj ps)] := by
    intro q hq
    rcases List.mem_cons.mp hq with rfl | hq
    · exact ⟨hst3, hLn _ hst0, hgn _ hst0⟩
    · rcases List.mem_cons.mp hq with rfl | hq
      · exact ⟨hlc3, hLn _ hlc0, hgn _ hlc0⟩
      · exact N2.grown hk3 q hq
  clear F2 N2 hgn hLn hnn
  refine storeX_C F3 N3 (c := L' + 1) rfl (UpdF.tail (Ne.symm (hsn _ (.head _))) (UpdF.tail (Ne.symm (hln _ (.head _))) (UpdF.head ?_))) d4 ?_
  · intro p hp
    simp only [List.mem_cons, List.not_mem_nil, or_false] at hp
    rcases hp with rfl | rfl | rfl | rfl
    · exact Nat.ne_of_gt (Nat.add_lt_add_left (by decide) L')
    · exact Nat.ne_of_gt (Nat.add_lt_add_left (by decide) L')
    · exact Nat.ne_of_gt (Nat.add_lt_add_left (by decide) L')
    · exact Nat.ne_of_lt (Nat.lt_succ_of_lt hPL)
  intro h4 oS F4 N4 dS
  clear F3 N3
  k_steps
  refine Stop.go ?_
  have hsn' : ∀ q ∈ [(lc, listOf uc.toArray cc), (L' + 1, oS), (L' + 2, o3), (L' + 3, o2), (L' + 4, o1), (272, tabObj ps)], q.1 ≠ st := by
    intro q hq
    simp only [List.mem_cons, List.not_mem_nil, or_false] at hq
    rcases hq with rfl | rfl | rfl | rfl | rfl | rfl
    · exact hcl
    · exact hsn (L' + 1, o4) (.head _)
    · exact hsn _ (.tail _ (.head _))
    · exact hsn _ (.tail _ (.tail _ (.head _)))
    · exact hsn _ (.tail _ (.tail _ (.tail _ (.head _))))
    · exact hsn _ (.tail _ (.tail _ (.tail _ (.tail _ (.head _)))))
  have hgst : g.get? st = none := (N4 _ (.head _)).2.2
  refine draw_ok (dp := dp + 1) (hb := g) (cs := cs) X' T' F4.keep hgst (by omega) (by show un + 3 + 32 < cLine; omega) (N4 _ (.head _)).1 ⟨_, (N4 _ (.tail _ (.head _))).1, rfl, _, rfl⟩ hic hcl hcn (Int.le_refl 0) (by omega) (by decide) (by decide) ?_
  intro arm ta pos5 tp5 h5 tk5 ha0 ha1 hk5 hst5 hp50 hp51
  obtain ⟨F5, N5⟩ := after_draw F4 N4 hsn' hk5 hst5
  clear F4 N4 hk5 hst5
  k_steps
  refine Stop.go ?_
  rename Fr _ _ _ _ => F6
  rename News _ _ _ _ => N6
  refine draw_ok (dp := dp + 1) (hb := g) (cs := cs) X' T' F6.keep hgst (by omega) (by show un + 3 + 32 < cLine; omega) (N6 _ (.head _)).1 ⟨_, (N6 _ (.tail _ (.head _))).1, rfl, _, rfl⟩ hic hcl hcn hp50 hp51 (by decide) (by decide) ?_
  intro v2 tv2 pos7 tp7 h7 tk7 hv0 hv1 hk7 hst7 hp70 hp71
  obtain ⟨F7, N7⟩ := after_draw F6 N6 hsn' hk7 hst7
  clear F6 N6 hk7 hst7
  k_steps
  refine Stop.go ?_
  obtain ⟨n, hn2, hn6, en⟩ : ∃ n : Nat, 2 ≤ n ∧ n ≤ 6 ∧ 2 + v2 = (n : Int) := ⟨(2 + v2).toNat, by omega, by omega, by omega⟩
  rename Fr _ _ _ _ => F8
  rename News _ _ _ _ => N8
  rw [en] at F8
  obtain ⟨lw, F9, N9, hlw⟩ : ∃ lw, Fr g L' _ (fun y => if y = Str.ofString "widths" then some (.ref lw) else if y = Str.ofString "arm" then some (.int arm ta) else if y = Str.ofString "many" then some (.int (n : Int) tk7) else if y = Str.ofString "script" then some (.ref ls) else none) ∧
      News g L' _ [(lw, listOf #[] 0), (st, listOf #[.ref lc, .int pos7 tp7] cst), (lc, listOf uc.toArray cc), (L' + 1, oS), (L' + 2, o3), (L' + 3, o2), (L' + 4, o1), (272, tabObj ps)] ∧
      (∀ q ∈ [(st, listOf #[.ref lc, .int pos7 tp7] cst), (lc, listOf uc.toArray cc), (L' + 1, oS), (L' + 2, o3), (L' + 3, o2), (L' + 4, o1), (272, tabObj ps)], q.1 ≠ lw) := by
    refine ⟨_, F8, newsSub N8 ?_, ?_⟩
    · intro q hq
      rcases List.mem_cons.mp hq with rfl | hq
      · exact .head _
      · exact .tail _ (.tail _ hq)
    · rename _ < _ ∧ _ < _ ∧ _ < _ ∧ _ < _ ∧ _ < _ ∧ _ < _ ∧ _ < _ ∧ _ < _ => l1
      intro q hq
      simp only [List.mem_cons, List.not_mem_nil, or_false] at hq
      rcases hq with rfl | rfl | rfl | rfl | rfl | rfl | rfl
      · exact Nat.ne_of_lt l1.2.1
      · exact Nat.ne_of_lt l1.2.2.1
      · exact Nat.ne_of_lt l1.2.2.2.1
      · exact Nat.ne_of_lt l1.2.2.2.2.1
      · exact Nat.ne_of_lt l1.2.2.2.2.2.1
      · exact Nat.ne_of_lt l1.2.2.2.2.2.2.1
      · exact Nat.ne_of_lt l1.2.2.2.2.2.2.2
  clear F8 N8
  refine For_invU g rfl rfl (wpAny_stop ?_) (by intro _; rfl)
  k_steps
  refine Stop.go ?_
  rename Fr _ _ _ _ => F10
  rename News _ _ _ _ => N10
  rename IsRange _ _ _ _ _ _ _ _ => R10
  refine src_range rfl R10 (by omega) fun h' I fp wr P St W hst hfp hwr hP hk hfq => ?_
  have hsz10 := F10.ns.lt
  have ltn : ∀ q ∈ [(lw, listOf #[] 0), (st, listOf #[.ref lc, .int pos7 tp7] cst), (lc, listOf uc.toArray cc), (L' + 1, oS), (L' + 2, o3), (L' + 3, o2), (L' + 4, o1), (272, tabObj ps)], q.1 < _ := fun q hq => Heap.lt_size (N10 q hq).1
  rw [rangeI_len] at W
  refine ⟨I, fp, wr, n, P, St, _, _,
    (fun i m₁ n₁ => ∃ us c ws, n₁ = [(lw, listOf us.toArray c), (st, listOf #[.ref lc, .int pos7 tp7] cst), (lc, listOf uc.toArray cc), (L' + 1, oS), (L' + 2, o3), (L' + 3, o2), (L' + 4, o1), (272, tabObj ps)] ∧ IntsAre us ws ∧ ws.length = i ∧ (∀ x ∈ ws, 0 ≤ x) ∧
      m₁ (Str.ofString "widths") = some (.ref lw) ∧ m₁ (Str.ofString "arm") = some (.int arm ta) ∧ m₁ (Str.ofString "many") = some (.int (n : Int) tk7) ∧ m₁ (Str.ofString "script") = some (.ref ls)), rfl, W, ?_, ?_, ?_, hst, F10.keeps hk, N10.grown hk, ?_, ?_, ?_⟩
  · intro hb
    exact Nat.lt_irrefl _ (Nat.lt_of_lt_of_le hsz10 (hfq _ hb))
  · intro b hb
    exact fresh_none (Nat.le_trans F10.above (Nat.le_trans (Nat.le_of_lt hsz10) (hwr b hb)))
  · intro p hp hb
    exact Nat.lt_irrefl _ (Nat.lt_of_lt_of_le (ltn p hp) (hwr _ hb))
  · exact ⟨[], 0, [], rfl, .nil, rfl, (fun _ hx => absurd hx List.not_mem_nil), rfl, rfl, rfl, rfl⟩
  · rintro i v m₁ news₁ s₁ own hi2 hPv ⟨us, c, ws, rfl, hiw, hwl, hw0, x1, x2, x3, x4⟩ hnw1 hown hown2 hall hst1 F1 N1
    obtain ⟨k, tk', hkk, rfl⟩ := hP i v hPv
    rw [rangeI_get hi2] at hkk
    cases hkk
    have F2 : Fr g L' s₁.heap (fun y => if y = Str.ofString "k" then some (.int (i : Int) tk') else if y = Str.ofString "widths" then some (.ref lw) else if y = Str.ofString "arm" then some (.int arm ta) else if y = Str.ofString "many" then some (.int (n : Int) tk7) else if y = Str.ofString "script" then some (.ref ls) else m₁ y) := by
      have em : (fun y => if y = Str.ofString "k" then some (.int (i : Int) tk') else if y = Str.ofString "widths" then some (.ref lw) else if y = Str.ofString "arm" then some (.int arm ta) else if y = Str.ofString "many" then some (.int (n : Int) tk7) else if y = Str.ofString "script" then some (.ref ls) else m₁ y) = (fun y => if y = Str.ofString "k" then some (.int (i : Int) tk') else m₁ y) := by
        funext y
        split
        · rfl
        · repeat' split
          all_goals first | rfl | (rename_i hy; rw [hy]; first | exact x1.symm | exact x2.symm | exact x3.symm | exact x4.symm)
      rw [em]; exact F1
    have N2 : News g L' s₁.heap ((lw, listOf us.toArray c) :: (st, listOf #[.ref lc, .int pos7 tp7] cst) :: (lc, listOf uc.toArray cc) :: (L' + 1, oS) :: (L' + 2, o3) :: (L' + 3, o2) :: (L' + 4, o1) :: (272, tabObj ps) :: own) := newsSub N1 (by
      intro q hq
      rcases List.mem_cons.mp hq with h | hq
      · exact List.mem_append_right _ (h ▸ .head _)
      rcases List.mem_cons.mp hq with h | hq
      · exact List.mem_append_right _ (h ▸ .tail _ (.head _))
      rcases List.mem_cons.mp hq with h | hq
      · exact List.mem_append_right _ (h ▸ .tail _ (.tail _ (.head _)))
      rcases List.mem_cons.mp hq with h | hq
      · exact List.mem_append_right _ (h ▸ .tail _ (.tail _ (.tail _ (.head _))))
      rcases List.mem_cons.mp hq with h | hq
      · exact List.mem_append_right _ (h ▸ .tail _ (.tail _ (.tail _ (.tail _ (.head _)))))
      rcases List.mem_cons.mp hq with h | hq
      · exact List.mem_append_right _ (h ▸ .tail _ (.tail _ (.tail _ (.tail _ (.tail _ (.head _))))))
      rcases List.mem_cons.mp hq with h | hq
      · exact List.mem_append_right _ (h ▸ .tail _ (.tail _ (.tail _ (.tail _ (.tail _ (.tail _ (.head _)))))))
      rcases List.mem_cons.mp hq with h | hq
      · exact List.mem_append_right _ (h ▸ .tail _ (.tail _ (.tail _ (.tail _ (.tail _ (.tail _ (.tail _ (.head _))))))))
      · exact List.mem_append_left _ hq)
    clear F1 N1 x1 x2 x3 x4
    refine wpAny_stop ?_
    have hlw' : ∀ p ∈ (st, listOf #[.ref lc, .int pos7 tp7] cst) :: (lc, listOf uc.toArray cc) :: (L' + 1, oS) :: (L' + 2, o3) :: (L' + 3, o2) :: (L' + 4, o1) :: (272, tabObj ps) :: own, p.1 ≠ lw := by
      intro p hp
      have hp' : p ∈ [(st, listOf #[.ref lc, .int pos7 tp7] cst), (lc, listOf uc.toArray cc), (L' + 1, oS), (L' + 2, o3), (L' + 3, o2), (L' + 4, o1), (272, tabObj ps)] ++ own := hp
      rcases List.mem_append.mp hp' with hp | hp
      · exact hlw p hp
      · exact Nat.ne_of_gt (Nat.lt_of_lt_of_le (ltn _ (.head _)) (hfq _ (hown p hp)))
    have hmul : IntMulOk (if xs.getD ((i : Int) + 3).toNat 0 < 0 then -xs.getD ((i : Int) + 3).toNat 0 else xs.getD ((i : Int) + 3).toNat 0) (10 ^ Int.toNat 40) := by
      refine IntMulOk.of_bits ?_ (by decide +kernel)
      rw [abs_bits, List.getD_eq_getElem?_getD]
      cases q : xs[((i : Int) + 3).toNat]? with
      | none => decide
      | some x => exact PyData.bits_item_of_ints hlay (List.mem_of_getElem? q)
    k_steps
    refine Stop.go (wpAny_IfExp ?_)
    k_steps
    all_goals (
      refine Stop.go ?_
      rename Fr _ _ _ _ => F3
      rename News _ _ _ _ => N3
      have N4 : News g L' _ ((lw, listOf us.toArray c) :: (st, listOf #[.ref lc, .int pos7 tp7] cst) :: (lc, listOf uc.toArray cc) :: (L' + 1, oS) :: (L' + 2, o3) :: (L' + 3, o2) :: (L' + 4, o1) :: (272, tabObj ps) :: own) := newsSub N3 (fun q hq => .tail _ hq)
      refine append_nn F3 N4 hlw' (by rw [List.size_toArray, hiw.length, sizeLine_eq]; omega) ?hV ?_
      case hV => first | exact pick_nonneg (by omega) | exact pick_nonneg (by split <;> omega)
      intro h5 vx tx hvx F5 N7'
      clear F3 N3 N4
      k_steps
      refine Stop.go ?_
      rename Fr _ _ _ _ => F6
      rename News _ _ _ _ => N6
      refine LoopStepU.intro (news₂ := (lw, listOf (us ++ [Value.int vx tx]).toArray (c + 1)) :: [(st, listOf #[.ref lc, .int pos7 tp7] cst), (lc, listOf uc.toArray cc), (L' + 1, oS), (L' + 2, o3), (L' + 3, o2), (L' + 4, o1), (272, tabObj ps)]) F6 (newsSub N6 ?_) ?_ ⟨_, _, _, rfl, ints_snoc hiw vx tx, by rw [List.length_append, hwl]; rfl, ?_, rfl, rfl, rfl, rfl⟩
      · intro q hq
        rcases List.mem_append.mp hq with h | h
        · exact .tail _ (.tail _ (.tail _ (.tail _ (.tail _ (.tail _ (.tail _ (.tail _ h)))))))
        · exact List.mem_append_left own (as := (lw, listOf (us ++ [Value.int vx tx]).toArray (c + 1)) :: [(st, listOf #[.ref lc, .int pos7 tp7] cst), (lc, listOf uc.toArray cc), (L' + 1, oS), (L' + 2, o3), (L' + 3, o2), (L' + 4, o1), (272, tabObj ps)]) h
      · intro p hp
        rcases List.mem_cons.mp hp with rfl | hp
        · exact hnw1 (lw, listOf us.toArray c) (.head _)
        · exact hnw1 p (.tail _ hp)
      · intro x hx
        rcases List.mem_append.mp hx with hx | hx
        · exact hw0 x hx
        · rw [List.mem_singleton.mp hx]
          exact hvx)
  · rintro h23 tk23 m23 n23 F23 N23 _ ⟨us, cw, ws, rfl, hiw, hwl, hw0, x1, x2, x3, x4⟩
    have hpkI : IntsAre us ws ∧ True := ⟨hiw, trivial⟩
    have F24 : Fr g L' h23 (fun y => if y = Str.ofString "widths" then some (.ref lw) else if y = Str.ofString "arm" then some (.int arm ta) else if y = Str.ofString "many" then some (.int (n : Int) tk7) else if y = Str.ofString "script" then some (.ref ls) else m23 y) := by
      have em : (fun y => if y = Str.ofString "widths" then some (.ref lw) else if y = Str.ofString "arm" then some (.int arm ta) else if y = Str.ofString "many" then some (.int (n : Int) tk7) else if y = Str.ofString "script" then some (.ref ls) else m23 y) = m23 := by
        funext y
        repeat' split
        all_goals first | rfl | (rename_i hy; rw [hy]; first | exact x1.symm | exact x2.symm | exact x3.symm | exact x4.symm)
      rw [em]; exact F23
    have N24 : News g L' h23 [(lw, listOf us.toArray cw), (st, listOf #[.ref lc, .int pos7 tp7] cst), (lc, listOf uc.toArray cc), (L' + 1, oS), (L' + 2, o3), (L' + 3, o2), (L' + 4, o1), (272, tabObj ps)] := N23
    clear F23 N23 x1 x2 x3 x4 W hst hfp hwr hP hk hfq R10
    k_steps
    refine Stop.go ?_
    rename Fr _ _ _ _ => F25
    rename News _ _ _ _ => N25
    refine' eff_eval ?hclos ?hcell rfl ?hnames rfl ?hs ?h
    case hclos => with_unfolding_all rfl
    case hcell => decide
    case hnames => decide
    case hs => intro _; rfl
    k_steps
    refine Stop.go ?_
    rename Fr _ _ _ _ => F26
    rename News _ _ _ _ => N26
    rename IsRange _ _ _ _ _ _ _ _ => R26
    refine src_range' rfl R26 (by omega) fun h' I fp wr P St W hst hfp hwr hP hk hfq hsS => ?_
    rw [rangeI_len] at W
    have hsz26 := F26.ns.lt
    have hg26 : ∀ b o, g.get? b = some o → b < _ := fun b o e => Nat.lt_of_lt_of_le (Heap.lt_size e) (Nat.le_trans F26.above (Nat.le_of_lt hsz26))
    have lt26 : ∀ q ∈ [(lw, listOf us.toArray cw), (st, listOf #[.ref lc, .int pos7 tp7] cst), (lc, listOf uc.toArray cc), (L' + 1, oS), (L' + 2, o3), (L' + 3, o2), (L' + 4, o1), (272, tabObj ps)], q.1 < _ := fun q hq => Heap.lt_size (N26 q hq).1
    have F27 := F26.keeps hk
    have N27 := N26.grown hk
    refine ⟨I, fp, wr, n, _, P, St, (fun _ y => ∃ b, y = .bool b), (fun _ h => Fr g L' h _ ∧ ∃ pos tp, 0 ≤ pos ∧ pos ≤ (cs.length : Int) ∧ News g L' h [(lw, listOf us.toArray cw), (st, listOf #[.ref lc, .int pos tp] cst), (lc, listOf uc.toArray cc), (L' + 1, oS), (L' + 2, o3), (L' + 3, o2), (L' + 4, o1), (272, tabObj ps)]),
      rfl, W, by rw [sizeLine_eq]; omega, hst, hfp, hfq, ?_, ⟨F27, pos7, tp7, hp70, hp71, N27⟩, ?_, ?_, ?_⟩
    · exact hsS
    · rintro i h h2 ⟨Fi, pos, tp, p0, p1, Ni⟩ hkk
      refine ⟨⟨Fi.ns.at' fun o e => hkk _ o hsz26 e, fun b o e => hkk b o (hg26 b o e) (Fi.keep b o e), Fi.above⟩, pos, tp, p0, p1, fun q hq => ⟨hkk _ _ ?_ (Ni q hq).1, (Ni q hq).2⟩⟩
      simp only [List.mem_cons, List.not_mem_nil, or_false] at hq
      rcases hq with rfl | rfl | rfl | rfl | rfl | rfl | rfl | rfl
      · exact lt26 (lw, listOf us.toArray cw) (.head _)
      · exact lt26 (st, listOf #[.ref lc, .int pos7 tp7] cst) (.tail _ (.head _))
      · exact lt26 _ (.tail _ (.tail _ (.head _)))
      · exact lt26 _ (.tail _ (.tail _ (.tail _ (.head _))))
      · exact lt26 _ (.tail _ (.tail _ (.tail _ (.tail _ (.head _)))))
      · exact lt26 _ (.tail _ (.tail _ (.tail _ (.tail _ (.tail _ (.head _))))))
      · exact lt26 _ (.tail _ (.tail _ (.tail _ (.tail _ (.tail _ (.tail _ (.head _)))))))
      · exact lt26 _ (.tail _ (.tail _ (.tail _ (.tail _ (.tail _ (.tail _ (.tail _ (.head _))))))))
    · rintro Cc i v s₃ m₃ E' hSC hi hPv ⟨Fi, pos, tp, p0, p1, Ni⟩ hns hx
      refine wpAny_Compare1 (Call_ (Name_function_global rfl rfl (loadGlobal_global (T'.g.keeps Fi.keep) (mg_of X' T'.g (by k_is)) ?_)))
      refine callWith_K (h₀ := g) X' (by k_is) (spliced_more (wpAny_Name (wpAny_loadName_cell (c := L' + 1) rfl rfl rfl ⟨oS, (Ni _ (.tail _ (.tail _ (.tail _ (.head _))))).1, dS⟩ (spliced_more (wpAny_Constant_int (spliced_none ?_))))))
      refine ⟨X'.keeps Fi.keep, ?_⟩
      have hsn9 : ∀ q ∈ [(lw, listOf us.toArray cw), (lc, listOf uc.toArray cc), (L' + 1, oS), (L' + 2, o3), (L' + 3, o2), (L' + 4, o1), (272, tabObj ps)], q.1 ≠ st := by
        intro q hq
        rcases List.mem_cons.mp hq with rfl | hq
        · exact Ne.symm (hlw (st, listOf #[.ref lc, .int pos7 tp7] cst) (.head _))
        · exact hsn' q hq
      have N9 : News g L' s₃.heap ((st, listOf #[.ref lc, .int pos tp] cst) :: [(lw, listOf us.toArray cw), (lc, listOf uc.toArray cc), (L' + 1, oS), (L' + 2, o3), (L' + 3, o2), (L' + 4, o1), (272, tabObj ps)]) := newsSub Ni fun q hq => by
        rcases List.mem_cons.mp hq with rfl | hq
        · exact .tail _ (.head _)
        · rcases List.mem_cons.mp hq with rfl | hq
          · exact .head _
          · exact .tail _ (.tail _ hq)
      refine draw_ok (dp := dp + 1) (hb := g) (cs := cs) X' T' Fi.keep hgst (by omega) (by show un + 3 + 32 < cLine; omega) (N9 _ (.head _)).1 ⟨_, (N9 _ (.tail _ (.tail _ (.head _)))).1, rfl, _, rfl⟩ hic hcl hcn p0 p1 (by decide) (by decide) ?_
      intro vd tvd pos9 tp9 h9 tk9 hv0' hv1' hk9 hst9 hp90 hp91
      obtain ⟨F9', N9'⟩ := after_draw Fi N9 hsn9 hk9 hst9
      refine wpAny_Constant_int (ne_int ⟨h9, _, rfl, ⟨_, rfl⟩, ⟨F9', pos9, tp9, hp90, hp91, newsSub N9' fun q hq => ?_⟩, fun b o hb e => hk9 b o (Nat.ne_of_gt (Nat.lt_of_lt_of_le (lt26 _ (.tail _ (.head _))) hb)) e⟩)
      rcases List.mem_cons.mp hq with rfl | hq
      · exact .tail _ (.head _)
      · rcases List.mem_cons.mp hq with rfl | hq
        · exact .head _
        · exact .tail _ (.tail _ hq)
    · rintro D h28 tk28 ys hSD hlD hlen hF ⟨Fi, pos, tp, p0, p1, Ni⟩
      obtain ⟨bs, hbs⟩ := bools_of (ys := ys.toList) fun i y e => hF i y (by simpa using e)
      have hbl : bs.length = n := by rw [← hbs.length, Array.length_toList, hlen]
      obtain ⟨cD, hD⟩ := hlD
      have hnD : ∀ q ∈ [(lw, listOf us.toArray cw), (st, listOf #[.ref lc, .int pos tp] cst), (lc, listOf uc.toArray cc), (L' + 1, oS), (L' + 2, o3), (L' + 3, o2), (L' + 4, o1), (272, tabObj ps)], q.1 ≠ D := by
        intro q hq
        simp only [List.mem_cons, List.not_mem_nil, or_false] at hq
        rcases hq with rfl | rfl | rfl | rfl | rfl | rfl | rfl | rfl
        · exact Nat.ne_of_lt (Nat.lt_of_lt_of_le (lt26 (lw, listOf us.toArray cw) (.head _)) hSD)
        · exact Nat.ne_of_lt (Nat.lt_of_lt_of_le (lt26 (st, listOf #[.ref lc, .int pos7 tp7] cst) (.tail _ (.head _))) hSD)
        · exact Nat.ne_of_lt (Nat.lt_of_lt_of_le (lt26 _ (.tail _ (.tail _ (.head _)))) hSD)
        · exact Nat.ne_of_lt (Nat.lt_of_lt_of_le (lt26 _ (.tail _ (.tail _ (.tail _ (.head _))))) hSD)
        · exact Nat.ne_of_lt (Nat.lt_of_lt_of_le (lt26 _ (.tail _ (.tail _ (.tail _ (.tail _ (.head _)))))) hSD)
        · exact Nat.ne_of_lt (Nat.lt_of_lt_of_le (lt26 _ (.tail _ (.tail _ (.tail _ (.tail _ (.tail _ (.head _))))))) hSD)
        · exact Nat.ne_of_lt (Nat.lt_of_lt_of_le (lt26 _ (.tail _ (.tail _ (.tail _ (.tail _ (.tail _ (.tail _ (.head _)))))))) hSD)
        · exact Nat.ne_of_lt (Nat.lt_of_lt_of_le (lt26 _ (.tail _ (.tail _ (.tail _ (.tail _ (.tail _ (.tail _ (.tail _ (.head _))))))))) hSD)
      have N30 : News g L' h28 [(D, listOf ys.toList.toArray cD), (lw, listOf us.toArray cw), (L' + 1, oS), (L' + 2, o3), (L' + 3, o2), (L' + 4, o1), (272, tabObj ps)] := by
        intro q hq
        rcases List.mem_cons.mp hq with rfl | hq
        · exact ⟨by simpa using hD, Nat.ne_of_gt (Nat.lt_of_lt_of_le hsz26 hSD), fresh_none (Nat.le_trans F26.above (Nat.le_trans (Nat.le_of_lt hsz26) hSD))⟩
        · rcases List.mem_cons.mp hq with rfl | hq
          · exact Ni _ (.head _)
          · exact Ni _ (.tail _ (.tail _ (.tail _ hq)))
      have hDlw : lw ≠ D := hnD _ (.head _)
      have hDL2 : L' + 2 ≠ D := hnD _ (.tail _ (.tail _ (.tail _ (.tail _ (.head _)))))
      have hlwL2 : L' + 2 ≠ lw := hlw _ (.tail _ (.tail _ (.tail _ (.head _))))
      have hDLs : ∀ q ∈ [(L' + 3, o2), (L' + 4, o1)], q.1 ≠ D := fun q hq => hnD q (.tail _ (.tail _ (.tail _ (.tail _ (.tail _ (List.mem_append_left [(272, tabObj ps)] hq))))))
      have hDP : 272 ≠ D := hnD (272, tabObj ps) (.tail _ (.tail _ (.tail _ (.tail _ (.tail _ (.tail _ (.tail _ (.head _))))))))
      clear W hst hfp hwr hP hk hfq hsS hnD hF F27 N27 F26 N26 hD hlen
      refine storeX_C Fi N30 (c := L' + 2) rfl (UpdF.tail (Ne.symm hDL2) (UpdF.tail (Ne.symm hlwL2) (UpdF.tail (Nat.ne_of_lt (Nat.add_lt_add_left (by decide) L')) (UpdF.head ?_)))) d3 ?_
      · intro p hp
        simp only [List.mem_cons, List.not_mem_nil, or_false] at hp
        rcases hp with rfl | rfl | rfl
        · exact Nat.ne_of_gt (Nat.add_lt_add_left (by decide) L')
        · exact Nat.ne_of_gt (Nat.add_lt_add_left (by decide) L')
        · exact Nat.ne_of_lt (Nat.lt_of_lt_of_le hPL (Nat.le_add_right _ _))
      intro h31 oA F31 N31 dA
      clear Fi N30 Ni
      have htot := sum_nonneg hw0
      have hpk : ws.length = bs.length ∧ ws.length ≤ 63 ∧ ws.length = n := ⟨by omega, by omega, hwl⟩
      k_steps
      refine Stop.go ?_
      rename Fr _ _ _ _ => F32
      rename News _ _ _ _ => N32
      obtain ⟨tt, F33⟩ : ∃ tt, Fr g L' _ (fun y => if y = Str.ofString "total" then some (.int ws.sum tt) else if y = Str.ofString "widths" then some (.ref lw) else if y = Str.ofString "arm" then some (.int arm ta) else if y = Str.ofString "many" then some (.int (n : Int) tk7) else if y = Str.ofString "script" then some (.ref ls) else m23 y) := ⟨_, F32⟩
      clear F32
      refine wpAny_mono (Q := fun v s₁ => ∃ gone tg h' tk', v = .int gone tg ∧ 0 ≤ gone ∧ s₁ = { s with heap := h', toks := tk' } ∧
        Fr g L' h' (fun y => if y = Str.ofString "total" then some (.int ws.sum tt) else if y = Str.ofString "widths" then some (.ref lw) else if y = Str.ofString "arm" then some (.int arm ta) else if y = Str.ofString "many" then some (.int (n : Int) tk7) else if y = Str.ofString "script" then some (.ref ls) else m23 y) ∧
        News g L' h' [(D, listOf ys.toList.toArray cD), (lw, listOf us.toArray cw), (L' + 1, oS), (L' + 2, oA), (L' + 3, o2), (L' + 4, o1), (272, tabObj ps)]) (wpAny_stop (wpAny_IfExp ?_)) ?_ fun _ _ e => e
      · k_steps
        · refine Stop.go ?_
          rename Fr _ _ _ _ => F35
          rename News _ _ _ _ => N35
          refine ⟨_, _, _, _, rfl, ?_, rfl, F35, N35⟩
          rw [Int.fmod_eq_emod_of_nonneg _ (by omega)]
          exact Int.emod_nonneg _ (by omega)
        · refine Stop.go ?_
          rename Fr _ _ _ _ => F35
          rename News _ _ _ _ => N35
          exact ⟨_, _, _, _, rfl, by decide, rfl, F35, N35⟩
      rintro v s₁ ⟨gone, tg, h34, tk34, rfl, hg0, rfl, F34, N34⟩
      clear F33 N32
      (try dsimp only)
      k_steps
      rename Fr _ _ _ _ => F36
      rename News _ _ _ _ => N36
      rename _ < _ ∧ _ < _ ∧ _ < _ ∧ _ < _ ∧ _ < _ ∧ _ < _ ∧ _ < _ => l36
      rename_i kl ck0 hx0
      obtain ⟨ck, tr, F37, N37, l37⟩ : ∃ ck tr, Fr g L' _ (fun y => if y = Str.ofString "room" then some (.int (ws.sum - gone) tr) else if y = Str.ofString "gone" then some (.int gone tg) else if y = Str.ofString "total" then some (.int ws.sum tt) else if y = Str.ofString "widths" then some (.ref lw) else if y = Str.ofString "arm" then some (.int arm ta) else if y = Str.ofString "many" then some (.int (n : Int) tk7) else if y = Str.ofString "script" then some (.ref ls) else m23 y) ∧
          News g L' _ [(kl, listOf us.toArray ck), (D, listOf ys.toList.toArray cD), (lw, listOf us.toArray cw), (L' + 1, oS), (L' + 2, oA), (L' + 3, o2), (L' + 4, o1), (272, tabObj ps)] ∧ (D < kl ∧ lw < kl ∧ L' + 1 < kl ∧ L' + 2 < kl ∧ L' + 3 < kl ∧ L' + 4 < kl ∧ 272 < kl) :=
        ⟨_, _, F36, N36, l36⟩
      clear F36 N36
      refine storeX_C F37 N37 (c := L' + 3) rfl (UpdF.tail (Nat.ne_of_gt l37.2.2.2.2.1) (UpdF.tail (Ne.symm (hDLs _ (.head _))) (UpdF.tail (Ne.symm (hlw _ (.tail _ (.tail _ (.tail _ (.tail _ (.head _))))))) (UpdF.tail (Nat.ne_of_lt (Nat.add_lt_add_left (by decide) L')) (UpdF.tail (Nat.ne_of_lt (Nat.add_lt_add_left (by decide) L')) (UpdF.head ?_)))))) d2 ?_
      · intro p hp
        simp only [List.mem_cons, List.not_mem_nil, or_false] at hp
        rcases hp with rfl | rfl
        · exact Nat.ne_of_gt (Nat.add_lt_add_left (by decide) L')
        · exact Nat.ne_of_lt (Nat.lt_of_lt_of_le hPL (Nat.le_add_right _ _))
      intro h38 oK F38 N38 dK
      clear F37 N37
      k_steps
      refine Stop.go ?_
      rename Fr _ _ _ _ => F39
      rename News _ _ _ _ => N39
      have hgP : g.get? 272 = none := (N39 _ (.tail _ (.tail _ (.tail _ (.tail _ (.tail _ (.tail _ (.tail _ (.tail _ (.head _)))))))))).2.2
      have hglw : g.get? lw = none := (N39 _ (.tail _ (.tail _ (.tail _ (.head _))))).2.2
      have hD272 : D ≠ 272 := Ne.symm hDP
      have hlw272 : lw ≠ 272 := Ne.symm (hlw (272, tabObj ps) (.tail _ (.tail _ (.tail _ (.tail _ (.tail _ (.tail _ (.head _))))))))
      refine call_meth N39 (.head _) ?_
      refine cw_ok (dp := dp + 1) (hb := g) (ps := ps) (us := us) (ub := ys.toList) (bs := bs) X' T' F39.keep hgP hglw C' (N39 _ (.tail _ (.tail _ (.tail _ (.tail _ (.tail _ (.tail _ (.tail _ (.tail _ (.head _)))))))))).1 ht G (by omega) (by show un + 3 + 32 < cLine; omega)
        (N39 _ (.tail _ (.tail _ (.tail _ (.head _))))).1 hpkI.1 ⟨_, (N39 _ (.tail _ (.tail _ (.head _)))).1, rfl, _, rfl⟩ hbs (Ne.symm hDlw) (by omega) (by omega) hw0 ?_
      intro r us2 c2 ws2 s2 hr hk2 ⟨ps2, ht2, hP2⟩ G2 hos2 hr2 hi2 hcase
      have hn272 : ∀ q ∈ [(kl, listOf us.toArray ck), (D, listOf ys.toList.toArray cD), (lw, listOf us.toArray cw), (L' + 1, oS), (L' + 2, oA), (L' + 3, oK), (L' + 4, o1)], q.1 ≠ 272 := by
        intro q hq
        simp only [List.mem_cons, List.not_mem_nil, or_false] at hq
        rcases hq with rfl | rfl | rfl | rfl | rfl | rfl | rfl
        · exact Nat.ne_of_gt l37.2.2.2.2.2.2
        · exact hD272
        · exact hlw272
        · exact Nat.ne_of_gt (Nat.lt_of_lt_of_le hPL (Nat.le_add_right _ _))
        · exact Nat.ne_of_gt (Nat.lt_of_lt_of_le hPL (Nat.le_add_right _ _))
        · exact Nat.ne_of_gt (Nat.lt_of_lt_of_le hPL (Nat.le_add_right _ _))
        · exact Nat.ne_of_gt (Nat.lt_of_lt_of_le hPL (Nat.le_add_right _ _))
      have N39b : News g L' _ ((272, tabObj ps) :: [(kl, listOf us.toArray ck), (D, listOf ys.toList.toArray cD), (lw, listOf us.toArray cw), (L' + 1, oS), (L' + 2, oA), (L' + 3, oK), (L' + 4, o1)]) := newsSub N39 (by
        intro q hq
        simp only [List.mem_cons, List.not_mem_nil, or_false] at hq ⊢
        rcases hq with h | h | h | h | h | h | h | h
        · exact .inr (.inr (.inr (.inr (.inr (.inr (.inr (.inr h)))))))
        · exact .inr (.inl h)
        · exact .inr (.inr (.inl h))
        · exact .inr (.inr (.inr (.inl h)))
        · exact .inr (.inr (.inr (.inr (.inl h))))
        · exact .inr (.inr (.inr (.inr (.inr (.inl h)))))
        · exact .inr (.inr (.inr (.inr (.inr (.inr (.inl h))))))
        · exact .inr (.inr (.inr (.inr (.inr (.inr (.inr (.inl h))))))))
      obtain ⟨F40, N40⟩ := after_draw F39 N39b hn272 hk2 hP2
      have hrN : r ≠ L' ∧ g.get? r = none := by
        rcases hr with rfl | hr
        · exact ⟨(N39b _ (.tail _ (.tail _ (.tail _ (.head _))))).2.1, hglw⟩
        · constructor
          · intro q
            obtain ⟨o, _, _, ho, _⟩ := F39.ns
            rw [q] at hr; rw [ho] at hr; cases hr
          · cases q : g.get? r with
            | none => rfl
            | some o => have := F39.keep r o q; rw [hr] at this; cases this
      have hr4 : r ≠ L' + 4 := by
        rcases hr with rfl | hr
        · exact Ne.symm (hlw _ (.tail _ (.tail _ (.tail _ (.tail _ (.tail _ (.head _)))))))
        · intro q
          have := (N39b (L' + 4, o1) (.tail _ (.tail _ (.tail _ (.tail _ (.tail _ (.tail _ (.tail _ (.head _))))))))).1
          rw [q] at hr; rw [this] at hr; cases hr
      have N41 : News g L' s2.heap [(r, listOf us2.toArray c2), (kl, listOf us.toArray ck), (D, listOf ys.toList.toArray cD), (lw, listOf us.toArray cw), (L' + 1, oS), (L' + 2, oA), (L' + 3, oK), (L' + 4, o1), (272, tabObj ps2)] := by
        intro q hq
        rcases List.mem_cons.mp hq with rfl | hq
        · exact ⟨hr2, hrN⟩
        · refine N40 q ?_
          simp only [List.mem_cons, List.not_mem_nil, or_false] at hq ⊢
          rcases hq with h | h | h | h | h | h | h | h
          · exact .inr (.inl h)
          · exact .inr (.inr (.inl h))
          · exact .inr (.inr (.inr (.inl h)))
          · exact .inr (.inr (.inr (.inr (.inl h))))
          · exact .inr (.inr (.inr (.inr (.inr (.inl h)))))
          · exact .inr (.inr (.inr (.inr (.inr (.inr (.inl h))))))
          · exact .inr (.inr (.inr (.inr (.inr (.inr (.inr h))))))
          · exact .inl h
      clear F39 N39 N39b N40 hr hk2
      refine storeX_C F40 N41 (c := L' + 4) rfl (UpdF.tail hr4 (UpdF.tail (Nat.ne_of_gt l37.2.2.2.2.2.1) (UpdF.tail (Ne.symm (hDLs _ (.tail _ (.head _)))) (UpdF.tail (Ne.symm (hlw _ (.tail _ (.tail _ (.tail _ (.tail _ (.tail _ (.head _)))))))) (UpdF.tail (Nat.ne_of_lt (Nat.add_lt_add_left (by decide) L')) (UpdF.tail (Nat.ne_of_lt (Nat.add_lt_add_left (by decide) L')) (UpdF.tail (Nat.ne_of_lt (Nat.add_lt_add_left (by decide) L')) (UpdF.head ?_)))))))) d1 ?_
      · intro p hp
        rw [List.mem_singleton.mp hp]
        exact Nat.ne_of_lt (Nat.lt_of_lt_of_le hPL (Nat.le_add_right _ _))
      intro h42 oF F42 N42 dF
      clear F40 N41
      k_steps
      refine Stop.go ?_
      refine ke_ne_ints (xs := us) (ys := us) ⟨_, (N42 _ (.tail _ (.tail _ (.tail _ (.head _))))).1, rfl, _, rfl⟩ ⟨_, (N42 _ (.tail _ (.head _))).1, rfl, _, rfl⟩ hpkI.1 hpkI.1 (by show un + 3 + 64 < cLine; omega) ?_
      rw [show (!decide (ws = ws)) = false by simp]
      k_steps
      refine Stop.go ?_
      rename Fr _ _ _ _ => F43
      rename News _ _ _ _ => N43
      refine nw_ok (dp := dp + 1) (us := us) (ub := ys.toList) (bs := bs) (X'.keeps F43.keep) (T'.keeps F43.keep) (by omega) (by show un + 3 + 32 < cLine; omega) ⟨_, (N43 _ (.tail _ (.head _))).1, rfl, _, rfl⟩ hpkI.1 ⟨_, (N43 _ (.tail _ (.tail _ (.head _)))).1, rfl, _, rfl⟩ hbs hpk.1 hpk.2.1 hw0 ?_
      intro r3 us3 c3 ws3 h44 tk44 hk44 hr3 hi3 hcase3
      have heq : ws2 = ws3 := by
        rcases hcase with ⟨e1, e2⟩ | ⟨e1, e2⟩ <;> rcases hcase3 with ⟨f1, f2⟩ | ⟨f1, f2⟩
        · rw [e2, f2]
        · rw [e1] at f1; cases f1
        · rw [f1] at e1; cases e1
        · exact cw_nw e2 hpk.1 hw0 f2
      have F44 := F43.keeps hk44
      have N44 := N43.grown hk44
      clear F43 N43
      k_steps
      refine Stop.go ?_
      refine ke_ne_ints (xs := us2) (ys := us3) (ns := ws2) (ms := ws3) ?_ ⟨_, hr3, rfl, _, rfl⟩ hi2 hi3 (by show un + 3 + 64 < cLine; omega) ?_
      · exact ⟨_, (N44 _ (.head _)).1, rfl, _, rfl⟩
      rw [show (!decide (ws2 = ws3)) = false by simp [heq]]
      have hlaw : ws2.length = ws.length ∧ (∀ x ∈ ws2, 0 ≤ x) ∧ (∀ (i : Nat) b v x, bs[i]? = some b → ws[i]? = some v → ws2[i]? = some x → x ≤ v ∧ (b = false → x = v)) ∧ (gone ≤ ableS bs ws → ws2.sum = ws.sum - gone) := by
        rcases hcase with ⟨e1, e2⟩ | ⟨e1, e2⟩
        · subst e2
          refine ⟨rfl, hw0, fun i b v x _ g2 g3 => ?_, fun ha => ?_⟩
          · rw [g2] at g3; cases g3; exact ⟨Int.le_refl _, fun _ => rfl⟩
          · have := able_zero bs ws2 fun i v g1 _ => by
              have : bs.any id = true := List.any_eq_true.mpr ⟨true, List.mem_of_getElem? g1, rfl⟩
              rw [e1] at this; cases this
            omega
        · obtain ⟨j1, j2, j3, j4⟩ := cw_law e2 hpk.1 hw0
          exact ⟨j1, j2, j3, fun ha => j4 (by omega) (by omega)⟩
      clear hcase hcase3 heq
      k_steps
      refine Stop.go ?_
      rename Fr _ _ _ _ => F45
      rename News _ _ _ _ => N45
      refine' comp_eval (ks := rangeI n) (fun _ => false) (fun k => k) ?hclos ?hcell rfl ?hnames rfl ?hs ?hsz ?h
      case hclos => with_unfolding_all rfl
      case hcell => decide
      case hnames => decide
      case hs => intro _; rfl
      case hsz => rw [rangeI_len]; omega
      k_steps
      refine Stop.go ?_
      rename Fr _ _ _ _ => F46
      rename News _ _ _ _ => N46
      rename IsRange _ _ _ _ _ _ _ _ => R46
      refine src_range rfl R46 (by omega) fun h' I fp wr P St W hst hfp hwr hP hk _ => ?_
      refine ⟨_, _, _, _, _, h', I, fp, wr, P, St, rfl, rfl, W, hst, hfp, hwr, hP, hk, F46, N46, ?_, ?_, ?_⟩
      · intro C k t s₃ m₃ E' hkm hns hx hk3
        obtain ⟨i, hi', rfl⟩ := mem_rangeI hkm
        have hib : i < bs.length := by omega
        have hiw' : i < ws.length := by omega
        have hi2' : i < ws2.length := by omega
        have hiy : i < ys.toList.length := by have := hbs.length; omega
        obtain ⟨t1, q1⟩ := ints_at' hpkI.1 (List.getElem?_eq_getElem hiw')
        obtain ⟨t2, q2⟩ := ints_at' hi2 (List.getElem?_eq_getElem hi2')
        obtain ⟨b, hb1, hb2⟩ := hbs.get i _ (List.getElem?_eq_getElem hiy)
        obtain ⟨c1, c2⟩ := hlaw.2.2.1 i b _ _ hb1 (List.getElem?_eq_getElem hiw') (List.getElem?_eq_getElem hi2')
        have c3 := hlaw.2.1 _ (List.getElem_mem hi2')
        have gF : s₃.heap.IsCell (L' + 4) (some (.ref r)) := ⟨oF, hk3 _ _ (N46 _ (.tail _ (.tail _ (.tail _ (.tail _ (.tail _ (.tail _ (.tail _ (.head _))))))))).1, dF⟩
        have gK : s₃.heap.IsCell (L' + 3) (some (.ref kl)) := ⟨oK, hk3 _ _ (N46 _ (.tail _ (.tail _ (.tail _ (.tail _ (.tail _ (.tail _ (.head _)))))))).1, dK⟩
        have gA : s₃.heap.IsCell (L' + 2) (some (.ref D)) := ⟨oA, hk3 _ _ (N46 _ (.tail _ (.tail _ (.tail _ (.tail _ (.tail _ (.head _))))))).1, dA⟩
        have gr : s₃.heap.IsList r us2.toArray := ⟨_, hk3 _ _ (N46 _ (.head _)).1, rfl, _, rfl⟩
        have gk : s₃.heap.IsList kl us.toArray := ⟨_, hk3 _ _ (N46 _ (.tail _ (.head _))).1, rfl, _, rfl⟩
        have gD : s₃.heap.IsList D ys.toList.toArray := ⟨_, hk3 _ _ (N46 _ (.tail _ (.tail _ (.head _)))).1, rfl, _, rfl⟩
        exact wpAny_tests_one (found_test (i := i) (cF := L' + 4) (cK := L' + 3) (cA := L' + 2) rfl rfl rfl rfl rfl rfl rfl rfl (by decide) (by decide) (by decide) (by decide) gF gK gA hns hx gr gk gD (by rw [List.getElem?_toArray]; exact q2) (by rw [List.getElem?_toArray]; exact q1) (by rw [List.getElem?_toArray, List.getElem?_eq_getElem hiy, hb2]) (by omega) c1 c2 c3)
      · intro C k t s₃ m₃ E' hkm hp
        cases hp
      intro D47 h47 tk47 ys47 c47 F47 N47 _ hi47
      have hys : ys47 = [] := by
        have := hi47.length
        rw [List.filter_eq_nil_iff.mpr (fun _ _ => by simp)] at this
        exact List.eq_nil_of_length_eq_zero (by simpa using this)
      subst hys
      clear W hst hfp hwr hP hk F46 N46 hi47
      have F48 : Fr g L' h47 _ := F47
      have N48 : News g L' h47 _ := N47
      clear F47 N47
      have N49 : News g L' h47 [(D47, listOf #[] c47), (r, listOf us2.toArray c2), (kl, listOf us.toArray ck), (D, listOf ys.toList.toArray cD), (L' + 2, oA), (L' + 3, oK), (L' + 4, oF), (272, tabObj ps2)] := newsSub N48 (by
        intro q hq
        simp only [List.mem_cons, List.not_mem_nil, or_false] at hq ⊢
        rcases hq with h | h | h | h | h | h | h | h
        · exact .inl h
        · exact .inr (.inl h)
        · exact .inr (.inr (.inl h))
        · exact .inr (.inr (.inr (.inl h)))
        · exact .inr (.inr (.inr (.inr (.inr (.inr (.inl h))))))
        · exact .inr (.inr (.inr (.inr (.inr (.inr (.inr (.inl h)))))))
        · exact .inr (.inr (.inr (.inr (.inr (.inr (.inr (.inr (.inl h))))))))
        · exact .inr (.inr (.inr (.inr (.inr (.inr (.inr (.inr (.inr h)))))))))
      clear N48
      k_steps
      refine Stop.go ?_
      refine' comp_eval (ks := rangeI n) (fun k => bs.getD k.toNat false) (atI ws) ?hclos ?hcell rfl ?hnames rfl ?hs ?hsz ?h
      case hclos => with_unfolding_all rfl
      case hcell => decide
      case hnames => decide
      case hs => intro _; rfl
      case hsz => rw [rangeI_len]; omega
      k_steps
      refine Stop.go ?_
      rename Fr _ _ _ _ => F50
      rename News _ _ _ _ => N50
      rename IsRange _ _ _ _ _ _ _ _ => R50
      refine src_range rfl R50 (by omega) fun h' I fp wr P St W hst hfp hwr hP hk _ => ?_
      refine ⟨_, _, _, _, _, h', I, fp, wr, P, St, rfl, rfl, W, hst, hfp, hwr, hP, hk, F50, N50, ?_, ?_, ?_⟩
      · intro C k t s₃ m₃ E' hkm hns hx hk3
        obtain ⟨i, hi', rfl⟩ := mem_rangeI hkm
        have hiy : i < ys.toList.length := by have := hbs.length; omega
        obtain ⟨b, hb1, hb2⟩ := hbs.get i _ (List.getElem?_eq_getElem hiy)
        refine wpAny_tests_one (isTrue_plain (sub_cell (c := L' + 2) (l := D) (items := ys.toList.toArray) (v := .bool b) rfl rfl rfl ⟨oA, hk3 _ _ (N50 _ (.tail _ (.tail _ (.tail _ (.tail _ (.head _)))))).1, dA⟩ rfl hns hx ?_ (by omega) (by omega) ?_ (wpAny_truthy_bool ?_)))
        · exact ⟨_, hk3 _ _ (N50 _ (.tail _ (.tail _ (.tail _ (.head _))))).1, rfl, _, rfl⟩
        · rw [Int.toNat_natCast, List.getElem?_toArray, List.getElem?_eq_getElem hiy, hb2]
        · refine ⟨?_, _, _, rfl, fun _ _ e => e⟩
          rw [Int.toNat_natCast, List.getD_eq_getElem?_getD, hb1, Option.getD_some]
      · intro C k t s₃ m₃ E' hkm hp hns hx hk3
        obtain ⟨i, hi', rfl⟩ := mem_rangeI hkm
        have hiw' : i < ws.length := by omega
        obtain ⟨t1, q1⟩ := ints_at' hpkI.1 (List.getElem?_eq_getElem hiw')
        refine sub_cell (c := L' + 3) (l := kl) (items := us.toArray) (v := .int ws[i] t1) rfl rfl rfl ⟨oK, hk3 _ _ (N50 _ (.tail _ (.tail _ (.tail _ (.tail _ (.tail _ (.head _))))))).1, dK⟩ rfl hns hx ?_ (by omega) (by omega) ?_ ⟨⟨t1, by rw [atI_nat (List.getElem?_eq_getElem hiw')]⟩, _, _, rfl, fun _ _ e => e⟩
        · exact ⟨_, hk3 _ _ (N50 _ (.tail _ (.tail _ (.head _)))).1, rfl, _, rfl⟩
        · rw [Int.toNat_natCast, List.getElem?_toArray]; exact q1
      intro D51 h51 tk51 ys51 c51 F51 N51 _ hi51
      have hsum51 := able_sum hpk.1
      rw [show bs.length = n by omega] at hsum51
      clear W hst hfp hwr hP hk F50 N50
      have F52 : Fr g L' h51 _ := F51
      have N52 : News g L' h51 _ := N51
      clear F51 N51
      generalize hsm : List.map (atI ws) (List.filter (fun k => bs.getD k.toNat false) (rangeI n)) = sm at hi51 hsum51
      k_steps
      · exfalso
        have := hlaw.2.2.2 (by omega)
        omega
      all_goals (
        refine Stop.go ?_
        rename Fr _ _ _ _ => F60
        rename News _ _ _ _ => N60
        refine ex_call (dp := dp + 1) (ps := ps2) X' T' C' F60 N60 (.tail _ (.tail _ (.tail _ (.tail _ (.tail _ (.tail _ (.tail _ (.tail _ (.head _))))))))) ht2 G2 (by omega) (by show un + 3 + 32 < cLine; omega) rfl (by decide) ?_
        intro r61 us61 c61 ws61 ps61 s61 F61 N61 ht61 G61 hos61 hi61 hcw61
        have hex1 := ex1 hcw61
        subst hex1
        clear F60 N60
        k_steps
        refine Stop.go ?_
        rename Fr _ _ _ _ => F62
        rename News _ _ _ _ => N62
        refine ke_eq_ints (xs := us61) (ns := [6, 6, 3]) (ms := [6, 6, 3]) ⟨_, (N62 _ (.tail _ (.head _))).1, rfl, _, rfl⟩ ⟨_, (N62 _ (.head _)).1, rfl, _, rfl⟩ hi61 (.cons _ _ (.cons _ _ (.cons _ _ .nil))) (by show un + 3 + 64 < cLine; omega) ?_
        rw [show decide (([6, 6, 3] : List Int) = [6, 6, 3]) = true by decide]
        k_steps)
      all_goals (
        refine Stop.go ?_
        rename Fr _ _ _ _ => F63
        rename News _ _ _ _ => N63
        refine ex_call (dp := dp + 1) (ps := ps61) X' T' C' F63 N63 (.tail _ (.tail _ (.head _))) ht61 G61 (by omega) (by show un + 3 + 32 < cLine; omega) rfl (by decide) ?_
        intro r64 us64 c64 ws64 ps64 s64 F64 N64 ht64 G64 hos64 hi64 hcw64
        have hex2 := ex2 hcw64
        subst hex2
        clear F63 N63
        k_steps
        refine Stop.go ?_
        rename Fr _ _ _ _ => F65
        rename News _ _ _ _ => N65
        refine ke_eq_ints (xs := us64) (ns := [2, 4, 1]) (ms := [2, 4, 1]) ⟨_, (N65 _ (.tail _ (.head _))).1, rfl, _, rfl⟩ ⟨_, (N65 _ (.head _)).1, rfl, _, rfl⟩ hi64 (.cons _ _ (.cons _ _ (.cons _ _ .nil))) (by show un + 3 + 64 < cLine; omega) ?_
        rw [show decide (([2, 4, 1] : List Int) = [2, 4, 1]) = true by decide]
        k_steps
        all_goals exact hQ _ (hkeep _ F65.keep) ⟨ps64, ht64, (N65 _ (.tail _ (.tail _ (.head _)))).1⟩ G64 (hos64.trans (hos61.trans hos2)))
end Mine

namespace Mine
theorem good_end {s₁ s' : Shared} {cl : Str → Option Addr} {mean : ExcName → Option Value} {args : List WData} (hT : TabsAt [(274, 272)] s₁.heap) (hk : ∀ b o, b ≠ 272 → s₁.heap.get? b = some o → s'.heap.get? b = some o)
    (hP : ∃ ps', TriplesOk ps'.toList ∧ s'.heap.get? 272 = some (tabObj ps')) (G : AllBare s'.gens) (hos : s'.os = s₁.os) : GoodWG PySem.Challenge.rw_ff5026_01.row.claim cl mean args s₁ (.ok (.ret (.bool true))) s' := by
  obtain ⟨ps, _, hps⟩ := hP
  have hT1 := hT _ (.head _)
  refine ⟨.inl ⟨.bool true, .bool true, [], rfl, fun _ => rfl, .bool true, ?_, fun _ => ⟨List.nodup_nil, fun a ha => by cases ha⟩⟩, ⟨fun b o e => ?_, fun b o e => ?_⟩, hos, G⟩
  · with_unfolding_all rfl
  · by_cases hb : b = 272
    · subst hb
      have e2 := hT1.2
      simp only at e2
      rw [e] at e2
      obtain rfl := Option.some.inj e2
      exact .inr (.inl ⟨(hT1.1.tab hT1.2).isCodeTable, rfl, #[], ps, rfl, by rw [Array.empty_append]; exact hps⟩)
    · exact .inl (hk b o hb e)
  · by_cases hb : b = 272
    · subst hb; exact ⟨_, hps⟩
    · exact ⟨o, hk b o hb e⟩
theorem ghost_seer {h₁ : Heap} {tabs : List (Addr × Addr)} (hT : TabsAt tabs h₁) (x : h₁.NoSeer) : (ghostOf h₁ tabs).NoSeer where
  statics := let ⟨mc, a, b⟩ := x.statics; ⟨mc, ghost_ns hT a, b⟩
  mods := let ⟨mm, a, b⟩ := x.mods; ⟨mm, ghost_ns hT a, b⟩
  imp := let ⟨mb, a, b⟩ := x.imp; ⟨mb, ghost_ns hT a, b⟩
  main := let ⟨mg, bm, ob, a, b, c, d, e⟩ := x.main; ⟨mg, bm, ob, ghost_ns hT a, b, ghost_get hT c (fun q => by rw [q] at d; cases d), d, e⟩
theorem no_tabs (p : Params) : noTabs (Mine.hd.heap_39 p) = true := by kernel_rfl
end Mine

set_option maxRecDepth 100000 in
set_option maxHeartbeats 8000000 in
theorem PySem.Challenge.cw_ff5026_01_holds : PySem.Challenge.rw_ff5026_01.Holds := by
  w_on
  o_law
  o_head (kmHook Mine.hd.heap_39 [2, 3, 15, 17, 18, 20, 21, 22, 25, 26, 34, 36, 37, 39, 40, 41, 42, 43, 44, 45, 48, 49, 58, 59, 60, 62, 63, 65, 66, 67, 69, 70, 72, 73, 74, 75, 76, 77, 79, 80, 82, 83, 84, 85, 86, 87, 88, 91, 95, 100, 102, 103, 105, 106, 107, 108, 110, 111, 113, 114, 115, 116, 117, 119, 120, 122, 123, 124, 125, 127, 128, 130, 131, 132, 133, 135, 136, 138, 139, 140, 142, 143, 145, 146, 147, 148, 149, 151, 152, 154, 155, 156, 157, 158, 159, 160, 170, 171, 172, 174, 175, 177, 178, 179, 180, 182, 183, 185, 186, 187, 188, 189, 190, 192, 193, 195, 196, 199, 201, 202, 204, 205, 206, 207, 209, 210, 212, 213, 214, 215, 217, 218, 220, 221, 222, 223, 225, 226, 228, 229, 232, 234, 235, 237, 238, 239, 240, 241, 242, 244, 245, 247, 248, 249, 250, 252, 253, 255, 256, 257, 259, 260, 262, 263, 264, 266, 267, 269, 270, 271, 274, 275, 276, 277, 278, 279, 281, 282, 284, 285, 286, 288, 289, 291, 292, 293, 295, 296, 298, 299, 300, 301, 302, 303, 304, 307, 309, 310, 312, 313, 314, 317, 318, 319, 321, 322, 324, 325, 326, 329, 330, 331, 334, 335] (fun _ => by kernel_rfl) [272])
  case hw => w_witness2
  k_fill
  intro w s₀ s₁ mg mb G Y fa o pm cd doc dV kV ho hd hcd hD hmg hg args vals as hpre hlay hrd hwl hlo
  have KX := km_in_of Y
  km_tabs Y
  have X := (Ground.X G).1
  have V := (Ground.X G).2
  refine Ground.open G ?_
  intro T B D TE TW
  try (refine guard_noD D (by decide +kernel) ?_; clear D)
  have hT9 : TabsAt [(274, 272)] s₁.heap := fun q hq => by
    rw [List.mem_singleton.mp hq]
    exact ⟨codeHd_of_K (c := 274) (P := 272) KX (by kernel_rfl), hT8 272 (.head _)⟩
  have e335 : mg (Str.ofString "law") = some (.ref 335) := mg_of KX T.g (by k_is)
  have hmg' : mg (Str.ofString "law") = some (.ref fa) := hmg
  have hfa : fa = 335 := by rw [e335] at hmg'; cases hmg'; rfl
  subst hfa
  clear hmg hmg' hd hcd hD ho
  wrow_args hpre hlay hrd hwl hlo
  refine enter_call ?_
  rename IntsAre _ _ => hI
  rename Heap.IsList _ _ _ => hL
  rename PyData.layable0 _ = true => hlay0
  rename ¬ _ < _ => hlen
  show codeAny (model PySem.Challenge.rw_ff5026_01.row.prog w) { handled := none, depth := 1 + claimMargin, frames := some [], guards := some [], units := 4 } _ _ _
  refine Mine.law_ok (ghost_K hT9 KX (Mine.no_tabs _)) (ghost_top hT9 T) (fun b o e => of_hideAll _ e) (hideAll_none _ (.head _)) (ghost_code hT9).1 (Mine.ghost_seer hT9 (T.seer rfl)) rfl (hT8 272 (.head _)) ?_ ?_ (by decide) (by decide) hL hI (by omega) hlay0 ?_
  · exact True.intro
  · exact .of_eq hg
  · intro s' h1 h2 h3 h4
    exact Mine.good_end hT9 h1 h2 h3 h4
