import PyProof.Rows.All
import Wide.All
import OpenK.AllK
import Wide.FinOn
import PySem.Challenge.RW_cy0003_01
open PySem PySem.W PyProof.Rows PySem.Calls
set_option Elab.async false
set_option maxRecDepth 100000
set_option maxHeartbeats 8000000
set_option linter.unusedVariables false
namespace Mine

/-- heap kept -/
abbrev Kept (h h' : Heap) : Prop := ∀ b o, h.get? b = some o → h'.get? b = some o

theorem frKept {h₀ h h' : Heap} {L : Addr} {m : Str → Option Value} (F : Fr h₀ L h m) (k : Kept h h') : Fr h₀ L h' m :=
  ⟨F.ns.keeps k, fun b o e => k b o (F.keep b o e), F.above⟩
theorem newsKept {h₀ h h' : Heap} {L : Addr} {news : List (Addr × Obj)} (N : News h₀ L h news) (k : Kept h h') : News h₀ L h' news :=
  fun p hp => ⟨k _ _ (N p hp).1, (N p hp).2⟩

section
variable {prog : Program} {w : World} {A : Around} {E : Value → Shared → Prop} {s : Shared} {K : Frag}

/-- a call of a def that stands at the top; the frame's base is the heap at the call -/
theorem enter0 {Q : Value → Shared → Prop} {name qual : Str} {params : Arguments} {body : List Stmt} {scope : Scope} {dV kV doc pm cdv ct oc : Value} {an od : Option Addr} {osl : Array (Option Value)} {f : Addr} {pos : List Value} {kw : List (Str × Value)} {binds : List (Str × Value)}
    (X : K.In s.heap) (hlim : s.heap.NoLimit) (hroom : A.depth < recursionLimit)
    (ho : K.lookup f = some ⟨oc, od, .func (fnOf name qual params body scope dV kV doc pm an cdv ct), osl⟩) (hcd : codeIn K cdv qual = true)
    (hbind : BindsTo s (fnOf name qual params body scope dV kV doc pm an cdv ct) ⟨pos, kw⟩ binds) (hloc : ∀ y ∈ binds, scope.names.lookup y.1 = some .local)
    (h : ∀ h₁ tk, Fr s.heap s.heap.objs.size h₁ (fun y => binds.reverse.lookup y) →
      wpAny (model prog w) (A.deeper (envOf qual scope s.heap.objs.size f cdv)) (execs body (envOf qual scope s.heap.objs.size f cdv))
        (fun fl s' => Q (match fl with | .ret v => v | _ => .none) s') (fun _ _ => False)
        { s with heap := h₁, toks := tk })
    (hco : scope.isCoroutine = false) (hgen : scope.isGenerator = false) (hk : scope.kind = .function)
    (hcell : ∀ x ∈ scope.names, x.2 ≠ .cell) :
    wpAny (model prog w) A (call (.ref f) pos kw) Q E s := by
  refine wpAny_call (codeAny_call_def (fd := fnOf name qual params body scope dV kV doc pm an cdv ct) (body := body) (binds := binds) hroom (X _ _ ho) rfl hlim (codeRec_of X hcd) rfl hbind hcell hloc (fun h₁ hns hk₁ => ?_) hco hgen hk)
  exact wpAny_mono (h h₁ _ ⟨hns, hk₁, Nat.le_refl _⟩) (fun _ _ x => x) (fun _ _ x => x.elim)
end

theorem binds_kw {s : Shared} {fd : FuncData} {args : Args} {binds : List (Str × Value)} {T D : Addr} {o oD : Obj} {items : Array Value} {n : Nat} {part : Option Value}
    {k : Option (Array Value) → Sem (List (Str × Value))} {k2 : Obj → Sem (List (Str × Value))}
    (ho : s.heap.get? T = some o) (hs' : o.data = .seq items n) (hD : s.heap.get? D = some oD)
    (h₁ : bindArgs fd args = seqItems? (.ref T) >>= k) (h₂ : k (some items) = loadPart D part >>= k2) (h₃ : k2 oD = pure binds) : BindsTo s fd args binds :=
  fun _ _ _ _ hq => by
    rw [h₁]
    refine wpAny_bind (wpAny_seqItems ho hs' ?_)
    rw [h₂]
    refine wpAny_bind (wpAny_loadPart hD ?_)
    rw [h₃]
    exact wpAny_pure hq

theorem fr_put {h₀ h : Heap} {L : Addr} {m : Str → Option Value} {v : Value} (n : Str) (F : Fr h₀ L h m) (e : m n = some v) : Fr h₀ L h (fun y => if y = n then some v else m y) := by
  have : (fun y => if y = n then some v else m y) = m := by
    funext y
    by_cases q : y = n
    · subst q; simp [e]
    · simp [q]
  rw [this]; exact F

/-- the binary search, as the code runs it: p says «go left» -/
def bs (p : Nat → Bool) (lo hi : Nat) : Nat :=
  if lo < hi then
    if p ((lo + hi) / 2) then bs p lo ((lo + hi) / 2) else bs p ((lo + hi) / 2 + 1) hi
  else lo
termination_by hi - lo
decreasing_by all_goals omega

theorem bs_done {p : Nat → Bool} {lo hi : Nat} (h : ¬ lo < hi) : bs p lo hi = lo := by rw [bs, if_neg h]
theorem bs_left {p : Nat → Bool} {lo hi : Nat} (h : lo < hi) (hp : p ((lo + hi) / 2) = true) : bs p lo hi = bs p lo ((lo + hi) / 2) := by rw [bs, if_pos h, if_pos hp]
theorem bs_right {p : Nat → Bool} {lo hi : Nat} (h : lo < hi) (hp : p ((lo + hi) / 2) = false) : bs p lo hi = bs p ((lo + hi) / 2 + 1) hi := by rw [bs, if_pos h, if_neg (by simp [hp])]
theorem fdiv2 (lo hi : Nat) : Int.fdiv ((lo : Int) + (hi : Int)) 2 = (((lo + hi) / 2 : Nat) : Int) := by
  rw [Int.fdiv_eq_ediv_of_nonneg _ (by omega)]; omega

section
variable {prog : Program} {w : World} {A : Around} {E : Value → Shared → Prop} {s : Shared} {env : Env} {h₀ : Heap} {x : Str} {body : List Stmt} {Q : Flow → Shared → Prop}

/-- what a turn must leave: I is the iterator, oI what it is -/
def Turn (h₀ : Heap) (L : Addr) (s : Shared) (I : Addr) (oI : Obj) (Jn : (Str → Option Value) → List (Addr × Obj) → Prop) (Q : Flow → Shared → Prop) (f : Flow) (s₂ : Shared) : Prop :=
  match f with
  | .ret v => Q (.ret v) s₂
  | .brk => Q .next s₂
  | _ => ∃ h' tk m' nx, s₂ = { s with heap := h', toks := tk } ∧ Fr h₀ L h' m' ∧ News h₀ L h' (nx ++ [(I, oI)]) ∧ (∀ p ∈ nx, p.1 ≠ I) ∧ Jn m' nx

theorem iter_led {l : Addr} {vs : List Value} {ol : Obj} {nn : Nat} {m₀ : Str → Option Value} {news : List (Addr × Obj)} (J : Nat → (Str → Option Value) → List (Addr × Obj) → Prop)
    (hh : A.handled = none) (hoc : ol.cls = .type "list") (hod : ol.data = .seq vs.toArray nn) (hl : s.heap.get? l = some ol) (hlL : l ≠ env.locals) (F : Fr h₀ env.locals s.heap m₀) (N : News h₀ env.locals s.heap news) (hj : J 0 m₀ news)
    (hlJ : ∀ i m nx, J i m nx → (l, ol) ∈ nx ∨ h₀.get? l = some ol)
    (turn : ∀ i v m₁ nx h tk I oI, vs[i]? = some v → J i m₁ nx → (∀ p ∈ nx, p.1 ≠ I) → I < h.objs.size → Fr h₀ env.locals h (fun y => if y = x then some v else m₁ y) → News h₀ env.locals h (nx ++ [(I, oI)]) →
      wpAny (model prog w) A (execs body env) (Turn h₀ env.locals s I oI (J (i + 1)) Q) E { s with heap := h, toks := tk })
    (done : ∀ m₁ nx h tk, J vs.length m₁ nx → Fr h₀ env.locals h m₁ → News h₀ env.locals h nx → Q .next { s with heap := h, toks := tk }) :
    wpAny (model prog w) A (pyIter (.ref l)) (fun it s₂ => LoopAtV prog w A h₀ env x body Q E it s₂) E s := by
  have hls : s.heap.IsList l vs.toArray := ⟨_, hl, hoc, nn, hod⟩
  have hne : l ≠ s.heap.objs.size := Nat.ne_of_lt (Heap.lt_size hl)
  refine wpAny_pyIter_list hls ?_
  have W := Walks.list (prog := prog) (w := w) hh s.heap.objs.size l hne vs.toArray
  rw [List.size_toArray] at W
  refine ⟨_, _, _, vs.length, _, _, m₀, news, J, rfl, W, ?_, ?_, ?_, ⟨⟨_, Heap.get?_push_size _ rfl, rfl, rfl⟩, hls.at fun o e => Heap.get?_push_of_some _ e⟩, F.push _, (fun p hp => ⟨Heap.get?_push_of_some _ (N p hp).1, (N p hp).2⟩), hj, ?_, ?_⟩
  · intro hm
    rcases List.mem_cons.mp hm with e | hm
    · exact absurd F.ns.lt (e ▸ Nat.lt_irrefl _)
    · exact hlL (List.mem_singleton.mp hm).symm
  · intro b hb
    rw [List.mem_singleton.mp hb]
    exact next_is_new F
  · intro p hp hI
    exact absurd (Heap.lt_size (N p hp).1) ((List.mem_singleton.mp hI) ▸ Nat.lt_irrefl _)
  · rintro i v m₁ nx s₁ own ⟨hh', tk', rfl⟩ hin hP hJ hoff hown hget hfp hst F₁ N₁
    have hv : vs[i]? = some v := by simpa using hP
    have hoffI : ∀ p ∈ nx, p.1 ≠ s.heap.objs.size := fun p hp e => hoff p hp (by rw [e]; exact List.mem_singleton.mpr rfl)
    obtain ⟨⟨oI, hoI, _⟩, _⟩ := hst
    have hI₀ : h₀.get? s.heap.objs.size = none := next_is_new F
    have hIown : (s.heap.objs.size, oI) ∈ own := hfp _ (.head _) hI₀ _ hoI
    have NI := N₁ _ (List.mem_append_left _ hIown)
    refine wpAny_mono (turn i v m₁ nx hh' tk' _ oI hv hJ hoffI (Heap.lt_size hoI) F₁ (fun p hp => ?_)) (fun f s₂ p => ?_) fun _ _ e => e
    · rcases List.mem_append.mp hp with hp | hp
      · exact N₁ p (List.mem_append_right _ hp)
      · rw [List.mem_singleton.mp hp]; exact NI
    · have fin : (∃ h' tk m' nx, s₂ = { s with heap := h', toks := tk } ∧ Fr h₀ env.locals h' m' ∧ News h₀ env.locals h' (nx ++ [(s.heap.objs.size, oI)]) ∧ (∀ p ∈ nx, p.1 ≠ s.heap.objs.size) ∧ J (i + 1) m' nx) →
          LoopStepU h₀ env.locals [s.heap.objs.size] own (J (i + 1)) { s with heap := hh', toks := tk' } .next s₂ := by
        rintro ⟨h', tk, m', nx', rfl, F', N', hne', hJ'⟩
        refine ⟨rfl, h', tk, m', nx', rfl, F', fun p hp => ?_, fun p hp e => hne' p hp (List.mem_singleton.mp e), hJ'⟩
        rcases List.mem_append.mp hp with hp | hp
        · have hpo := hown p hp
          have hpg := hget p hp
          rcases List.mem_cons.mp hpo with e | e
          · have : p = (s.heap.objs.size, oI) := Prod.ext e (by rw [e] at hpg; exact Option.some.inj (hpg.symm.trans hoI))
            rw [this]
            exact N' _ (List.mem_append_right _ (.head _))
          · have e := List.mem_singleton.mp e
            rcases hlJ _ _ _ hJ with q | q
            · have q1 := (N₁ _ (List.mem_append_right _ q)).1
              have : p = (l, ol) := Prod.ext e (by rw [e] at hpg; exact Option.some.inj (hpg.symm.trans q1))
              rcases hlJ _ _ _ hJ' with q' | q'
              · rw [this]; exact N' _ (List.mem_append_left _ q')
              · have := (N₁ _ (List.mem_append_right _ q)).2.2
                rw [q'] at this; cases this
            · have := (N₁ p (List.mem_append_left _ hp)).2.2
              rw [e, q] at this; cases this
        · exact N' _ (List.mem_append_left _ hp)
      cases f with
      | ret v => exact .ret p
      | brk => exact .brk p
      | next => exact .next (fin p)
      | cont => exact .cont (fin p)
  · rintro h' tk m' nx' F' N' _ hJ
    exact done m' nx' h' tk hJ F' N'
end

section
variable {prog : Program} {w : World} {A : Around} {E : Value → Shared → Prop} {s : Shared} {K : Frag}
/-- a call of a def that stands at the top and may change the objects at as -/
theorem enterH {Q : Value → Shared → Prop} {name qual : Str} {params : Arguments} {body : List Stmt} {scope : Scope} {dV kV doc pm cdv ct oc : Value} {an od : Option Addr} {osl : Array (Option Value)} {f : Addr} {pos : List Value} {kw : List (Str × Value)} {binds : List (Str × Value)} (as : List Addr)
    (X : K.In (hideAll s.heap as)) (hlim : (hideAll s.heap as).NoLimit) (hroom : A.depth < recursionLimit)
    (ho : K.lookup f = some ⟨oc, od, .func (fnOf name qual params body scope dV kV doc pm an cdv ct), osl⟩) (hcd : codeIn K cdv qual = true)
    (hbind : BindsTo s (fnOf name qual params body scope dV kV doc pm an cdv ct) ⟨pos, kw⟩ binds) (hloc : ∀ y ∈ binds, scope.names.lookup y.1 = some .local)
    (h : ∀ h₁ tk, Fr (hideAll s.heap as) s.heap.objs.size h₁ (fun y => binds.reverse.lookup y) → Kept s.heap h₁ →
      wpAny (model prog w) (A.deeper (envOf qual scope s.heap.objs.size f cdv)) (execs body (envOf qual scope s.heap.objs.size f cdv))
        (fun fl s' => Q (match fl with | .ret v => v | _ => .none) s') (fun _ _ => False)
        { s with heap := h₁, toks := tk })
    (hco : scope.isCoroutine = false) (hgen : scope.isGenerator = false) (hk : scope.kind = .function)
    (hcell : ∀ x ∈ scope.names, x.2 ≠ .cell) :
    wpAny (model prog w) A (call (.ref f) pos kw) Q E s := by
  have X' : K.In s.heap := X.keeps fun b o e => of_hideAll as e
  refine wpAny_call (codeAny_call_def (fd := fnOf name qual params body scope dV kV doc pm an cdv ct) (body := body) (binds := binds) hroom (X' _ _ ho) rfl (hlim.keeps fun b o e => of_hideAll as e) (codeRec_of X' hcd) rfl hbind hcell hloc (fun h₁ hns hk₁ => ?_) hco hgen hk)
  exact wpAny_mono (h h₁ _ ⟨hns, fun b o e => hk₁ b o (of_hideAll as e), Nat.le_of_eq (hideAll_size _ _)⟩ hk₁) (fun _ _ x => x) (fun _ _ x => x.elim)
end

theorem upd_mid {d : Addr} {o o' : Obj} {post : List (Addr × Obj)} : ∀ {pre : List (Addr × Obj)}, (∀ p ∈ pre, p.1 ≠ d) → (∀ p ∈ post, p.1 ≠ d) → Upd d o o' (pre ++ (d, o) :: post) (pre ++ (d, o') :: post)
  | [], _, h2 => .head h2
  | p :: _, h1, h2 => .tail (h1 p (.head _)) (upd_mid (fun q hq => h1 q (.tail _ hq)) h2)

/-- a row of a tableau, as it lies in the heap -/
structure RowD where
  a : Addr
  vs : List Value
  ns : List Int
  ep : Nat
def rowE (r : RowD) : Addr × Obj := (r.a, listOf r.vs.toArray r.ep)
def tabL (R : Addr) (ep : Nat) (rows : List RowD) : List (Addr × Obj) := (R, listOf ((rows.map (·.a)).map Value.ref).toArray ep) :: rows.map rowE
theorem tabL_mid (R : Addr) (ep : Nat) (pre : List RowD) (r : RowD) (post : List RowD) (more : List (Addr × Obj)) :
    tabL R ep (pre ++ r :: post) ++ more = ((R, listOf (((pre ++ r :: post).map (·.a)).map Value.ref).toArray ep) :: pre.map rowE) ++ (r.a, listOf r.vs.toArray r.ep) :: (post.map rowE ++ more) := by
  simp [tabL, rowE]
def bisR (r : List Int) (x : Int) : Nat := bs (fun i => decide (x < r.getD i 0)) 0 r.length
def insT : List (List Int) → Int → List (List Int)
  | [], x => [[x]]
  | r :: rs, x => if bisR r x = r.length then (r ++ [x]) :: rs else (r.set (bisR r x) x) :: insT rs (r.getD (bisR r x) 0)
theorem bs_le {p : Nat → Bool} {lo hi : Nat} (h : lo ≤ hi) : lo ≤ bs p lo hi ∧ bs p lo hi ≤ hi := by
  induction lo, hi using bs.induct p with
  | case1 lo hi h1 h2 ih => rw [bs_left h1 h2]; have := ih (by omega); omega
  | case2 lo hi h1 h2 ih => rw [bs_right h1 (by simpa using h2)]; have := ih (by omega); omega
  | case3 lo hi h1 => rw [bs_done h1]; omega
theorem bisR_le (r : List Int) (x : Int) : bisR r x ≤ r.length := (bs_le (Nat.zero_le _)).2

theorem insT_len : ∀ (T : List (List Int)) (x : Int), (insT T x).length ≤ T.length + 1
  | [], x => by simp [insT]
  | r :: T, x => by
    have ih := insT_len T (r.getD (bisR r x) 0)
    unfold insT
    split
    · simp
    · simp only [List.length_cons]; omega
theorem insT_lens {n : Nat} : ∀ (T : List (List Int)) (x : Int), (∀ r ∈ T, r.length ≤ n) → ∀ r ∈ insT T x, r.length ≤ n + 1
  | [], x, _ => by simp [insT]
  | r :: T, x, h => by
    have ih := insT_lens T (r.getD (bisR r x) 0) (fun q hq => h q (.tail _ hq))
    have hr := h r (.head _)
    unfold insT
    split
    · intro q hq
      rcases List.mem_cons.mp hq with rfl | hq
      · simp; omega
      · have := h q (.tail _ hq); omega
    · intro q hq
      rcases List.mem_cons.mp hq with rfl | hq
      · simp; omega
      · exact ih q hq

theorem fr_but {h₀ h h' : Heap} {L : Addr} {m : Str → Option Value} {as : List Addr} (F : Fr h₀ L h m) (k : ∀ b o, h.get? b = some o → b ∉ as → h'.get? b = some o) (hL : L ∉ as) (ha : ∀ a ∈ as, h₀.get? a = none) : Fr h₀ L h' m := by
  obtain ⟨⟨oL, es, epo, hg, r⟩, kp, ab⟩ := F
  refine ⟨⟨oL, es, epo, k _ _ hg hL, r⟩, fun b o e => k b o (kp b o e) fun q => ?_, ab⟩
  have := ha b q
  rw [e] at this; cases this

section
open PySem.Spec PyProof.V
def rowDat (r : List Int) : PyData := .list (r.map PyData.int)
theorem tab_canLay : ∀ T : List (List Int), PyData.canLayAll0 (T.map rowDat) = true
  | [] => rfl
  | r :: T => by simp [rowDat, PyData.canLayAll0, PyData.canLay0, ke_canLayAll0 r]; exact tab_canLay T
theorem tab_depth : ∀ T : List (List Int), PyData.depthAll (T.map rowDat) ≤ 1
  | [] => by simp [PyData.depthAll]
  | r :: T => by
    have := tab_depth T
    simp only [List.map_cons, PyData.depthAll]
    simp only [rowDat, PyData.depth, ke_depthAll] at *
    omega
theorem tab_shaped (T : List (List Int)) : SeqAt.shaped (.list (T.map rowDat)) = true := by
  have := tab_depth T
  simp [SeqAt.shaped, PyData.canLay0, PyData.depth, tab_canLay]
  omega
theorem tab_eqv : ∀ T S : List (List Int), PyData.eqvAll (T.map rowDat) (S.map rowDat) = decide (T = S)
  | [], [] => by simp [PyData.eqvAll]
  | [], _ :: _ => by simp [PyData.eqvAll]
  | _ :: _, [] => by simp [PyData.eqvAll]
  | a :: r, b :: t => by
    simp only [List.map_cons, PyData.eqvAll, tab_eqv r t]
    simp only [rowDat, PyData.eqv, ked_eqvAll]
    by_cases h : a = b <;> by_cases h' : r = t <;> simp [h, h']
theorem tab_readsAll {h : Heap} : ∀ {rows : List RowD}, (∀ r ∈ rows, h.get? r.a = some (listOf r.vs.toArray r.ep) ∧ IntsAre r.vs r.ns) → ∃ as, ReadsAll h ((rows.map (·.a)).map Value.ref) ((rows.map (·.ns)).map rowDat) as
  | [], _ => ⟨[], .nil⟩
  | r :: rows, hr => by
    obtain ⟨as, ih⟩ := tab_readsAll (rows := rows) fun q hq => hr q (.tail _ hq)
    have h1 := hr r (.head _)
    exact ⟨_, .cons (reads_of_ints ⟨_, h1.1, rfl, r.ep, rfl⟩ h1.2) ih⟩
theorem tab_reads {h : Heap} {R : Addr} {ep : Nat} {rows : List RowD} (hT : ∀ p ∈ tabL R ep rows, h.get? p.1 = some p.2) (hi : ∀ r ∈ rows, IntsAre r.vs r.ns) : ∃ as, Reads h (.ref R) (.list ((rows.map (·.ns)).map rowDat)) as := by
  obtain ⟨as, ih⟩ := tab_readsAll (h := h) (rows := rows) fun r hr => ⟨hT (rowE r) (.tail _ (List.mem_map_of_mem (f := rowE) hr)), hi r hr⟩
  exact ⟨_, Reads.list (hT _ (.head _)) rfl rfl (by simpa using ih)⟩
variable {prog : Program} {w : World} {A : Around} {E : Value → Shared → Prop} {s : Shared} {Q : Value → Shared → Prop}
theorem tab_ne {R R' : Addr} {ep ep' : Nat} {rows rows' : List RowD} (hT : ∀ p ∈ tabL R ep rows, s.heap.get? p.1 = some p.2) (hi : ∀ r ∈ rows, IntsAre r.vs r.ns) (hT' : ∀ p ∈ tabL R' ep' rows', s.heap.get? p.1 = some p.2) (hi' : ∀ r ∈ rows', IntsAre r.vs r.ns)
    (hu : A.units + 64 < cLine) (h : Q (.bool (!decide (rows.map (·.ns) = rows'.map (·.ns)))) s) : wpAny (model prog w) A (compareOp .NotEq (.ref R) (.ref R')) Q E s := by
  obtain ⟨as, h1⟩ := tab_reads hT hi
  obtain ⟨as', h2⟩ := tab_reads hT' hi'
  refine ne_dataH h1 h2 (tab_shaped _) (tab_shaped _) hu ?_
  simp only [PyData.eqv, tab_eqv]
  exact h
theorem tab_eq {R R' : Addr} {ep ep' : Nat} {rows rows' : List RowD} (hT : ∀ p ∈ tabL R ep rows, s.heap.get? p.1 = some p.2) (hi : ∀ r ∈ rows, IntsAre r.vs r.ns) (hT' : ∀ p ∈ tabL R' ep' rows', s.heap.get? p.1 = some p.2) (hi' : ∀ r ∈ rows', IntsAre r.vs r.ns)
    (hu : A.units + 64 < cLine) (h : Q (.bool (decide (rows.map (·.ns) = rows'.map (·.ns)))) s) : wpAny (model prog w) A (compareOp .Eq (.ref R) (.ref R')) Q E s := by
  obtain ⟨as, h1⟩ := tab_reads hT hi
  obtain ⟨as', h2⟩ := tab_reads hT' hi'
  refine eq_dataH h1 h2 (tab_shaped _) (tab_shaped _) hu ?_
  simp only [PyData.eqv, tab_eqv]
  exact h
end

section
variable {prog : Program} {w : World} {A : Around} {E : Value → Shared → Prop} {s : Shared} {env : Env} {h₀ : Heap} {x : Str} {body : List Stmt} {Q : Flow → Shared → Prop}
theorem iter_range_led {r : Addr} {a₀ b₀ : Int} {t₀ u₀ v₀ : Tok} {n : Nat} {m₀ : Str → Option Value} {news : List (Addr × Obj)} (J : Nat → (Str → Option Value) → List (Addr × Obj) → Prop)
    (hh : A.handled = none) (hr : IsRange s.heap r a₀ b₀ 1 t₀ u₀ v₀) (hsmall : Builtin.Range.small a₀ b₀ 1 = true) (hn : Builtin.Range.rangeSize a₀ b₀ 1 = (n : Int)) (F : Fr h₀ env.locals s.heap m₀) (N : News h₀ env.locals s.heap news) (hj : J 0 m₀ news)
    (turn : ∀ (i : Nat) t m₁ nx h tk I oI, i < n → J i m₁ nx → (∀ p ∈ nx, p.1 ≠ I) → I < h.objs.size → Fr h₀ env.locals h (fun y => if y = x then some (.int (a₀ + i) t) else m₁ y) → News h₀ env.locals h (nx ++ [(I, oI)]) →
      wpAny (model prog w) A (execs body env) (Turn h₀ env.locals s I oI (J (i + 1)) Q) E { s with heap := h, toks := tk })
    (done : ∀ m₁ nx h tk, J n m₁ nx → Fr h₀ env.locals h m₁ → News h₀ env.locals h nx → Q .next { s with heap := h, toks := tk }) :
    wpAny (model prog w) A (pyIter (.ref r)) (fun it s₂ => LoopAtV prog w A h₀ env x body Q E it s₂) E s := by
  refine wpAny_pyIter_range hr hsmall ?_
  have W : Walks prog w A s.heap.objs.size [s.heap.objs.size] [s.heap.objs.size] n (fun i v => i < n ∧ ∃ t, v = .int (a₀ + i * 1) t)
      (fun i h => IsRangeIter h s.heap.objs.size (a₀ + (i : Nat) * 1) ((n : Int) - (i : Nat)) 1) := (Walks.range hh _ a₀ 1 n).bound
  refine ⟨_, _, _, n, _, _, m₀, news, J, rfl, W, ?_, ?_, ?_, (by show IsRangeIter _ _ _ _ _; rw [hn]; simpa using Heap.get?_push_size _ rfl), F.push _, (fun p hp => ⟨Heap.get?_push_of_some _ (N p hp).1, (N p hp).2⟩), hj, ?_, ?_⟩
  · intro hm
    exact absurd F.ns.lt ((List.mem_singleton.mp hm) ▸ Nat.lt_irrefl _)
  · intro b hb
    rw [List.mem_singleton.mp hb]
    exact next_is_new F
  · intro p hp hI
    exact absurd (Heap.lt_size (N p hp).1) ((List.mem_singleton.mp hI) ▸ Nat.lt_irrefl _)
  · rintro i v m₁ nx s₁ own ⟨hh', tk', rfl⟩ hin ⟨_, t, rfl⟩ hJ hoff hown hget hfp hst F₁ N₁
    have hoffI : ∀ p ∈ nx, p.1 ≠ s.heap.objs.size := fun p hp e => hoff p hp (by rw [e]; exact List.mem_singleton.mpr rfl)
    obtain ⟨oI, hst'⟩ : ∃ oI, hh'.get? s.heap.objs.size = some oI := ⟨_, hst⟩
    have hI₀ : h₀.get? s.heap.objs.size = none := next_is_new F
    have hIown := hfp _ (.head _) hI₀ _ hst'
    have NI := N₁ _ (List.mem_append_left _ hIown)
    rw [Int.mul_one] at F₁
    refine wpAny_mono (turn i t m₁ nx hh' tk' _ oI hin hJ hoffI (Heap.lt_size hst') F₁ (fun p hp => ?_)) (fun f s₂ p => ?_) fun _ _ e => e
    · exact (List.mem_append.mp hp).elim (fun hp => N₁ p (List.mem_append_right _ hp)) fun hp => by rw [List.mem_singleton.mp hp]; exact NI
    · have fin : (∃ h' tk m' nx', s₂ = { s with heap := h', toks := tk } ∧ Fr h₀ env.locals h' m' ∧ News h₀ env.locals h' (nx' ++ [(s.heap.objs.size, oI)]) ∧ (∀ p ∈ nx', p.1 ≠ s.heap.objs.size) ∧ J (i + 1) m' nx') →
          LoopStepU h₀ env.locals [s.heap.objs.size] own (J (i + 1)) { s with heap := hh', toks := tk' } .next s₂ := by
        rintro ⟨h', tk, m', nx', rfl, F', N', hne', hJ'⟩
        refine ⟨rfl, h', tk, m', nx', rfl, F', fun p hp => ?_, fun p hp e => hne' p hp (List.mem_singleton.mp e), hJ'⟩
        rcases List.mem_append.mp hp with hp | hp
        · have e := List.mem_singleton.mp (hown p hp)
          have hpg := hget p hp
          rw [e] at hpg
          rw [show p = (s.heap.objs.size, p.2) from Prod.ext e rfl, Option.some.inj (hpg.symm.trans hst')]
          exact N' _ (List.mem_append_right _ (.head _))
        · exact N' _ (List.mem_append_left _ hp)
      cases f with
      | ret v => exact .ret p
      | brk => exact .brk p
      | next => exact .next (fin p)
      | cont => exact .cont (fin p)
  · rintro h' tk m' nx' F' N' _ hJ
    exact done m' nx' h' tk hJ F' N'
end

theorem three_of (ns : List Int) (i : Nat) (h : i + 2 < ns.length) :
    ∃ a b c, ns[i]? = some a ∧ ns[i + 1]? = some b ∧ ns[i + 2]? = some c ∧ List.take (min ((i : Int) + 3).toNat ns.length - (i : Int).toNat) (List.drop (i : Int).toNat ns) = [a, b, c] := by
  refine ⟨ns[i], ns[i + 1], ns[i + 2], by simp, by simp, by simp, ?_⟩
  rw [show (i : Int).toNat = i by omega, show ((i : Int) + 3).toNat = i + 3 by omega, show min (i + 3) ns.length - i = 3 by omega]
  rw [List.drop_eq_getElem_cons (by omega), List.drop_eq_getElem_cons (by omega), List.drop_eq_getElem_cons (by omega)]
  rfl
theorem ints3 {ws : List Value} {a b c : Int} (h : IntsAre ws [a, b, c]) : ∃ t1 t2 t3, ws = [.int a t1, .int b t2, .int c t3] := by
  cases h with
  | cons _ t1 h => cases h with
    | cons _ t2 h => cases h with
      | cons _ t3 h => cases h; exact ⟨t1, t2, t3, rfl⟩
end Mine
namespace Mine
section
variable {prog : Program} {w : World} {A : Around} {s : Shared} {env : Env} {h₀ : Heap} {L : Addr} {target : PySem.Expr} {body : List Stmt} {Q : Flow → Shared → Prop}

/-- a for over anything that is walked, with any target; the turn begins at the target's assignment -/
theorem loop_core {I : Addr} {fp : List Addr} {n : Nat} {P : Nat → Value → Prop} {St : Nat → Heap → Prop} {src : Addr → Option Obj} {m₀ : Str → Option Value} {news : List (Addr × Obj)} {E₁ : Value → Shared → Prop}
    (J : Nat → (Str → Option Value) → List (Addr × Obj) → Prop) (W : Walks prog w A I fp [I] n P St) (hlet : ∀ it v, letOwnedTupleGo target it v = pure ())
    (hIo : ∀ i h, St i h → ∃ o, h.get? I = some o) (hsrc : ∀ b ∈ fp, b ≠ I → ∃ o, src b = some o)
    (hkeep : ∀ i m nx h, J i m nx → Fr h₀ L h m → News h₀ L h nx → ∀ b ∈ fp, b ≠ I → h.get? b = src b)
    (hIL : I ≠ L) (hI₀ : h₀.get? I = none) (hst : St 0 s.heap) (F : Fr h₀ L s.heap m₀) (N : News h₀ L s.heap news) (hnI : ∀ p ∈ news, p.1 ≠ I) (hj : J 0 m₀ news)
    (turn : ∀ i v m₁ nx h tk oI, i < n → P i v → J i m₁ nx → (∀ p ∈ nx, p.1 ≠ I) → I < h.objs.size → Fr h₀ L h m₁ → News h₀ L h (nx ++ [(I, oI)]) →
      wpAny (model prog w) A (assign target env v) (fun _ s₂ => wpAny (model prog w) A (execs body env) (Turn h₀ L s I oI (J (i + 1)) Q) (fun _ _ => False) s₂) (fun _ _ => False) { s with heap := h, toks := tk })
    (done : ∀ m₁ nx h tk, J n m₁ nx → Fr h₀ L h m₁ → News h₀ L h nx → Q .next { s with heap := h, toks := tk }) :
    codeAny (model prog w) A (.forLoop target (.ref I) body [] env) (fun r s' => match r with | .ok f => Q f s' | .error e => E₁ e s') s := by
  have hLw : L ≠ I := Ne.symm hIL
  have old : ∀ b o, h₀.get? b = some o → b ≠ I := fun b o e q => by rw [q, hI₀] at e; cases e
  refine codeAny_forLoop
    (fun k s' => ∃ h' tk m' nx i, s' = { s with heap := h', toks := tk } ∧ St i h' ∧ Fr h₀ L h' m' ∧ News h₀ L h' nx ∧ (∀ p ∈ nx, p.1 ≠ I) ∧ J i m' nx ∧ i ≤ n ∧ k = n + 1 - i) ?_ (n + 1)
    ⟨s.heap, s.toks, m₀, news, 0, rfl, hst, F, N, hnI, hj, Nat.zero_le _, rfl⟩ (hlet _)
  rintro k s' ⟨h', tk, m', nx, i, rfl, hst', F', N', hnx, hJ, hi, rfl⟩
  have next : ∀ h₁ : Heap, (∀ b o, b ∉ [I] → h'.get? b = some o → h₁.get? b = some o) → Fr h₀ L h₁ m' ∧ News h₀ L h₁ nx := fun h₁ hk₁ =>
    ⟨⟨F'.ns.at' fun o e => hk₁ _ o (by simpa using hLw) e, fun b o e => hk₁ b o (by simpa using old b o e) (F'.keep b o e), F'.above⟩, fun p hp => ⟨hk₁ _ _ (by simpa using hnx p hp) (N' p hp).1, (N' p hp).2⟩⟩
  by_cases hlt : i < n
  · refine W.item i _ _ _ hlt hst' fun v h₁ tk₁ hP hst₁ hk₁ => ?_
    obtain ⟨F₁, N₁⟩ := next h₁ hk₁
    obtain ⟨oI, hoI⟩ := hIo _ _ hst₁
    have NI : News h₀ L h₁ (nx ++ [(I, oI)]) := fun p hp => by
      rcases List.mem_append.mp hp with hp | hp
      · exact N₁ p hp
      · rw [List.mem_singleton.mp hp]; exact ⟨hoI, hIL, hI₀⟩
    refine wpAny_mono (turn i v m' nx h₁ tk₁ oI hlt hP hJ hnx (Heap.lt_size hoI) F₁ NI) (fun _ s₂ h₂ => wpAny_mono h₂ (fun f s₃ h₃ => ?_) fun _ _ e => e.elim) fun _ _ e => e.elim
    have fin : (∃ h' tk m' nx', s₃ = { s with heap := h', toks := tk } ∧ Fr h₀ L h' m' ∧ News h₀ L h' (nx' ++ [(I, oI)]) ∧ (∀ p ∈ nx', p.1 ≠ I) ∧ J (i + 1) m' nx') →
        ∃ k, k < n + 1 - i ∧ ∃ h' tk m' nx i, s₃ = { s with heap := h', toks := tk } ∧ St i h' ∧ Fr h₀ L h' m' ∧ News h₀ L h' nx ∧ (∀ p ∈ nx, p.1 ≠ I) ∧ J i m' nx ∧ i ≤ n ∧ k = n + 1 - i := by
      rintro ⟨h₄, tk₄, m₄, nx₄, rfl, F₄, N₄, hn₄, hJ₄⟩
      refine ⟨n + 1 - (i + 1), by omega, h₄, tk₄, m₄, nx₄, i + 1, rfl, ?_, F₄, fun p hp => N₄ p (List.mem_append_left _ hp), hn₄, hJ₄, hlt, rfl⟩
      refine W.frame _ _ _ hst₁ fun b hb o e => ?_
      by_cases q : b = I
      · subst q
        have := (N₄ (b, oI) (List.mem_append_right _ (.head _))).1
        rw [hoI] at e
        rw [← Option.some.inj e]; exact this
      · obtain ⟨o', ho'⟩ := hsrc b hb q
        have e1 := hk₁ b o' (by simpa using q) ((hkeep _ _ _ _ hJ F' N' b hb q).trans ho')
        rw [hkeep _ _ _ _ hJ₄ F₄ (fun p hp => N₄ p (List.mem_append_left _ hp)) b hb q, ho']
        exact e1.symm.trans e
    cases f with
    | ret v => exact h₃
    | brk => exact h₃
    | cont => exact fin h₃
    | next => exact fin h₃
  · obtain rfl : i = n := by omega
    refine W.done _ _ _ hst' fun h₁ tk₁ hk₁ => wpAny_execs_nil ?_
    obtain ⟨F₁, N₁⟩ := next h₁ hk₁
    exact done m' nx h₁ tk₁ hJ F₁ N₁

/-- over a list -/
theorem iter_list {l : Addr} {vs : List Value} {ol : Obj} {nn : Nat} {m₀ : Str → Option Value} {news : List (Addr × Obj)} {E₁ : Value → Shared → Prop} (J : Nat → (Str → Option Value) → List (Addr × Obj) → Prop)
    (hlet : ∀ it v, letOwnedTupleGo target it v = pure ()) (hh : A.handled = none) (hoc : ol.cls = .type "list") (hod : ol.data = .seq vs.toArray nn) (hl : s.heap.get? l = some ol) (F : Fr h₀ L s.heap m₀) (N : News h₀ L s.heap news) (hj : J 0 m₀ news)
    (hlJ : ∀ i m nx, J i m nx → (l, ol) ∈ nx ∨ h₀.get? l = some ol)
    (turn : ∀ i v m₁ nx h tk I oI, vs[i]? = some v → J i m₁ nx → (∀ p ∈ nx, p.1 ≠ I) → I < h.objs.size → Fr h₀ L h m₁ → News h₀ L h (nx ++ [(I, oI)]) →
      wpAny (model prog w) A (assign target env v) (fun _ s₂ => wpAny (model prog w) A (execs body env) (Turn h₀ L s I oI (J (i + 1)) Q) (fun _ _ => False) s₂) (fun _ _ => False) { s with heap := h, toks := tk })
    (done : ∀ m₁ nx h tk, J vs.length m₁ nx → Fr h₀ L h m₁ → News h₀ L h nx → Q .next { s with heap := h, toks := tk }) :
    wpAny (model prog w) A (pyIter (.ref l)) (fun it s₂ => codeAny (model prog w) A (.forLoop target it body [] env) (fun r s' => match r with | .ok f => Q f s' | .error e => E₁ e s') s₂) (fun _ _ => False) s := by
  have hls : s.heap.IsList l vs.toArray := ⟨_, hl, hoc, nn, hod⟩
  have hne : l ≠ s.heap.objs.size := Nat.ne_of_lt (Heap.lt_size hl)
  refine wpAny_pyIter_list hls ?_
  have W := Walks.list (prog := prog) (w := w) hh s.heap.objs.size l hne vs.toArray
  rw [List.size_toArray] at W
  have hlk : ∀ i m nx h, J i m nx → Fr h₀ L h m → News h₀ L h nx → h.get? l = some ol := fun i m nx h q F N => (hlJ i m nx q).elim (fun e => (N _ e).1) (fun e => F.keep _ _ e)
  refine loop_core (src := fun b => if b = l then some ol else none) J W hlet (fun i h st => by obtain ⟨o, e, _⟩ := st.1; exact ⟨o, e⟩) (fun b hb q => ?_) (fun i m nx h hJ F N b hb q => ?_)
    (Nat.ne_of_gt F.ns.lt) (next_is_new F) ⟨⟨_, Heap.get?_push_size _ rfl, rfl, rfl⟩, hls.at fun o e => Heap.get?_push_of_some _ e⟩ (F.push _) (fun p hp => ⟨Heap.get?_push_of_some _ (N p hp).1, (N p hp).2⟩) (fun p hp => Nat.ne_of_lt (Heap.lt_size (N p hp).1)) hj
    (fun i v m₁ nx h tk oI hin hP hJ hnx hlt F₁ N₁ => ?_) (fun m₁ nx h tk hJ F₁ N₁ => ?_)
  · have e : b = l := by
      rcases List.mem_cons.mp hb with e | e
      · exact absurd e q
      · exact List.mem_singleton.mp e
    exact ⟨ol, by simp [e]⟩
  · have e : b = l := by
      rcases List.mem_cons.mp hb with e | e
      · exact absurd e q
      · exact List.mem_singleton.mp e
    subst e
    simpa using hlk i m nx h hJ F N
  · exact turn i v m₁ nx h tk _ oI (by simpa using hP) hJ hnx hlt F₁ N₁
  · exact done m₁ nx h tk hJ F₁ N₁

/-- over a range by ones -/
theorem iter_range {r : Addr} {a₀ b₀ : Int} {t₀ u₀ v₀ : Tok} {n : Nat} {m₀ : Str → Option Value} {news : List (Addr × Obj)} {E₁ : Value → Shared → Prop} (J : Nat → (Str → Option Value) → List (Addr × Obj) → Prop)
    (hlet : ∀ it v, letOwnedTupleGo target it v = pure ()) (hh : A.handled = none) (hr : IsRange s.heap r a₀ b₀ 1 t₀ u₀ v₀) (hsmall : Builtin.Range.small a₀ b₀ 1 = true) (hn : Builtin.Range.rangeSize a₀ b₀ 1 = (n : Int)) (F : Fr h₀ L s.heap m₀) (N : News h₀ L s.heap news) (hj : J 0 m₀ news)
    (turn : ∀ (i : Nat) t m₁ nx h tk I oI, i < n → J i m₁ nx → (∀ p ∈ nx, p.1 ≠ I) → I < h.objs.size → Fr h₀ L h m₁ → News h₀ L h (nx ++ [(I, oI)]) →
      wpAny (model prog w) A (assign target env (.int (a₀ + i) t)) (fun _ s₂ => wpAny (model prog w) A (execs body env) (Turn h₀ L s I oI (J (i + 1)) Q) (fun _ _ => False) s₂) (fun _ _ => False) { s with heap := h, toks := tk })
    (done : ∀ m₁ nx h tk, J n m₁ nx → Fr h₀ L h m₁ → News h₀ L h nx → Q .next { s with heap := h, toks := tk }) :
    wpAny (model prog w) A (pyIter (.ref r)) (fun it s₂ => codeAny (model prog w) A (.forLoop target it body [] env) (fun r s' => match r with | .ok f => Q f s' | .error e => E₁ e s') s₂) (fun _ _ => False) s := by
  refine wpAny_pyIter_range hr hsmall ?_
  have W : Walks prog w A s.heap.objs.size [s.heap.objs.size] [s.heap.objs.size] n (fun i v => i < n ∧ ∃ t, v = .int (a₀ + i * 1) t)
      (fun i h => IsRangeIter h s.heap.objs.size (a₀ + (i : Nat) * 1) ((n : Int) - (i : Nat)) 1) := (Walks.range hh _ a₀ 1 n).bound
  refine loop_core (src := fun _ => none) J W hlet (fun i h st => ⟨_, st⟩) (fun b hb q => absurd (List.mem_singleton.mp hb) q) (fun i m nx h hJ F N b hb q => absurd (List.mem_singleton.mp hb) q)
    (Nat.ne_of_gt F.ns.lt) (next_is_new F) (by show IsRangeIter _ _ _ _ _; rw [hn]; simpa using Heap.get?_push_size _ rfl) (F.push _) (fun p hp => ⟨Heap.get?_push_of_some _ (N p hp).1, (N p hp).2⟩) (fun p hp => Nat.ne_of_lt (Heap.lt_size (N p hp).1)) hj
    (fun i v m₁ nx h tk oI hin hP hJ hnx hlt F₁ N₁ => ?_) (fun m₁ nx h tk hJ F₁ N₁ => ?_)
  · obtain ⟨_, t, rfl⟩ := hP
    rw [Int.mul_one]
    exact turn i t m₁ nx h tk _ oI hin hJ hnx hlt F₁ N₁
  · exact done m₁ nx h tk hJ F₁ N₁

/-- the statement -/
theorem for_gen {iter : PySem.Expr} {pos : Pos} (h : wpAny (model prog w) A (eval iter env) (fun xv s₁ => wpAny (model prog w) A (pyIter xv) (fun it s₂ => codeAny (model prog w) A (.forLoop target it body [] env) (fun r s' => match r with | .ok f => Q f s' | .error e => cameBackBy (model prog w) A env (fun _ _ => False) e s') s₂) (fun _ _ => False) s₁) (fun _ _ => False) s)
    (hs : ∀ x, foldedSetIterable iter env x = pure x := by intro _; rfl) : wpAny (model prog w) A (exec (.For target iter body [] pos) env) Q (fun _ _ => False) s := wpAny_For h hs
end

section
open LCg LCt
variable {prog : Program} {w : World} {A : Around} {s : Shared} {h₀ : Heap} {L : Addr} {m : Str → Option Value} {env : Env} {ct elt : PySem.Expr} {x : Str} {scope : Scope} {cl : List (Str × Addr)} {S : List (Addr × Obj) → Prop} {P : Nat → Value → Prop} {Fin : List Value → List (Addr × Obj) → Prop}

theorem compU_ind (J : Nat → List Value → List (Addr × Obj) → Prop) {n : Nat}
    (step : ∀ i ys news v I oI C oC D m₂ h tk (E' : Value → Shared → Prop), i < n → J i ys news → P i v → NsObj oC m₂ → m₂ x = some v → Fr h₀ L h m → News h₀ L h ((I, oI) :: (C, oC) :: (D, lst ys) :: news) → Off3 I C D news → ((@Ne Nat I C) ∧ (@Ne Nat I D) ∧ (@Ne Nat C D)) →
      wpAny (model prog w) A (eval elt (compEnvC scope cl C env)) (CompEnd h₀ L m { s with heap := h, toks := tk } I oI C oC D (lst ys) S (fun y news' => J (i + 1) (ys ++ [y]) news')) E' { s with heap := h, toks := tk })
    (fin : ∀ ys news, J n ys news → Fin ys news) : ∀ k i ys news, i + k = n → J i ys news → CompRest prog w A h₀ L m env elt x scope cl s S P Fin k i ys news
  | 0, i, ys, news, e, hJ => fin ys news (by rw [← e]; exact hJ)
  | k + 1, i, ys, news, e, hJ => by
    intro v I oI C oC D m₂ h tk E' hP hN hx F N off ne
    refine wpAny_mono (step i ys news v I oI C oC D m₂ h tk E' (by omega) hJ hP hN hx F N off ne) (fun y s₂ q => ?_) fun _ _ q => q
    obtain ⟨h', tk', news', e', F', N', o', S', r⟩ := q
    exact ⟨h', tk', news', e', F', N', o', S', compU_ind J step fin k (i + 1) _ _ (by omega) r⟩

theorem compT_ind (J : Nat → List Value → List (Addr × Obj) → Prop) {n : Nat}
    (step : ∀ i ys news v I oI C oC D m₂ h tk (E' : Value → Shared → Prop), i < n → J i ys news → P i v → NsObj oC m₂ → m₂ x = some v → Fr h₀ L h m → News h₀ L h ((I, oI) :: (C, oC) :: (D, lst ys) :: news) → Off3 I C D news → ((@Ne Nat I C) ∧ (@Ne Nat I D) ∧ (@Ne Nat C D)) →
      wpAny (model prog w) A (isTrue ct (compEnvC scope cl C env) (eval ct (compEnvC scope cl C env))) (fun ok s' => if ok = true then
        wpAny (model prog w) A (eval elt (compEnvC scope cl C env)) (CompEnd h₀ L m { s with heap := h, toks := tk } I oI C oC D (lst ys) S (fun y news' => J (i + 1) (ys ++ [y]) news')) E' s'
        else CompEnd h₀ L m { s with heap := h, toks := tk } I oI C oC D (lst ys) S (fun _ news' => J (i + 1) ys news') Value.none s') E' { s with heap := h, toks := tk })
    (fin : ∀ ys news, J n ys news → Fin ys news) : ∀ k i ys news, i + k = n → J i ys news → CompRestT prog w A h₀ L m env ct elt x scope cl s S P Fin k i ys news
  | 0, i, ys, news, e, hJ => fin ys news (by rw [← e]; exact hJ)
  | k + 1, i, ys, news, e, hJ => by
    intro v I oI C oC D m₂ h tk E' hP hN hx F N off ne
    refine wpAny_mono (step i ys news v I oI C oC D m₂ h tk E' (by omega) hJ hP hN hx F N off ne) (fun ok s₂ q => ?_) fun _ _ q => q
    cases ok with
    | true =>
      simp only [if_true] at q ⊢
      refine wpAny_mono q (fun y s₃ q => ?_) fun _ _ q => q
      obtain ⟨h', tk', news', e', F', N', o', S', r⟩ := q
      exact ⟨h', tk', news', e', F', N', o', S', compT_ind J step fin k (i + 1) _ _ (by omega) r⟩
    | false =>
      simp only [Bool.false_eq_true, if_false] at q ⊢
      obtain ⟨h', tk', news', e', F', N', o', S', r⟩ := q
      exact ⟨h', tk', news', e', F', N', o', S', compT_ind J step fin k (i + 1) _ _ (by omega) r⟩
end

theorem newsTab {h₀ h h' : Heap} {L R : Addr} {ep : Nat} {rows : List RowD} {m : Str → Option Value} {rest : List (Addr × Obj)} (F : Fr h₀ L h m) (N : News h₀ L h rest) (hk : Kept h h')
    (hT : ∀ p ∈ tabL R ep rows, h'.get? p.1 = some p.2 ∧ h.get? p.1 = none) : News h₀ L h' (tabL R ep rows ++ rest) := fun p hp => by
  rcases List.mem_append.mp hp with hp | hp
  · have z := hT p hp
    obtain ⟨oL, _, _, hLo, _⟩ := F.ns
    refine ⟨z.1, fun e => ?_, ?_⟩
    · rw [e, hLo] at z; cases z.2
    · cases e : h₀.get? p.1 with
      | none => rfl
      | some o => have := z.2; rw [F.keep _ _ e] at this; cases this
  · exact newsKept N hk p hp
theorem newsOff {h₀ h h' : Heap} {L R : Addr} {ep : Nat} {rows : List RowD} {rest : List (Addr × Obj)} {q : Addr × Obj} (N : News h₀ L h rest) (hq : q ∈ rest)
    (hT : ∀ p ∈ tabL R ep rows, h'.get? p.1 = some p.2 ∧ h.get? p.1 = none) : ∀ p ∈ tabL R ep rows, p.1 ≠ q.1 := fun p hp e => by
  have z := (hT p hp).2
  rw [e, (N q hq).1] at z; cases z

theorem item_val {prog : Program} {w : World} {A : Around} {E : Value → Shared → Prop} {s : Shared} {value slice : PySem.Expr} {l : Addr} {vs : List Value} {k : Int} {u : Tok} {x : Value} {Q : Value → Shared → Prop} (hl : s.heap.IsList l vs.toArray)
    (h0 : 0 ≤ k) (hfit : k < 2 ^ 63) (hx : vs[k.toNat]? = some x) (h : Q x s)
    (hs : subscripted slice false (.ref l) (.int k u) = operate [.ref l, .int k u] (getItem (.ref l) (.int k u)) := by with_unfolding_all rfl) :
    wpAny (model prog w) A (subscriptTail value slice (.ref l) (.int k u)) Q E s :=
  tail_any hl.typeIs slot_list_getitem.lookup (wpAny_getItem_list hl h0 hfit (by simpa using hx) h) hs
theorem updF_mid {d : Addr} {o : Obj} {post : List (Addr × Obj)} : ∀ {pre : List (Addr × Obj)}, (∀ p ∈ pre, p.1 ≠ d) → (∀ p ∈ post, p.1 ≠ d) → UpdF d o (pre ++ (d, o) :: post) (fun o' => pre ++ (d, o') :: post)
  | [], _, h2 => .head h2
  | p :: _, h1, h2 => .tail (h1 p (.head _)) (updF_mid (fun q hq => h1 q (.tail _ hq)) h2)

theorem fold_len : ∀ (w : List Int) (T : List (List Int)) (n : Nat), (∀ r ∈ T, r.length ≤ n) → (w.foldl insT T).length ≤ T.length + w.length ∧ ∀ r ∈ w.foldl insT T, r.length ≤ n + w.length
  | [], T, n, h => by simpa using h
  | x :: w, T, n, h => by
    have ih := fold_len w (insT T x) (n + 1) (insT_lens T x h)
    have := insT_len T x
    simp only [List.foldl_cons, List.length_cons]
    exact ⟨by omega, fun r hr => by have := ih.2 r hr; omega⟩
theorem tab_len {w : List Int} {rows : List RowD} (h : rows.map (·.ns) = w.foldl insT []) : rows.length ≤ w.length ∧ ∀ r ∈ rows, r.ns.length ≤ w.length := by
  have := fold_len w [] 0 (by simp)
  rw [← h] at this
  simp only [List.length_map, List.length_nil, Nat.zero_add] at this
  exact ⟨this.1, fun r hr => this.2 r.ns (List.mem_map_of_mem (f := fun r : RowD => r.ns) hr)⟩

section
variable {M : Model} {A : Around} {E : Value → Shared → Prop} {s : Shared} {h₀ : Heap} {L C c : Addr} {m : Str → Option Value} {scope : Scope} {cl : List (Str × Addr)} {env : Env} {x : Str} {pos : Pos} {v : Value} {o : Obj} {Q : Value → Shared → Prop} {K : Frag} {p : Program} {loose : List Str} {mg mb : Str → Option Value}
/-- a built-in's name, within a comprehension -/
theorem compName_B (hg : env.globals = mainGlobals) (hb : env.builtins = builtinsNs) (F : Fr h₀ L s.heap m) (X : K.In h₀) (T : TopRead p loose mg mb h₀) (e : nsIn K mainGlobals x = some none) (hv : bootBuiltins x = some v) (hn : x ≠ "__name__") (h : Q v s)
    (hk : (compEnvC scope cl C env).scope.kind = .function) (hx : (compEnvC scope cl C env).kindOf x = some .globalImplicit) (hd : (x == ("__debug__" : Str)) = false) :
    wpAny M A (eval (.Name x pos) (compEnvC scope cl C env)) Q E s :=
  Name_function_global hk hx (loadGlobal_builtin (env := compEnvC scope cl C env) (by show s.heap.Ns env.globals mg; rw [hg]; exact T.g.keeps F.keep) (mg_none_of X T.g e) (by show s.heap.Ns env.builtins mb; rw [hb]; exact T.b.keeps F.keep) ((T.builtins x hn).trans hv) h) hd
/-- the comprehension's own name -/
theorem compName_L (N : s.heap.get? C = some o) (hO : LCg.NsObj o m) (hv : m x = some v) (h : Q v s)
    (hk : (compEnvC scope cl C env).scope.kind = .function) (hx : (compEnvC scope cl C env).kindOf x = some .local) (hd : (x == ("__debug__" : Str)) = false) :
    wpAny M A (eval (.Name x pos) (compEnvC scope cl C env)) Q E s := wpAny_Name (wpAny_loadName_local (env := compEnvC scope cl C env) hk hx (hO.ns N) hv h) hd
end

theorem off1_mem {D : Addr} : ∀ {l : List (Addr × Obj)}, LCg.Off1 D l → ∀ p ∈ l, p.1 ≠ D
  | [], _, _, h => nomatch h
  | _ :: _, x, p, h => by
    rcases List.mem_cons.mp h with rfl | h
    · exact x.1
    · exact off1_mem x.2 p h
end Mine
namespace Mine
section
variable {prog : Program} {w : World} {A : Around} {E : Value → Shared → Prop} {s : Shared}
theorem lri_no_len : typeLookup (.type "list_reverseiterator") (Str.ofString "__len__") = pure none := by rw [typeLookup_type, builtinLookup_eq_fast]; kernel_rfl
theorem lri_hint : typeLookup (.type "list_reverseiterator") (Str.ofString "__length_hint__") = pure (some (.builtin "list_reverseiterator.__length_hint__")) := by rw [typeLookup_type, builtinLookup_eq_fast]; kernel_rfl
theorem hint_lri {I : Addr} {Q : Bool → Shared → Prop} (hT : s.TypeIs (.ref I) "list_reverseiterator") (h : Q false s) : wpAny (model prog w) A (Builtin.List.listLengthHint (.ref I)) Q E s := by
  unfold Builtin.List.listLengthHint
  refine wpAny_bind (wpAny_specialOf hT lri_no_len ?_)
  show wpAny _ _ (specialOf (Value.ref I) (Str.ofString "__length_hint__") >>= _) _ _ _
  refine wpAny_bind (wpAny_specialOf hT lri_hint ?_)
  generalize hid : ("list_reverseiterator.__length_hint__" : String) = id0
  wp_delta
  rw [show splitId id0 = some ("list_reverseiterator", "__length_hint__") from by subst hid; decide +kernel]
  subst hid
  refine wpAny_bind (wpAny_isInstance (T := "list_reverseiterator") (b := true) hT (by rw [isSubtype_type]; kernel_rfl) ?_)
  refine wpAny_ite_split (fun hab => absurd hab (by decide)) (fun _ => ?_)
  refine wpAny_ite_split (fun _ => ?_) (fun hab => absurd (by decide +kernel) hab)
  refine wpAny_ite_split (fun hab => absurd hab (by decide)) (fun _ => ?_)
  exact wpAny_pure h

variable {R : Result → Shared → Prop} {I l : Addr} {items : Array Value}
theorem extend_lri (hh : A.handled = none) (hl : s.heap.IsList l items) (hI : s.heap.IsRevIter I l ((items.size : Int) - 1)) (hlI : l ≠ I) (S : Addr) (res : Value) (c₀ : Nat) (hSI : S ≠ I) (hSl : S ≠ l)
    (hS : s.heap.get? S = some { cls := .type "list", data := .seq #[] c₀ })
    (hR : ∀ s' acc' c', Moved (S :: [I]) (fun a b => b = a) s s' → s'.heap.get? S = some { cls := .type "list", dict := none, data := .seq acc' c', slots := #[] } → ItemsOf (fun i v => items[items.size - 1 - i]? = some v) acc' items.size → R (.ok (.ret res)) s') (hn : items.size ≤ sizeLine) :
    wpAny (model prog w) A.in1 (Builtin.List.listExtendWith (.ref S) (.ref I) res)
      (fun fin s' => match fin with | .done f => R (.ok f) s' | .again c' => c'.quiet = true ∧ codeAny (model prog w) A c' R s') (fun e s' => R (.error e) s') s := by
  have W := (Walks.listRev (prog := prog) (w := w) (A := A.in1) hh I l hlI items).toS
  have hst : (fun i (s : Shared) => i ≤ items.size ∧ s.heap.IsRevIter I l ((items.size : Int) - 1 - (i : Int)) ∧ s.heap.IsList l items) 0 s := ⟨Nat.zero_le _, by simpa using hI, hl⟩
  have hSf : S ∉ [I, l] := by simp [hSI, hSl]
  unfold Builtin.List.listExtendWith
  refine wpAny_bind (wpAny_typeOf hI.typeIs ?_)
  have h1 : Builtin.List.listSameRef (.ref S) (.ref I) = false := by simp [Builtin.List.listSameRef, hSI]
  have h2 : (Value.type "list_reverseiterator" == Value.type "list") = false := by decide
  have h3 : (Value.type "list_reverseiterator" == Value.type "tuple") = false := by decide
  simp only [h1, h2, h3, Bool.or_false, Bool.false_eq_true, if_false]
  refine wpAny_bind (W.self 0 _ _ _ hst ?_)
  refine wpAny_bind (wpAny_holding ?_)
  refine hint_lri hI.typeIs ?_
  refine wpAny_ite_split (fun hab => absurd hab (by decide +kernel)) (fun _ => ?_)
  refine wpAny_pure ⟨plainId_quiet F.plain_extend_loop _, codeAny_extend_loopS W hn _ hSf _ items.size 0 _ _ _ rfl (Nat.zero_le _) hst hS (ItemsOf.nil _) fun s' acc' c' hm hS' hacc => hR s' acc' c' hm hS' hacc⟩

theorem init_lri (hh : A.handled = none) (hl : s.heap.IsList l items) (hI : s.heap.IsRevIter I l ((items.size : Int) - 1)) (hlI : l ≠ I) (S : Addr) (hSI : S ≠ I) (hSl : S ≠ l)
    (hS : s.heap.get? S = some { cls := .type "list", data := .seq #[] })
    (hR : ∀ h' tk acc' c', (∀ b o, b ≠ S → b ≠ I → s.heap.get? b = some o → h'.get? b = some o) → h'.get? S = some { cls := .type "list", dict := none, data := .seq acc' c', slots := #[] } → ItemsOf (fun i v => items[items.size - 1 - i]? = some v) acc' items.size → R (.ok (.ret .none)) { s with heap := h', toks := tk }) (hn : items.size ≤ sizeLine) :
    wpAny (model prog w) A.in1 (Builtin.«list.__init__» ⟨[.ref S, .ref I], []⟩)
      (fun fin s' => match fin with | .done f => R (.ok f) s' | .again c' => c'.quiet = true ∧ codeAny (model prog w) A c' R s') (fun e s' => R (.error e) s') s := by
  show wpAny _ A.in1 (do let old ← Builtin.List.listItems (.ref S); Builtin.List.listUpdate (.ref S) (fun _ => #[]); letGo old.toList.reverse; Builtin.List.listExtendWith (.ref S) (.ref I) .none) _ _ s
  refine wpAny_bind ?_
  unfold Builtin.List.listItems
  refine wpAny_bind (wpAny_seqItems hS rfl (wpAny_pure ?_))
  show wpAny _ A.in1 (updateSeq S (fun _ => #[]) >>= fun _ => letGo (#[] : Array Value).toList.reverse >>= fun _ => Builtin.List.listExtendWith (.ref S) (.ref I) .none) _ _ s
  refine wpAny_bind (wpAny_updateSeq hS rfl ?_)
  have hS₂ := Heap.get?_update_self (Obj.mapSeq (fun _ => (#[] : Array Value))) hS rfl
  have oth : ∀ b o, b ≠ S → s.heap.get? b = some o → (s.heap.update S (Obj.mapSeq (fun _ => (#[] : Array Value)))).get? b = some o :=
    fun b o hb e => (Heap.get?_update_other _ _ (Ne.symm hb)).trans e
  refine wpAny_bind (wpAny_letGo ?_)
  refine extend_lri (s := { s with heap := s.heap.update S (Obj.mapSeq (fun _ => (#[] : Array Value))) }) hh (hl.at fun o e => oth _ o (Ne.symm hSl) e) (hI.at fun o e => oth _ o (Ne.symm hSI) e) hlI S .none _ hSI hSl hS₂ (fun s' acc' c' hm hS' hacc => ?_) hn
  obtain ⟨h1, h2, h3, h4, h5⟩ := hm
  obtain ⟨hp, g, d, tk, os⟩ := s'
  dsimp only at h1 h2 h3 h4 h5
  subst h2 h3 h4
  exact hR hp tk acc' c' (fun b o hb hb' e => h1 b o (by simp [hb, hb']) (oth b o hb e)) hS' hacc

theorem list_lri {Q : Value → Shared → Prop} (hh : A.handled = none) (hl : s.heap.IsList l items) (hI : s.heap.IsRevIter I l ((items.size : Int) - 1)) (hlI : l ≠ I) (hn : items.size ≤ sizeLine)
    (hQ : ∀ h' tk acc' c', (∀ b o, b ≠ I → s.heap.get? b = some o → h'.get? b = some o) →
      h'.get? s.heap.objs.size = some { cls := .type "list", dict := none, data := .seq acc' c', slots := #[] } → ItemsOf (fun i v => items[items.size - 1 - i]? = some v) acc' items.size → Q (.ref s.heap.objs.size) { s with heap := h', toks := tk }) :
    wpAny (model prog w) A (call (.type "list") [.ref I]) Q E s := by
  refine callType_codes (Q₁ := fun obj s₁ => obj = .ref s.heap.objs.size ∧ s₁ = { s with heap := s.heap.push { cls := .type "list", data := .seq #[] } }) F.called_list (F.typeCall_list_1 _) F.entry_list_init
    (code_list_new _ ⟨rfl, rfl⟩) fun obj s₁ h₁ => ?_
  obtain ⟨rfl, rfl⟩ := h₁
  have hS : (s.heap.push { cls := .type "list", data := .seq #[] }).get? s.heap.objs.size = some { cls := .type "list", data := .seq #[] } := Heap.get?_push_size _ rfl
  have hIlt : I < s.heap.objs.size := by obtain ⟨o, e, _⟩ := hI; exact Heap.lt_size e
  have hllt : l < s.heap.objs.size := by obtain ⟨o, e, _⟩ := hl; exact Heap.lt_size e
  refine ⟨⟨_, hS, rfl⟩, F.args_list_init_2 _ _, init_lri (A := A.in1) hh (hl.push _) (hI.at fun o e => Heap.get?_push_of_some _ e) hlI _ (Nat.ne_of_gt hIlt) (Nat.ne_of_gt hllt) hS (fun h' tk acc' c' hk hS' hacc => ?_) hn⟩
  exact ⟨rfl, hQ h' tk acc' c' (fun b o hb e => hk b o (Nat.ne_of_lt (Heap.lt_size e)) hb (Heap.get?_push_of_some _ e)) hS' hacc⟩
end

theorem rev_items {vs : List Value} {acc : Array Value} (h : ItemsOf (fun i v => vs.toArray[vs.toArray.size - 1 - i]? = some v) acc vs.toArray.size) : acc = vs.reverse.toArray := by
  obtain ⟨hs, hi⟩ := h
  apply Array.ext
  · simpa using hs
  · intro i h1 h2
    have := hi i acc[i] (by simp [h1])
    simp only [List.size_toArray, List.getElem?_toArray] at this hs h2
    have hlt : i < vs.length := by rw [← hs]; exact h1
    rw [List.getElem?_eq_getElem (by omega)] at this
    simp only [List.getElem_toArray, List.getElem_reverse]
    exact (Option.some.inj this).symm
theorem ints_reverse : ∀ {vs : List Value} {ns : List Int}, IntsAre vs ns → IntsAre vs.reverse ns.reverse
  | _, _, .nil => .nil
  | _, _, .cons n t h => by
    rw [List.reverse_cons, List.reverse_cons]
    exact (ints_reverse h).append (.cons n t .nil)
end Mine
namespace Mine

/-! the plain law: Knuth's exchanges leave the rows as they are -/
abbrev Srt (r : List Int) : Prop := r.Pairwise (· ≤ ·)

theorem bs_spec {p : Nat → Bool} {n : Nat} (mono : ∀ i j, i ≤ j → j < n → p i = true → p j = true) {lo hi : Nat} (hle : lo ≤ hi) (hn : hi ≤ n)
    (h1 : ∀ i, i < lo → p i = false) (h2 : ∀ i, hi ≤ i → i < n → p i = true) :
    (∀ i, i < bs p lo hi → p i = false) ∧ (∀ i, bs p lo hi ≤ i → i < n → p i = true) := by
  induction lo, hi using bs.induct p with
  | case1 lo hi h hp ih =>
    rw [bs_left h hp]
    exact ih (by omega) (by omega) h1 (fun i q q' => mono _ i q q' hp)
  | case2 lo hi h hp ih =>
    rw [bs_right h (by simpa using hp)]
    refine ih (by omega) (by omega) (fun i q => ?_) h2
    cases e : p i with
    | false => rfl
    | true => exact absurd (mono i ((lo + hi) / 2) (by omega) (by omega) e) (by simpa using hp)
  | case3 lo hi h =>
    rw [bs_done h]
    exact ⟨h1, fun i q q' => h2 i (by omega) q'⟩

def rowIns : List Int → Int → List Int × Option Int
  | [], x => ([x], none)
  | a :: r, x => if x < a then (x :: r, some a) else (a :: (rowIns r x).1, (rowIns r x).2)

theorem rowIns_at : ∀ (r : List Int) (x : Int) (k : Nat), k ≤ r.length → (∀ i, i < k → r.getD i 0 ≤ x) → (k < r.length → x < r.getD k 0) →
    rowIns r x = if k = r.length then (r ++ [x], none) else (r.set k x, some (r.getD k 0))
  | [], x, k, hk, _, _ => by
    have : k = 0 := by simpa using hk
    subst this
    simp [rowIns]
  | a :: r, x, 0, hk, h1, h2 => by
    have := h2 (by simp)
    simp at this
    simp [rowIns, this]
  | a :: r, x, k + 1, hk, h1, h2 => by
    have ha : ¬ x < a := by have := h1 0 (by omega); simp at this; omega
    have ih := rowIns_at r x k (by simpa using hk) (fun i hi => by simpa using h1 (i + 1) (by omega)) (fun h => by simpa using h2 (by simpa using h))
    unfold rowIns
    rw [if_neg ha, ih]
    by_cases e : k = r.length
    · simp [e]
    · simp [e]

theorem srt_getD {r : List Int} (h : Srt r) {i j : Nat} (hij : i ≤ j) (hj : j < r.length) : r.getD i 0 ≤ r.getD j 0 := by
  have e1 : r.getD i 0 = r[i] := by simp [List.getD, List.getElem?_eq_getElem (show i < r.length by omega)]
  have e2 : r.getD j 0 = r[j] := by simp [List.getD, List.getElem?_eq_getElem hj]
  rw [e1, e2]
  by_cases e : i = j
  · subst e; exact Int.le_refl _
  · exact List.pairwise_iff_getElem.mp h i j (by omega) hj (by omega)

theorem rowIns_bis {r : List Int} (h : Srt r) (x : Int) : rowIns r x = if bisR r x = r.length then (r ++ [x], none) else (r.set (bisR r x) x, some (r.getD (bisR r x) 0)) := by
  have sp := bs_spec (p := fun i => decide (x < r.getD i 0)) (n := r.length) (fun i j hij hj hp => by
    have := srt_getD h hij hj
    simp only [decide_eq_true_eq] at hp ⊢
    omega) (lo := 0) (hi := r.length) (Nat.zero_le _) (Nat.le_refl _) (fun i hi => absurd hi (Nat.not_lt_zero _)) (fun i q q' => by omega)
  refine rowIns_at r x (bisR r x) (bisR_le r x) (fun i hi => ?_) (fun hk => ?_)
  · have := sp.1 i hi
    simp only [decide_eq_false_iff_not] at this
    omega
  · have := sp.2 (bisR r x) (Nat.le_refl _) hk
    simpa using this

def insP : List (List Int) → Int → List (List Int)
  | [], x => [[x]]
  | r :: rs, x => match (rowIns r x).2 with
    | none => (rowIns r x).1 :: rs
    | some y => (rowIns r x).1 :: insP rs y

theorem insT_insP : ∀ (T : List (List Int)) (x : Int), (∀ r ∈ T, Srt r) → insT T x = insP T x
  | [], x, _ => rfl
  | r :: T, x, h => by
    unfold insT insP
    rw [rowIns_bis (h r (.head _)) x]
    by_cases e : bisR r x = r.length
    · simp [e]
    · simp only [e, if_false]
      rw [insT_insP T _ (fun q hq => h q (.tail _ hq))]

/-- what stands in a row behind an insertion, and what is pushed out -/
theorem rowIns_mem : ∀ {r : List Int} {x : Int} {e : Int}, e ∈ (rowIns r x).1 → e = x ∨ e ∈ r
  | [], x, e, h => by simp [rowIns] at h; exact .inl h
  | a :: r, x, e, h => by
    unfold rowIns at h
    split at h
    · rcases List.mem_cons.mp h with h | h
      · exact .inl h
      · exact .inr (.tail _ h)
    · rcases List.mem_cons.mp h with h | h
      · exact .inr (by rw [h]; exact .head _)
      · exact (rowIns_mem h).imp id (fun q => .tail _ q)
theorem rowIns_self : ∀ (r : List Int) (x : Int), x ∈ (rowIns r x).1
  | [], x => by simp [rowIns]
  | a :: r, x => by
    unfold rowIns
    split
    · exact .head _
    · exact .tail _ (rowIns_self r x)
theorem rowIns_out : ∀ {r : List Int} {x y : Int}, (rowIns r x).2 = some y → y ∈ r ∧ x < y
  | [], x, y, h => by simp [rowIns] at h
  | a :: r, x, y, h => by
    unfold rowIns at h
    split at h
    · rename_i hx
      simp only [Option.some.injEq] at h
      subst h
      exact ⟨.head _, hx⟩
    · have := rowIns_out h
      exact ⟨.tail _ this.1, this.2⟩
theorem rowIns_srt : ∀ {r : List Int} (x : Int), Srt r → Srt (rowIns r x).1
  | [], x, _ => by simp [rowIns]
  | a :: r, x, h => by
    have h' := List.pairwise_cons.mp h
    unfold rowIns
    split
    · refine List.pairwise_cons.mpr ⟨fun e he => ?_, h'.2⟩
      have := h'.1 e he
      omega
    · refine List.pairwise_cons.mpr ⟨fun e he => ?_, rowIns_srt x h'.2⟩
      rcases rowIns_mem he with rfl | he
      · omega
      · exact h'.1 e he
/-- where something greater stands, something is pushed out, and it is the least such -/
theorem rowIns_some : ∀ {r : List Int} {x e : Int}, Srt r → e ∈ r → x < e → ∃ y, (rowIns r x).2 = some y ∧ y ≤ e
  | a :: r, x, e, h, he, hx => by
    have h' := List.pairwise_cons.mp h
    unfold rowIns
    split
    · refine ⟨a, rfl, ?_⟩
      rcases List.mem_cons.mp he with rfl | he
      · exact Int.le_refl _
      · exact h'.1 e he
    · rcases List.mem_cons.mp he with rfl | he
      · omega
      · exact rowIns_some h'.2 he hx
/-- two in rising order: nothing behind nothing; and what is pushed out rises -/
theorem rowIns_two : ∀ {r : List Int} {y z : Int}, Srt r → y ≤ z →
    ((rowIns r y).2 = none → (rowIns (rowIns r y).1 z).2 = none) ∧ (∀ y' z', (rowIns r y).2 = some y' → (rowIns (rowIns r y).1 z).2 = some z' → y' ≤ z')
  | [], y, z, _, hyz => by
    have : ¬ z < y := by omega
    simp [rowIns, this]
  | a :: r, y, z, h, hyz => by
    have h' := List.pairwise_cons.mp h
    by_cases hy : y < a
    · have hz : ¬ z < y := by omega
      refine ⟨fun q => by simp [rowIns, hy] at q, fun y' z' q1 q2 => ?_⟩
      simp only [rowIns, if_pos hy, Option.some.injEq] at q1
      subst q1
      simp only [rowIns, if_pos hy, if_neg hz] at q2
      exact h'.1 z' (rowIns_out q2).1
    · have hz : ¬ z < a := by omega
      have ih := rowIns_two (r := r) h'.2 hyz
      simp only [rowIns, if_neg hy, if_neg hz]
      exact ih

/-- a word put into one row: the row, and what is pushed out, in order -/
def rowW : List Int → List Int → List Int × List Int
  | r, [] => (r, [])
  | r, x :: w => ((rowW (rowIns r x).1 w).1, (rowIns r x).2.toList ++ (rowW (rowIns r x).1 w).2)

inductive Kn : List Int → List Int → Prop
  | refl (u : List Int) : Kn u u
  | k1 (x y z : Int) : x < y → y ≤ z → Kn [y, z, x] [y, x, z]
  | k2 (x y z : Int) : x ≤ y → y < z → Kn [x, z, y] [z, x, y]

theorem row_k1 : ∀ {r : List Int} {x y z : Int}, Srt r → x < y → y ≤ z → (rowW r [y, z, x]).1 = (rowW r [y, x, z]).1 ∧ Kn (rowW r [y, z, x]).2 (rowW r [y, x, z]).2
  | [], x, y, z, _, hxy, hyz => by
    have h1 : ¬ z < y := by omega
    have h2 : ¬ z < x := by omega
    simp [rowW, rowIns, hxy, h1, h2]
    exact .refl _
  | a :: r, x, y, z, h, hxy, hyz => by
    have h' := List.pairwise_cons.mp h
    by_cases hy : y < a
    · have h1 : ¬ z < y := by omega
      have h2 : ¬ z < x := by omega
      simp only [rowW, rowIns, if_pos hy, if_neg h1, if_pos hxy, if_neg h2, Option.toList]
      refine ⟨by trivial, ?_⟩
      cases e : (rowIns r z).2 with
      | none => exact .refl _
      | some z' =>
        exact .k1 y a z' hy (h'.1 z' (rowIns_out e).1)
    · have hz : ¬ z < a := by omega
      by_cases hx : x < a
      · have h2 : ¬ z < x := by omega
        simp only [rowW, rowIns, if_neg hy, if_neg hz, if_pos hx, if_neg h2, Option.toList]
        refine ⟨by trivial, ?_⟩
        have two := rowIns_two (r := r) h'.2 hyz
        cases e1 : (rowIns r y).2 with
        | none =>
          rw [two.1 e1]
          exact .refl _
        | some y' =>
          cases e2 : (rowIns (rowIns r y).1 z).2 with
          | none => exact .refl _
          | some z' =>
            have := (rowIns_out e1).2
            exact .k1 a y' z' (by omega) (two.2 y' z' e1 e2)
      · have ih := row_k1 (r := r) h'.2 hxy hyz
        simp only [rowW, rowIns, if_neg hy, if_neg hz, if_neg hx] at ih ⊢
        exact ⟨by rw [ih.1], ih.2⟩

theorem row_k2 : ∀ {r : List Int} {x y z : Int}, Srt r → x ≤ y → y < z → (rowW r [x, z, y]).1 = (rowW r [z, x, y]).1 ∧ (Kn (rowW r [x, z, y]).2 (rowW r [z, x, y]).2)
  | [], x, y, z, _, hxy, hyz => by
    have h1 : ¬ z < x := by omega
    have h2 : x < z := by omega
    have h3 : ¬ y < x := by omega
    simp [rowW, rowIns, h1, h2, h3, hyz]
    exact .refl _
  | a :: r, x, y, z, h, hxy, hyz => by
    have h' := List.pairwise_cons.mp h
    have hzx : ¬ z < x := by omega
    have hyx : ¬ y < x := by omega
    have hxz : x < z := by omega
    by_cases hz : z < a
    · have hx : x < a := by omega
      cases r with
      | nil =>
        simp [rowW, rowIns, hz, hx, hzx, hyx, hxz, hyz]
        exact .refl _
      | cons b r =>
        have hab := h'.1 b (.head _)
        have hzb : z < b := by omega
        have hyb : y < b := by omega
        simp only [rowW, rowIns, if_pos hz, if_pos hx, if_neg hzx, if_neg hyx, if_pos hxz, if_pos hyz, if_pos hzb, if_pos hyb, Option.toList]
        exact ⟨by trivial, .k1 z a b hz hab⟩
    · by_cases hx : x < a
      · simp only [rowW, rowIns, if_neg hz, if_pos hx, if_neg hzx, if_neg hyx, Option.toList]
        refine ⟨by trivial, ?_⟩
        obtain ⟨y', ey, hy'⟩ := rowIns_some (rowIns_srt z h'.2) (rowIns_self r z) hyz
        rw [ey]
        cases e : (rowIns r z).2 with
        | none => exact .refl _
        | some z' =>
          have h1 := rowIns_out e
          have h2 := rowIns_out ey
          refine .k2 a y' z' ?_ (by omega)
          rcases rowIns_mem h2.1 with q | q
          · omega
          · exact h'.1 y' q
      · have hy : ¬ y < a := by omega
        have ih := row_k2 (r := r) h'.2 hxy hyz
        simp only [rowW, rowIns, if_neg hy, if_neg hz, if_neg hx] at ih ⊢
        exact ⟨by rw [ih.1], ih.2⟩

theorem foldl_row : ∀ (w : List Int) (r : List Int) (T : List (List Int)), w.foldl insP (r :: T) = (rowW r w).1 :: (rowW r w).2.foldl insP T
  | [], r, T => rfl
  | x :: w, r, T => by
    simp only [List.foldl_cons, rowW]
    conv => lhs; arg 2; unfold insP
    cases e : (rowIns r x).2 with
    | none => simp [foldl_row w]
    | some y => simp [foldl_row w]

theorem kn_fold : ∀ (T : List (List Int)) {u v : List Int}, (∀ r ∈ T, Srt r) → Kn u v → u.foldl insP T = v.foldl insP T
  | _, _, _, _, .refl u => rfl
  | [], _, _, _, .k1 x y z h1 h2 => by
    have a1 : ¬ z < y := by omega
    have a2 : ¬ z < x := by omega
    simp [insP, rowIns, h1, a1, a2]
  | [], _, _, _, .k2 x y z h1 h2 => by
    have a1 : ¬ z < x := by omega
    have a2 : x < z := by omega
    have a3 : ¬ y < x := by omega
    simp [insP, rowIns, a1, a2, a3, h2]
  | r :: T, _, _, h, .k1 x y z h1 h2 => by
    rw [foldl_row, foldl_row]
    have k := row_k1 (h r (.head _)) h1 h2
    rw [k.1, kn_fold T (fun q hq => h q (.tail _ hq)) k.2]
  | r :: T, _, _, h, .k2 x y z h1 h2 => by
    rw [foldl_row, foldl_row]
    have k := row_k2 (h r (.head _)) h1 h2
    rw [k.1, kn_fold T (fun q hq => h q (.tail _ hq)) k.2]

theorem insP_srt : ∀ {T : List (List Int)} (x : Int), (∀ r ∈ T, Srt r) → ∀ r ∈ insP T x, Srt r
  | [], x, _ => by simp [insP]
  | r :: T, x, h => by
    have h1 := rowIns_srt x (h r (.head _))
    unfold insP
    intro q hq
    split at hq
    · rcases List.mem_cons.mp hq with rfl | hq
      · exact h1
      · exact h q (.tail _ hq)
    · rcases List.mem_cons.mp hq with rfl | hq
      · exact h1
      · exact insP_srt _ (fun q hq => h q (.tail _ hq)) q hq

theorem fold_srt : ∀ (w : List Int) {T : List (List Int)}, (∀ r ∈ T, Srt r) → (∀ r ∈ w.foldl insP T, Srt r) ∧ w.foldl insT T = w.foldl insP T
  | [], T, h => ⟨h, rfl⟩
  | x :: w, T, h => by
    simp only [List.foldl_cons]
    rw [insT_insP T x h]
    exact fold_srt w (insP_srt x h)

theorem fold_kn (u v p q : List Int) (h : Kn p q) : (u ++ p ++ v).foldl insT [] = (u ++ q ++ v).foldl insT [] := by
  rw [(fold_srt _ (by simp)).2, (fold_srt _ (by simp)).2]
  simp only [List.foldl_append]
  rw [kn_fold _ (fold_srt u (by simp)).1 h]

theorem three_split (ns : List Int) (i : Nat) (a b c : Int) (h0 : ns[i]? = some a) (h1 : ns[i+1]? = some b) (h2 : ns[i+2]? = some c) : ns = ns.take i ++ [a, b, c] ++ ns.drop (i + 3) := by
  have l2 := (List.getElem?_eq_some_iff.mp h2).1
  have e0 : ns.drop i = a :: b :: c :: ns.drop (i + 3) := by
    rw [List.drop_eq_getElem_cons (by omega), List.drop_eq_getElem_cons (by omega), List.drop_eq_getElem_cons (by omega)]
    have q0 := (List.getElem?_eq_some_iff.mp h0).2
    have q1 := (List.getElem?_eq_some_iff.mp h1).2
    have q2 := (List.getElem?_eq_some_iff.mp h2).2
    rw [q0, q1, q2]
  have := List.take_append_drop i ns
  rw [e0] at this
  simpa using this.symm

theorem knuth1 (ns : List Int) (i : Nat) (a b c : Int) (h0 : ns[i]? = some a) (h1 : ns[i+1]? = some b) (h2 : ns[i+2]? = some c) (hm : min b c < a) (hM : a ≤ max b c) :
    (ns.take i ++ [a, c, b] ++ ns.drop (i + 3)).foldl insT [] = ns.foldl insT [] := by
  conv => rhs; rw [three_split ns i a b c h0 h1 h2]
  by_cases hbc : b < c
  · exact fold_kn _ _ _ _ (.k1 b a c (by omega) (by omega))
  · exact (fold_kn _ _ _ _ (.k1 c a b (by omega) (by omega))).symm
theorem knuth2 (ns : List Int) (i : Nat) (a b c : Int) (h0 : ns[i]? = some a) (h1 : ns[i+1]? = some b) (h2 : ns[i+2]? = some c) (hm : min a b ≤ c) (hM : c < max a b) :
    (ns.take i ++ [b, a, c] ++ ns.drop (i + 3)).foldl insT [] = ns.foldl insT [] := by
  conv => rhs; rw [three_split ns i a b c h0 h1 h2]
  by_cases hab : a < b
  · exact (fold_kn _ _ _ _ (.k2 a c b (by omega) (by omega))).symm
  · exact fold_kn _ _ _ _ (.k2 b c a (by omega) (by omega))
end Mine
namespace Mine
/-! the plain law: Schensted. -/
inductive KE : List Int → List Int → Prop
  | of {p q : List Int} (h : Kn p q) (u v : List Int) : KE (u ++ p ++ v) (u ++ q ++ v)
  | refl (u : List Int) : KE u u
  | symm {a b : List Int} : KE a b → KE b a
  | trans {a b c : List Int} : KE a b → KE b c → KE a c

theorem KE.fold {a b : List Int} (h : KE a b) : a.foldl insT [] = b.foldl insT [] := by
  induction h with
  | of h u v => exact fold_kn u v _ _ h
  | refl => rfl
  | symm _ ih => exact ih.symm
  | trans _ _ i1 i2 => exact i1.trans i2
theorem KE.ctx {a b : List Int} (h : KE a b) (u v : List Int) : KE (u ++ a ++ v) (u ++ b ++ v) := by
  induction h with
  | of h u' v' =>
    have := KE.of h (u ++ u') (v' ++ v)
    simpa [List.append_assoc] using this
  | refl => exact .refl _
  | symm _ ih => exact .symm ih
  | trans _ _ i1 i2 => exact .trans i1 i2
theorem KE.left {a b : List Int} (h : KE a b) (u : List Int) : KE (u ++ a) (u ++ b) := by simpa using h.ctx u []
theorem KE.right {a b : List Int} (h : KE a b) (v : List Int) : KE (a ++ v) (b ++ v) := by simpa using h.ctx [] v
theorem Kn.perm {p q : List Int} (h : Kn p q) : p.Perm q := by
  cases h with
  | refl => exact .refl _
  | k1 x y z => exact (List.Perm.swap x z []).cons y
  | k2 x y z => exact List.Perm.swap z x [y]
theorem KE.perm {a b : List Int} (h : KE a b) : a.Perm b := by
  induction h with
  | of h u v => exact (h.perm.append_left u).append_right v
  | refl => exact .refl _
  | symm _ ih => exact ih.symm
  | trans _ _ i1 i2 => exact i1.trans i2
theorem Kn.rev {p q : List Int} (h : Kn p q) (hd : p.Nodup) : KE p.reverse q.reverse := by
  cases h with
  | refl => exact .refl _
  | k1 x y z h1 h2 =>
    have hyz : y ≠ z := by intro e; subst e; simp at hd
    have := KE.of (Kn.k2 x y z (by omega) (by omega)) [] []
    simpa using this
  | k2 x y z h1 h2 =>
    have hxy : x ≠ y := by intro e; subst e; simp at hd
    have := KE.of (Kn.k1 x y z (by omega) (by omega)) [] []
    simpa using this
theorem KE.rev {a b : List Int} (h : KE a b) : a.Nodup → KE a.reverse b.reverse := by
  induction h with
  | of h u v =>
    intro hd
    have hp : List.Nodup _ := (List.nodup_append.mp (List.nodup_append.mp hd).1).2.1
    have := (h.rev hp).ctx v.reverse u.reverse
    simpa [List.append_assoc] using this
  | refl => exact fun _ => .refl _
  | symm h ih => exact fun hd => .symm (ih (h.perm.symm.nodup hd))
  | trans h1 _ i1 i2 => exact fun hd => .trans (i1 hd) (i2 (h1.perm.nodup hd))

/-- one row -/
theorem row_none : ∀ {r : List Int} {x : Int}, (rowIns r x).2 = none → (rowIns r x).1 = r ++ [x]
  | [], x, _ => by simp [rowIns]
  | a :: r, x, h => by
    unfold rowIns at h ⊢
    split at h
    · simp at h
    · rename_i hx
      rw [if_neg hx]
      simp [row_none h]
theorem past : ∀ (r : List Int) {a x : Int}, Srt (a :: r) → x < a → KE (a :: r ++ [x]) (a :: x :: r)
  | [], a, x, _, _ => .refl _
  | b :: r, a, x, h, hx => by
    have h' := List.pairwise_cons.mp h
    have hab := h'.1 b (.head _)
    have ih := past r h'.2 (show x < b by omega)
    have s1 := ih.left [a]
    have s2 := KE.of (Kn.k1 x a b hx hab) [] r
    exact .trans (by simpa using s1) (by simpa using s2)
theorem row_some : ∀ {r : List Int} {x y : Int}, Srt r → (rowIns r x).2 = some y → KE (r ++ [x]) (y :: (rowIns r x).1)
  | [], x, y, _, h => by simp [rowIns] at h
  | a :: r, x, y, hs, h => by
    have h' := List.pairwise_cons.mp hs
    by_cases hx : x < a
    · simp only [rowIns, if_pos hx, Option.some.injEq] at h ⊢
      subst h
      exact past r hs hx
    · simp only [rowIns, if_neg hx] at h ⊢
      have ih := row_some h'.2 h
      have hxy := (rowIns_out h).2
      have hself := rowIns_self r x
      have hsrt := rowIns_srt x h'.2
      cases e : (rowIns r x).1 with
      | nil => rw [e] at hself; simp at hself
      | cons c r' =>
        rw [e] at ih hself hsrt
        have hcx : c ≤ x := by
          rcases List.mem_cons.mp hself with q | q
          · omega
          · exact (List.pairwise_cons.mp hsrt).1 x q
        have hac : a ≤ c := by
          have : c ∈ (rowIns r x).1 := by rw [e]; exact .head _
          rcases rowIns_mem this with q | q
          · omega
          · exact h'.1 c q
        have s1 := ih.left [a]
        have s2 := KE.of (Kn.k2 a c y hac (by omega)) [] r'
        exact .trans (by simpa using s1) (by simpa using s2)

/-- the reading word: from the last row to the first -/
def readT : List (List Int) → List Int
  | [] => []
  | r :: T => readT T ++ r
theorem read_ins : ∀ {T : List (List Int)} (x : Int), (∀ r ∈ T, Srt r) → KE (readT T ++ [x]) (readT (insP T x))
  | [], x, _ => .refl _
  | r :: T, x, h => by
    unfold insP
    cases e : (rowIns r x).2 with
    | none =>
      simp only [readT, row_none e]
      rw [List.append_assoc]
      exact .refl _
    | some y =>
      simp only [readT]
      have s1 := (row_some (h r (.head _)) e).left (readT T)
      have s2 := (read_ins y (fun q hq => h q (.tail _ hq))).right (rowIns r x).1
      exact .trans (by simpa using s1) (by simpa using s2)
theorem read_fold : ∀ (w : List Int) {T : List (List Int)}, (∀ r ∈ T, Srt r) → KE (readT T ++ w) (readT (w.foldl insP T))
  | [], T, _ => by simpa using KE.refl (readT T)
  | x :: w, T, h => by
    have s1 := (read_ins x h).right w
    have s2 := read_fold w (insP_srt x h)
    exact .trans (by simpa using s1) s2

/-! columns -/
def addCol : List (List Int) → List Int → List (List Int)
  | cs, [] => cs
  | [], s :: r => [s] :: addCol [] r
  | c :: cs, s :: r => (c ++ [s]) :: addCol cs r
def Under : List (List Int) → List Int → Prop
  | c :: cs, s :: r => (∀ e ∈ c, e < s) ∧ Under cs r
  | _, _ => True
abbrev Inc (r : List Int) : Prop := r.Pairwise (· < ·)

theorem row_app : ∀ {c : List Int} {s : Int}, (∀ e ∈ c, e < s) → rowIns c s = (c ++ [s], none)
  | [], s, _ => rfl
  | a :: c, s, h => by
    have ha : ¬ s < a := by have := h a (.head _); omega
    simp [rowIns, ha, row_app (fun e he => h e (.tail _ he))]
theorem row_bump : ∀ {c : List Int} {s t : Int}, (∀ e ∈ c, e < s) → s < t → rowIns (c ++ [t]) s = (c ++ [s], some t)
  | [], s, t, _, hst => by simp [rowIns, hst]
  | a :: c, s, t, h, hst => by
    have ha : ¬ s < a := by have := h a (.head _); omega
    simp [rowIns, ha, row_bump (fun e he => h e (.tail _ he)) hst]

theorem ins_addCol : ∀ (r : List Int) (cs : List (List Int)) {s : Int}, Inc (s :: r) → Under cs (s :: r) → insP (addCol cs r) s = addCol cs (s :: r)
  | [], [], s, _, _ => by simp [addCol, insP]
  | [], c :: cs, s, _, hu => by
    simp [addCol, insP, row_app hu.1]
  | t :: r, [], s, hi, _ => by
    have hst := (List.pairwise_cons.mp hi).1 t (.head _)
    simp only [addCol, insP]
    have e : rowIns [t] s = ([s], some t) := by simp [rowIns, hst]
    rw [e]
    have ih := ins_addCol r [] (List.pairwise_cons.mp hi).2 trivial
    simp only [ih, addCol]
  | t :: r, c :: cs, s, hi, hu => by
    have hst := (List.pairwise_cons.mp hi).1 t (.head _)
    have e := row_bump hu.1 hst
    simp only [addCol, insP]
    rw [e]
    have ih := ins_addCol r cs (List.pairwise_cons.mp hi).2 hu.2
    simp only [ih, addCol]
theorem under_tail : ∀ (r : List Int) (cs : List (List Int)) {s : Int}, Inc (s :: r) → Under cs (s :: r) → Under cs r
  | [], cs, s, _, _ => by cases cs <;> trivial
  | t :: r, [], s, _, _ => trivial
  | t :: r, c :: cs, s, hi, hu => by
    have hst := (List.pairwise_cons.mp hi).1 t (.head _)
    exact ⟨fun e he => by have := hu.1 e he; omega, under_tail r cs (List.pairwise_cons.mp hi).2 hu.2⟩
theorem rev_addCol : ∀ (r : List Int) (cs : List (List Int)), Inc r → Under cs r → r.reverse.foldl insP cs = addCol cs r
  | [], cs, _, _ => by cases cs <;> rfl
  | s :: r, cs, hi, hu => by
    rw [List.reverse_cons, List.foldl_append, rev_addCol r cs (List.pairwise_cons.mp hi).2 (under_tail r cs hi hu)]
    exact ins_addCol r cs hi hu

def Dom : List Int → List Int → Prop
  | _, [] => True
  | a :: r, b :: q => a < b ∧ Dom r q
  | [], _ :: _ => False
def Std : List (List Int) → Prop
  | [] => True
  | [r] => Inc r
  | r :: q :: T => Inc r ∧ Dom r q ∧ Std (q :: T)
theorem under_next : ∀ (cs : List (List Int)) (r q : List Int), Under cs r → Dom r q → Under (addCol cs r) q
  | cs, r, [], _, _ => by cases addCol cs r <;> trivial
  | [], a :: r, b :: q, _, hd => by
    refine ⟨fun e he => ?_, under_next [] r q ?_ hd.2⟩
    · rw [List.mem_singleton.mp he]; exact hd.1
    · trivial
  | c :: cs, a :: r, b :: q, hu, hd => by
    refine ⟨fun e he => ?_, under_next cs r q hu.2 hd.2⟩
    rcases List.mem_append.mp he with he | he
    · have := hu.1 e he; have := hd.1; omega
    · rw [List.mem_singleton.mp he]; exact hd.1

theorem read_cols : ∀ (T : List (List Int)) (cs : List (List Int)), Std T → (∀ r ∈ T.head?, Under cs r) → (readT T).reverse.foldl insP cs = T.foldl addCol cs
  | [], cs, _, _ => rfl
  | [r], cs, hs, hu => by
    simp only [readT, List.nil_append, List.foldl_cons, List.foldl_nil]
    exact rev_addCol r cs hs (hu r rfl)
  | r :: q :: T, cs, hs, hu => by
    have hr := hu r rfl
    rw [show readT (r :: q :: T) = readT (q :: T) ++ r from rfl, List.reverse_append, List.foldl_append, rev_addCol r cs hs.1 hr]
    rw [read_cols (q :: T) (addCol cs r) hs.2.2 (fun z hz => by
      simp only [List.head?_cons, Option.mem_def, Option.some.injEq] at hz
      subst hz
      exact under_next cs r _ hr hs.2.1)]
    rfl

/-! the rows stay a tableau -/
theorem inc_srt {r : List Int} (h : Inc r) : Srt r := h.imp (fun h => Int.le_of_lt h)
theorem rowIns_inc : ∀ {r : List Int} {x : Int}, Inc r → x ∉ r → Inc (rowIns r x).1
  | [], x, _, _ => by simp [rowIns]
  | a :: r, x, h, hx => by
    have h' := List.pairwise_cons.mp h
    have hne : x ≠ a := fun e => hx (by rw [e]; exact .head _)
    unfold rowIns
    split
    · refine List.pairwise_cons.mpr ⟨fun e he => ?_, h'.2⟩
      have := h'.1 e he
      omega
    · refine List.pairwise_cons.mpr ⟨fun e he => ?_, rowIns_inc h'.2 (fun q => hx (.tail _ q))⟩
      rcases rowIns_mem he with rfl | he
      · omega
      · exact h'.1 e he
theorem dom_app : ∀ {r q : List Int} {x : Int}, Dom r q → Dom (r ++ [x]) q
  | r, [], x, _ => by cases r <;> trivial
  | a :: r, b :: q, x, h => ⟨h.1, dom_app h.2⟩
theorem dom_less : ∀ {r q : List Int} {x : Int}, Dom r q → Dom (rowIns r x).1 q
  | r, [], x, _ => by cases (rowIns r x).1 <;> trivial
  | a :: r, b :: q, x, h => by
    unfold rowIns
    split
    · exact ⟨by have := h.1; omega, h.2⟩
    · exact ⟨h.1, dom_less h.2⟩
theorem dom_ins : ∀ {r q : List Int} {x y : Int}, Dom r q → (rowIns r x).2 = some y → x ∉ r → Inc r → Dom (rowIns r x).1 (rowIns q y).1
  | [], q, x, y, _, h, _, _ => by simp [rowIns] at h
  | a :: r, q, x, y, hd, h, hx, hi => by
    have h' := List.pairwise_cons.mp hi
    have hne : x ≠ a := fun e => hx (by rw [e]; exact .head _)
    by_cases hxa : x < a
    · simp only [rowIns, if_pos hxa, Option.some.injEq] at h ⊢
      subst h
      cases q with
      | nil => exact ⟨hxa, by cases r <;> trivial⟩
      | cons b q =>
        simp only [rowIns, if_pos hd.1]
        exact ⟨hxa, hd.2⟩
    · simp only [rowIns, if_neg hxa] at h ⊢
      have hxy := (rowIns_out h).2
      cases q with
      | nil => exact ⟨by omega, by cases (rowIns r x).1 <;> trivial⟩
      | cons b q =>
        by_cases hyb : y < b
        · simp only [rowIns, if_pos hyb]
          exact ⟨by omega, dom_less hd.2⟩
        · simp only [rowIns, if_neg hyb]
          exact ⟨hd.1, dom_ins hd.2 h (fun q => hx (.tail _ q)) h'.2⟩

theorem std_head {r : List Int} {T : List (List Int)} (h : Std (r :: T)) : Inc r := by
  cases T with
  | nil => exact h
  | cons q T => exact h.1
theorem std_tail {r : List Int} {T : List (List Int)} (h : Std (r :: T)) : Std T := by
  cases T with
  | nil => trivial
  | cons q T => exact h.2.2
theorem std_cons {r : List Int} {T : List (List Int)} (h1 : Inc r) (h2 : ∀ q ∈ T.head?, Dom r q) (h3 : Std T) : Std (r :: T) := by
  cases T with
  | nil => exact h1
  | cons q T => exact ⟨h1, h2 q rfl, h3⟩
theorem std_dom {r : List Int} {T : List (List Int)} (h : Std (r :: T)) : ∀ q ∈ T.head?, Dom r q := by
  cases T with
  | nil => intro q hq; simp at hq
  | cons q T => intro z hz; simp at hz; subst hz; exact h.2.1

theorem std_ins : ∀ {T : List (List Int)} {x : Int}, Std T → (readT T ++ [x]).Nodup → Std (insP T x)
  | [], x, _, _ => by simp [insP, Std]
  | r :: T, x, h, hd => by
    have hi := std_head h
    simp only [readT] at hd
    have hx : x ∉ r := fun q => by
      have := (List.nodup_append.mp hd).2.2 x (List.mem_append_right _ q) x (.head _)
      exact this rfl
    unfold insP
    cases e : (rowIns r x).2 with
    | none =>
      refine std_cons (rowIns_inc hi hx) (fun q hq => ?_) (std_tail h)
      rw [row_none e]
      exact dom_app (std_dom h q hq)
    | some y =>
      have hy := (rowIns_out e).1
      have hd' : (readT T ++ [y]).Nodup := by
        have h1 := (List.nodup_append.mp hd).1
        have h2 := List.nodup_append.mp h1
        rw [List.nodup_append]
        refine ⟨h2.1, by simp, fun a ha b hb => ?_⟩
        rw [List.mem_singleton.mp hb]
        exact h2.2.2 a ha y hy
      refine std_cons (rowIns_inc hi hx) (fun q hq => ?_) (std_ins (std_tail h) hd')
      cases T with
      | nil =>
        simp [insP] at hq
        subst hq
        have := dom_ins (q := []) (by cases r <;> trivial) e hx hi
        simpa [rowIns] using this
      | cons q' T =>
        have hD := dom_ins (std_dom h q' rfl) e hx hi
        unfold insP at hq
        cases e2 : (rowIns q' y).2 with
        | none => rw [e2] at hq; simp at hq; subst hq; exact hD
        | some z => rw [e2] at hq; simp at hq; subst hq; exact hD
theorem std_fold : ∀ (w : List Int) {T : List (List Int)}, Std T → (∀ r ∈ T, Srt r) → (readT T ++ w).Nodup → Std (w.foldl insP T)
  | [], T, h, _, _ => h
  | x :: w, T, h, hs, hd => by
    have hd1 : (readT T ++ [x]).Nodup := by
      have : (readT T ++ [x] ++ w).Nodup := by simpa using hd
      exact (List.nodup_append.mp this).1
    refine std_fold w (std_ins h hd1) (insP_srt x hs) ?_
    have := ((read_ins x hs).right w).perm.nodup (by simpa using hd)
    exact this

/-! the columns as the law writes them -/
def colOf (T : List (List Int)) (k : Nat) : List Int := T.filterMap (fun r => r[k]?)
theorem addCol_len : ∀ (cs : List (List Int)) (r : List Int), (addCol cs r).length = max cs.length r.length
  | cs, [] => by cases cs <;> simp [addCol]
  | [], s :: r => by have := addCol_len [] r; simp [addCol] at this ⊢; omega
  | c :: cs, s :: r => by have := addCol_len cs r; simp [addCol]; omega
theorem addCol_get : ∀ (cs : List (List Int)) (r : List Int) (k : Nat), (addCol cs r).getD k [] = cs.getD k [] ++ r[k]?.toList
  | cs, [], k => by cases cs <;> simp [addCol]
  | [], s :: r, 0 => by simp [addCol]
  | [], s :: r, k + 1 => by have := addCol_get [] r k; simpa [addCol] using this
  | c :: cs, s :: r, 0 => by simp [addCol]
  | c :: cs, s :: r, k + 1 => by have := addCol_get cs r k; simpa [addCol] using this
theorem fold_get : ∀ (T : List (List Int)) (cs : List (List Int)) (k : Nat), (T.foldl addCol cs).getD k [] = cs.getD k [] ++ colOf T k
  | [], cs, k => by simp [colOf]
  | r :: T, cs, k => by
    rw [List.foldl_cons, fold_get T (addCol cs r) k, addCol_get]
    unfold colOf
    cases e : r[k]? with
    | none => simp [e]
    | some v => simp [e]
theorem dom_len : ∀ {r q : List Int}, Dom r q → q.length ≤ r.length
  | _, [], _ => by simp
  | a :: r, b :: q, h => by have := dom_len h.2; simp; omega
theorem fold_len2 : ∀ (T : List (List Int)) (cs : List (List Int)), Std T → (∀ r ∈ T.head?, r.length ≤ cs.length) → (T.foldl addCol cs).length = cs.length
  | [], cs, _, _ => rfl
  | r :: T, cs, h, hl => by
    have h1 := hl r rfl
    have e : (addCol cs r).length = cs.length := by rw [addCol_len]; omega
    rw [List.foldl_cons, fold_len2 T (addCol cs r) (std_tail h) (fun q hq => by have := dom_len (std_dom h q hq); omega), e]
theorem fold_len1 (T : List (List Int)) (h : Std T) : (T.foldl addCol []).length = (T.headD []).length := by
  cases T with
  | nil => rfl
  | cons r T =>
    rw [List.foldl_cons, fold_len2 T _ (std_tail h) (fun q hq => by rw [addCol_len]; have := dom_len (std_dom h q hq); simp; omega), addCol_len]
    simp
theorem cols_eq (T : List (List Int)) (h : Std T) : T.foldl addCol [] = (List.range (T.headD []).length).map (colOf T) := by
  apply List.ext_getElem
  · rw [fold_len1 T h]; simp
  · intro k h1 h2
    have e := fold_get T [] k
    have e1 : (T.foldl addCol []).getD k [] = (T.foldl addCol [])[k] := by simp [List.getD, List.getElem?_eq_getElem h1]
    rw [e1] at e
    simp only [List.getElem_map, List.getElem_range]
    rw [e]
    simp

theorem schensted_nodup (w : List Int) (hd : w.Nodup) : w.reverse.foldl insT [] = (List.range ((w.foldl insT []).headD []).length).map (colOf (w.foldl insT [])) := by
  rw [(fold_srt w (by simp)).2]
  have hS := std_fold w (T := []) trivial (by simp) (by simpa [readT] using hd)
  have hK := read_fold w (T := []) (by simp)
  simp only [readT, List.nil_append] at hK
  have hR := (hK.rev hd).fold
  rw [hR, (fold_srt _ (by simp)).2, read_cols _ [] hS (fun r _ => by cases r <;> trivial)]
  exact cols_eq _ hS
end Mine
namespace Mine
open_top hd01 for PySem.Challenge.rw_cy0003_01
end Mine
namespace Mine
theorem fillK : (∀ p : Program, p = PySem.Challenge.rw_cy0003_01.prog → p = p) ∧ hd01.heap_39 = hd01.heap_39 := by
  k_fill
  exact ⟨fun _ _ => rfl, rfl⟩

theorem bisR_call {w : World} {A : Around} {E : Value → Shared → Prop} {s : Shared} {Q : Value → Shared → Prop} {mg mb : Str → Option Value} {p : Program} {loose : List Str} {l : Addr} {vs : List Value} {ns : List Int} {x : Int} {t : Tok}
    (X : (hd01.heap_39 w.params).In s.heap) (T : TopRead p loose mg mb s.heap) (hroom : A.depth + 10 < recursionLimit)
    (hl : s.heap.IsList l vs.toArray) (hi₀ : IntsAre vs ns) (hlen : ns.length < 2 ^ 60)
    (hQ : ∀ h' tk t', Kept s.heap h' → Q (.int (bs (fun i => decide (x < ns.getD i 0)) 0 ns.length : Nat) t') { s with heap := h', toks := tk }) :
    wpAny (model PySem.Challenge.rw_cy0003_01.prog w) A (call (.ref 23) [.ref l, .int x t] []) Q E s := by
  refine' enter0 (K := hd01.heap_39 w.params) (binds := [(Str.ofString "a", .ref l), (Str.ofString "x", .int x t), (Str.ofString "lo", .int 0 189), (Str.ofString "hi", .none), (Str.ofString "key", .none)]) X T.nolimit (by omega) ?ho ?hcd ?hb ?hl ?_ ?c1 ?c2 ?c3 ?c4
  case ho => exact rfl
  case hcd => exact rfl
  case hb =>
    refine' binds_kw (T := 15) (D := 16) (X _ _ rfl) rfl (X _ _ rfl) ?h1 ?h2 ?h3
    case h1 => exact rfl
    case h2 => exact rfl
    case h3 => exact rfl
  case hl => exact locs rfl
  case c1 => exact rfl
  case c2 => exact rfl
  case c3 => exact rfl
  case c4 => decide
  intro h₁ tk F
  have N : News s.heap s.heap.objs.size h₁ [] := News.nil
  w_on
  iterate 39 (first | walk1 | (dsimp only; walk1))
  have hsz : vs.length = ns.length := hi₀.length
  (rename Fr _ _ _ _ => F2); (rename News _ _ _ _ => N2)
  refine While_inv (J := fun n m' news => news = [] ∧ ∃ (lo hi : Nat) (t1 t2 : Tok), lo ≤ hi ∧ hi ≤ ns.length ∧ n = hi - lo ∧ m' (Str.ofString "a") = some (.ref l) ∧ m' (Str.ofString "x") = some (.int x t) ∧ m' (Str.ofString "lo") = some (.int lo t1) ∧ m' (Str.ofString "hi") = some (.int hi t2) ∧ bs (fun i => decide (x < ns.getD i 0)) lo hi = bs (fun i => decide (x < ns.getD i 0)) 0 ns.length) (n₀ := ns.length) F2 N2 ?_ ?_
  · exact ⟨rfl, 0, ns.length, _, _, Nat.zero_le _, Nat.le_refl _, rfl, rfl, rfl, rfl, rfl, rfl⟩
  · rintro n m₁ news₁ h₁ tk₁ F₁ N₁ ⟨rfl, lo, hi, t1, t2, hle, hhi, rfl, ha, hx, hlo, hhi', hbs⟩
    replace F₁ := fr_put (Str.ofString "hi") (fr_put (Str.ofString "lo") (fr_put (Str.ofString "x") (fr_put (Str.ofString "a") F₁ ha) hx) hlo) hhi'
    iterate 5 (first | walk1 | (dsimp only; walk1))
    have hmid : (lo + hi) / 2 < ns.length ∨ ¬ lo < hi := by omega
    by_cases hlt : lo < hi
    · rw [if_pos (by simpa using hlt)]
      iterate 17 (first | walk1 | (dsimp only; walk1))
      rw [fdiv2 lo hi]
      (rename Fr _ _ _ _ => F3); (rename News _ _ _ _ => N3)
      refine item_anyK (F3.lst hl) hi₀ (by omega) (by omega) (by omega) (fun t4 => ?_) (by with_unfolding_all rfl)
      rw [Int.toNat_natCast]
      iterate 2 (first | walk1 | (dsimp only; walk1))
      by_cases hc : x < ns.getD ((lo + hi) / 2) 0
      · rw [if_pos (by simpa using hc)]
        iterate 7 (first | walk1 | (dsimp only; walk1))
        (rename Fr _ _ _ _ => F4); (rename News _ _ _ _ => N4)
        refine WhileStep.intro F4 N4 ?_ ⟨rfl, lo, (lo + hi) / 2, _, _, by omega, by omega, rfl, rfl, rfl, rfl, (congrArg (fun z => some (Value.int z _)) (fdiv2 lo hi)), (bs_left hlt (by simpa using hc)).symm.trans hbs⟩
        omega
      · rw [if_neg (by simpa using hc)]
        iterate 10 (first | walk1 | (dsimp only; walk1))
        (rename Fr _ _ _ _ => F4); (rename News _ _ _ _ => N4)
        refine WhileStep.intro F4 N4 ?_ ⟨rfl, (lo + hi) / 2 + 1, hi, _, _, by omega, by omega, rfl, rfl, rfl, (congrArg (fun z => some (Value.int (z + 1) _)) (fdiv2 lo hi)), rfl, (bs_right hlt (by simpa using hc)).symm.trans hbs⟩
        omega
    · rw [if_neg (by simpa using hlt)]
      iterate 4 (first | walk1 | (dsimp only; walk1))
      dsimp only
      (rename Fr _ _ _ _ => F4)
      rw [← hbs, bs_done hlt] at hQ
      exact hQ _ _ _ F4.keep
end Mine
namespace Mine
theorem fillK2 : (∀ p : Program, p = PySem.Challenge.rw_cy0003_01.prog → p = p) ∧ hd01.heap_39 = hd01.heap_39 := by
  k_fill
  exact ⟨fun _ _ => rfl, rfl⟩

theorem ins_call {w : World} {A : Around} {E : Value → Shared → Prop} {s : Shared} {Q : Value → Shared → Prop} {mg mb : Str → Option Value} {p : Program} {loose : List Str} {g₀ : Heap} {R : Addr} {ep : Nat} {rows : List RowD} {x : Int} {t : Tok}
    (X : (hd01.heap_39 w.params).In g₀) (T : TopRead p loose mg mb g₀) (hk : Kept g₀ s.heap) (hroom : A.depth + 20 < recursionLimit) (hh : A.handled = none)
    (hT : ∀ p ∈ tabL R ep rows, s.heap.get? p.1 = some p.2 ∧ g₀.get? p.1 = none) (hint : ∀ r ∈ rows, IntsAre r.vs r.ns) (hnd : (R :: rows.map (·.a)).Nodup)
    (hlen : rows.length < 2 ^ 20) (hlens : ∀ r ∈ rows, r.ns.length < 2 ^ 20)
    (hQ : ∀ h' tk ep' rows', (∀ p ∈ tabL R ep' rows', h'.get? p.1 = some p.2) → (∀ r ∈ rows', IntsAre r.vs r.ns) → (R :: rows'.map (·.a)).Nodup → rows'.map (·.ns) = insT (rows.map (·.ns)) x →
      (∀ b o, s.heap.get? b = some o → b ∉ R :: rows.map (·.a) → h'.get? b = some o) → (∀ r ∈ rows', r.a ∈ rows.map (·.a) ∨ s.heap.get? r.a = none) → Q .none { s with heap := h', toks := tk }) :
    wpAny (model PySem.Challenge.rw_cy0003_01.prog w) A (call (.ref 30) [.ref R, .int x t] []) Q E s := by
  have hkH : Kept g₀ (hideAll s.heap (R :: rows.map (·.a))) := fun b o e => hideAll_get _ (hk b o e) fun q => by
    rcases List.mem_cons.mp q with q | q
    · have := (hT _ (.head _)).2
      rw [← q, e] at this; cases this
    · obtain ⟨r, hr, q⟩ := List.mem_map.mp q
      have := (hT _ (.tail _ (List.mem_map_of_mem (f := rowE) hr))).2
      rw [show (rowE r).1 = b from q, e] at this; cases this
  refine' enterH (K := hd01.heap_39 w.params) (binds := [(Str.ofString "rows", .ref R), (Str.ofString "x", .int x t)]) (R :: rows.map (·.a)) (X.keeps hkH) (T.nolimit.keeps hkH) (by omega) ?ho ?hcd ?hb ?hl ?_ ?c1 ?c2 ?c3 ?c4
  case ho => exact rfl
  case hcd => exact rfl
  case hb => exact BindsTo.of_eq rfl
  case hl => exact locs rfl
  case c1 => exact rfl
  case c2 => exact rfl
  case c3 => exact rfl
  case c4 => decide
  intro h₁ tk F hk₁
  have N : News (hideAll s.heap (R :: rows.map (·.a))) s.heap.objs.size h₁ (tabL R ep rows) := fun p hp => by
    have hp1 := (hT p hp).1
    refine ⟨hk₁ _ _ hp1, Nat.ne_of_lt (Heap.lt_size hp1), hideAll_none _ ?_⟩
    rcases List.mem_cons.mp hp with rfl | hp
    · exact .head _
    · obtain ⟨r, hr, rfl⟩ := List.mem_map.mp hp
      exact .tail _ (List.mem_map_of_mem (f := fun r => r.a) hr)
  have XH := X.keeps hkH
  have TH := T.keeps hkH
  have hgS : ∀ b o, s.heap.get? b = some o → b ∉ R :: rows.map (·.a) → (hideAll s.heap (R :: rows.map (·.a))).get? b = some o := fun b o e q => hideAll_get _ e q
  generalize hideAll s.heap (R :: rows.map (·.a)) = g at *
  w_on
  iterate 1 (first | walk1 | (dsimp only; walk1))
  refine For_invVF F rfl rfl ?_
  iterate 1 (first | walk1 | (dsimp only; walk1))
  refine iter_led (fun i m nx => ∃ pre post, pre.length = i ∧ nx = tabL R ep (pre ++ post) ∧ (pre ++ post).map (·.a) = rows.map (·.a) ∧ (∀ r ∈ pre ++ post, IntsAre r.vs r.ns ∧ r.ns.length < 2 ^ 20) ∧
    ∃ xi ti, m (Str.ofString "x") = some (.int xi ti) ∧ m (Str.ofString "rows") = some (.ref R) ∧ insT (rows.map (·.ns)) x = pre.map (·.ns) ++ insT (post.map (·.ns)) xi) (vs := (rows.map (·.a)).map Value.ref) (nn := ep) hh rfl rfl (hk₁ _ _ (hT _ (.head _)).1) ?_ F N ?_ ?_ ?_ ?_
  · exact (N _ (.head _)).2.1
  · exact ⟨[], rows, rfl, rfl, rfl, fun r hr => ⟨hint r hr, hlens r hr⟩, x, t, rfl, rfl, rfl⟩
  · rintro i m nx ⟨pre, post, _, rfl, ha, _⟩
    refine .inl ?_
    unfold tabL
    rw [ha]
    exact .head _
  · rintro i v m₁ nx h tk₁ I oI hv ⟨pre, post, hi, rfl, ha, hint', xi, ti, hx, hR, hins⟩ hoff hIlt F₁ N₁
    replace F₁ := fr_put (Str.ofString "rows") (fr_put (Str.ofString "x") F₁ hx) hR
    have hlenp : (pre ++ post).length = rows.length := by simpa using congrArg List.length ha
    have hilt : i < rows.length := by
      have := (List.getElem?_eq_some_iff.mp hv).1
      simpa using this
    obtain ⟨r, post', rfl⟩ : ∃ r post', post = r :: post' := by
      cases post with
      | nil => simp at hlenp; omega
      | cons r q => exact ⟨r, q, rfl⟩
    have hra : v = .ref r.a := by
      rw [← ha] at hv
      simp only [List.map_append, List.map_cons] at hv
      rw [List.getElem?_append_right (by simp [hi])] at hv
      simp [hi] at hv
      exact hv.symm
    subst hra
    iterate 11 (first | walk1 | (dsimp only; walk1))
    have hmemr : rowE r ∈ tabL R ep (pre ++ r :: post') ++ [(I, oI)] := List.mem_append_left _ (.tail _ (List.mem_map_of_mem (f := rowE) (by simp)))
    have hr2 := hint' r (by simp)
    have hlr : h.IsList r.a r.vs.toArray := ⟨_, (N₁ _ hmemr).1, rfl, r.ep, rfl⟩
    refine bisR_call (XH.keeps F₁.keep) (TH.keeps F₁.keep) (by rw [depth_deeper]; omega) hlr hr2.1 (by omega) ?_
    intro h2 tk2 t2 hk2
    replace F₁ := frKept F₁ hk2
    replace N₁ := newsKept N₁ hk2
    have hnd' : (R :: (pre ++ r :: post').map (·.a)).Nodup := by rw [ha]; exact hnd
    have hdec : tabL R ep (pre ++ r :: post') ++ [(I, oI)] = ((R, listOf (((pre ++ r :: post').map (·.a)).map Value.ref).toArray ep) :: pre.map rowE) ++ (r.a, listOf r.vs.toArray r.ep) :: (post'.map rowE ++ [(I, oI)]) := tabL_mid ..
    have hnd2 := List.nodup_cons.mp hnd'
    have hnd3 := List.nodup_append.mp (by simpa using hnd2.2 : (pre.map (·.a) ++ r.a :: post'.map (·.a)).Nodup)
    have hd1 : ∀ p ∈ ((R, listOf (((pre ++ r :: post').map (·.a)).map Value.ref).toArray ep) :: pre.map rowE), p.1 ≠ r.a := by
      intro p hp e
      rcases List.mem_cons.mp hp with rfl | hp
      · exact hnd2.1 (by rw [show R = r.a from e]; simp)
      · obtain ⟨q, hq, rfl⟩ := List.mem_map.mp hp
        exact hnd3.2.2 q.a (List.mem_map_of_mem (f := fun r => r.a) hq) r.a (.head _) e
    have hd2 : ∀ p ∈ post'.map rowE ++ [(I, oI)], p.1 ≠ r.a := by
      intro p hp e
      rcases List.mem_append.mp hp with hp | hp
      · obtain ⟨q, hq, rfl⟩ := List.mem_map.mp hp
        exact (List.nodup_cons.mp hnd3.2.1).1 (by rw [← show q.a = r.a from e]; exact List.mem_map_of_mem (f := fun r => r.a) hq)
      · rw [List.mem_singleton.mp hp] at e
        exact hoff (rowE r) (.tail _ (List.mem_map_of_mem (f := rowE) (by simp))) e.symm
    replace hlr : h2.IsList r.a r.vs.toArray := ⟨_, (N₁ _ hmemr).1, rfl, r.ep, rfl⟩
    iterate 12 (first | walk1 | (dsimp only; walk1))
    (rename Fr _ _ _ _ => F3); (rename News _ _ _ _ => N3)
    refine len_ints_fit (l := r.a) (vs := r.vs) ⟨_, (N3 _ hmemr).1, rfl, r.ep, rfl⟩ hr2.1 (by omega) ?_
    iterate 2 (first | walk1 | (dsimp only; walk1))
    by_cases hc : bisR r.ns xi = r.ns.length
    · rw [if_pos (by exact decide_eq_true (congrArg (Nat.cast (R := Int)) hc))]
      iterate 5 (first | walk1 | (dsimp only; walk1))
      refine kl_method N3 hmemr PySem.F.slot_list_append PySem.F.type_list_append ?_
      iterate 4 (first | walk1 | (dsimp only; walk1))
      rw [hdec] at N3
      refine append_K F3 N3 (upd_mid hd1 hd2) ?_ (by rw [List.size_toArray, hr2.1.length, sizeLine_eq]; omega)
      intro h3 F4 N4
      iterate 3 (first | walk1 | (dsimp only; walk1))
      have N4' : News g s.heap.objs.size h3 (tabL R ep (pre ++ { r with vs := r.vs ++ [.int xi ti], ns := r.ns ++ [xi], ep := r.ep + 1 } :: post') ++ [(I, oI)]) := by
        rw [tabL_mid]
        simpa using N4
      refine hQ h3 _ ep (pre ++ { r with vs := r.vs ++ [.int xi ti], ns := r.ns ++ [xi], ep := r.ep + 1 } :: post') ?_ ?_ ?_ ?_ ?_ ?_
      · intro p hp
        refine (N4' p (List.mem_append_left _ hp)).1
      · intro q hq
        rcases List.mem_append.mp hq with hq | hq
        · exact (hint' q (List.mem_append_left _ hq)).1
        · rcases List.mem_cons.mp hq with rfl | hq
          · exact hr2.1.append (.cons _ _ .nil)
          · exact (hint' q (by simp [hq])).1
      · simpa using hnd'
      · rw [hins]
        simp [insT, hc]
      · intro b o hb hq
        exact F4.keep b o (hgS b o hb hq)
      · intro q hq
        refine .inl ?_
        rw [← ha]
        simp only [List.map_append, List.map_cons, List.mem_append, List.mem_cons, List.mem_map] at hq ⊢
        rcases hq with hq | rfl | hq
        · exact .inl ⟨q, hq, rfl⟩
        · exact .inr (.inl rfl)
        · exact .inr (.inr ⟨q, hq, rfl⟩)
    · have hc' : bisR r.ns xi < r.ns.length := Nat.lt_of_le_of_ne (bisR_le _ _) hc
      rw [if_neg (by exact fun q => hc (Int.ofNat.inj (of_decide_eq_true q)))]
      iterate 11 (first | walk1 | (dsimp only; walk1))
      refine item_anyK (vs := r.vs) (ns := r.ns) ⟨_, (N3 _ hmemr).1, rfl, r.ep, rfl⟩ hr2.1 (by omega) (by exact Int.ofNat_lt.mpr hc') (by have := hr2.2; unfold bisR at hc'; omega) (fun t4 => ?_) (by with_unfolding_all rfl)
      iterate 2 (first | walk1 | (dsimp only; walk1))
      (rename Fr _ _ _ _ => F5); (rename News _ _ _ _ => N5)
      refine unpackN_ F5 N5 (News.isTup N5 (.head _)) hh rfl rfl ?_
      intro h6 F6 N6
      replace N6 : News g s.heap.objs.size h6 (tabL R ep (pre ++ r :: post') ++ [(I, oI)]) := fun p hp => N6 p (.tail _ hp)
      clear F5 N5
      iterate 4 (first | walk1 | (dsimp only; walk1))
      rw [hdec] at N6
      refine ksa_set (vs := r.vs) (ns := r.ns) F6 N6 (upd_mid hd1 hd2) hr2.1 (by omega) (by exact Int.ofNat_lt.mpr hc') (by have := hr2.2; unfold bisR at hc'; omega) ?_
      intro h7 F7 N7 hi7 hl7 _
      replace N7 : News g s.heap.objs.size h7 (tabL R ep (pre ++ { r with vs := r.vs.set (bisR r.ns xi) (.int xi ti), ns := r.ns.set (bisR r.ns xi) xi } :: post') ++ [(I, oI)]) := by
        rw [tabL_mid]
        simpa [bisR] using N7
      clear F6 N6
      iterate 6 (first | walk1 | (dsimp only; walk1))
      (rename Fr _ _ _ _ => F8); (rename News _ _ _ _ => N8)
      refine ⟨_, _, _, _, rfl, F8, N8, ?_, pre ++ [{ r with vs := r.vs.set (bisR r.ns xi) (.int xi ti), ns := r.ns.set (bisR r.ns xi) xi }], post', ?_, ?_, ?_, ?_, _, _, rfl, rfl, ?_⟩
      · intro p hp
        rcases List.mem_cons.mp hp with rfl | hp
        · have h0 : R ≠ I := hoff (R, _) (List.Mem.head _)
          exact h0
        · obtain ⟨q, hq, rfl⟩ := List.mem_map.mp hp
          have hq' : q.a ∈ (pre ++ r :: post').map (·.a) := by
            have := List.mem_map_of_mem (f := fun r : RowD => r.a) hq
            simpa using this
          obtain ⟨q', hq2, e⟩ := List.mem_map.mp hq'
          have := hoff (rowE q') (.tail _ (List.mem_map_of_mem (f := rowE) hq2))
          exact fun z => this (e.trans z)
      · simp [hi]
      · simp
      · simpa using ha
      · intro q hq
        simp only [List.append_assoc, List.cons_append, List.nil_append, List.mem_append, List.mem_cons] at hq
        rcases hq with hq | rfl | hq
        · exact hint' q (by simp [hq])
        · exact ⟨by simpa [bisR] using hi7, by simpa using hr2.2⟩
        · exact hint' q (by simp [hq])
      · rw [hins]
        simp only [List.map_cons, insT, if_neg hc]
        simp [bisR]
  · rintro m₁ nx h tk₁ ⟨pre, post, hi, rfl, ha, hint', xi, ti, hx, hR, hins⟩ F₁ N₁
    replace F₁ := fr_put (Str.ofString "rows") (fr_put (Str.ofString "x") F₁ hx) hR
    obtain rfl : post = [] := by
      have := congrArg List.length ha
      simp at this hi
      exact List.eq_nil_of_length_eq_zero (by omega)
    simp only [List.append_nil] at ha hint' N₁
    iterate 4 (first | walk1 | (dsimp only; walk1))
    refine kl_method N₁ (.head _) PySem.F.slot_list_append PySem.F.type_list_append ?_
    iterate 8 (first | walk1 | (dsimp only; walk1))
    (rename Fr _ _ _ _ => F9); (rename News _ _ _ _ => N9); (rename (∀ p ∈ _, _ < _) => hl9)
    rename_i l9 h9
    have hnd' : (R :: pre.map (·.a)).Nodup := by rw [ha]; exact hnd
    have hR9 : R < l9 := hl9 (R, _) (List.Mem.head _)
    refine append_K F9 N9 (news' := (l9, listOf [Value.int xi ti].toArray 0) :: (R, _) :: pre.map rowE) (.tail (Nat.ne_of_gt hR9) (.head ?_)) ?_ ?_
    · intro p hp e
      obtain ⟨q, hq, rfl⟩ := List.mem_map.mp hp
      exact (List.nodup_cons.mp hnd').1 (by rw [← show q.a = R from e]; exact List.mem_map_of_mem (f := fun r : RowD => r.a) hq)
    · intro h10 F10 N10
      iterate 2 (first | walk1 | (dsimp only; walk1))
      have hfresh : g.get? l9 = none := (N10 _ (.head _)).2.2
      refine hQ h10 _ (ep + 1) (pre ++ [⟨l9, [.int xi ti], [xi], 0⟩]) ?_ ?_ ?_ ?_ ?_ ?_
      · intro p hp
        refine (N10 p ?_).1
        simp only [tabL, rowE, List.map_append, List.map_cons, List.map_nil, List.mem_cons, List.mem_append] at hp ⊢
        rcases hp with rfl | hp | rfl | hp
        · exact .inr (.inl (by simp))
        · exact .inr (.inr hp)
        · exact .inl rfl
        · exact absurd hp List.not_mem_nil
      · intro q hq
        rcases List.mem_append.mp hq with hq | hq
        · exact (hint' q hq).1
        · rw [List.mem_singleton.mp hq]
          exact .cons _ _ .nil
      · have : ∀ r ∈ pre, r.a < l9 := fun r hr => hl9 (rowE r) (.tail _ (List.mem_map_of_mem (f := rowE) hr))
        rw [List.map_append, ← List.cons_append, List.nodup_append]
        refine ⟨hnd', by simp, ?_⟩
        intro a ha b hb
        simp at hb
        subst hb
        rcases List.mem_cons.mp ha with rfl | ha
        · exact Nat.ne_of_lt hR9
        · obtain ⟨q, hq, rfl⟩ := List.mem_map.mp ha
          exact Nat.ne_of_lt (this q hq)
      · rw [hins]
        simp [insT]
      · intro b o hb hq
        exact F10.keep b o (hgS b o hb hq)
      · intro q hq
        rcases List.mem_append.mp hq with hq | hq
        · exact .inl (by rw [← ha]; exact List.mem_map_of_mem (f := fun r : RowD => r.a) hq)
        · rw [List.mem_singleton.mp hq]
          refine .inr ?_
          cases e : s.heap.get? l9 with
          | none => rfl
          | some o =>
            have := hgS l9 o e (fun q => by
              rcases List.mem_cons.mp q with q | q
              · exact absurd q (Nat.ne_of_gt hR9)
              · rw [← ha] at q
                obtain ⟨z, hz, e2⟩ := List.mem_map.mp q
                exact absurd (hl9 (rowE z) (.tail _ (List.mem_map_of_mem (f := rowE) hz))) (by rw [show (rowE z).1 = l9 from e2]; exact Nat.lt_irrefl _))
            rw [hfresh] at this; cases this
    · have := congrArg List.length ha
      simp at this
      rw [sizeLine_eq]
      simp
      omega
end Mine
namespace Mine
theorem fillK3 : (∀ p : Program, p = PySem.Challenge.rw_cy0003_01.prog → p = p) ∧ hd01.heap_39 = hd01.heap_39 := by
  k_fill
  exact ⟨fun _ _ => rfl, rfl⟩

theorem tab_call {w : World} {A : Around} {E : Value → Shared → Prop} {s : Shared} {Q : Value → Shared → Prop} {mg mb : Str → Option Value} {p : Program} {loose : List Str} {l : Addr} {vs : List Value} {ns : List Int}
    (X : (hd01.heap_39 w.params).In s.heap) (T : TopRead p loose mg mb s.heap) (hroom : A.depth + 30 < recursionLimit) (hh : A.handled = none)
    (hl' : s.heap.IsList l vs.toArray) (hi : IntsAre vs ns) (hlen : ns.length < 2 ^ 18)
    (hQ : ∀ h' tk R ep rows, Kept s.heap h' → (∀ p ∈ tabL R ep rows, h'.get? p.1 = some p.2 ∧ s.heap.get? p.1 = none) → (∀ r ∈ rows, IntsAre r.vs r.ns) → (R :: rows.map (·.a)).Nodup → rows.map (·.ns) = ns.foldl insT [] → Q (.ref R) { s with heap := h', toks := tk }) :
    wpAny (model PySem.Challenge.rw_cy0003_01.prog w) A (call (.ref 37) [.ref l] []) Q E s := by
  obtain ⟨ol, hl, hoc, nn, hod⟩ := hl'
  refine' enter0 (K := hd01.heap_39 w.params) (binds := [(Str.ofString "numbers", .ref l)]) X T.nolimit (by omega) ?ho ?hcd ?hb ?hl ?_ ?c1 ?c2 ?c3 ?c4
  case ho => exact rfl
  case hcd => exact rfl
  case hb => exact BindsTo.of_eq rfl
  case hl => exact locs rfl
  case c1 => exact rfl
  case c2 => exact rfl
  case c3 => exact rfl
  case c4 => decide
  intro h₁ tk F
  have N : News s.heap s.heap.objs.size h₁ [] := News.nil
  have hsz : vs.length = ns.length := hi.length
  w_on
  iterate 8 (first | walk1 | (dsimp only; walk1))
  (rename Fr _ _ _ _ => F2); (rename News _ _ _ _ => N2)
  refine For_invVF F2 rfl rfl ?_
  iterate 1 (first | walk1 | (dsimp only; walk1))
  rename_i R _ _ h2
  have N2' : News s.heap s.heap.objs.size h2 (tabL R 0 []) := N2
  refine iter_led (fun i m nx => ∃ ep rows, nx = tabL R ep rows ∧ (∀ r ∈ rows, IntsAre r.vs r.ns ∧ r.ns.length ≤ i) ∧ rows.length ≤ i ∧ (R :: rows.map (·.a)).Nodup ∧ rows.map (·.ns) = (ns.take i).foldl insT [] ∧ m (Str.ofString "rows") = some (.ref R)) (l := l) (vs := vs) (nn := nn) hh hoc hod (F2.keep _ _ hl) (Nat.ne_of_lt (Heap.lt_size hl)) F2 N2' ?_ ?_ ?_ ?_
  · exact ⟨0, [], rfl, by simp, by simp, by simp, rfl, rfl⟩
  · exact fun _ _ _ _ => .inr hl
  · rintro i v m₁ nx h tk₁ I oI hv ⟨ep, rows, rfl, hint, hlr, hnd, hrows, hR⟩ hoff hIlt F₁ N₁
    have hil : i < ns.length := by rw [← hsz]; exact (List.getElem?_eq_some_iff.mp hv).1
    obtain ⟨x, t, rfl, hx⟩ : ∃ x t, v = .int x t ∧ ns[i]? = some x := by
      obtain ⟨t, ht⟩ := hi.get i ns[i] (by simp [hil])
      rw [ht] at hv
      exact ⟨ns[i], t, (Option.some.inj hv).symm, by simp [hil]⟩
    replace F₁ := fr_put (Str.ofString "rows") F₁ hR
    iterate 11 (first | walk1 | (dsimp only; walk1))
    have hT : ∀ p ∈ tabL R ep rows, h.get? p.1 = some p.2 ∧ s.heap.get? p.1 = none := fun p hp => ⟨(N₁ p (List.mem_append_left _ hp)).1, (N₁ p (List.mem_append_left _ hp)).2.2⟩
    refine ins_call (g₀ := s.heap) (R := R) (ep := ep) (rows := rows) X T F₁.keep (by rw [depth_deeper]; omega) hh hT (fun r hr => (hint r hr).1) hnd (by omega) (fun r hr => by have := (hint r hr).2; omega) ?_
    intro h3 tk3 ep' rows' hT' hint' hnd' hrows' hk' hfr'
    have has : ∀ a ∈ R :: rows.map (·.a), ∃ o, (a, o) ∈ tabL R ep rows := by
      intro a ha
      rcases List.mem_cons.mp ha with rfl | ha
      · exact ⟨_, .head _⟩
      · obtain ⟨r, hr, rfl⟩ := List.mem_map.mp ha
        exact ⟨_, .tail _ (List.mem_map_of_mem (f := rowE) hr)⟩
    have hL : s.heap.objs.size ∉ R :: rows.map (·.a) := fun q => by
      obtain ⟨o, ho⟩ := has _ q
      exact (N₁ _ (List.mem_append_left _ ho)).2.1 rfl
    have F3 := fr_but F₁ hk' hL (fun a ha => by obtain ⟨o, ho⟩ := has a ha; exact (hT _ ho).2)
    obtain ⟨oL, _, _, hLo, _⟩ := F₁.ns
    have hnew : ∀ p ∈ tabL R ep' rows', p.1 ∈ R :: rows.map (·.a) ∨ h.get? p.1 = none := by
      intro p hp
      rcases List.mem_cons.mp hp with rfl | hp
      · exact .inl (.head _)
      · obtain ⟨r, hr, rfl⟩ := List.mem_map.mp hp
        exact (hfr' r hr).imp (fun q => .tail _ q) id
    have N3 : News s.heap s.heap.objs.size h3 (tabL R ep' rows' ++ [(I, oI)]) := by
      intro p hp
      rcases List.mem_append.mp hp with hp | hp
      · refine ⟨hT' p hp, ?_⟩
        rcases hnew p hp with q | q
        · obtain ⟨o, ho⟩ := has _ q
          exact (N₁ _ (List.mem_append_left _ ho)).2
        · refine ⟨fun e => ?_, ?_⟩
          · rw [e] at q
            rw [show h.get? s.heap.objs.size = some oL from hLo] at q; cases q
          · cases e : s.heap.get? p.1 with
            | none => rfl
            | some o => rw [F₁.keep _ _ e] at q; cases q
      · rw [List.mem_singleton.mp hp]
        have z := N₁ (I, oI) (List.mem_append_right _ (.head _))
        refine ⟨hk' _ _ z.1 fun q => ?_, z.2⟩
        obtain ⟨o, ho⟩ := has _ q
        exact hoff _ ho rfl
    iterate 1 (first | walk1 | (dsimp only; walk1))
    refine ⟨h3, _, _, _, rfl, F3, N3, ?_, ep', rows', rfl, ?_, ?_, hnd', ?_, rfl⟩
    · intro p hp e
      rcases hnew p hp with q | q
      · obtain ⟨o, ho⟩ := has _ q
        exact hoff _ ho e
      · rw [e, (N₁ (I, oI) (List.mem_append_right _ (.head _))).1] at q; cases q
    · intro r hr
      refine ⟨hint' r hr, ?_⟩
      refine insT_lens (n := i) (rows.map (·.ns)) x (fun q hq => ?_) _ (hrows' ▸ List.mem_map_of_mem (f := fun r : RowD => r.ns) hr)
      obtain ⟨r', hr', rfl⟩ := List.mem_map.mp hq
      exact (hint r' hr').2
    · have := insT_len (rows.map (·.ns)) x
      rw [← hrows'] at this
      simp at this
      omega
    · rw [hrows', hrows, List.take_add_one, hx]
      simp
  · rintro m₁ nx h tk₁ ⟨ep, rows, rfl, hint, hlr, hnd, hrows, hR⟩ F₁ N₁
    replace F₁ := fr_put (Str.ofString "rows") F₁ hR
    iterate 3 (first | walk1 | (dsimp only; walk1))
    dsimp only
    refine hQ h tk₁ R ep rows F₁.keep (fun p hp => ⟨(N₁ p hp).1, (N₁ p hp).2.2⟩) (fun r hr => (hint r hr).1) hnd ?_
    rw [hrows, hsz, List.take_length]
end Mine
namespace Mine
theorem fillK4 : (∀ p : Program, p = PySem.Challenge.rw_cy0003_01.prog → p = p) ∧ hd01.heap_39 = hd01.heap_39 := by
  k_fill
  exact ⟨fun _ _ => rfl, rfl⟩

def fdBody : Stmt → List Stmt
  | .FunctionDef _ _ b _ _ _ _ _ _ _ => b
  | _ => []
def fdScope : Stmt → Option Scope
  | .FunctionDef _ _ _ _ _ _ sc _ _ _ => some sc
  | _ => none
def lawBody : List Stmt := (PySem.Challenge.pw_cy0003_01.main.body.getLast?.map fdBody).getD []
def lawScope : Scope := ((PySem.Challenge.pw_cy0003_01.main.body.getLast?.bind fdScope)).getD default

/-- each number where it comes first -/
def firsts (ns : List Int) : List Int := ns.foldl (fun acc x => if x ∈ acc then acc else acc ++ [x]) []

theorem firsts_len (ns : List Int) : (firsts ns).length ≤ ns.length := by
  have h : ∀ (ns acc : List Int), (ns.foldl (fun acc x => if x ∈ acc then acc else acc ++ [x]) acc).length ≤ acc.length + ns.length := by
    intro ns
    induction ns with
    | nil => intro acc; simp
    | cons x r ih =>
      intro acc
      simp only [List.foldl_cons, List.length_cons]
      refine Nat.le_trans (ih _) ?_
      split
      · omega
      · simp; omega
  simpa [firsts] using h ns []
/-- the k-th column -/
def colK (T : List (List Int)) (k : Nat) : List Int := T.filterMap (fun r => r[k]?)

theorem firsts_nodup (ns : List Int) : (firsts ns).Nodup := by
  have h : ∀ (ns acc : List Int), acc.Nodup → (ns.foldl (fun acc x => if x ∈ acc then acc else acc ++ [x]) acc).Nodup := by
    intro ns
    induction ns with
    | nil => exact fun acc h => h
    | cons x r ih =>
      intro acc hd
      refine ih _ ?_
      dsimp only
      split
      · exact hd
      · rename_i hx
        rw [List.nodup_append]
        refine ⟨hd, by simp, fun a ha b hb e => ?_⟩
        rw [List.mem_singleton.mp hb] at e
        exact hx (e ▸ ha)
  exact h ns [] (by simp)
theorem schensted (ns : List Int) : (firsts ns).reverse.foldl insT [] = (List.range (((firsts ns).foldl insT []).headD []).length).map (colK ((firsts ns).foldl insT [])) :=
  schensted_nodup (firsts ns) (firsts_nodup ns)

theorem law_body {w : World} {s : Shared} {Q : Flow → Shared → Prop} {mg mb : Str → Option Value} {p : Program} {loose : List Str} {base : Heap} {L fa l : Addr} {cd : Value} {vs : List Value} {ns : List Int} {m₀ : Str → Option Value} {oc : Obj} {v₀ : Option Value}
    (X : (hd01.heap_39 w.params).In base) (T : TopRead p loose mg mb base) (hl : base.IsList l vs.toArray) (hi : IntsAre vs ns) (hlen : ns.length ≤ 63)
    (F : Fr base L s.heap m₀) (hm0 : m₀ (Str.ofString "script") = some (.ref l)) (N : News base L s.heap [(L + 1, oc)]) (hoc : oc.data = .cell v₀)
    (hQ : ∀ h' tk m', Fr base L h' m' → Q (.ret (.bool true)) { s with heap := h', toks := tk }) :
    wpAny (model PySem.Challenge.rw_cy0003_01.prog w) (callerA.deeper (envOfC (Str.ofString "law") lawScope L fa cd)) (execs lawBody (envOfC (Str.ofString "law") lawScope L fa cd)) Q (fun _ _ => False) s := by
  replace F := fr_put (Str.ofString "script") F hm0
  dsimp only [lawBody, lawScope, PySem.Challenge.pw_cy0003_01, List.getLast?, List.getLast, Option.map, Option.bind, Option.getD, fdBody, fdScope]
  w_on
  iterate 8 (first | walk1 | (dsimp only; walk1))
  (rename Fr _ _ _ _ => F1); (rename News _ _ _ _ => N1); rename_i M _ _ h1
  obtain ⟨ol, hol, hoc1, nn, hod1⟩ := hl
  have hl : base.IsList l vs.toArray := ⟨ol, hol, hoc1, nn, hod1⟩
  refine For_invVF F1 rfl rfl ?_
  iterate 1 (first | walk1 | (dsimp only; walk1))
  refine iter_led (fun i m nx => ∃ vn nm ep, nx = [(M, listOf (List.toArray vn) ep), (L + 1, oc)] ∧ IntsAre vn nm ∧ nm = firsts (ns.take i) ∧ m (Str.ofString "numbers") = some (.ref M)) (l := l) (vs := vs) (nn := nn) rfl hoc1 hod1 (F1.keep _ _ hol) (Nat.ne_of_lt (Nat.lt_of_lt_of_le (Heap.lt_size hol) F1.above)) F1 N1 ?_ ?_ ?_ ?_
  · exact ⟨[], [], 0, rfl, .nil, rfl, rfl⟩
  · exact fun _ _ _ _ => .inr hol
  · rintro i v m₁ nx h tk₁ I oI hv ⟨vn, nm, epn, rfl, hvn, hnm, hmM⟩ hoff hIlt F₁ N₁
    have hil : i < ns.length := by rw [← hi.length]; exact (List.getElem?_eq_some_iff.mp hv).1
    obtain ⟨x, t, rfl, hx⟩ : ∃ x t, v = .int x t ∧ ns[i]? = some x := by
      obtain ⟨t, ht⟩ := hi.get i ns[i] (by simp [hil])
      rw [ht] at hv
      exact ⟨ns[i], t, (Option.some.inj hv).symm, by simp [hil]⟩
    replace F₁ := fr_put (Str.ofString "numbers") F₁ hmM
    have N₁' : News base L h [(M, listOf (List.toArray vn) epn), (L + 1, oc), (I, oI)] := N₁
    clear N₁
    have hfs : firsts (ns.take (i + 1)) = if x ∈ nm then nm else nm ++ [x] := by
      rw [hnm, List.take_add_one, hx]
      unfold firsts
      rw [List.foldl_append]
      rfl
    have hnl : nm.length ≤ i := by rw [hnm]; exact Nat.le_trans (firsts_len _) (by simp; omega)
    iterate 5 (first | walk1 | (dsimp only; walk1))
    refine notin_list_ints (News.isList N₁' (.head _)) hvn ?_
    iterate 1 (first | walk1 | (dsimp only; walk1))
    by_cases hxm : x ∈ nm
    · rw [if_neg (by simpa using hxm)]
      iterate 2 (first | walk1 | (dsimp only; walk1))
      exact ⟨h, _, _, [(M, listOf (List.toArray vn) epn), (L + 1, oc)], rfl, F₁, N₁', hoff, vn, nm, epn, rfl, hvn, by rw [hfs, if_pos hxm], rfl⟩
    · rw [if_pos (by simp; exact fun a ha e => hxm (e ▸ ha))]
      iterate 4 (first | walk1 | (dsimp only; walk1))
      refine kl_method N₁' (.head _) PySem.F.slot_list_append PySem.F.type_list_append ?_
      iterate 4 (first | walk1 | (dsimp only; walk1))
      have hMne : M ≠ L + 1 := Nat.ne_of_gt (by assumption)
      have hMI : I ≠ M := (hoff (M, _) (List.Mem.head _)).symm
      refine append_K F₁ N₁' (.head (List.forall_mem_cons.mpr ⟨Ne.symm hMne, List.forall_mem_cons.mpr ⟨hMI, List.forall_mem_nil _⟩⟩)) ?_ (by rw [List.size_toArray, hvn.length, sizeLine_eq]; omega)
      intro h3 F3 N3
      iterate 3 (first | walk1 | (dsimp only; walk1))
      refine ⟨h3, _, _, [(M, listOf (List.toArray (vn ++ [.int x t])) (epn + 1)), (L + 1, oc)], rfl, F3, ?_, ?_, vn ++ [.int x t], nm ++ [x], epn + 1, rfl, hvn.append (.cons _ _ .nil), by rw [hfs, if_neg hxm], rfl⟩
      · simpa using N3
      · intro p hp
        rcases List.mem_cons.mp hp with rfl | hp
        · exact hMI.symm
        · exact hoff p (.tail _ hp)
  · rintro m₁ nx h tk₁ ⟨vn, nm, epn, rfl, hvn, hnm, hmM⟩ F₁ N₁
    replace F₁ := fr_put (Str.ofString "numbers") F₁ hmM
    rw [hi.length, List.take_length] at hnm
    have hnl : nm.length ≤ 63 := by rw [hnm]; exact Nat.le_trans (firsts_len _) hlen
    iterate 9 (first | walk1 | (dsimp only; walk1))
    refine tab_call (X.keeps F₁.keep) (T.keeps F₁.keep) (by rw [depth_deeper, depth_caller]; decide) rfl (News.isList N₁ (.head _)) hvn (by omega) ?_
    intro h2 tk2 R ep rows hk2 hT2 hint2 hnd2 hrows2
    have F2 := frKept F₁ hk2
    have N2 : News base L h2 (tabL R ep rows ++ [(M, listOf (List.toArray vn) epn), (L + 1, oc)]) := newsTab F₁ N₁ hk2 hT2
    have hRoff : ∀ p ∈ tabL R ep rows, p.1 ≠ L + 1 := newsOff N₁ (.tail _ (.head _)) hT2
    clear hk2 hT2 F₁ N₁
    iterate 10 (first | walk1 | (dsimp only; walk1))
    (rename Fr _ _ _ _ => F3); (rename News _ _ _ _ => N3); (rename (∀ p ∈ _, _ < _) => hl3)
    rename_i Cc _ h3
    refine for_gen ?_
    iterate 18 (first | walk1 | (dsimp only; walk1))
    (rename Fr _ _ _ _ => F4); (rename News _ _ _ _ => N4); rename_i E4 _ _ W4 h4 _
    have htl := tab_len hrows2
    refine kmk_add_lit F4 N4 (a := R) (its := ((rows.map (·.a)).map Value.ref).toArray) ⟨_, (N4 _ (.tail _ (.tail _ (.tail _ (.head _))))).1, rfl, ep, rfl⟩ (News.isList N4 (.head _)) rfl ?_ (by simp [sizeLine_eq]; omega)
    intro D5 h5 F5 N5 l5
    iterate 1 (first | walk1 | (dsimp only; walk1))
    obtain ⟨r0, v0, n0, hr0, hr1, hr2, hr3⟩ : ∃ r0 v0 n0, (((rows.map (·.a)).map Value.ref).toArray.toList ++ [Value.ref E4])[(0 : Int).toNat]? = some (.ref r0) ∧ h5.IsList r0 (List.toArray v0) ∧ IntsAre v0 n0 ∧ n0.length = ((rows.map (·.ns)).headD []).length := by
      cases rows with
      | nil => exact ⟨E4, [], [], rfl, News.isList N5 (.tail _ (.tail _ (.head _))), .nil, rfl⟩
      | cons r rs => exact ⟨r.a, r.vs, r.ns, rfl, ⟨_, (N5 (rowE r) (.tail _ (.tail _ (.tail _ (.tail _ (.tail _ (.head _))))))).1, rfl, r.ep, rfl⟩, hint2 r (.head _), rfl⟩
    have hr3' : n0.length ≤ 63 := by
      rw [hr3]
      cases rows with
      | nil => simp
      | cons r rs => have := htl.2 r (.head _); simp; omega
    refine item_val (News.isList N5 (.head _)) (by omega) (by omega) hr0 ?_ (by with_unfolding_all rfl)
    iterate 1 (first | walk1 | (dsimp only; walk1))
    refine len_ints_fit hr1 hr2 (by omega) ?_
    rw [hr3]
    replace N5 : News base L h5 (tabL Cc 0 [] ++ (tabL R ep rows ++ [(M, listOf (List.toArray vn) epn), (L + 1, oc)])) := fun p hp => N5 p (.tail _ (.tail _ (.tail _ hp)))
    clear F4 N4 hr0 hr1 hr2 l5
    iterate 2 (first | walk1 | (dsimp only; walk1))
    (rename Fr _ _ _ _ => F6); (rename News _ _ _ _ => N6); (rename IsRange _ _ _ _ _ _ _ _ => R6)
    have hML : M ≠ L + 1 := Nat.ne_of_gt (by assumption)
    have hcN : ((rows.map (·.ns)).headD []).length ≤ 63 := by rw [← hr3]; exact hr3'
    have hCoff : ∀ q ∈ tabL R ep rows ++ [(M, listOf (List.toArray vn) epn), (L + 1, oc)], q.1 ≠ Cc := fun q hq => Nat.ne_of_lt (hl3 q hq)
    refine iter_range (fun k m nx => ∃ epc crows oc', nx = tabL Cc epc crows ++ (tabL R ep rows ++ [(M, listOf (List.toArray vn) epn), (L + 1, oc')]) ∧ (∃ v', oc'.data = .cell v') ∧ (∀ r ∈ crows, IntsAre r.vs r.ns) ∧ ((tabL Cc epc crows).map (·.1)).Nodup ∧
      (∀ p ∈ tabL Cc epc crows, p.1 ∉ (tabL R ep rows).map (·.1) ++ [M, L + 1]) ∧ crows.map (·.ns) = (List.range k).map (colK (rows.map (·.ns))) ∧ (m (Str.ofString "columns") = some (.ref Cc) ∧ m (Str.ofString "rows") = some (.ref R) ∧ m (Str.ofString "numbers") = some (.ref M)))
      (n := ((rows.map (·.ns)).headD []).length) (by intro _ _; rfl) rfl R6 (small_one (by omega) (by omega) (by omega) (by omega)) (by rw [rangeSize_nat]; omega) F6 N6 ?_ ?_ ?_
    · refine ⟨0, [], oc, rfl, ⟨_, hoc⟩, by simp, by simp [tabL], ?_, rfl, rfl, rfl, rfl⟩
      intro p hp
      rw [List.mem_singleton.mp hp]
      intro q
      simp only [List.mem_append, List.mem_map, List.mem_cons, List.not_mem_nil, or_false] at q
      rcases q with ⟨q, hq, e⟩ | e | e
      · exact hCoff q (List.mem_append_left _ hq) e
      · exact hCoff (M, _) (List.mem_append_right _ (.head _)) e.symm
      · exact hCoff (L + 1, oc) (List.mem_append_right _ (.tail _ (.head _))) e.symm
    · rintro k t m₂ nx h tk₃ I oI hk ⟨epc, crows, oc', rfl, ⟨v', hoc'⟩, hci, hcn, hco, hcr, mC, mR, mM⟩ hoff hIlt F₂ N₂
      replace F₂ := fr_put (Str.ofString "columns") (fr_put (Str.ofString "rows") (fr_put (Str.ofString "numbers") F₂ mM) mR) mC
      rw [Int.zero_add]
      iterate 1 (first | walk1 | (dsimp only; walk1))
      have N₂' : News base L h ((tabL Cc epc crows ++ (tabL R ep rows ++ [(M, listOf (List.toArray vn) epn)])) ++ (L + 1, oc') :: [(I, oI)]) := by simpa using N₂
      refine stCN F₂ N₂' rfl hoc' ?_ ?_ ?_
      · intro p hp e
        rcases List.mem_append.mp hp with hp | hp
        · exact hco p hp (by rw [e]; simp)
        · rcases List.mem_append.mp hp with hp | hp
          · exact hRoff p hp e
          · rw [List.mem_singleton.mp hp] at e; exact hML e
      · intro p hp e
        rw [List.mem_singleton.mp hp] at e
        exact hoff (L + 1, oc') (by simp) e.symm
      intro h7 oc7 F7 N7 hoc7
      clear F₂ N₂ N₂' F6 N6
      iterate 4 (first | walk1 | (dsimp only; walk1))
      have N7' : News base L h7 (tabL Cc epc crows ++ (tabL R ep rows ++ [(M, listOf (List.toArray vn) epn), (L + 1, oc7), (I, oI)])) := by simpa using N7
      have hmC : (Cc, listOf ((crows.map (·.a)).map Value.ref).toArray epc) ∈ tabL Cc epc crows ++ (tabL R ep rows ++ [(M, listOf (List.toArray vn) epn), (L + 1, oc7), (I, oI)]) := List.mem_append_left _ (.head _)
      iterate 1 (first | walk1 | (dsimp only; walk1))
      refine kl_method N7' hmC PySem.F.slot_list_append PySem.F.type_list_append ?_
      iterate 2 (first | walk1 | (dsimp only; walk1))
      refine LCt.ListComp_T (F₀ := F7) (by with_unfolding_all rfl) (by decide) rfl (by decide) rfl ?_
      iterate 1 (first | walk1 | (dsimp only; walk1))
      have hmR : (R, listOf ((rows.map (·.a)).map Value.ref).toArray ep) ∈ tabL Cc epc crows ++ (tabL R ep rows ++ [(M, listOf (List.toArray vn) epn), (L + 1, oc7), (I, oI)]) := List.mem_append_right _ (List.mem_append_left _ (.head _))
      refine LCt.CompSrcT.ledger rfl F7 N7' hmR (by simp [sizeLine_eq]; omega) ?_
      intro g
      refine compT_ind (fun i ys news => news = tabL Cc epc crows ++ (tabL R ep rows ++ [(M, listOf (List.toArray vn) epn), (L + 1, oc7), (I, oI)]) ∧ IntsAre ys (colK ((rows.take i).map (·.ns)) k)) ?_ ?_ _ 0 [] _ (Nat.zero_add _) ⟨rfl, .nil⟩
      · rintro i ys news v I' oI' C oC D m₃ h8 tk8 E' hin ⟨rfl, hys⟩ hP hN hxr F8 N8 off8 ne8
        have hil : i < rows.length := by simpa using hin
        obtain ⟨r, hr, rfl⟩ : ∃ r, rows[i]? = some r ∧ v = .ref r.a := by
          refine ⟨rows[i], by simp, ?_⟩
          simp [hil] at hP
          exact hP.symm
        have hrm : r ∈ rows := List.mem_of_getElem? hr
        have hmk : (L + 1, oc7) ∈ (I', oI') :: (C, oC) :: (D, LCg.lst ys) :: (tabL Cc epc crows ++ (tabL R ep rows ++ [(M, listOf (List.toArray vn) epn), (L + 1, oc7), (I, oI)])) := .tail _ (.tail _ (.tail _ (List.mem_append_right _ (List.mem_append_right _ (.tail _ (.head _))))))
        have hmr : rowE r ∈ (I', oI') :: (C, oC) :: (D, LCg.lst ys) :: (tabL Cc epc crows ++ (tabL R ep rows ++ [(M, listOf (List.toArray vn) epn), (L + 1, oc7), (I, oI)])) := .tail _ (.tail _ (.tail _ (List.mem_append_right _ (List.mem_append_left _ (.tail _ (List.mem_map_of_mem (f := rowE) hrm))))))
        have hrl : h8.IsList r.a r.vs.toArray := ⟨_, (N8 _ hmr).1, rfl, r.ep, rfl⟩
        have hrlen := htl.2 r hrm
        iterate 1 (first | walk1 | (dsimp only; walk1))
        refine lcf_cell N8 (c := L + 1) rfl hmk hoc7 ?_ rfl rfl
        iterate 1 (first | walk1 | (dsimp only; walk1))
        refine compName_B rfl rfl F8 X T (by k_is) (by boot_by_name) (by decide) ?_ rfl rfl (by decide)
        iterate 2 (first | walk1 | (dsimp only; walk1))
        refine compName_L (N8 _ (.tail _ (.head _))).1 hN hxr ?_ rfl rfl (by decide)
        iterate 1 (first | walk1 | (dsimp only; walk1))
        refine len_ints_fit hrl (hint2 r hrm) (by omega) ?_
        iterate 2 (first | walk1 | (dsimp only; walk1))
        have hcol : colK ((rows.take (i + 1)).map (·.ns)) k = colK ((rows.take i).map (·.ns)) k ++ r.ns[k]?.toList := by
          rw [List.take_add_one, hr]
          unfold colK
          rw [List.map_append, List.filterMap_append]
          cases e : r.ns[k]? with
          | none => simp [List.filterMap_cons, e]
          | some v => simp [List.filterMap_cons, e]
        have hsrc8 : LCg.SrcAt base R ((rows.map (·.a)).map Value.ref).toArray (tabL Cc epc crows ++ (tabL R ep rows ++ [(M, listOf (List.toArray vn) epn), (L + 1, oc7), (I, oI)])) := .inr ⟨_, hmR, rfl, ep, rfl⟩
        by_cases hkr : k < r.ns.length
        · rw [if_pos (by exact decide_eq_true (Int.ofNat_lt.mpr hkr))]
          iterate 1 (first | walk1 | (dsimp only; walk1))
          refine compName_L (N8 _ (.tail _ (.head _))).1 hN hxr ?_ rfl rfl (by decide)
          refine lcf_cell N8 (c := L + 1) rfl hmk hoc7 ?_ rfl rfl
          refine item_anyK hrl (hint2 r hrm) (by omega) (by exact Int.ofNat_lt.mpr hkr) (by omega) (fun t9 => ?_) (by with_unfolding_all rfl)
          refine ⟨h8, _, _, rfl, F8, N8, off8, hsrc8, rfl, ?_⟩
          rw [hcol]
          refine hys.append ?_
          rw [List.getElem?_eq_getElem hkr, Int.toNat_natCast]
          have e9 : r.ns.getD k 0 = r.ns[k] := by simp [List.getD, List.getElem?_eq_getElem hkr]
          rw [e9]
          exact .cons _ _ .nil
        · rw [if_neg (by exact fun q => hkr (Int.ofNat_lt.mp (of_decide_eq_true q)))]
          refine ⟨h8, _, _, rfl, F8, N8, off8, hsrc8, rfl, ?_⟩
          rw [hcol, List.getElem?_eq_none (by omega)]
          simpa using hys
      · rintro ys news ⟨rfl, hys⟩ D9 h9 tk9 F9 N9 off9
        have off9' : ∀ p ∈ tabL Cc epc crows ++ (tabL R ep rows ++ [(M, listOf (List.toArray vn) epn), (L + 1, oc7), (I, oI)]), p.1 ≠ D9 := off1_mem off9
        have hlY : ((rows.map (·.a)).map Value.ref).toArray.size = rows.length := by simp
        rw [hlY, List.take_length] at hys
        iterate 1 (first | walk1 | (dsimp only; walk1))
        have hDC : D9 ≠ Cc := (off9' _ hmC).symm
        refine append_K F9 N9 (.tail hDC (.head ?_)) ?_ ?_
        · intro p hp e
          rcases List.mem_append.mp hp with hp | hp
          · exact (List.nodup_cons.mp hcn).1 (by have := List.mem_map_of_mem (f := fun p : Addr × Obj => p.1) hp; rw [e] at this; exact this)
          · have hC0 := hco (Cc, _) (List.Mem.head _)
            rcases List.mem_append.mp hp with hp | hp
            · exact hC0 (List.mem_append_left _ (by have := List.mem_map_of_mem (f := fun p : Addr × Obj => p.1) hp; rw [e] at this; exact this))
            · rcases List.mem_cons.mp hp with rfl | hp
              · exact hC0 (List.mem_append_right _ (by rw [← show M = Cc from e]; exact .head _))
              · rcases List.mem_cons.mp hp with rfl | hp
                · exact hC0 (List.mem_append_right _ (by rw [← show L + 1 = Cc from e]; exact .tail _ (.head _)))
                · rw [List.mem_singleton.mp hp] at e
                  exact hoff (Cc, _) (List.Mem.head _) e.symm
        · intro h10 F10 N10
          iterate 2 (first | walk1 | (dsimp only; walk1))
          have hk1 : colK (rows.map (·.ns)) k = colK (rows.map (·.ns)) k := rfl
          have hCN : ∀ p ∈ tabL Cc (epc + 1) (crows ++ [⟨D9, ys, colK (rows.map (·.ns)) k, ys.length⟩]), p = (D9, LCg.lst ys) ∨ p = (Cc, listOf (((crows.map (·.a)).map Value.ref).toArray.push (.ref D9)) (epc + 1)) ∨ p ∈ crows.map rowE := by
            intro p hp
            simp only [tabL, rowE, List.map_append, List.map_cons, List.map_nil, List.mem_cons, List.mem_append, List.not_mem_nil, or_false] at hp ⊢
            rcases hp with rfl | hp | rfl
            · exact .inr (.inl (by simp))
            · exact .inr (.inr hp)
            · exact .inl rfl
          refine ⟨h10, _, _, tabL Cc (epc + 1) (crows ++ [⟨D9, ys, colK (rows.map (·.ns)) k, ys.length⟩]) ++ (tabL R ep rows ++ [(M, listOf (List.toArray vn) epn), (L + 1, oc7)]), rfl, F10, ?_, ?_, epc + 1, _, oc7, rfl, ⟨_, hoc7⟩, ?_, ?_, ?_, ?_, rfl, rfl, rfl⟩
          · intro p hp
            refine N10 p ?_
            rcases List.mem_append.mp hp with hp | hp
            · rcases List.mem_append.mp hp with hp | hp
              · rcases hCN p hp with q | q | q
                · rw [q]; exact .head _
                · rw [q]; exact .tail _ (.head _)
                · exact .tail _ (.tail _ (List.mem_append_left _ q))
              · refine .tail _ (.tail _ (List.mem_append_right _ ?_))
                simp only [List.mem_append, List.mem_cons, List.not_mem_nil, or_false] at hp ⊢
                rcases hp with q | q | q
                · exact .inl q
                · exact .inr (.inl q)
                · exact .inr (.inr (.inl q))
            · rw [List.mem_singleton.mp hp]
              exact .tail _ (.tail _ (List.mem_append_right _ (List.mem_append_right _ (.tail _ (.tail _ (.head _))))))
          · intro p hp
            rcases List.mem_append.mp hp with hp | hp
            · rcases hCN p hp with q | q | q
              · rw [q]; exact fun e => off9' (I, oI) (by simp) e.symm
              · rw [q]
                have hCI : Cc ≠ I := hoff (Cc, _) (List.Mem.head _)
                exact hCI
              · exact hoff p (List.mem_append_left _ (.tail _ q))
            · simp only [List.mem_append, List.mem_cons, List.not_mem_nil, or_false] at hp
              rcases hp with q | q | q
              · exact hoff p (by simp [q])
              · exact hoff p (by simp [q])
              · rw [q]; exact hoff (L + 1, oc') (by simp)
          · intro r hr
            rcases List.mem_append.mp hr with hr | hr
            · exact hci r hr
            · rw [List.mem_singleton.mp hr]
              exact hys
          · have e : (tabL Cc (epc + 1) (crows ++ [⟨D9, ys, colK (rows.map (·.ns)) k, ys.length⟩])).map (·.1) = (tabL Cc epc crows).map (·.1) ++ [D9] := by simp [tabL, rowE]
            rw [e, List.nodup_append]
            refine ⟨hcn, by simp, ?_⟩
            intro a ha b hb
            obtain ⟨q, hq, rfl⟩ := List.mem_map.mp ha
            rw [List.mem_singleton.mp hb]
            exact off9' q (List.mem_append_left _ hq)
          · intro p hp
            rcases hCN p hp with q | q | q
            · rw [q]
              intro z
              simp only [List.mem_append, List.mem_map, List.mem_cons, List.not_mem_nil, or_false] at z
              rcases z with ⟨y, hy, e⟩ | e | e
              · exact off9' y (by simp [hy]) e
              · exact off9' (M, listOf (List.toArray vn) epn) (by simp) e.symm
              · exact off9' (L + 1, oc7) (by simp) e.symm
            · rw [q]
              have hC0 : Cc ∉ (tabL R ep rows).map (·.1) ++ [M, L + 1] := hco (Cc, _) (List.Mem.head _)
              exact hC0
            · exact hco p (.tail _ q)
          · rw [List.map_append, hcr, List.range_succ, List.map_append]
            rfl
        · simp [sizeLine_eq]
          have := congrArg List.length hcr
          simp at this
          omega
    · rintro m₂ nx h tk₃ ⟨epc, crows, oc', rfl, ⟨v', hoc'⟩, hci, hcn, hco, hcr, mC, mR, mM⟩ F₂ N₂
      replace F₂ := fr_put (Str.ofString "columns") (fr_put (Str.ofString "numbers") F₂ mM) mC
      iterate 16 (first | walk1 | (dsimp only; walk1))
      iterate 1 (first | walk1 | (dsimp only; walk1))
      have hmM : (M, listOf (List.toArray vn) epn) ∈ tabL Cc epc crows ++ (tabL R ep rows ++ [(M, listOf (List.toArray vn) epn), (L + 1, oc')]) := by simp
      refine krv_reversed F₂ N₂ (News.isList N₂ hmM) ?_
      intro D3 h3 F3 N3 l3
      have hDM : M ≠ D3 := Nat.ne_of_lt (l3 _ hmM)
      iterate 1 (first | walk1 | (dsimp only; walk1))
      refine list_lri (l := M) (items := vn.toArray) (I := D3) rfl (News.isList N3 (.tail _ hmM)) ⟨_, (N3 _ (.head _)).1, rfl, by simp [revObj]⟩ hDM (by rw [List.size_toArray, hvn.length, sizeLine_eq]; omega) ?_
      intro h4 tk4 acc4 c4 hk4 hS4 hI4
      obtain rfl := rev_items hI4
      have F4 : Fr base L h4 _ := fr_but (as := [D3]) F3 (fun b o e q => hk4 b o (by simpa using q) e) (by simpa using (N3 _ (.head _)).2.1.symm) (fun a ha => by rw [List.mem_singleton.mp ha]; exact (N3 _ (.head _)).2.2)
      have N4 : News base L h4 (tabL Cc epc crows ++ (tabL R ep rows ++ [(M, listOf (List.toArray vn) epn), (L + 1, oc')])) := fun p hp => by
        have z := N3 p (.tail _ hp)
        exact ⟨hk4 _ _ (Nat.ne_of_lt (l3 p hp)) z.1, z.2⟩
      clear F3 N3 F₂ N₂
      iterate 2 (first | walk1 | (dsimp only; walk1))
      refine tab_call (X.keeps F4.keep) (T.keeps F4.keep) (by rw [depth_deeper, depth_caller]; decide) rfl ⟨_, hS4, rfl, c4, rfl⟩ (ints_reverse hvn) (by simp; omega) ?_
      intro h5 tk5 R5 ep5 rows5 hk5 hT5 hint5 hnd5 hrows5
      have F5 := frKept F4 hk5
      have N5 := newsKept N4 hk5
      iterate 1 (first | walk1 | (dsimp only; walk1))
      refine tab_eq (fun p hp => (hT5 p hp).1) hint5 (R' := Cc) (ep' := epc) (rows' := crows) (fun p hp => (N5 p (List.mem_append_left _ hp)).1) hci (by exact Nat.le_of_ble_eq_true rfl) ?_
      have e5 : rows5.map (·.ns) = crows.map (·.ns) := by
        rw [hrows5, hcr, hrows2, hnm]
        exact schensted ns
      rw [decide_eq_true e5]
      exact hQ _ _ _ F5
end Mine
theorem PySem.Challenge.cw_cy0003_01_holds : PySem.Challenge.rw_cy0003_01.Holds := by
  refine Mine.hd01 ?_
  k_go0
  (rename IntsAre _ _ => hI); (rename Fr _ _ _ _ => hF); (rename Heap.IsList _ _ _ => hL); (rename Frag.In _ _ => hK); (rename Top _ _ _ _ _ _ => hT); (rename News _ _ _ _ => hN); (rename _ = Data.cell _ => hD)
  refine wpAny_mono (Mine.law_body hK (topRead_of hT) hL hI (by omega) hF rfl hN hD ?_) (fun _ _ h => h) (fun _ _ h => h.elim)
  intro h' tk m' F'
  dsimp only
  wrow_close
