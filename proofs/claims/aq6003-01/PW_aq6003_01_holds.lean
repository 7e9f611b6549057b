import PyProof.Rows.All
import Wide.All
import OpenK.AllK
import Wide.FinOn
import KE.IntBitsLaws
import PySem.Challenge.RW_aq6003_01
open PySem PySem.Spec PySem.Calls PySem.W PyProof.Rows PyProof.Rows.LCg
open PySem.Builtin.Int (intBits)
set_option Elab.async false
set_option maxRecDepth 100000
set_option maxHeartbeats 8000000
namespace Mine
abbrev Led := List (Addr × Obj)

/-- what a call of the rows' judge gives: True, for every weekday and every length from 0 to 69 -/
def RClaim (prog : Program) (w : World) (K : Frag) (p : Program) (loose : List Str) (mean : ExcName → Option Value) (mg mb : Str → Option Value) (f : Addr) : Prop :=
  ∀ (start size : Int) (ts tz : Tok) (dp un : Nat) (gd : Option (List Code)) (cn : Str) (cs : Scope) (a : Addr) (ccd : Value) (cl : List (Str × Addr)) (outer : List Env) (A₀ : Around) (base h₀ : Heap) (L : Addr) (m : Str → Option Value) (s : Shared) (Q E : Value → Shared → Prop),
    Below A₀ base outer h₀ → Fr h₀ L s.heap m → K.In h₀ → Top p loose mean mg mb h₀ → cs.kind = .function →
    0 ≤ size → size < 70 → dp + 5 < recursionLimit → un + 200 < cLine →
    (∀ (h' : Heap) (tk' : Nat), Fr h₀ L h' m → Q (.bool true) { s with heap := h', toks := tk' }) →
    wpAny (model prog w) (ktrTop dp un gd cn cs L a ccd cl outer) (call (.ref f) [.int start ts, .int size tz]) Q E s

section
variable {prog : Program} {w : World} {A : Around} {E : Value → Shared → Prop} {s : Shared} {h₀ : Heap} {L l : Addr} {m : Str → Option Value} {news : List (Addr × Obj)} {x : Int} {u : Tok} {Q : Value → Shared → Prop}

theorem rep_none (n : Nat) : (List.replicate n [Value.none]).flatten = List.replicate n Value.none := by
  induction n with
  | zero => rfl
  | succ n ih => rw [List.replicate_succ, List.flatten_cons, ih, List.replicate_succ]; rfl

theorem nones_l (F : Fr h₀ L s.heap m) (N : News h₀ L s.heap news) (hm : (l, W.listOf #[Value.none] 0) ∈ news) (h0 : 0 ≤ x) (h7 : x < 8)
    (h : ∀ D h', Fr h₀ L h' m → News h₀ L h' ((D, W.listOf (List.replicate x.toNat Value.none).toArray 0) :: news) → (∀ p ∈ news, p.1 < D) → Q (.ref D) { s with heap := h' }) :
    wpAny (model prog w) A (binaryOp .Mult (.ref l) (.int x u)) Q E s := by
  have hl : s.heap.IsList l (List.toArray [Value.none]) := News.isList N hm
  refine KMa.mul F N hl (by omega) (by omega) ?_ (rep_none _) fun D h' F' N' l => h D h' F' N' l
  rw [List.length_singleton]; omega

theorem nones_r (F : Fr h₀ L s.heap m) (N : News h₀ L s.heap news) (hm : (l, W.listOf #[Value.none] 0) ∈ news) (h0 : 0 ≤ x) (h7 : x < 8)
    (h : ∀ D h', Fr h₀ L h' m → News h₀ L h' news → h'.IsList D (List.replicate x.toNat Value.none).toArray → Q (.ref D) { s with heap := h' }) :
    wpAny (model prog w) A (binaryOp .Mult (.int x u) (.ref l)) Q E s := by
  have hl : s.heap.IsList l (List.toArray [Value.none]) := News.isList N hm
  refine mul_list_is_r (ds := [PyData.none]) F N hl (.cons .none .nil) (by omega) (by omega) ?_ fun h' F' N' _ hI _ => ?_
  · rw [List.length_singleton]; omega
  · rw [rep_none] at hI
    exact h _ h' F' N' hI

theorem cat_any {a b : Addr} {vs ws : List Value} (F : Fr h₀ L s.heap m) (N : News h₀ L s.heap news) (hl : s.heap.IsList a vs.toArray) (hb : s.heap.IsList b ws.toArray) (hz : vs.length + ws.length ≤ 1000)
    (h : ∀ D h', Fr h₀ L h' m → News h₀ L h' ((D, W.listOf (vs ++ ws).toArray 0) :: news) → (∀ p ∈ news, p.1 < D) → Q (.ref D) { s with heap := h' }) :
    wpAny (model prog w) A (binaryOp .Add (.ref a) (.ref b)) Q E s :=
  add_lists F N hl hb (fun h' F' N' => h _ h' F' N' fun p hp => Heap.lt_size (N p hp).1) (by rw [sizeLine_eq]; omega)
end
theorem RClaim.use {prog : Program} {w : World} {K : Frag} {p : Program} {loose : List Str} {mean : ExcName → Option Value} {mg mb : Str → Option Value} {f : Addr} (C : RClaim prog w K p loose mean mg mb f)
    {start size : Int} {ts tz : Tok} {dp un : Nat} {gd : Option (List Code)} {cn : Str} {cs : Scope} {a : Addr} {ccd : Value} {cl : List (Str × Addr)} {outer : List Env} {A₀ : Around} {base h₀ : Heap} {L : Addr} {m : Str → Option Value} {s : Shared} {Q E : Value → Shared → Prop}
    (B : Below A₀ base outer h₀) (F : Fr h₀ L s.heap m) (X : K.In h₀) (T : Top p loose mean mg mb h₀) (hk : cs.kind = .function) (h0 : 0 ≤ size) (h1 : size < 70) (hd : dp + 5 < recursionLimit) (hu : un + 200 < cLine)
    (ret : ∀ (h' : Heap) (tk' : Nat), Fr h₀ L h' m → News h₀ L h' [] → Q (.bool true) { s with heap := h', toks := tk' }) :
    wpAny (model prog w) (ktrTop dp un gd cn cs L a ccd cl outer) (call (.ref f) [.int start ts, .int size tz]) Q E s := C _ _ _ _ _ _ _ _ _ _ _ _ _ _ _ _ _ _ _ _ _ B F X T hk h0 h1 hd hu fun h' tk' F' => ret h' tk' F' News.nil

section
variable {prog : Program} {w : World} {A : Around} {E : Value → Shared → Prop} {s : Shared} {h₀ : Heap} {L : Addr} {m : Str → Option Value} {env : Env}

/-- the iterable of a block: a range by steps of c -/
def SrcS (prog : Program) (w : World) (A : Around) (h₀ : Heap) (L : Addr) (m : Str → Option Value) (env : Env) (elt : PySem.Expr) (x : Str) (scope : Scope) (cl : List (Str × Addr)) (Fin : Shared → List Value → Led → Prop) (xv : Value) (s₁ : Shared) : Prop :=
  ∃ r a b c t u v n news, xv = .ref r ∧ A.handled = none ∧ Fr h₀ L s₁.heap m ∧ News h₀ L s₁.heap news ∧ IsRange s₁.heap r a b c t u v ∧ Builtin.Range.small a b c = true ∧ Builtin.Range.rangeSize a b c = ((n : Nat) : Int) ∧ n ≤ sizeLine ∧
    ∀ s₂ : Shared, (∃ h, s₂ = { s₁ with heap := h }) → CompRest prog w A h₀ L m env elt x scope cl s₂ (fun _ => True) (fun i v => ∃ t, v = .int (a + (i : Nat) * c) t) (Fin s₂) n 0 [] news

theorem step_st {I : Addr} {a c : Int} {n : Nat} : ∀ i (h h' : Heap) (o : Obj) (nw : Led), IsRangeIter h I (a + (i : Nat) * c) ((n : Int) - (i : Nat)) c → h.get? I = some o → h'.get? I = some o → (∀ b o, h₀.get? b = some o → h'.get? b = some o) → News h₀ L h' nw → True → IsRangeIter h' I (a + (i : Nat) * c) ((n : Int) - (i : Nat)) c :=
  fun i h h' o nw st e e' _ _ _ => by
    have st' : h.get? I = some _ := st
    show h'.get? I = some _
    rw [e', ← e]; exact st'

theorem ListComp_S {elt iter : PySem.Expr} {x : Str} {px : Pos} {scope : Scope} {cl : List (Str × Addr)} {pos : Pos} {Q : Value → Shared → Prop}
    (F₀ : Fr h₀ L s.heap m) (hclos : closureFor scope env = pure cl) (hcell : ∀ y ∈ scope.names, y.2 ≠ .cell) (hkind : scope.kind = .function)
    (hnames : ∀ y ∈ scope.names, y.2 = .local → scope.names.lookup y.1 = some .local) (hx : scope.names.lookup x = some .local)
    (h : wpAny (model prog w) A (eval iter env) (SrcS prog w A h₀ L m env elt x scope cl (fun s₂ => FinE h₀ L m s₂ Q)) E s)
    (hs : ∀ x, foldedSetIterable iter env x = pure x := by intro _; rfl) :
    wpAny (model prog w) A (eval (.ListComp elt [⟨.Name x px, iter, [], 0⟩] scope pos) env) Q E s := by
  rw [eval_ListComp]
  refine wpAny_comprehension_free (use := none) rfl hs hclos hkind hnames (wpAny_mono h (fun xv s₁ h₁ => ?_) fun _ _ e => e)
  obtain ⟨r, a, b, c, t, u, v, n, news, rfl, hh, F, N, hr, hsm, hn, hsz, R⟩ := h₁
  refine wpAny_pyIter_range hr hsm ?_
  refine block_U (Walks.range hh s₁.heap.objs.size a c n) hsz (fun i h st => ⟨_, st⟩) step_st hcell hkind hx ?_ (fun b hb => ?_)
    (F.keeps fun _ _ e => Heap.get?_push_of_some _ e) (N.grown fun _ _ e => Heap.get?_push_of_some _ e) (Nat.ne_of_lt F.ns.lt) (next_is_new F) (fun p hp => Nat.ne_of_lt (Heap.lt_size (N p hp).1)) trivial (R _ ⟨_, rfl⟩) ?_
  · show IsRangeIter _ _ _ _ _
    rw [hn]
    simpa using Heap.get?_push_size _ rfl
  · rw [List.mem_singleton.mp hb]
    show s₁.heap.objs.size < (s₁.heap.push _).objs.size
    rw [Heap.size_push]; exact Nat.lt_succ_self _
  · intro D C h tk m' ys news' F' N' o1 hn hC₀ hD₀ hCL hDL hCD offC fin
    refine ⟨m', hn, fun h'' hs'' => fin D h'' tk (F'.change hs'' hCL hC₀) (fun p hp => ?_) o1⟩
    refine ⟨hs''.extBut _ _ ?_ (N' p hp).1, (N' p hp).2⟩
    rcases List.mem_cons.mp hp with rfl | hp
    · exact Ne.symm hCD
    · exact offC p hp

theorem sevens (tot : Int) (h0 : 0 ≤ tot) : Builtin.Range.rangeSize 0 tot 7 = (((tot.toNat + 6) / 7 : Nat) : Int) := by
  unfold Builtin.Range.rangeSize
  simp only [show (7 : Int) > 0 by decide, if_true]
  split
  · omega
  · omega
theorem sevens_small (tot : Int) (h0 : 0 ≤ tot) (h1 : tot < 1000) : Builtin.Range.small 0 tot 7 = true := by
  unfold Builtin.Range.small
  rw [sevens tot h0]
  simp only [Builtin.Range.rangeFitsLong, Bool.and_eq_true, Bool.or_eq_true, decide_eq_true_eq, beq_iff_eq, show (7 : Int) > 0 by decide, if_true]
  omega
theorem SrcS.seven {elt : PySem.Expr} {x : Str} {scope : Scope} {cl : List (Str × Addr)} {Fin : Shared → List Value → Led → Prop} {r : Addr} {tot : Int} {t u v : Tok} {news : Led} {s₁ : Shared}
    (hh : A.handled = none) (F : Fr h₀ L s₁.heap m) (N : News h₀ L s₁.heap news) (hr : IsRange s₁.heap r 0 tot 7 t u v) (h0 : 0 ≤ tot) (h1 : tot < 1000)
    (h : ∀ g, CompRest prog w A h₀ L m env elt x scope cl { s₁ with heap := g } (fun _ => True) (fun i v => ∃ t, v = .int (0 + (i : Nat) * 7) t) (Fin { s₁ with heap := g }) ((tot.toNat + 6) / 7) 0 [] news) :
    SrcS prog w A h₀ L m env elt x scope cl Fin (.ref r) s₁ :=
  ⟨r, 0, tot, 7, t, u, v, _, news, rfl, hh, F, N, hr, sevens_small tot h0 h1, sevens tot h0, by rw [sizeLine_eq]; omega, fun _ ⟨g, e⟩ => e ▸ h g⟩

/-- the rows made so far: the j-th is a list of its own in the ledger -/
def RowsIn (row : Nat → List Value) (ys : List Value) (news : Led) : Prop :=
  ∀ j v, ys[j]? = some v → ∃ r : Addr, v = .ref r ∧ (r, W.listOf (row j).toArray 0) ∈ news

theorem rest_rows {elt : PySem.Expr} {x : Str} {scope : Scope} {cl : List (Str × Addr)} {a c : Int} {n : Nat} {Fin : List Value → Led → Prop} (base : Led) (row : Nat → List Value)
    (helt : ∀ (i : Nat) (t : Tok) (I : Addr) (oI : Obj) (C : Addr) (oC : Obj) (D : Addr) (m₂ : Str → Option Value) (h : Heap) (tk : Nat) (ys : List Value) (news : Led) (E' : Value → Shared → Prop), i < n → NsObj oC m₂ → m₂ x = some (.int (a + (i : Nat) * c) t) → Fr h₀ L h m →
      News h₀ L h ((I, oI) :: (C, oC) :: (D, lst ys) :: news) → (∀ p ∈ base, p ∈ news) →
      wpAny (model prog w) A (eval elt (compEnvC scope cl C env)) (fun y s' => ∃ (r : Addr) (h' : Heap) (tk' : Nat), y = .ref r ∧ s' = { s with heap := h', toks := tk' } ∧ Fr h₀ L h' m ∧ News h₀ L h' ((r, W.listOf (row i).toArray 0) :: (I, oI) :: (C, oC) :: (D, lst ys) :: news) ∧
        (∀ p ∈ (I, oI) :: (C, oC) :: (D, lst ys) :: news, p.1 < r)) E' { s with heap := h, toks := tk })
    (fin : ∀ ys news, ys.length = n → RowsIn row ys news → (∀ p ∈ base, p ∈ news) → Fin ys news) :
    ∀ (k i : Nat) (ys : List Value) (news : Led), i + k = n → ys.length = i → RowsIn row ys news → (∀ p ∈ base, p ∈ news) →
      CompRest prog w A h₀ L m env elt x scope cl s (fun _ => True) (fun i v => ∃ t, v = .int (a + (i : Nat) * c) t) Fin k i ys news
  | 0, i, ys, news, e, hl, hR, hB => CompRest.zero (fin ys news (by omega) hR hB)
  | k + 1, i, ys, news, e, hl, hR, hB => CompRest.succ (by
    rintro v I oI C oC D m₂ h tk E' ⟨t, rfl⟩ hC hx F N off ne
    refine wpAny_mono (helt i t I oI C oC D m₂ h tk ys news E' (by omega) hC hx F N hB) (fun y s' hy => ?_) fun _ _ e => e
    obtain ⟨r, h', tk', rfl, rfl, F', N', lt⟩ := hy
    refine CompEnd.intro F' N' ((r, W.listOf (row i).toArray 0) :: news) (fun p hp => ?_) ⟨⟨?_, ?_, ?_⟩, off⟩ trivial (rest_rows base row helt fin k (i + 1) _ _ (by omega) (by rw [List.length_append, List.length_singleton, hl]) ?_ fun p hp => List.mem_cons_of_mem _ (hB p hp))
    · rcases List.mem_cons.mp hp with rfl | hp
      · exact List.mem_cons_of_mem _ List.mem_cons_self
      · rcases List.mem_cons.mp hp with rfl | hp
        · exact List.mem_cons_of_mem _ (List.mem_cons_of_mem _ List.mem_cons_self)
        · rcases List.mem_cons.mp hp with rfl | hp
          · exact List.mem_cons_of_mem _ (List.mem_cons_of_mem _ (List.mem_cons_of_mem _ List.mem_cons_self))
          · rcases List.mem_cons.mp hp with rfl | hp
            · exact List.mem_cons_self
            · exact List.mem_cons_of_mem _ (List.mem_cons_of_mem _ (List.mem_cons_of_mem _ (List.mem_cons_of_mem _ hp)))
    · exact Nat.ne_of_gt (lt _ List.mem_cons_self)
    · exact Nat.ne_of_gt (lt _ (List.mem_cons_of_mem _ List.mem_cons_self))
    · exact Nat.ne_of_gt (lt _ (List.mem_cons_of_mem _ (List.mem_cons_of_mem _ List.mem_cons_self)))
    · intro j v hj
      by_cases hlt : j < ys.length
      · rw [List.getElem?_append_left hlt] at hj
        obtain ⟨r', e', hm⟩ := hR j v hj
        exact ⟨r', e', List.mem_cons_of_mem _ hm⟩
      · have hj' : j = i := by
          have := (List.getElem?_eq_some_iff.mp hj).1
          rw [List.length_append, List.length_singleton] at this
          omega
        subst hj'
        rw [List.getElem?_append_right (by omega), hl, Nat.sub_self] at hj
        cases hj
        exact ⟨r, rfl, List.mem_cons_self⟩)

theorem SrcS.rows {elt : PySem.Expr} {x : Str} {scope : Scope} {cl : List (Str × Addr)} {Fin : Shared → List Value → Led → Prop} {r : Addr} {tot : Int} {t u v : Tok} {base : Led} {s₁ : Shared} (row : Nat → List Value)
    (hh : A.handled = none) (F : Fr h₀ L s₁.heap m) (N : News h₀ L s₁.heap base) (hr : IsRange s₁.heap r 0 tot 7 t u v) (h0 : 0 ≤ tot) (h1 : tot < 1000)
    (helt : ∀ (i : Nat) (t : Tok) (I : Addr) (oI : Obj) (C : Addr) (oC : Obj) (D : Addr) (m₂ : Str → Option Value) (h : Heap) (tk : Nat) (ys : List Value) (news : Led) (E' : Value → Shared → Prop), i < (tot.toNat + 6) / 7 → NsObj oC m₂ → m₂ x = some (.int (0 + (i : Nat) * 7) t) → Fr h₀ L h m →
      News h₀ L h ((I, oI) :: (C, oC) :: (D, lst ys) :: news) → (∀ p ∈ base, p ∈ news) →
      wpAny (model prog w) A (eval elt (compEnvC scope cl C env)) (fun y s' => ∃ (r : Addr) (h' : Heap) (tk' : Nat), y = .ref r ∧ s' = { s₁ with heap := h', toks := tk' } ∧ Fr h₀ L h' m ∧ News h₀ L h' ((r, W.listOf (row i).toArray 0) :: (I, oI) :: (C, oC) :: (D, lst ys) :: news) ∧
        (∀ p ∈ (I, oI) :: (C, oC) :: (D, lst ys) :: news, p.1 < r)) E' { s₁ with heap := h, toks := tk })
    (fin : ∀ g ys news, ys.length = (tot.toNat + 6) / 7 → RowsIn row ys news → (∀ p ∈ base, p ∈ news) → Fin { s₁ with heap := g } ys news) :
    SrcS prog w A h₀ L m env elt x scope cl Fin (.ref r) s₁ :=
  SrcS.seven hh F N hr h0 h1 fun g => rest_rows (s := { s₁ with heap := g }) base row (fun i t I oI C oC D m₂ h tk ys news E' a b c d e f => helt i t I oI C oC D m₂ h tk ys news E' a b c d e f) (fin g) _ 0 [] _ (by omega) rfl (fun j v h => by cases h) fun _ h => h
end

section
variable {prog : Program} {w : World} {A : Around} {E : Value → Shared → Prop} {s : Shared} {env : Env} {h₀ : Heap} {x : Str} {body : List Stmt} {Q : Flow → Shared → Prop}

def TurnEnd (h₀ : Heap) (L : Addr) (J : (Str → Option Value) → Prop) (led : Led) (s₁ s₂ : Shared) : Prop :=
  ∃ h' tk m', s₂ = { s₁ with heap := h', toks := tk } ∧ Fr h₀ L h' m' ∧ News h₀ L h' led ∧ J m'
def TurnPost (h₀ : Heap) (L : Addr) (J : (Str → Option Value) → Prop) (led : Led) (s₁ : Shared) (Q : Flow → Shared → Prop) (f : Flow) (s₂ : Shared) : Prop :=
  match f with
  | .ret v => Q (.ret v) s₂
  | .brk => Q .next s₂
  | _ => TurnEnd h₀ L J led s₁ s₂
theorem TurnEnd.intro {L : Addr} {J : (Str → Option Value) → Prop} {m' : Str → Option Value} {led led' : Led} {s₁ : Shared} {h' : Heap} {tk : Nat} (F : Fr h₀ L h' m') (N : News h₀ L h' led') (hs : ∀ p ∈ led, p ∈ led')
    (hj : J m') : TurnEnd h₀ L J led s₁ { s₁ with heap := h', toks := tk } := ⟨h', tk, m', rfl, F, fun p hp => N p (hs p hp), hj⟩

/-- a loop over a list that the call has made -/
theorem iter_made {l : Addr} {vs : List Value} {c : Nat} {m₀ : Str → Option Value} {news : Led} (J : Nat → (Str → Option Value) → Prop)
    (hh : A.handled = none) (hm : (l, W.listOf vs.toArray c) ∈ news) (F : Fr h₀ env.locals s.heap m₀) (N : News h₀ env.locals s.heap news) (hj : J 0 m₀)
    (turn : ∀ (i : Nat) (v : Value) (m₁ : Str → Option Value) (h : Heap) (tk : Nat) (led : Led), vs[i]? = some v → J i m₁ → (∀ p ∈ news, p ∈ led) → Fr h₀ env.locals h (fun y => if y = x then some v else m₁ y) → News h₀ env.locals h led →
      wpAny (model prog w) A (execs body env) (TurnPost h₀ env.locals (J (i + 1)) led { s with heap := h, toks := tk } Q) E { s with heap := h, toks := tk })
    (done : ∀ m₁ h tk, J vs.length m₁ → Fr h₀ env.locals h m₁ → News h₀ env.locals h news → Q .next { s with heap := h, toks := tk }) :
    wpAny (model prog w) A (pyIter (.ref l)) (fun it s₂ => LoopAtV prog w A h₀ env x body Q E it s₂) E s := by
  have hls : s.heap.IsList l vs.toArray := News.isList N hm
  have hlt : l < s.heap.objs.size := Heap.lt_size (N _ hm).1
  have hne : l ≠ s.heap.objs.size := Nat.ne_of_lt hlt
  refine wpAny_pyIter_list hls ?_
  have W := Walks.list (prog := prog) (w := w) hh s.heap.objs.size l hne vs.toArray
  have hlen : vs.toArray.size = vs.length := List.size_toArray ..
  rw [hlen] at W
  let J' : Nat → (Str → Option Value) → Led → Prop := fun i m₁ news₁ => news₁ = news ∧ J i m₁
  refine ⟨_, _, _, vs.length, _, _, m₀, news, J', rfl, W, ?_, ?_, ?_, ⟨⟨_, Heap.get?_push_size _ rfl, rfl, rfl⟩, hls.at fun o e => Heap.get?_push_of_some _ e⟩, F.push _, (fun p hp => ⟨Heap.get?_push_of_some _ (N p hp).1, (N p hp).2⟩), ⟨rfl, hj⟩, ?_, ?_⟩
  · intro hm'
    rcases List.mem_cons.mp hm' with e | hm'
    · exact absurd F.ns.lt (e ▸ Nat.lt_irrefl _)
    · exact (N _ hm).2.1 (List.mem_singleton.mp hm').symm
  · intro b hb
    rw [List.mem_singleton.mp hb]
    exact next_is_new F
  · intro p hp hI
    exact absurd (Heap.lt_size (N p hp).1) ((List.mem_singleton.mp hI) ▸ Nat.lt_irrefl _)
  · rintro i v m₁ news₁ s₁ own ⟨hh', tk', rfl⟩ hin hP ⟨rfl, hJ⟩ hoff _ _ _ _ F₁ N₁
    have hv : vs[i]? = some v := by simpa using hP
    refine wpAny_mono (turn i v m₁ hh' tk' (own ++ news₁) hv hJ (fun p hp => List.mem_append_right _ hp) F₁ N₁) (fun f s₂ p => ?_) fun _ _ e => e
    have fin : TurnEnd h₀ env.locals (J (i + 1)) (own ++ news₁) { s with heap := hh', toks := tk' } s₂ → LoopStepU h₀ env.locals [s.heap.objs.size] own (J' (i + 1)) { s with heap := hh', toks := tk' } .next s₂ := by
      rintro ⟨h', tk, m', e, F', N', hm'⟩
      exact ⟨rfl, h', tk, m', news₁, e, F', N', hoff, rfl, hm'⟩
    cases f with
    | ret v => exact .ret p
    | brk => exact .brk p
    | next => exact .next (fin p)
    | cont => exact .cont (fin p)
  · rintro h' tk m' news' F' N' _ ⟨rfl, hJ⟩
    exact done m' h' tk hJ F' N'
end

/-! plain law: the month's sheet -/
/-- the sheet: the days' list with its pads -/
def Sheet (pad size : Int) (ds : List Value) : Prop :=
  ds.length = pad.toNat + size.toNat + 7 ∧ ∀ (k : Nat) (v : Value), ds[k]? = some v →
    (pad ≤ (k : Int) ∧ (k : Int) < pad + size → ∃ t, v = .int ((k : Int) - pad + 1) t) ∧ (¬ (pad ≤ (k : Int) ∧ (k : Int) < pad + size) → v = .none)

theorem rangeKs_get {a : Int} {n i : Nat} {k : Int} (h : (rangeKs a n)[i]? = some k) : k = a + (i : Int) := by
  unfold rangeKs at h
  rw [List.getElem?_map] at h
  cases hr : (List.range n)[i]? with
  | none => rw [hr] at h; cases h
  | some j =>
    rw [hr] at h
    have hj : j = i := by
      have h2 := List.getElem?_eq_some_iff.mp hr
      obtain ⟨hlt, e⟩ := h2
      rw [List.getElem_range] at e
      exact e.symm
    subst hj
    exact (Option.some.inj h).symm

theorem sheet_of {pad size : Int} {us : List Value} {n p7 : Nat} (hI : IntsAre us (rangeKs 1 n)) (h7 : p7 = 7) (h0 : 0 ≤ pad) (hz : 0 ≤ size) (hn : n = size.toNat) :
    Sheet pad size (List.replicate pad.toNat Value.none ++ us ++ List.replicate p7 Value.none) := by
  subst hn h7
  have hl : us.length = size.toNat := by rw [hI.length, rangeKs_length]
  refine ⟨by rw [List.length_append, List.length_append, List.length_replicate, List.length_replicate, hl], fun k v hk => ?_⟩
  by_cases h1 : k < pad.toNat
  · rw [List.append_assoc, List.getElem?_append_left (by rw [List.length_replicate]; exact h1), List.getElem?_replicate] at hk
    rw [if_pos h1] at hk
    refine ⟨fun h => by omega, fun _ => (Option.some.inj hk).symm⟩
  · by_cases h2 : k < pad.toNat + size.toNat
    · rw [List.append_assoc, List.getElem?_append_right (by rw [List.length_replicate]; omega), List.length_replicate, List.getElem?_append_left (by omega)] at hk
      obtain ⟨j, t, rfl, hj⟩ := hI.at _ v hk
      have := rangeKs_get hj
      refine ⟨fun _ => ⟨t, ?_⟩, fun h => by omega⟩
      rw [this]
      congr 1
      omega
    · rw [List.getElem?_append_right (by rw [List.length_append, List.length_replicate]; omega), List.getElem?_replicate] at hk
      refine ⟨fun h => by omega, fun _ => ?_⟩
      split at hk
      · exact (Option.some.inj hk).symm
      · cases hk

/-- the rows of the sheet -/
def rowOf (ds : List Value) (i : Nat) : List Value := (ds.drop (7 * i)).take 7
theorem rowOf_get {ds : List Value} {i k : Nat} {v : Value} (h : (rowOf ds i)[k]? = some v) : ds[7 * i + k]? = some v ∧ k < 7 := by
  unfold rowOf at h
  have hk : k < 7 := by
    have := (List.getElem?_eq_some_iff.mp h).1
    rw [List.length_take] at this
    omega
  rw [List.getElem?_take_of_lt hk, List.getElem?_drop] at h
  exact ⟨h, hk⟩
theorem rowOf_length {ds : List Value} {i : Nat} (h : 7 * i + 7 ≤ ds.length) : (rowOf ds i).length = 7 := by
  unfold rowOf
  rw [List.length_take, List.length_drop]
  omega

section
variable {prog : Program} {w : World} {A : Around} {E : Value → Shared → Prop} {s : Shared} {h₀ : Heap} {L : Addr} {m : Str → Option Value} {env : Env}

theorem pick_seven (ds : List Value) (i : Nat) (h : 7 * i + 7 ≤ ds.length) : slicePick ds.toArray (some (0 + (i : Nat) * 7 : Int)) (some ((0 + (i : Nat) * 7 : Int) + 7)) none = (rowOf ds i).toArray := by
  rw [kms_pick_eq]
  unfold kms_pick kms_lo kms_hi rowOf
  simp only [if_neg (show ¬ ((0 + (i : Nat) * 7 : Int) < 0) by omega), if_neg (show ¬ ((0 + (i : Nat) * 7 : Int) + 7 < 0) by omega)]
  rw [show min (0 + (i : Nat) * 7 : Int).toNat ds.length = 7 * i by omega, show min ((0 + (i : Nat) * 7 : Int) + 7).toNat ds.length = 7 * i + 7 by omega, show 7 * i + 7 - 7 * i = 7 by omega]

theorem row_elt {x d : Str} {p1 p2 p3 p4 p5 p6 p7 : Pos} {k4 : Nat} {scope : Scope} {cl : List (Str × Addr)} {C c l : Addr} {oC oc : Obj} {m₂ : Str → Option Value} {ds : List Value} {i nn : Nat} {t : Tok} {news : Led} {Q : Value → Shared → Prop}
    (F : Fr h₀ L s.heap m) (N : News h₀ L s.heap news) (hCm : (C, oC) ∈ news) (hC : NsObj oC m₂) (hx : m₂ x = some (.int (0 + (i : Nat) * 7) t))
    (hc : cl.lookup d = some c) (hcm : (c, oc) ∈ news) (hcd : oc.data = .cell (some (.ref l))) (hl : (l, W.listOf ds.toArray nn) ∈ news) (hlen : 7 * i + 7 ≤ ds.length) (hz : ds.length ≤ 1000)
    (hk : (compEnvC scope cl C env).scope.kind = .function) (hxl : (compEnvC scope cl C env).kindOf x = some .local) (hxd : (x == ("__debug__" : Str)) = false)
    (hdl : (compEnvC scope cl C env).kindOf d = some .cell) (hdd : (d == ("__debug__" : Str)) = false)
    (h : ∀ (r : Addr) (h' : Heap) (tk' : Nat), Fr h₀ L h' m → News h₀ L h' ((r, W.listOf (rowOf ds i).toArray 0) :: news) → (∀ p ∈ news, p.1 < r) → Q (.ref r) { s with heap := h', toks := tk' }) :
    wpAny (model prog w) A (eval (.Subscript (.Name d p1) (.Slice (some (.Name x p2)) (some (.BinOp (.Name x p3) .Add (.Constant (.int 7) k4 p4) p5)) none p6) p7) (compEnvC scope cl C env)) Q E s := by
  refine Subscript_ ?_
  refine ldCellK hc ⟨oc, (N _ hcm).1, hcd⟩ ?_ hk hdl hdd
  refine wpAny_Slice ?_
  show wpAny _ _ (eval _ _) _ _ _
  refine ldVarK (hC.ns (N _ hCm).1) hx ?_ hk hxl hxd
  show wpAny _ _ (eval _ _) _ _ _
  refine wpAny_BinOp ?_
  refine ldVarK (hC.ns (N _ hCm).1) hx ?_ hk hxl hxd
  refine wpAny_Constant_int ?_
  refine add_int ?_
  show wpAny _ _ (pure _) _ _ _
  refine wpAny_pure ?_
  refine kmk_slice (s := { s with toks := _ }) F N (News.isList N hl) (.int _ _) (.int _ _) (fun D h' F' N' lt => ?_) ?_ ?_ ?_
  · rw [pick_seven ds i hlen] at N'
    exact h D h' _ F' N' lt
  · with_unfolding_all rfl
  · intro _; with_unfolding_all rfl
  · rw [List.size_toArray, sizeLine_eq]; omega

theorem len_made {D : Addr} {ys : List Value} {n c : Nat} {news : Led} {Q : Value → Shared → Prop} (N : News h₀ L s.heap news) (hm : (D, W.listOf ys.toArray c) ∈ news) (hl : ys.length = n) (hf : n < 1000)
    (h : Q (.int (n : Nat) (s.toks + 1)) { s with toks := s.toks + 1 + 1 }) : wpAny (model prog w) A (call (.builtin "len") [.ref D]) Q E s :=
  KM.len_K N hm (by rw [List.size_toArray]; exact hl) (by omega) h
end

/-! the frame's map between the turns -/
def rowsMap (r c p : Str) (m₀ : Str → Option Value) (j : Int) (m₁ : Str → Option Value) : Prop :=
  ∃ (t : Tok) (u1 u2 : Option Value), m₁ = fun y => if y = r then u1 else if y = c then u2 else if y = p then some (.int j t) else m₀ y
theorem rowsMap.start {r c p : Str} {m₀ m : Str → Option Value} {j : Int} {t : Tok} (e : m = fun y => if y = p then some (.int j t) else m₀ y) (hr : m₀ r = none) (hc : m₀ c = none) (h1 : r ≠ p) (h2 : c ≠ p) : rowsMap r c p m₀ j m := by
  refine ⟨t, none, none, ?_⟩
  rw [e]
  funext y
  by_cases a : y = r
  · subst a; simp [h1, hr]
  · by_cases b : y = c
    · subst b; simp [a, h2, hc]
    · simp [a, b]

section
variable {prog : Program} {w : World} {A : Around} {E : Value → Shared → Prop} {s : Shared} {env : Env} {h₀ : Heap} {x : Str} {body : List Stmt} {Q : Flow → Shared → Prop}

/-- the loop over the rows -/
theorem iter_rows {l : Addr} {vs : List Value} {nn : Nat} {m₀ : Str → Option Value} {news : Led} {c p : Str} {t₀ : Tok}
    (hh : A.handled = none) (hm : (l, W.listOf vs.toArray nn) ∈ news) (F : Fr h₀ env.locals s.heap (fun y => if y = p then some (.int 0 t₀) else m₀ y)) (N : News h₀ env.locals s.heap news) (hr : m₀ x = none) (hc : m₀ c = none) (hxp : x ≠ p) (hcp : c ≠ p)
    (turn : ∀ (i : Nat) (v : Value) (t : Tok) (u : Option Value) (h : Heap) (tk : Nat) (led : Led), vs[i]? = some v → (∀ p ∈ news, p ∈ led) → Fr h₀ env.locals h (fun y => if y = x then some v else if y = c then u else if y = p then some (.int (7 * (i : Int)) t) else m₀ y) → News h₀ env.locals h led →
      wpAny (model prog w) A (execs body env) (TurnPost h₀ env.locals (fun m' => ∃ t u, m' = fun y => if y = x then some v else if y = c then u else if y = p then some (.int (7 * (i : Int) + 7) t) else m₀ y) led { s with heap := h, toks := tk } Q) E { s with heap := h, toks := tk })
    (done : ∀ m₁ h tk, Fr h₀ env.locals h m₁ → News h₀ env.locals h news → Q .next { s with heap := h, toks := tk }) :
    wpAny (model prog w) A (pyIter (.ref l)) (fun it s₂ => LoopAtV prog w A h₀ env x body Q E it s₂) E s := by
  refine iter_made (fun j m₁ => rowsMap x c p m₀ (7 * (j : Int)) m₁) hh hm F N (rowsMap.start (t := t₀) rfl hr hc hxp hcp) ?_ fun m₁ h tk _ F' N' => done m₁ h tk F' N'
  rintro i v m₁ h tk led hv ⟨t, u1, u2, rfl⟩ hs F' N'
  have e : (fun y => if y = x then some v else (fun y => if y = x then u1 else if y = c then u2 else if y = p then some (Value.int (7 * (i : Int)) t) else m₀ y) y) = fun y => if y = x then some v else if y = c then u2 else if y = p then some (Value.int (7 * (i : Int)) t) else m₀ y := by
    funext y
    by_cases a : y = x
    · simp [a]
    · simp [a]
  rw [e] at F'
  refine wpAny_mono (turn i v t u2 h tk led hv hs F' N') (fun f s₂ q => ?_) fun _ _ e => e
  have fin : TurnEnd h₀ env.locals (fun m' => ∃ t u, m' = fun y => if y = x then some v else if y = c then u else if y = p then some (.int (7 * (i : Int) + 7) t) else m₀ y) led { s with heap := h, toks := tk } s₂ → TurnEnd h₀ env.locals (rowsMap x c p m₀ (7 * ((i + 1 : Nat) : Int))) led { s with heap := h, toks := tk } s₂ := by
    rintro ⟨h', tk', m', e, F'', N'', t', u', hm'⟩
    exact ⟨h', tk', m', e, F'', N'', t', some v, u', by rw [hm', show 7 * ((i + 1 : Nat) : Int) = 7 * (i : Int) + 7 by omega]⟩
  cases f with
  | ret v => exact q
  | brk => exact q
  | next => exact fin q
  | cont => exact fin q

/-- the loop over a row's cells -/
theorem iter_cells {l : Addr} {vs : List Value} {nn : Nat} {r : Str} {rv : Option Value} {u₀ : Option Value} {m₀ : Str → Option Value} {news : Led} {p : Str} {t₀ : Tok} {j : Int}
    (hh : A.handled = none) (hm : (l, W.listOf vs.toArray nn) ∈ news) (F : Fr h₀ env.locals s.heap (fun y => if y = r then rv else if y = x then u₀ else if y = p then some (.int j t₀) else m₀ y)) (N : News h₀ env.locals s.heap news) (hl : vs.length = 7) (hxr : x ≠ r) (hrp : r ≠ p) (hxp : x ≠ p)
    (turn : ∀ (k : Nat) (v : Value) (t : Tok) (h : Heap) (tk : Nat) (led : Led), vs[k]? = some v → (∀ p ∈ news, p ∈ led) → Fr h₀ env.locals h (fun y => if y = x then some v else if y = r then rv else if y = p then some (.int (j + (k : Int)) t) else m₀ y) → News h₀ env.locals h led →
      wpAny (model prog w) A (execs body env) (TurnPost h₀ env.locals (fun m' => ∃ t', m' = fun y => if y = p then some (.int (j + (k : Int) + 1) t') else if y = x then some v else if y = r then rv else if y = p then some (.int (j + (k : Int)) t) else m₀ y) led { s with heap := h, toks := tk } Q) E { s with heap := h, toks := tk })
    (done : ∀ (t : Tok) (u : Option Value) h tk, Fr h₀ env.locals h (fun y => if y = r then rv else if y = x then u else if y = p then some (.int (j + 7) t) else m₀ y) → News h₀ env.locals h news → Q .next { s with heap := h, toks := tk }) :
    wpAny (model prog w) A (pyIter (.ref l)) (fun it s₂ => LoopAtV prog w A h₀ env x body Q E it s₂) E s := by
  refine iter_made (fun k m₁ => ∃ (t : Tok) (u : Option Value), m₁ = fun y => if y = r then rv else if y = x then u else if y = p then some (.int (j + (k : Int)) t) else m₀ y) hh hm F N ⟨t₀, u₀, by simp⟩ ?_ ?_
  · rintro k v m₁ h tk led hv ⟨t, u, rfl⟩ hs F' N'
    have e : (fun y => if y = x then some v else (fun y => if y = r then rv else if y = x then u else if y = p then some (Value.int (j + (k : Int)) t) else m₀ y) y) = fun y => if y = x then some v else if y = r then rv else if y = p then some (Value.int (j + (k : Int)) t) else m₀ y := by
      funext y
      by_cases a : y = x
      · simp [a]
      · simp [a]
    rw [e] at F'
    refine wpAny_mono (turn k v t h tk led hv hs F' N') (fun f s₂ q => ?_) fun _ _ e => e
    have fin : TurnEnd h₀ env.locals (fun m' => ∃ t', m' = fun y => if y = p then some (.int (j + (k : Int) + 1) t') else if y = x then some v else if y = r then rv else if y = p then some (.int (j + (k : Int)) t) else m₀ y) led { s with heap := h, toks := tk } s₂ →
        TurnEnd h₀ env.locals (fun m₁ => ∃ (t : Tok) (u : Option Value), m₁ = fun y => if y = r then rv else if y = x then u else if y = p then some (.int (j + ((k + 1 : Nat) : Int)) t) else m₀ y) led { s with heap := h, toks := tk } s₂ := by
      rintro ⟨h', tk', m', e, F'', N'', t', hm'⟩
      refine ⟨h', tk', m', e, F'', N'', t', some v, ?_⟩
      rw [hm', show j + ((k + 1 : Nat) : Int) = j + (k : Int) + 1 by omega]
      funext y
      by_cases a : y = r
      · subst a; simp [hrp, Ne.symm hxr]
      · by_cases b : y = x
        · subst b; simp [a, hxp]
        · by_cases d : y = p
          · subst d; simp [a, b]
          · simp [a, b, d]
    cases f with
    | ret v => exact q
    | brk => exact q
    | next => exact fin q
    | cont => exact fin q
  · rintro m₁ h tk ⟨t, u, rfl⟩ F' N'
    rw [hl] at F'
    exact done t u h tk F' N'
theorem TurnPost.next {L : Addr} {J : (Str → Option Value) → Prop} {m' : Str → Option Value} {led led' : Led} {s₁ : Shared} {h' : Heap} {tk : Nat} (F : Fr h₀ L h' m') (N : News h₀ L h' led') (hs : ∀ p ∈ led, p ∈ led')
    (hj : J m') : TurnPost h₀ L J led s₁ Q .next { s₁ with heap := h', toks := tk } := TurnEnd.intro F N hs hj
end

/-- a def of two ints that hands back True wherever pre holds -/
def BClaim (prog : Program) (w : World) (K : Frag) (p : Program) (loose : List Str) (mean : ExcName → Option Value) (mg mb : Str → Option Value) (f : Addr) (pre : Int → Int → Prop) : Prop :=
  ∀ (x y : Int) (tx ty : Tok) (dp un : Nat) (gd : Option (List Code)) (cn : Str) (cs : Scope) (a : Addr) (ccd : Value) (cl : List (Str × Addr)) (outer : List Env) (A₀ : Around) (base h₀ : Heap) (L : Addr) (m : Str → Option Value) (s : Shared) (Q E : Value → Shared → Prop),
    Below A₀ base outer h₀ → Fr h₀ L s.heap m → K.In h₀ → Top p loose mean mg mb h₀ → cs.kind = .function →
    pre x y → dp + 120 < recursionLimit → un + 200 < cLine →
    (∀ (h' : Heap) (tk' : Nat), Fr h₀ L h' m → Q (.bool true) { s with heap := h', toks := tk' }) →
    wpAny (model prog w) (ktrTop dp un gd cn cs L a ccd cl outer) (call (.ref f) [.int x tx, .int y ty]) Q E s
theorem BClaim.use {prog : Program} {w : World} {K : Frag} {p : Program} {loose : List Str} {mean : ExcName → Option Value} {mg mb : Str → Option Value} {f : Addr} {pre : Int → Int → Prop} (C : BClaim prog w K p loose mean mg mb f pre)
    {x y : Int} {tx ty : Tok} {dp un : Nat} {gd : Option (List Code)} {cn : Str} {cs : Scope} {a : Addr} {ccd : Value} {cl : List (Str × Addr)} {outer : List Env} {A₀ : Around} {base h₀ : Heap} {L : Addr} {m : Str → Option Value} {s : Shared} {Q E : Value → Shared → Prop}
    (B : Below A₀ base outer h₀) (F : Fr h₀ L s.heap m) (X : K.In h₀) (T : Top p loose mean mg mb h₀) (hk : cs.kind = .function) (h0 : pre x y) (hd : dp + 120 < recursionLimit) (hu : un + 200 < cLine)
    (ret : ∀ (h' : Heap) (tk' : Nat), Fr h₀ L h' m → News h₀ L h' [] → Q (.bool true) { s with heap := h', toks := tk' }) :
    wpAny (model prog w) (ktrTop dp un gd cn cs L a ccd cl outer) (call (.ref f) [.int x tx, .int y ty]) Q E s := C _ _ _ _ _ _ _ _ _ _ _ _ _ _ _ _ _ _ _ _ _ B F X T hk h0 hd hu fun h' tk' F' => ret h' tk' F' News.nil
theorem retTrue {h₀ : Heap} {L : Addr} {m : Str → Option Value} {s : Shared} {Q : Value → Shared → Prop} {v : Bool} {h' : Heap} {tk' : Nat} (ret : ∀ (h' : Heap) (tk' : Nat), Fr h₀ L h' m → Q (.bool true) { s with heap := h', toks := tk' }) (F : Fr h₀ L h' m) (e : v = true) :
    Q (.bool v) { s with heap := h', toks := tk' } := by subst e; exact ret h' tk' F

section
variable {prog : Program} {w : World} {A : Around} {E : Value → Shared → Prop} {s : Shared} {a b : Int} {t u : Tok} {Q : Value → Shared → Prop}
theorem abs_up (h0 : 0 ≤ a) (h : ∀ u tk, Q (.int a u) { s with toks := tk }) : wpAny (model prog w) A (call (.builtin "abs") [.int a t]) Q E s :=
  call_abs_int fun u tk => by rw [if_neg (by omega)]; exact h u tk
theorem abs_down (h0 : a ≤ 0) (h : ∀ u tk, Q (.int (-a) u) { s with toks := tk }) : wpAny (model prog w) A (call (.builtin "abs") [.int a t]) Q E s :=
  call_abs_int fun u tk => by
    by_cases h1 : a < 0
    · rw [if_pos h1]; exact h u tk
    · have e : a = 0 := by omega
      subst e
      exact h u tk
theorem mul_ok (hm : IntMulOk a b) (h : Q (.int (a * b) s.toks) { s with toks := s.toks + 1 }) : wpAny (model prog w) A (binaryOp .Mult (.int a t) (.int b u)) Q E s := mul_int h hm
end

/-! plain laws: division cut toward nought, and the rest that runs from one -/
theorem bits_abs {x y : Int} {m : Nat} (h : x.natAbs ≤ y.natAbs) (hy : intBits y ≤ m) : intBits x ≤ m := intBits_le_of_natAbs h hy
theorem mul_sign {r a : Int} (h : (0 ≤ r ∧ 0 ≤ a) ∨ (r ≤ 0 ∧ a ≤ 0)) : 0 ≤ r * a := by
  rcases h with ⟨h1, h2⟩ | ⟨h1, h2⟩
  · exact Int.mul_nonneg h1 h2
  · have := Int.mul_nonneg (show 0 ≤ -r by omega) (show 0 ≤ -a by omega)
    rwa [Int.neg_mul_neg] at this
/-- what the walk asks of the share and of the rest -/
def Cut (a b share : Int) (up : Prop) : Prop :=
  (up → 0 ≤ a - share * b) ∧ (¬ up → a - share * b ≤ 0) ∧ (a - share * b).natAbs < b.natAbs ∧ 0 ≤ (a - share * b) * a ∧ IntMulOk share b ∧ IntMulOk (a - share * b) a
theorem cut_of {a b share r : Int} {up : Prop} (e : a - share * b = r) (h1 : up → 0 ≤ r ∧ 0 ≤ a) (h2 : ¬ up → r ≤ 0 ∧ a ≤ 0) (h3 : r.natAbs < b.natAbs) (hs : share.natAbs ≤ a.natAbs) (ha : intBits a ≤ 1048576) (hb : intBits b ≤ 1048578) : Cut a b share up := by
  unfold Cut
  rw [e]
  refine ⟨fun h => (h1 h).1, fun h => (h2 h).1, h3, mul_sign ?_, IntMulOk.of_le (bits_abs hs ha) hb (by decide), IntMulOk.of_le (bits_abs (Nat.le_of_lt h3) hb) ha (by decide)⟩
  by_cases h : up
  · exact .inl (h1 h)
  · exact .inr (h2 h)
theorem fmod_at (x y : Int) : x - x.fdiv y * y = x.fmod y := by rw [Int.fmod_def, Int.mul_comm]
section
variable {a b : Int} (ha : intBits a ≤ 1048576) (hb : intBits b ≤ 1048578)
include ha hb
theorem cut_pp (h1 : 0 ≤ a) (h2 : 0 < b) : Cut a b (a.fdiv b) True := by
  have r0 := Int.fmod_nonneg_of_pos a h2
  have r1 := Int.fmod_lt_of_pos a h2
  exact cut_of (fmod_at a b) (fun _ => ⟨r0, h1⟩) (fun h => absurd trivial h) (by omega) (natAbs_fdiv_le a b) ha hb
theorem cut_nn (h1 : a < 0) (h2 : b < 0) : Cut a b ((-a).fdiv (-b)) False := by
  have hb' : 0 < -b := by omega
  have r0 := Int.fmod_nonneg_of_pos (-a) hb'
  have r1 := Int.fmod_lt_of_pos (-a) hb'
  have e := fmod_at (-a) (-b)
  have q := natAbs_fdiv_le (-a) (-b)
  have e2 : a - (-a).fdiv (-b) * b = -((-a).fmod (-b)) := by rw [← e, Int.mul_neg]; omega
  exact cut_of e2 (fun h => h.elim) (fun _ => ⟨by omega, by omega⟩) (by omega) (by omega) ha hb
theorem cut_np (h1 : a < 0) (h2 : 0 < b) : Cut a b (-((-a).fdiv b)) False := by
  have r0 := Int.fmod_nonneg_of_pos (-a) h2
  have r1 := Int.fmod_lt_of_pos (-a) h2
  have e := fmod_at (-a) b
  have q := natAbs_fdiv_le (-a) b
  have e2 : a - -((-a).fdiv b) * b = -((-a).fmod b) := by rw [← e, Int.neg_mul]; omega
  exact cut_of e2 (fun h => h.elim) (fun _ => ⟨by omega, by omega⟩) (by omega) (by omega) ha hb
theorem cut_pn (h1 : 0 ≤ a) (h2 : b < 0) : Cut a b (-(a.fdiv (-b))) True := by
  have hb' : 0 < -b := by omega
  have r0 := Int.fmod_nonneg_of_pos a hb'
  have r1 := Int.fmod_lt_of_pos a hb'
  have e := fmod_at a (-b)
  have q := natAbs_fdiv_le a (-b)
  have e2 : a - -(a.fdiv (-b)) * b = a.fmod (-b) := by rw [← e, Int.neg_mul, Int.mul_neg]
  exact cut_of e2 (fun _ => ⟨by omega, h1⟩) (fun h => absurd trivial h) (by omega) (by omega) ha hb
end
/-- the rest from one -/
theorem told_zero {a b : Int} (h : a.fmod b = 0) : (a - b).fmod b = 0 := by
  have h1 : b ∣ a := Int.dvd_of_fmod_eq_zero h
  obtain ⟨k, rfl⟩ := h1
  rw [show b * k - b = b * (k - 1) by rw [Int.mul_sub, Int.mul_one]]
  exact Int.mul_fmod_right b (k - 1)
theorem told_rest (a b : Int) : (a - a.fmod b).fmod b = 0 := by
  rw [Int.fmod_def a b, show a - (a - b * a.fdiv b) = b * a.fdiv b by omega]
  exact Int.mul_fmod_right b _
theorem rest_down {a b : Int} (h : b < 0) : b < a.fmod b ∧ a.fmod b ≤ 0 := by
  have hb' : 0 < -b := by omega
  have r0 := Int.fmod_nonneg_of_pos (-a) hb'
  have r1 := Int.fmod_lt_of_pos (-a) hb'
  have e : a.fmod b = -((-a).fmod (-b)) := by
    have := Int.neg_fmod_neg (a := a) (b := b)
    omega
  omega

section
variable {prog : Program} {w : World} {A : Around} {E : Value → Shared → Prop} {s : Shared} {env : Env} {h₀ : Heap} {L : Addr} {Q : Flow → Shared → Prop} {stmt : Stmt} {rest : List Stmt}
/-- a statement's end: on, with what J says of the frame's map -/
def JoinPost (h₀ : Heap) (L : Addr) (J : (Str → Option Value) → Prop) (s : Shared) (f : Flow) (s' : Shared) : Prop :=
  f = .next ∧ ∃ (h' : Heap) (tk' : Nat) (m' : Str → Option Value), s' = { s with heap := h', toks := tk' } ∧ Fr h₀ L h' m' ∧ J m'
theorem JoinPost.intro {J : (Str → Option Value) → Prop} {h' : Heap} {tk' : Nat} {m' : Str → Option Value} (F : Fr h₀ L h' m') (j : J m') : JoinPost h₀ L J s .next { s with heap := h', toks := tk' } := ⟨rfl, h', tk', m', rfl, F, j⟩
theorem seq_then {m : Str → Option Value} (J : (Str → Option Value) → Prop) (F : Fr h₀ L s.heap m) (h1 : wpAny (model prog w) A (exec stmt env) (JoinPost h₀ L J s) E s)
    (h2 : ∀ (m' : Str → Option Value) (h' : Heap) (tk' : Nat), J m' → Fr h₀ L h' m' → News h₀ L h' [] → wpAny (model prog w) A (execs rest env) Q E { s with heap := h', toks := tk' }) :
    wpAny (model prog w) A (execs (stmt :: rest) env) Q E s := by
  clear F
  refine wpAny_execs_cons (wpAny_mono h1 (fun f s' h => ?_) fun _ _ e => e)
  obtain ⟨rfl, h', tk', m', rfl, F, j⟩ := h
  exact h2 m' h' tk' j F News.nil
end
theorem canon1 {m : Str → Option Value} {n : Str} {v : Value} (h : m n = some v) : m = fun y => if y = n then some v else m y := by
  funext y
  by_cases a : y = n
  · subst a; simp [h]
  · simp [a]
theorem canon2 {m : Str → Option Value} {n n' : Str} {v v' : Value} (h : m n = some v) (h' : m n' = some v') : m = fun y => if y = n then some v else if y = n' then some v' else m y := by
  funext y
  by_cases a : y = n
  · subst a; simp [h]
  · by_cases b : y = n'
    · subst b; simp [a, h']
    · simp [a, b]
theorem canon3 {m : Str → Option Value} {n n' n'' : Str} {v v' v'' : Value} (h : m n = some v) (h' : m n' = some v') (h'' : m n'' = some v'') : m = fun y => if y = n then some v else if y = n' then some v' else if y = n'' then some v'' else m y := by
  funext y
  by_cases a : y = n
  · subst a; simp [h]
  · by_cases b : y = n'
    · subst b; simp [a, h']
    · by_cases c : y = n''
      · subst c; simp [a, b, h'']
      · simp [a, b, c]
theorem canon4 {m : Str → Option Value} {n n' n'' n3 : Str} {v v' v'' v3 : Value} (h : m n = some v) (h' : m n' = some v') (h'' : m n'' = some v'') (h3 : m n3 = some v3) : m = fun y => if y = n then some v else if y = n' then some v' else if y = n'' then some v'' else if y = n3 then some v3 else m y := by
  funext y
  by_cases a : y = n
  · subst a; simp [h]
  · by_cases b : y = n'
    · subst b; simp [a, h']
    · by_cases c : y = n''
      · subst c; simp [a, b, h'']
      · by_cases d : y = n3
        · subst d; simp [a, b, c, h3]
        · simp [a, b, c, d]
section
variable {prog : Program} {w : World} {A : Around} {E : Value → Shared → Prop} {s : Shared} {a b : Int} {t u : Tok} {Q : Value → Shared → Prop}
theorem eq_yes (e : a = b) (h : Q (.bool true) s) : wpAny (model prog w) A (compareOp .Eq (.int a t) (.int b u)) Q E s := eq_int (by rw [show (a == b) = true by simp [e]]; exact h)
theorem eq_no (e : a ≠ b) (h : Q (.bool false) s) : wpAny (model prog w) A (compareOp .Eq (.int a t) (.int b u)) Q E s := eq_int (by rw [show (a == b) = false by simp [e]]; exact h)
theorem ne_yes (e : a ≠ b) (h : Q (.bool true) s) : wpAny (model prog w) A (compareOp .NotEq (.int a t) (.int b u)) Q E s := ne_int (by rw [show (a != b) = true by simp [e]]; exact h)
theorem ne_no (e : a = b) (h : Q (.bool false) s) : wpAny (model prog w) A (compareOp .NotEq (.int a t) (.int b u)) Q E s := ne_int (by rw [show (a != b) = false by simp [e]]; exact h)
end
/-! plain laws -/
theorem fmod_pos (x : Int) {b : Int} (h : 0 ≤ b) : x.fmod b = x % b := Int.fmod_eq_emod_of_nonneg x h
theorem cell_bits {ns : List Int} {i : Int} (h : (PyData.list (ns.map PyData.int)).layable0 = true) : intBits (cellAt ns i 0) ≤ 1048576 := by
  rw [cellAt_def, List.getD_eq_getElem?_getD]
  cases e : ns[i.toNat]? with
  | none => show intBits 0 ≤ _; exact Nat.zero_le _
  | some x => exact intBits_le_of_item (List.mem_of_getElem? e) h
theorem bot_ne {a : Int} : 1 + (if a < 0 then -a else a) ≠ 0 := by split <;> omega
theorem bot_bits {a : Int} (h : intBits a ≤ 1048576) : intBits (1 + (if a < 0 then -a else a)) ≤ 1048578 := by
  have h1 : intBits 1 ≤ 1 := by decide
  have h2 : intBits (if a < 0 then -a else a) ≤ 1048576 := by
    split
    · exact intBits_neg_le h
    · exact h
  exact Nat.le_trans (intBits_add_le h1 h2) (by decide)
theorem name_list {h : Heap} {l : Addr} {vs : List Value} {ns : List Int} {P : Prop} (hl : h.IsList l vs.toArray) (hI : IntsAre vs ns) (k : ∀ l' ns', l' = l → ns' = ns → P) : P := by clear hl hI; exact k l ns rfl rfl
section
variable {prog : Program} {w : World} {A : Around} {E : Value → Shared → Prop} {s : Shared} {a : Int} {t u : Tok} {Q : Value → Shared → Prop}
theorem fdiv_nought (hA : A.handled = none) (h : ∀ h' tk e, Heap.NewExc s.heap h' e "ZeroDivisionError" → E (.ref e) { s with heap := h', toks := tk }) : wpAny (model prog w) A (binaryOp .FloorDiv (.int a t) (.int 0 u)) Q E s :=
  floordiv_int_or hA (fun _ => h) (fun n => absurd rfl n) (fun n => absurd rfl n)
theorem fmod_nought (hA : A.handled = none) (h : ∀ h' tk e, Heap.NewExc s.heap h' e "ZeroDivisionError" → E (.ref e) { s with heap := h', toks := tk }) : wpAny (model prog w) A (binaryOp .Mod (.int a t) (.int 0 u)) Q E s :=
  mod_int_or hA (fun _ => h) (fun n => absurd rfl n)
theorem notin_yes {l : Addr} {items : Array Value} {ns : List Int} (ht : IsTup s.heap l items) (hi : IntsAre items.toList ns) (e : ns.any (· == a) = false) (h : Q (.bool true) s) : wpAny (model prog w) A (compareOp .NotIn (.int a u) (.ref l)) Q E s :=
  notin_tuple_ints ht hi (by rw [e]; exact h)
theorem notin_no {l : Addr} {items : Array Value} {ns : List Int} (ht : IsTup s.heap l items) (hi : IntsAre items.toList ns) (e : ns.any (· == a) = true) (h : Q (.bool false) s) : wpAny (model prog w) A (compareOp .NotIn (.int a u) (.ref l)) Q E s :=
  notin_tuple_ints ht hi (by rw [e]; exact h)
end

/-! the head, once -/
open_top hd for PySem.Challenge.rw_aq6003_01

/-! the walk of the rows' judge -/
section
local macro_rules | `(tactic| walk_at "call ref") => `(tactic| (k_here; k_dflt (refine wpAny_call ?_; (refine' code_def ?k1 ?k2 ?k3 ?k4 ?k5 ?kA ?kF ?kK ?k6 ?k7 ?k8 ?k9 ?kB ?_ ?c2 ?c3 ?c4 ?c5; (case kA => exact rfl); (case kF => exact rfl); (case kK => first | assumption | exact rfl); (case k1 => k_asm); (case k2 => k_asm); (case k3 => k_asm); (case k4 => k_asm); (case k5 => k_asm); (case k6 => k_is); (case k7 => k_is); (case k8 => (simp only [depth_deeper]; omega)); (case k9 => exact BindsTo.of_eq rfl); (case c5 => decide); (case kB => exact locs rfl); (case c2 => exact rfl); (case c3 => exact rfl); (case c4 => exact rfl); k_whole; intro g' L' h' FG' F' N' B' X' T'; (try dsimp only); (try k_lift B'); (try k_fold)))))
local macro_rules | `(tactic| walk_at "call ref") => `(tactic| (k_here; k_dflt (refine wpAny_call ?_; (refine' code_defC ?k1 ?k2 ?k3 ?k4 ?k5 ?kA ?kF ?kK ?k6 ?k7 ?k8 ?k9 ?kB ?kD ?_ ?c2 ?c3 ?c4; (case kA => exact rfl); (case kF => exact rfl); (case kK => first | assumption | exact rfl); (case k1 => k_asm); (case k2 => k_asm); (case k3 => k_asm); (case k4 => k_asm); (case k5 => k_asm); (case k6 => k_is); (case k7 => k_is); (case k8 => (simp only [depth_deeper]; omega)); (case k9 => exact BindsTo.of_eq rfl); (case kB => exact rfl); (case kD => decide +kernel); (case c2 => exact rfl); (case c3 => exact rfl); (case c4 => exact rfl); k_whole; intro g' L' h' tk' cells' FG' F' N' Y' B' X' T' l1; clear l1; k_cells Y'; (try simp only [List.cons_append, List.nil_append] at N'); (try dsimp only); (try k_lift B'); (try k_fold)))))

local macro_rules | `(tactic| walk_at "binaryOp Mult ref int") => `(tactic| (k_here; (with_reducible show wpAny _ _ (binaryOp Operator.Mult (Value.ref _) (Value.int _ _)) _ _ _); k_dflt (refine' nones_l ?k1 ?k2 ?k3 ?k4 ?k5 ?_; (case k1 => k_asm); (case k2 => k_asm); (case k3 => k_mem); (case k4 => omega); (case k5 => omega); k_whole); intro D' h' F' N' l1; (try k_lt l1); (try k_sweep)))
local macro_rules | `(tactic| walk_at "binaryOp Mult int ref") => `(tactic| (k_here; (with_reducible show wpAny _ _ (binaryOp Operator.Mult (Value.int _ _) (Value.ref _)) _ _ _); k_dflt (refine' nones_r ?k1 ?k2 ?k3 ?k4 ?k5 ?_; (case k1 => k_asm); (case k2 => k_asm); (case k3 => k_mem); (case k4 => decide); (case k5 => decide); k_whole); intro D' h' F' N' I'; (try k_sweep)))
local macro_rules | `(tactic| walk_at "binaryOp Add ref ref") => `(tactic| (k_here; (with_reducible show wpAny _ _ (binaryOp _ (Value.ref _) (Value.ref _)) _ _ _); (have iL := IntsAre.length (by assumption)); k_dflt (refine' cat_any ?k1 ?k2 ?k3 ?k4 ?k5 ?_; (case k1 => k_asm); (case k2 => k_asm); (case k3 => exact News.isList (by k_asm) (by k_mem)); (case k4 => first | assumption | exact News.isList (by k_asm) (by k_mem)); (case k5 => (simp only [List.length_append, List.length_replicate, rangeKs_length] at iL ⊢; omega)); k_whole); intro D' h' F' N' l1; clear iL; (try k_lt l1); (try k_sweep)))
local macro_rules | `(tactic| walk_at "eval ListComp") => `(tactic| (k_here; k_dflt (refine ListComp_S (by k_asm) (by rfl) (by decide) (by rfl) (by decide) (by rfl) ?_)))
local macro_rules | `(tactic| k_mem) => `(tactic| with_reducible assumption)
local macro_rules | `(tactic| walk_at "call builtin:len") => `(tactic| (k_here; (with_reducible show wpAny _ _ (call (Value.builtin "len") [Value.ref _]) _ _ _); k_dflt (refine' len_made ?k1 ?k2 ?k3 ?k4 ?_; (case k1 => k_asm); (case k2 => first | exact List.Mem.head _ | assumption); (case k3 => first | assumption); (case k4 => omega); k_whole)))
local macro_rules | `(tactic| walk_at "execs nil") => `(tactic| refine wpAny_execs_nil ?_)
local macro_rules | `(tactic| walk_at "ite") => `(tactic| first
  | (refine ite_neg (by first | decide | (simp only [beq_iff_eq, bne_iff_ne, ne_eq, decide_eq_true_eq, Bool.not_eq_true, Bool.false_eq_true, not_false_eq_true]; omega)) ?_)
  | (refine ite_pos (by first | decide | (simp only [beq_iff_eq, bne_iff_ne, ne_eq, decide_eq_true_eq]; omega)) ?_))
local macro_rules | `(tactic| walk_at "compareOp NotEq ref ref") => `(tactic| (k_here; (with_reducible show wpAny _ _ (compareOp CmpOp.NotEq (Value.ref _) (Value.ref _)) _ _ _); k_dflt (refine' ne_intsK (vs := []) (us := []) ?k1 .nil ?k2 .nil ?k3 ?_; (case k1 => exact News.isList (by k_asm) (by k_mem)); (case k2 => exact News.isList (by k_asm) (by k_mem)); (case k3 => (simp only [units_deeper]; omega)))))
theorem rows_claim (w : World) (s₀ : Shared) (mg mb : Str → Option Value) : RClaim Challenge.rw_aq6003_01.row.prog w (hd.heap_39 w.params) hd.view_39 (looseW hd.view_39 []) (ExcName.means s₀.heap) mg mb 103 := by
  k_fill
  unfold RClaim
  intro start size ts tz dp un gd cn cs a ccd cl outer A₀ base h₀ L m s Q E B F X T hk hz0 hz1 hd hu hret
  have N : News h₀ L s.heap [] := News.nil
  have hp0 : 0 ≤ (start + 1).fmod 7 := Int.fmod_nonneg_of_pos _ (by decide)
  have hp7 : (start + 1).fmod 7 < 7 := Int.fmod_lt_of_pos _ (by decide)
  walk1
  k_steps
  rename IntsAre _ _ => hI
  rename List Value => vs9
  have hS := sheet_of hI (by decide : Int.toNat 7 = 7) hp0 hz0 (by omega)
  rename News _ _ _ _ => N9
  generalize hds : List.replicate ((start + 1).fmod 7).toNat Value.none ++ vs9 ++ List.replicate (Int.toNat 7) Value.none = ds at hS N9
  (refine' SrcS.rows (rowOf ds) rfl ?h1 N9 ?h3 ?h4 ?h5 ?helt ?hfin; (case h1 => k_asm); (case h3 => assumption); (case h4 => omega); (case h5 => omega))
  case helt =>
    intro i t I oI C oC D m₂ h tk ys news' E' hi hC hx F2 N2 hB
    have hlen := hS.1
    refine' row_elt ?f1 ?f2 ?f3 ?f4 ?f5 ?c1 ?c2 ?c3 ?c4 ?c5 ?c6 ?c7 ?c8 ?c9 ?c10 ?c11 (fun r h' tk' a b c => ⟨r, h', tk', rfl, rfl, a, b, c⟩)
    case f1 => exact F2
    case f2 => exact N2
    case f3 => exact .tail _ (.head _)
    case f4 => exact hC
    case f5 => exact hx
    case c1 => rfl
    case c2 => exact .tail _ (.tail _ (.tail _ (hB _ (by k_mem))))
    case c3 => assumption
    case c4 => exact .tail _ (.tail _ (.tail _ (hB _ (by k_mem))))
    case c5 => omega
    case c6 => omega
    case c7 => rfl
    case c8 => rfl
    case c9 => decide
    case c10 => rfl
    case c11 => decide
  case hfin =>
    intro g9 ys news' hl hR hB
    intro D h tk F' N' o1
    clear o1 hB
    obtain ⟨n, hn, hn1, hn2⟩ : ∃ n : Nat, ys.length = n ∧ (start + 1).fmod 7 + size ≤ 7 * (n : Int) ∧ 7 * (n : Int) ≤ (start + 1).fmod 7 + size + 6 := ⟨_, hl, by omega, by omega⟩
    clear hl
    have N7 : News _ _ _ ((D, W.listOf ys.toArray ys.length) :: news') := N'
    clear N'
    by_cases hpos : 0 < size + (start + 1).fmod 7
    case pos =>
      dsimp only
      k_steps
      rename Fr _ _ _ _ => F5
      rename News _ _ _ _ => N5
      (with_unfolding_all refine For_invVF F5 rfl rfl ?_)
      walk1
      (refine' iter_rows (c := Str.ofString "cell") (p := Str.ofString "place") rfl (List.Mem.head _) F5 N5 ?r1 ?r2 ?r4 ?r5 ?turn ?done)
      case r1 => rfl
      case r2 => rfl
      case r4 => decide
      case r5 => decide
      case turn =>
        intro i v t u h5 tk5 led hv hsub F6 N6
        obtain ⟨r, rfl, hrm⟩ := hR i v hv
        have hrl := hsub _ (.tail _ hrm)
        have hi : i < n := by have := (List.getElem?_eq_some_iff.mp hv).1; omega
        have h7 : (rowOf ds i).length = 7 := rowOf_length (by have := hS.1; omega)
        k_steps
        rename Fr _ _ _ _ => F8
        rename News _ _ _ _ => N8
        (with_unfolding_all refine For_invVF F8 rfl rfl ?_)
        walk1
        (refine' iter_cells (r := Str.ofString "row") (p := Str.ofString "place") (j := 7 * (i : Int)) rfl hrl F8 N8 h7 ?q1 ?q2 ?q3 ?turn2 ?done2)
        case q1 => decide
        case q2 => decide
        case q3 => decide
        case turn2 =>
          intro k v t2 h8 tk8 led2 hv2 hsub2 F9 N9
          obtain ⟨hd, hk7⟩ := rowOf_get hv2
          have hc := hS.2 _ _ hd
          by_cases hin : (start + 1).fmod 7 ≤ ((7 * i + k : Nat) : Int) ∧ ((7 * i + k : Nat) : Int) < (start + 1).fmod 7 + size
          case pos =>
            obtain ⟨tv, rfl⟩ := hc.1 hin
            obtain ⟨hin1, hin2⟩ := hin
            k_steps
            all_goals exact TurnPost.next (by assumption) (by assumption) (fun _ h => h) ⟨_, rfl⟩
          case neg =>
            obtain rfl := hc.2 hin
            k_steps
            all_goals exact TurnPost.next (by assumption) (by assumption) (fun _ h => h) ⟨_, rfl⟩
        case done2 =>
          intro t3 u3 h8 tk8 F9 N9
          k_steps
          exact TurnPost.next F9 N9 (fun _ h => h) ⟨_, _, rfl⟩
      case done =>
        intro m₁ h5 tk5 F6 N6
        k_steps
        exact hret _ _ (by assumption)
    case neg =>
      have hn0 : n = 0 := by omega
      subst hn0
      have hy : ys = [] := List.eq_nil_of_length_eq_zero hn
      subst hy
      dsimp only
      k_steps
      rename Fr _ _ _ _ => F5
      rename News _ _ _ _ => N5
      (with_unfolding_all refine For_invVF F5 rfl rfl ?_)
      walk1
      (refine' iter_rows (vs := []) (c := Str.ofString "cell") (p := Str.ofString "place") rfl (.tail _ (List.Mem.head _)) F5 N5 ?r1 ?r2 ?r4 ?r5 ?turn ?done)
      case r1 => rfl
      case r2 => rfl
      case r4 => decide
      case r5 => decide
      case turn =>
        intro i v t u h5 tk5 led hv
        cases hv
      case done =>
        intro m₁ h5 tk5 F6 N6
        k_steps
        exact hret _ _ (by assumption)
end

/-! the walk of the two judges of division -/
section
local macro_rules | `(tactic| walk_at "call ref") => `(tactic| (k_here; k_dflt (refine wpAny_call ?_; (refine' code_def ?k1 ?k2 ?k3 ?k4 ?k5 ?kA ?kF ?kK ?k6 ?k7 ?k8 ?k9 ?kB ?_ ?c2 ?c3 ?c4 ?c5; (case kA => exact rfl); (case kF => exact rfl); (case kK => first | assumption | exact rfl); (case k1 => k_asm); (case k2 => k_asm); (case k3 => k_asm); (case k4 => k_asm); (case k5 => k_asm); (case k6 => k_is); (case k7 => k_is); (case k8 => (simp only [depth_deeper]; omega)); (case k9 => exact BindsTo.of_eq rfl); (case c5 => decide); (case kB => exact locs rfl); (case c2 => exact rfl); (case c3 => exact rfl); (case c4 => exact rfl); k_whole; intro g' L' h' FG' F' N' B' X' T'; (try dsimp only); (try k_lift B'); (try k_fold)))))
local macro_rules | `(tactic| walk_at "execs nil") => `(tactic| refine wpAny_execs_nil ?_)
local macro_rules | `(tactic| walk_at "ite") => `(tactic| first
  | (refine ite_neg (by first | decide | (simp only [beq_iff_eq, bne_iff_ne, ne_eq, decide_eq_true_eq, decide_eq_decide, Bool.not_eq_true, Bool.false_eq_true, not_false_eq_true]; omega)) ?_)
  | (refine ite_pos (by first | decide | (simp only [beq_iff_eq, bne_iff_ne, ne_eq, decide_eq_true_eq, decide_eq_decide]; omega)) ?_))
local macro_rules | `(tactic| walk_at "call builtin:abs") => `(tactic| ((first | refine abs_up (by omega) ?_ | refine abs_down (by omega) ?_); intro _ _))
local macro_rules | `(tactic| walk_at "binaryOp Mult int int") => `(tactic| refine mul_ok (by with_reducible assumption) ?_)
local macro_rules | `(tactic| walk_at "binaryOp Mod int int") => `(tactic| refine mod_int' (by omega) ?_)
local macro_rules | `(tactic| walk_at "binaryOp FloorDiv int int") => `(tactic| (refine' floordiv_int (by omega) ?_ (Or.inr (PylongRoom.of ?n1 ?n2)); (case n1 => exact Heap.NoLimit.keeps (Top.nolimit (by assumption)) (Fr.keep (by assumption))); (case n2 => (simp only [depth_deeper]; show _ + 100 < _; omega))))

theorem trunc_claim (w : World) (s₀ : Shared) (mg mb : Str → Option Value) : BClaim Challenge.rw_aq6003_01.row.prog w (hd.heap_39 w.params) hd.view_39 (looseW hd.view_39 []) (ExcName.means s₀.heap) mg mb 89 (fun a b => b ≠ 0 ∧ intBits a ≤ 1048576 ∧ intBits b ≤ 1048578) := by
  k_fill
  unfold BClaim
  intro a b ta tb dp un gd cn cs a9 ccd cl outer A₀ base h₀ L m s Q E B F X T hk hpre hd hu hret
  obtain ⟨hb0, ha, hb⟩ := hpre
  have N : News h₀ L s.heap [] := News.nil
  by_cases h1 : a < 0
  · by_cases h2 : b < 0
    · obtain ⟨_, c2, c3, c4, c5, c6⟩ := cut_nn ha hb h1 h2
      have c1 := c2 id
      k_steps
      all_goals exact retTrue hret (by assumption) (decide_eq_true (by omega))
    · obtain ⟨_, c2, c3, c4, c5, c6⟩ := cut_np ha hb h1 (by omega)
      have c1 := c2 id
      k_steps
      all_goals exact retTrue hret (by assumption) (decide_eq_true (by omega))
  · by_cases h2 : b < 0
    · obtain ⟨c2, _, c3, c4, c5, c6⟩ := cut_pn ha hb (by omega) h2
      have c1 := c2 trivial
      k_steps
      all_goals exact retTrue hret (by assumption) (decide_eq_true (by omega))
    · obtain ⟨c2, _, c3, c4, c5, c6⟩ := cut_pp ha hb (by omega) (by omega)
      have c1 := c2 trivial
      k_steps
      all_goals exact retTrue hret (by assumption) (decide_eq_true (by omega))
theorem amod_claim (w : World) (s₀ : Shared) (mg mb : Str → Option Value) : BClaim Challenge.rw_aq6003_01.row.prog w (hd.heap_39 w.params) hd.view_39 (looseW hd.view_39 []) (ExcName.means s₀.heap) mg mb 96 (fun _ b => b ≠ 0) := by
  k_fill
  unfold BClaim
  intro a b ta tb dp un gd cn cs a9 ccd cl outer A₀ base h₀ L m s Q E B F X T hk hb0 hd hu hret
  have N : News h₀ L s.heap [] := News.nil
  have e0 := @told_zero a b
  have e1 := told_rest a b
  by_cases h2 : b < 0
  · have e2 := rest_down (a := a) h2
    by_cases h1 : a.fmod b = 0
    · have e3 := e0 h1
      k_steps
      all_goals exact retTrue hret (by assumption) (decide_eq_true (by omega))
    · k_steps
      all_goals exact retTrue hret (by assumption) (decide_eq_true (by omega))
  · have e2 := Int.fmod_nonneg_of_pos a (show 0 < b by omega)
    have e4 := Int.fmod_lt_of_pos a (show 0 < b by omega)
    by_cases h1 : a.fmod b = 0
    · have e3 := e0 h1
      k_steps
      all_goals exact retTrue hret (by assumption) (decide_eq_true (by omega))
    · k_steps
      all_goals exact retTrue hret (by assumption) (decide_eq_true (by omega))
end
end Mine

/-! the walk of the law, statement by statement -/
section
open Mine
local macro_rules | `(tactic| walk_at "execs nil") => `(tactic| refine wpAny_execs_nil ?_)
local macro_rules | `(tactic| walk_at "ite") => `(tactic| first
  | (refine ite_neg (by first | decide | (simp only [beq_iff_eq, bne_iff_ne, ne_eq, decide_eq_true_eq, decide_eq_decide, Bool.not_eq_true, Bool.false_eq_true, not_false_eq_true]; omega)) ?_)
  | (refine ite_pos (by first | decide | (simp only [beq_iff_eq, bne_iff_ne, ne_eq, decide_eq_true_eq, decide_eq_decide]; omega)) ?_))
local macro_rules | `(tactic| walk_at "compareOp Eq int int") => `(tactic| first | refine eq_yes (by omega) ?_ | refine eq_no (by omega) ?_)
local macro_rules | `(tactic| walk_at "compareOp NotEq int int") => `(tactic| first | refine ne_no (by omega) ?_ | refine ne_yes (by omega) ?_)
local macro_rules | `(tactic| walk_at "JoinPost") => `(tactic| (refine JoinPost.intro (by assumption) ?_))
local macro_rules | `(tactic| walk_at "call ref") => `(tactic| (k_here; (with_reducible show wpAny _ _ (call (Value.ref 103) [Value.int _ _, Value.int _ _]) _ _ _); k_dflt (refine' RClaim.use (rows_claim _ _ _ _) ?k1 ?k2 ?k3 ?k4 ?k5 ?k6 ?k7 ?k8 ?k9 ?_; (case k1 => k_asm); (case k2 => k_asm); (case k3 => k_asm); (case k4 => k_asm); (case k5 => first | exact rfl | assumption); (case k6 => exact Int.fmod_nonneg_of_pos _ (by decide)); (case k7 => exact Int.fmod_lt_of_pos _ (by decide)); (case k8 => exact Nat.lt_of_sub_pos (by decide)); (case k9 => exact Nat.lt_of_sub_pos (by decide))); intro h' tk' F' N'; (try k_sweep)))
local macro_rules | `(tactic| walk_at "call ref") => `(tactic| (k_here; (with_reducible show wpAny _ _ (call (Value.ref 89) [Value.int _ _, Value.int _ _]) _ _ _); k_dflt (refine' BClaim.use (trunc_claim _ _ _ _) ?k1 ?k2 ?k3 ?k4 ?k5 ?k6 ?k8 ?k9 ?_; (case k1 => k_asm); (case k2 => k_asm); (case k3 => k_asm); (case k4 => k_asm); (case k5 => first | exact rfl | assumption); (case k6 => exact ⟨by assumption, by assumption, by assumption⟩); (case k8 => exact Nat.lt_of_sub_pos (by decide)); (case k9 => exact Nat.lt_of_sub_pos (by decide))); intro h' tk' F' N'; (try k_sweep)))
local macro_rules | `(tactic| walk_at "call ref") => `(tactic| (k_here; (with_reducible show wpAny _ _ (call (Value.ref 96) [Value.int _ _, Value.int _ _]) _ _ _); k_dflt (refine' BClaim.use (amod_claim _ _ _ _) ?k1 ?k2 ?k3 ?k4 ?k5 ?k6 ?k8 ?k9 ?_; (case k1 => k_asm); (case k2 => k_asm); (case k3 => k_asm); (case k4 => k_asm); (case k5 => first | exact rfl | assumption); (case k6 => assumption); (case k8 => exact Nat.lt_of_sub_pos (by decide)); (case k9 => exact Nat.lt_of_sub_pos (by decide))); intro h' tk' F' N'; (try k_sweep)))
local macro_rules | `(tactic| walk_at "binaryOp FloorDiv int int") => `(tactic| (refine fdiv_nought rfl ?_; intro _ _ _ _))
local macro_rules | `(tactic| walk_at "binaryOp Mod int int") => `(tactic| (refine fmod_nought rfl ?_; intro _ _ _ _))
local macro_rules | `(tactic| walk_at "call builtin:abs") => `(tactic| (refine abs_up (Int.le_refl 0) ?_; intro _ _))
local macro_rules | `(tactic| walk_at "compareOp NotIn int ref") => `(tactic| (k_here; k_dflt (first
  | (refine' notin_yes ?t1 ?t2 ?t3 ?_; (case t1 => exact News.isTup (by k_asm) (by k_mem)); (case t2 => exact .cons _ _ (.cons _ _ (.cons _ _ .nil))); (case t3 => (simp only [List.any_cons, List.any_nil, Bool.or_false, Bool.or_eq_false_iff, beq_eq_false_iff_ne, ne_eq]; omega)))
  | (refine' notin_no ?t1 ?t2 ?t3 ?_; (case t1 => exact News.isTup (by k_asm) (by k_mem)); (case t2 => exact .cons _ _ (.cons _ _ (.cons _ _ .nil))); (case t3 => (simp only [List.any_cons, List.any_nil, Bool.or_false, Bool.or_eq_true, beq_iff_eq]; omega))))))
local macro_rules | `(tactic| walk_at "call ref") => `(tactic| (k_here; (first | (with_reducible show wpAny _ _ (call (Value.ref 82) _) _ _ _) | (with_reducible show wpAny _ _ (call (Value.ref 28) _) _ _ _) | (with_reducible show wpAny _ _ (call (Value.ref 42) _) _ _ _)); k_dflt (refine wpAny_call ?_; k_enter)))
local macro_rules | `(tactic| walk_at "eval Call Name cons nil") => `(tactic| refine Call_ ?_)
theorem PySem.Challenge.cw_aq6003_01_holds : PySem.Challenge.rw_aq6003_01.Holds :=
  hd (by
  k_go0
  (all_goals try k_fold)
  refine name_list (by assumption) (by assumption) (fun l ns e1 e2 => ?_)
  subst e1 e2
  rename Fr _ _ _ _ => F0
  refine seq_then (fun m' => m' (Str.ofString "script") = some (.ref l) ∧ ∃ ta tb, m' (Str.ofString "top") = some (.int (cellAt ns 0 0) ta) ∧ m' (Str.ofString "bottom") = some (.int (cellAt ns 1 0) tb)) F0 ?_ ?_
  · k_steps
  clear F0
  rintro m1 h1 tk1 ⟨j1, ta, tb, j2, j3⟩ F1 N1
  rw [canon3 j1 j2 j3] at F1
  have ba : intBits (cellAt ns 0 0) ≤ 1048576 := cell_bits (by assumption)
  have bb : intBits (cellAt ns 1 0) ≤ 1048576 := cell_bits (by assumption)
  generalize cellAt ns 0 0 = a at ba F1
  generalize cellAt ns 1 0 = b at bb F1
  clear j2 j3
  refine seq_then (fun m' => m' (Str.ofString "script") = some (.ref l) ∧ ∃ ta tb, m' (Str.ofString "top") = some (.int a ta) ∧ m' (Str.ofString "bottom") = some (.int b tb)) F1 ?_ ?_
  · k_steps
  clear F1 j1
  rintro m1 h1 tk1 ⟨j1, ta, tb, j2, j3⟩ F1 N1
  rw [canon3 j1 j2 j3] at F1
  clear j2 j3
  refine seq_then (fun m' => m' (Str.ofString "script") = some (.ref l) ∧ ∃ c ta tb, c ≠ 0 ∧ intBits c ≤ 1048578 ∧ m' (Str.ofString "top") = some (.int a ta) ∧ m' (Str.ofString "bottom") = some (.int c tb)) F1 ?_ ?_
  · by_cases hb : b = 0
    · k_steps
      · exact bot_ne
      · exact bot_bits ba
    · k_steps
      · exact hb
      · exact Nat.le_trans bb (by decide)
  clear F1 j1
  rintro m1 h1 tk1 ⟨j1, c, ta, tb, hc, bc, j2, j3⟩ F1 N1
  rw [canon3 j1 j2 j3] at F1
  clear j2 j3
  refine seq_then (fun m' => m' (Str.ofString "script") = some (.ref l)) F1 ?_ ?_
  · k_steps
  clear F1 j1
  rintro m1 h1 tk1 j1 F1 N1
  rw [canon1 j1] at F1
  refine seq_then (fun m' => m' (Str.ofString "script") = some (.ref l) ∧ ∃ p d ta tb, m' (Str.ofString "pick") = some (.int p ta) ∧ m' (Str.ofString "day") = some (.int d tb)) F1 ?_ ?_
  · k_steps
  clear F1 j1
  rintro m1 h1 tk1 ⟨j1, p, d, ta, tb, j2, j3⟩ F1 N1
  rw [canon3 j1 j2 j3] at F1
  clear j2 j3
  refine seq_then (fun m' => m' (Str.ofString "script") = some (.ref l) ∧ ∃ ta tb tc, m' (Str.ofString "pick") = some (.int p ta) ∧ m' (Str.ofString "day") = some (.int d tb) ∧ m' (Str.ofString "told") = some (.int (d - (d - p).fmod 7) tc)) F1 ?_ ?_
  · k_steps
  clear F1 j1
  rintro m1 h1 tk1 ⟨j1, ta, tb, tc, j2, j3, j4⟩ F1 N1
  rw [canon4 j1 j2 j3 j4] at F1
  clear j2 j3 j4
  refine seq_then (fun m' => m' (Str.ofString "script") = some (.ref l) ∧ ∃ tb, m' (Str.ofString "day") = some (.int d tb)) F1 ?_ ?_
  · have e1 := fmod_pos (d - p) (show (0 : Int) ≤ 7 by decide)
    have e2 := fmod_pos (d - (d - p).fmod 7 - p) (show (0 : Int) ≤ 7 by decide)
    k_steps
  clear F1 j1
  rintro m1 h1 tk1 ⟨j1, tb, j2⟩ F1 N1
  rw [canon2 j1 j2] at F1
  clear j2
  refine seq_then (fun m' => m' (Str.ofString "script") = some (.ref l) ∧ ∃ tb y ty, m' (Str.ofString "day") = some (.int d tb) ∧ m' (Str.ofString "year") = some (.int y ty)) F1 ?_ ?_
  · k_steps
  clear F1 j1
  rintro m1 h1 tk1 ⟨j1, tb, y, ty, j2, j3⟩ F1 N1
  rw [canon3 j1 j2 j3] at F1
  clear j2 j3
  refine seq_then (fun m' => m' (Str.ofString "script") = some (.ref l) ∧ ∃ tb, m' (Str.ofString "day") = some (.int d tb)) F1 ?_ ?_
  · have e1 := fmod_pos y (show (0 : Int) ≤ 4 by decide)
    have e2 := fmod_pos y (show (0 : Int) ≤ 100 by decide)
    have e3 := fmod_pos y (show (0 : Int) ≤ 400 by decide)
    by_cases y4 : y % 4 = 0
    · by_cases y1 : y % 400 = 100
      · k_steps
      · by_cases y2 : y % 400 = 200
        · k_steps
        · by_cases y3 : y % 400 = 300
          · k_steps
          · by_cases y0 : y % 400 = 0
            · k_steps
            · k_steps
    · k_steps
  clear F1 j1
  rintro m1 h1 tk1 ⟨j1, tb, j2⟩ F1 N1
  rw [canon2 j1 j2] at F1
  clear j2
  refine seq_then (fun m' => m' (Str.ofString "script") = some (.ref l)) F1 ?_ ?_
  · by_cases hd0 : 0 < d
    · k_steps
    · k_steps
  clear F1 j1
  rintro m1 h1 tk1 j1 F1 N1
  rw [canon1 j1] at F1
  refine seq_then (fun m' => m' (Str.ofString "script") = some (.ref l)) F1 ?_ ?_
  · k_steps
  clear F1 j1
  rintro m1 h1 tk1 j1 F1 N1
  rw [canon1 j1] at F1
  refine seq_then (fun m' => ∃ (q : Int) (tp : Tok), m' (Str.ofString "place") = some (.int (1 + q.fmod 28) tp)) F1 ?_ ?_
  · k_steps
  clear F1 j1
  rintro m1 h1 tk1 ⟨q, tp, j1⟩ F1 N1
  rw [canon1 j1] at F1
  clear j1
  have e0 := fmod_pos q (show (0 : Int) ≤ 28 by decide)
  have e1 := fmod_pos (1 + q.fmod 28) (show (0 : Int) ≤ 7 by decide)
  have e2 := fmod_pos (1 + q.fmod 28 - 1) (show (0 : Int) ≤ 7 by decide)
  k_steps)
end
