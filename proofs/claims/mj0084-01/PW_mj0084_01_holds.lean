import PyProof.Rows.All
import Wide.All
import OpenK.AllK
import Wide.FinOn
import PySem.Challenge.RW_mj0084_01
set_option Elab.async false
section
open PySem PySem.W PyProof.Rows
set_option maxRecDepth 100000
set_option maxHeartbeats 8000000
namespace Mine
open_top hd for PySem.Challenge.rw_mj0084_01
end Mine
end
section
open PySem PySem.W PySem.Calls PyProof.Rows
set_option maxRecDepth 100000
namespace Mine
theorem enterP {prog : Program} {w : World} {A : Around} {s : Shared} {K : Frag} {R : Result → Shared → Prop} {name qual : Str} {params : Arguments} {body : List Stmt} {scope : Scope} {dV kV doc pm cdv ct oc : Value} {an od : Option Addr} {osl : Array (Option Value)} {f : Addr} {args : Args} {binds : List (Str × Value)}
    (X : K.In s.heap) (hlim : s.heap.NoLimit) (hroom : A.depth < recursionLimit)
    (ho : K.lookup f = some ⟨oc, od, .func (fnOf name qual params body scope dV kV doc pm an cdv ct), osl⟩) (hcd : codeIn K cdv qual = true)
    (hbind : BindsTo s (fnOf name qual params body scope dV kV doc pm an cdv ct) args binds) (hloc : ∀ y ∈ binds, scope.names.lookup y.1 = some .local)
    (h : ∀ L' h₁, L' = s.heap.objs.size → Fr s.heap L' h₁ (fun y => binds.reverse.lookup y) → News s.heap L' h₁ [] →
      wpAny (model prog w) (A.deeper (envOf qual scope L' f cdv)) (execs body (envOf qual scope L' f cdv))
        (fun fl s' => R (.ok (.ret (match fl with | .ret v => v | _ => .none))) s')
        (fun e s' => wpAny (model prog w) (A.deeper (envOf qual scope L' f cdv)) (leaving (envOf qual scope L' f cdv) e) (fun _ s'' => R (.error e) s'') (fun e' s'' => R (.error e') s'') s')
        { s with heap := h₁, toks := s.toks + binds.length })
    (hco : scope.isCoroutine = false) (hgen : scope.isGenerator = false) (hk : scope.kind = .function)
    (hcell : ∀ x ∈ scope.names, x.2 ≠ .cell) : codeAny (model prog w) A (.call (.ref f) args) R s := by
  refine codeAny_call_def (fd := fnOf name qual params body scope dV kV doc pm an cdv ct) (body := body) (binds := binds) hroom (X _ _ ho) rfl hlim (codeRec_of X hcd) rfl hbind hcell hloc (fun h₁ hns hk₁ => ?_) hco hgen hk
  exact h _ h₁ rfl ⟨hns, hk₁, Nat.le_refl _⟩ News.nil
theorem enterC {prog : Program} {w : World} {A : Around} {s : Shared} {K : Frag} {R : Result → Shared → Prop} {name qual : Str} {params : Arguments} {body : List Stmt} {scope : Scope} {dV kV doc pm cdv ct oc : Value} {an od : Option Addr} {osl : Array (Option Value)} {f : Addr} {args : Args} {binds : List (Str × Value)}
    (X : K.In s.heap) (hlim : s.heap.NoLimit) (hroom : A.depth < recursionLimit)
    (ho : K.lookup f = some ⟨oc, od, .func (fnOf name qual params body scope dV kV doc pm an cdv ct), osl⟩) (hcd : codeIn K cdv qual = true)
    (hbind : BindsTo s (fnOf name qual params body scope dV kV doc pm an cdv ct) args binds) (hkind : (binds.all fun y => scope.names.lookup y.1 == some .local || scope.names.lookup y.1 == some .cell) = true)
    (hnd : ((cellsFrom 0 scope.names []).map (·.1)).Nodup)
    (h : ∀ L' h₁ tk cells, L' = s.heap.objs.size → Fr s.heap L' h₁ (bindL (envOfC qual scope L' f cdv).kindOf binds fun _ => none) → News s.heap L' h₁ cells →
      CellsAre (bindC (envOfC qual scope L' f cdv).kindOf binds fun _ => none) (cellsFrom (L' + 1) scope.names []) cells →
      wpAny (model prog w) (A.deeper (envOfC qual scope L' f cdv)) (execs body (envOfC qual scope L' f cdv))
        (fun fl s' => R (.ok (.ret (match fl with | .ret v => v | _ => .none))) s')
        (fun e s' => wpAny (model prog w) (A.deeper (envOfC qual scope L' f cdv)) (leaving (envOfC qual scope L' f cdv) e) (fun _ s'' => R (.error e) s'') (fun e' s'' => R (.error e') s'') s')
        { s with heap := h₁, toks := tk })
    (hco : scope.isCoroutine = false) (hgen : scope.isGenerator = false) (hk : scope.kind = .function) : codeAny (model prog w) A (.call (.ref f) args) R s := by
  refine codeAny_call_function hroom (X _ _ ho) rfl hco hgen rfl (codeRec_of X hcd) (hbind _ _ _ _ ?_)
  refine wpAny_newFunctionEnv_cells hk (kindsX hkind _) fun env' he s' x => ?_
  subst he
  refine ⟨hlim.keeps x.toInCall.keep, codeAny_func ?_⟩
  obtain ⟨h₁, tk, rfl, _⟩ := x.done
  have hk₁ := x.toInCall.keep
  obtain ⟨cells, NC, Y⟩ := Cl.news (h₀ := s.heap) (Nat.le_refl _) fun n c hm => ⟨x.cell n c (lookup_of_mem_nodup (cellsFrom_names scope.names 0 (s.heap.objs.size + 1) [] [] rfl ▸ hnd) hm), x.above n c hm⟩
  exact h s.heap.objs.size h₁ tk cells rfl ⟨x.toInCall.ns, hk₁, Nat.le_refl _⟩ NC Y
/-- what a call adds: old objects stay -/
def Grow (h h' : Heap) : Prop := ∀ b o, h.get? b = some o → h'.get? b = some o
theorem Grow.fr {h₀ h h' : Heap} {L : Addr} {m : Str → Option Value} (G : Grow h h') (F : Fr h₀ L h m) : Fr h₀ L h' m := by
  obtain ⟨oL, a1, a2, hL, a3⟩ := F.ns
  exact ⟨⟨oL, a1, a2, G _ _ hL, a3⟩, fun b o e => G _ _ (F.keep b o e), F.above⟩
theorem Grow.news {h₀ h h' : Heap} {L : Addr} {news : List (Addr × Obj)} (G : Grow h h') (N : News h₀ L h news) : News h₀ L h' news :=
  fun p hp => ⟨G _ _ (N p hp).1, (N p hp).2⟩
end Mine
end
section
open PySem PySem.W PySem.Calls PyProof.Rows PyProof.Rows.LCg
set_option maxRecDepth 100000
namespace Mine
section
variable {prog : Program} {w : World} {A : Around} {E : Value → Shared → Prop} {s : Shared} {h₀ : Heap} {L : Addr} {m : Str → Option Value} {env : Env}
def CompIt (prog : Program) (w : World) (A : Around) (h₀ : Heap) (L : Addr) (m : Str → Option Value) (env : Env) (elt : Expr) (x : Str) (scope : Scope) (cl : List (Str × Addr)) (Q : Value → Shared → Prop) (it : Value) (s₂ : Shared) : Prop :=
  ∃ (I : Addr) (fp : List Addr) (n : Nat) (P : Nat → Value → Prop) (St : Nat → Heap → Prop) (S : List (Addr × Obj) → Prop) (news : List (Addr × Obj)),
    it = .ref I ∧ Walks prog w A I fp [I] n P St ∧ n ≤ sizeLine ∧ (∀ i h, St i h → ∃ o, h.get? I = some o) ∧
    (∀ i h h' o nw, St i h → h.get? I = some o → h'.get? I = some o → (∀ b o, h₀.get? b = some o → h'.get? b = some o) → News h₀ L h' nw → S nw → St i h') ∧
    St 0 s₂.heap ∧ (∀ b ∈ fp, b < s₂.heap.objs.size) ∧ Fr h₀ L s₂.heap m ∧ News h₀ L s₂.heap news ∧ L ≠ I ∧ h₀.get? I = none ∧ (∀ p ∈ news, p.1 ≠ I) ∧ S news ∧
    CompRest prog w A h₀ L m env elt x scope cl s₂ S P (FinE h₀ L m s₂ Q) n 0 [] news
theorem listComp {elt iter : Expr} {x : Str} {px : Pos} {scope : Scope} {cl : List (Str × Addr)} {pos : Pos} {Q : Value → Shared → Prop} (F₀ : Fr h₀ L s.heap m)
    (hclos : closureFor scope env = pure cl) (hcell : ∀ y ∈ scope.names, y.2 ≠ .cell) (hkind : scope.kind = .function)
    (hnames : ∀ y ∈ scope.names, y.2 = .local → scope.names.lookup y.1 = some .local) (hx : scope.names.lookup x = some .local)
    (h : wpAny (model prog w) A (eval iter env) (fun xv s₁ => wpAny (model prog w) A (pyIter xv) (CompIt prog w A h₀ L m env elt x scope cl Q) E s₁) E s)
    (hs : ∀ x, foldedSetIterable iter env x = pure x := by intro _; rfl) :
    wpAny (model prog w) A (eval (.ListComp elt [⟨.Name x px, iter, [], 0⟩] scope pos) env) Q E s := by
  have _ := F₀
  rw [eval_ListComp]
  refine wpAny_comprehension_free (use := none) rfl hs hclos hkind hnames (wpAny_mono h (fun xv s₁ h₁ => wpAny_mono h₁ (fun it s₂ h₂ => ?_) fun _ _ e => e) fun _ _ e => e)
  obtain ⟨I, fp, n, P, St, S, news, rfl, W, hsz, hIo, hSt, hst, hfp, F, N, hIL, hI₀, off, hS, R⟩ := h₂
  refine block_U W hsz hIo hSt hcell hkind hx hst hfp F N hIL hI₀ off hS R ?_
  intro D C h tk m' ys news' F' N' o1 hn hC₀ hD₀ hCL hDL hCD offC fin
  refine ⟨m', hn, fun h'' hs'' => fin D h'' tk (F'.change hs'' hCL hC₀) (fun p hp => ?_) o1⟩
  refine ⟨hs''.extBut _ _ ?_ (N' p hp).1, (N' p hp).2⟩
  rcases List.mem_cons.mp hp with rfl | hp
  · exact Ne.symm hCD
  · exact offC p hp
def ElemEnd (h₀ : Heap) (L : Addr) (m : Str → Option Value) (s : Shared) (G : Value → Prop) (all : List (Addr × Obj)) (y : Value) (s₂ : Shared) : Prop :=
  G y ∧ ∃ h' tk', s₂ = { s with heap := h', toks := tk' } ∧ Fr h₀ L h' m ∧ News h₀ L h' all
theorem ElemEnd.intro {G : Value → Prop} {all : List (Addr × Obj)} {y : Value} {h' : Heap} {tk' : Nat} (hG : G y) (F : Fr h₀ L h' m) (N : News h₀ L h' all) : ElemEnd h₀ L m s G all y { s with heap := h', toks := tk' } :=
  ⟨hG, h', tk', rfl, F, N⟩
/-- each element by itself, nothing else changed -/
theorem compRest_of {elt : Expr} {x : Str} {scope : Scope} {cl : List (Str × Addr)} {S : List (Addr × Obj) → Prop} {P : Nat → Value → Prop} {Fin : List Value → List (Addr × Obj) → Prop} {n : Nat} {news : List (Addr × Obj)} (G : Nat → Value → Prop) (hS : S news)
    (elem : ∀ i v I oI C oC D m₂ ys h tk (E' : Value → Shared → Prop), i < n → P i v → NsObj oC m₂ → m₂ x = some v → Fr h₀ L h m → News h₀ L h ((I, oI) :: (C, oC) :: (D, lst ys) :: news) →
      wpAny (model prog w) A (eval elt (compEnvC scope cl C env)) (ElemEnd h₀ L m s (G i) ((I, oI) :: (C, oC) :: (D, lst ys) :: news)) E' { s with heap := h, toks := tk })
    (fin : ∀ ys : List Value, ys.length = n → (∀ i y, ys[i]? = some y → G i y) → Fin ys news) :
    CompRest prog w A h₀ L m env elt x scope cl s S P Fin n 0 [] news := by
  have go : ∀ k i ys, k + i = n → ys.length = i → (∀ j y, ys[j]? = some y → G j y) → CompRest prog w A h₀ L m env elt x scope cl s S P Fin k i ys news := by
    intro k
    induction k with
    | zero => intro i ys hki hl hG; exact CompRest.zero (fin ys (by omega) hG)
    | succ k ih =>
      intro i ys hki hl hG
      refine CompRest.succ ?_
      intro v I oI C oC D m₂ h tk E' hP hN hx F N off _
      refine wpAny_mono (elem i v I oI C oC D m₂ ys h tk E' (by omega) hP hN hx F N) (fun y s₂ h₂ => ?_) fun _ _ e => e
      obtain ⟨hGy, h', tk', rfl, F', N'⟩ := h₂
      refine ⟨h', tk', news, rfl, F', N', off, hS, ih (i + 1) (ys ++ [y]) (by omega) (by simp [hl]) ?_⟩
      intro j z hj
      by_cases hji : j < ys.length
      · rw [List.getElem?_append_left hji] at hj; exact hG j z hj
      · rw [List.getElem?_append_right (by omega)] at hj
        have h0 : j - ys.length = 0 := by
          rcases Nat.eq_zero_or_pos (j - ys.length) with e | e
          · exact e
          · rw [List.getElem?_eq_none (by simp; omega)] at hj; cases hj
        rw [h0] at hj
        have : j = i := by omega
        subst this
        simp at hj; subst hj; exact hGy
  exact go n 0 [] (by omega) rfl (by intro j y h; simp at h)
theorem compIt_rangeD {elt : Expr} {x : Str} {scope : Scope} {cl : List (Str × Addr)} {Q : Value → Shared → Prop} {r : Addr} {a₀ b₀ : Int} {t₀ u₀ v₀ : Tok} {n : Nat} {news : List (Addr × Obj)}
    (hh : A.handled = none) (hr : IsRange s.heap r a₀ b₀ (-1) t₀ u₀ v₀) (hsmall : Builtin.Range.small a₀ b₀ (-1) = true) (hn : Builtin.Range.rangeSize a₀ b₀ (-1) = (n : Int)) (hsz : n ≤ sizeLine) (F : Fr h₀ L s.heap m) (N : News h₀ L s.heap news)
    (h : ∀ g, CompRest prog w A h₀ L m env elt x scope cl { s with heap := g } (fun _ => True) (fun i v => ∃ t, v = .int (a₀ - (i : Int)) t) (FinE h₀ L m { s with heap := g } Q) n 0 [] news) :
    wpAny (model prog w) A (pyIter (.ref r)) (CompIt prog w A h₀ L m env elt x scope cl Q) E s := by
  refine wpAny_pyIter_range hr hsmall ?_
  have W : Walks prog w A s.heap.objs.size [s.heap.objs.size] [s.heap.objs.size] n (fun i v => ∃ t, v = .int (a₀ - (i : Int)) t)
      (fun i h => IsRangeIter h s.heap.objs.size (a₀ + (i : Nat) * (-1)) ((n : Int) - (i : Nat)) (-1)) := by
    have W0 : Walks prog w A s.heap.objs.size [s.heap.objs.size] [s.heap.objs.size] n (fun i v => i < n ∧ ∃ t, v = .int (a₀ + i * (-1)) t)
      (fun i h => IsRangeIter h s.heap.objs.size (a₀ + (i : Nat) * (-1)) ((n : Int) - (i : Nat)) (-1)) := (Walks.range hh _ a₀ (-1) n).bound
    exact { sub := W0.sub, frame := W0.frame, done := W0.done, self := W0.self,
            item := fun i s Q E hi st hQ => W0.item i s Q E hi st fun v h' tk hP => hQ v h' tk (by obtain ⟨_, t, rfl⟩ := hP; exact ⟨t, by rw [show a₀ + (i : Int) * (-1) = a₀ - (i : Int) by omega]⟩) }
  refine ⟨_, _, n, _, _, fun _ => True, news, rfl, W, hsz, fun i h st => ⟨_, st⟩, ?_, by show IsRangeIter _ _ _ _ _; rw [hn]; simpa using Heap.get?_push_size _ rfl, ?_, F.push _, fun p hp => ⟨Heap.get?_push_of_some _ (N p hp).1, (N p hp).2⟩, Nat.ne_of_lt F.ns.lt, next_is_new F, fun p hp => Nat.ne_of_lt (Heap.lt_size (N p hp).1), trivial, h _⟩
  · intro i h h' o nw st e e' _ _ _
    have st' : h.get? s.heap.objs.size = some _ := st
    show h'.get? s.heap.objs.size = some _
    rw [e', ← e]; exact st'
  · intro b hb
    rw [List.mem_singleton.mp hb]
    show s.heap.objs.size < (s.heap.push _).objs.size
    rw [Heap.size_push]; exact Nat.lt_succ_self _
theorem compIt_bytes {elt : Expr} {x : Str} {scope : Scope} {cl : List (Str × Addr)} {Q : Value → Shared → Prop} {b : Array UInt8} {tb : Tok} {news : List (Addr × Obj)}
    (hh : A.handled = none) (hsz : b.size ≤ sizeLine) (F : Fr h₀ L s.heap m) (N : News h₀ L s.heap news)
    (h : ∀ g, CompRest prog w A h₀ L m env elt x scope cl { s with heap := g } (fun _ => True) (fun i v => ∃ c u, b[i]? = some c ∧ v = .int (c.toNat : Int) u) (FinE h₀ L m { s with heap := g } Q) b.size 0 [] news) :
    wpAny (model prog w) A (pyIter (.bytes b tb)) (CompIt prog w A h₀ L m env elt x scope cl Q) E s := by
  refine KBw.pyIter_bytes ?_
  have W := KBw.walks (prog := prog) (w := w) hh s.heap.objs.size b tb
  refine ⟨_, _, b.size, _, _, fun _ => True, news, rfl, W, hsz, fun i h st => let ⟨o, e, _⟩ := st; ⟨o, e⟩, ?_, ⟨_, Heap.get?_push_size _ rfl, rfl, rfl⟩, ?_, F.push _, fun p hp => ⟨Heap.get?_push_of_some _ (N p hp).1, (N p hp).2⟩, Nat.ne_of_lt F.ns.lt, next_is_new F, fun p hp => Nat.ne_of_lt (Heap.lt_size (N p hp).1), trivial, h _⟩
  · intro i h h' o nw st e e' _ _ _
    obtain ⟨o', q, r⟩ := st; rw [e] at q; cases q; exact ⟨o, e', r⟩
  · intro b hb
    rw [List.mem_singleton.mp hb]
    show s.heap.objs.size < (s.heap.push _).objs.size
    rw [Heap.size_push]; exact Nat.lt_succ_self _
theorem compIt_led {elt : Expr} {x : Str} {scope : Scope} {cl : List (Str × Addr)} {Q : Value → Shared → Prop} {ax : Addr} {its : Array Value} {k : Nat} {news : List (Addr × Obj)}
    (hh : A.handled = none) (F : Fr h₀ L s.heap m) (N : News h₀ L s.heap news) (hm : (ax, W.listOf its k) ∈ news) (hsz : its.size ≤ sizeLine)
    (h : ∀ g, CompRest prog w A h₀ L m env elt x scope cl { s with heap := g } (SrcAt h₀ ax its) (fun i v => its[i]? = some v) (FinE h₀ L m { s with heap := g } Q) its.size 0 [] news) :
    wpAny (model prog w) A (pyIter (.ref ax)) (CompIt prog w A h₀ L m env elt x scope cl Q) E s := by
  have S : SrcAt h₀ ax its news := .inr ⟨_, hm, rfl, _, rfl⟩
  have hl := S.list F.keep N
  have hlt : ax < s.heap.objs.size := by obtain ⟨_, e, _⟩ := hl; exact Heap.lt_size e
  refine wpAny_pyIter_list hl ?_
  have W := Walks.list (prog := prog) (w := w) hh s.heap.objs.size ax (Nat.ne_of_lt hlt) its
  refine ⟨_, _, its.size, _, _, SrcAt h₀ ax its, news, rfl, W, hsz, fun i h st => by obtain ⟨o, e, _⟩ := st.1; exact ⟨o, e⟩, list_st, ⟨⟨_, Heap.get?_push_size _ rfl, rfl, rfl⟩, hl.push _⟩, ?_, F.push _, fun p hp => ⟨Heap.get?_push_of_some _ (N p hp).1, (N p hp).2⟩, Nat.ne_of_lt F.ns.lt, next_is_new F, fun p hp => Nat.ne_of_lt (Heap.lt_size (N p hp).1), S, h _⟩
  intro b hb
  show b < (s.heap.push _).objs.size
  rw [Heap.size_push]
  rcases List.mem_cons.mp hb with rfl | hb
  · exact Nat.lt_succ_self _
  · rw [List.mem_singleton.mp hb]; exact Nat.lt_succ_of_lt hlt
end
end Mine
end
section
open PySem PySem.W PyProof.Rows
namespace Mine
def valOf (b : Int) (ns : List Int) : Int := ns.foldl (fun a v => a * b + v) 0
theorem valOf_snoc (b : Int) (ns : List Int) (v : Int) : valOf b (ns ++ [v]) = valOf b ns * b + v := by simp [valOf]
theorem valOf_nil (b : Int) : valOf b [] = 0 := rfl
def digits (b : Int) (n : Nat) (N : Int) : List Int := (List.range n).map (fun (i : Nat) => N / b ^ (n - 1 - i) % b)
theorem digits_length (b : Int) (n : Nat) (N : Int) : (digits b n N).length = n := by simp [digits]
theorem digits_mem {b : Int} (hb : 0 < b) {n : Nat} {N v : Int} (h : v ∈ digits b n N) : 0 ≤ v ∧ v < b := by
  simp only [digits, List.mem_map] at h
  obtain ⟨i, _, rfl⟩ := h
  exact ⟨Int.emod_nonneg _ (by omega), Int.emod_lt_of_pos _ hb⟩
theorem digits_succ {b : Int} (hb : 0 < b) (n : Nat) (N : Int) : digits b (n + 1) N = digits b n (N / b) ++ [N % b] := by
  unfold digits
  rw [List.range_succ, List.map_append, List.map_singleton]
  congr 1
  · apply List.map_congr_left
    intro i hi
    rw [List.mem_range] at hi
    have h1 : n + 1 - 1 - i = (n - 1 - i) + 1 := by omega
    rw [h1, Int.pow_succ, Int.mul_comm, Int.ediv_ediv_of_nonneg (by omega)]
  · simp
theorem emod_mul' {b : Int} (hb : 0 < b) {N c : Int} : N % (b * c) = N / b % c * b + N % b := by
  have h := Int.ediv_mul_add_emod N b
  rw [Int.emod_def N (b * c), Int.emod_def (N / b) c, ← Int.ediv_ediv_of_nonneg (by omega), Int.sub_mul]
  have : b * c * (N / b / c) = c * (N / b / c) * b := by rw [Int.mul_assoc, Int.mul_comm b]
  omega
theorem valOf_digits {b : Int} (hb : 0 < b) : ∀ (n : Nat) (N : Int), valOf b (digits b n N) = N % b ^ n
  | 0, N => by simp [digits, valOf, Int.emod_one]
  | n + 1, N => by
    rw [digits_succ hb, valOf_snoc, valOf_digits hb n]
    rw [Int.pow_succ, Int.mul_comm (b ^ n) b, emod_mul' hb]
theorem snoc_of_ne {α : Type} {l : List α} (h : l ≠ []) : ∃ r a, l = r ++ [a] := ⟨l.dropLast, l.getLast h, (List.dropLast_concat_getLast h).symm⟩
theorem valOf_bound {b : Int} (hb : 0 < b) : ∀ (n : Nat) (ns : List Int), ns.length = n → (∀ v ∈ ns, 0 ≤ v ∧ v < b) → 0 ≤ valOf b ns ∧ valOf b ns < b ^ n
  | 0, ns, hl, _ => by
    have : ns = [] := List.length_eq_zero_iff.mp hl
    subst this; simp [valOf]
  | n + 1, ns, hl, hv => by
    obtain ⟨r, a, rfl⟩ := snoc_of_ne (l := ns) (by intro e; simp [e] at hl)
    have hr := valOf_bound hb n r (by simpa using hl) (fun v h => hv v (by simp [h]))
    have ha := hv a (by simp)
    rw [valOf_snoc, Int.pow_succ]
    constructor
    · have := Int.mul_nonneg hr.1 (Int.le_of_lt hb); omega
    · have h1 : valOf b r + 1 ≤ b ^ n := hr.2
      have h2 : (valOf b r + 1) * b ≤ b ^ n * b := Int.mul_le_mul_of_nonneg_right h1 (Int.le_of_lt hb)
      rw [Int.add_mul, Int.one_mul] at h2
      omega
theorem digits_valOf {b : Int} (hb : 0 < b) : ∀ (n : Nat) (ns : List Int), ns.length = n → (∀ v ∈ ns, 0 ≤ v ∧ v < b) → digits b n (valOf b ns) = ns
  | 0, ns, hl, _ => by
    have : ns = [] := List.length_eq_zero_iff.mp hl
    subst this; simp [digits]
  | n + 1, ns, hl, hv => by
    obtain ⟨r, a, rfl⟩ := snoc_of_ne (l := ns) (by intro e; simp [e] at hl)
    have ha := hv a (by simp)
    have e1 : (valOf b r * b + a) / b = valOf b r := by
      rw [Int.add_comm, Int.add_mul_ediv_right _ _ (by omega), Int.ediv_eq_zero_of_lt ha.1 ha.2]; omega
    have e2 : (valOf b r * b + a) % b = a := by
      rw [Int.add_comm, Int.add_mul_emod_self_right, Int.emod_eq_of_lt ha.1 ha.2]
    rw [digits_succ hb, valOf_snoc, e1, e2, digits_valOf hb n r (by simpa using hl) (fun v h => hv v (by simp [h]))]
theorem and_shift (k x y : Nat) (hy : y < 2 ^ k) : (x * 2 ^ k) &&& y = 0 := by
  apply Nat.eq_of_testBit_eq
  intro i
  rw [Nat.testBit_and, Nat.zero_testBit]
  by_cases h : i < k
  · rw [Nat.mul_comm, Nat.testBit_two_pow_mul]; simp; intro h2; omega
  · have : y.testBit i = false := Nat.testBit_lt_two_pow (Nat.lt_of_lt_of_le hy (Nat.pow_le_pow_right (by omega) (by omega)))
    simp [this]
theorem bitOr_shift {x y : Int} {k : Nat} (hx : 0 ≤ x) (hy : 0 ≤ y) (hy' : y < 2 ^ k) : Builtin.bitOr (x * 2 ^ k) y = x * 2 ^ k + y := by
  have hp : (0 : Int) ≤ x * 2 ^ k := Int.mul_nonneg hx (Int.pow_nonneg (by omega))
  have : Builtin.bitAnd (x * 2 ^ k) y = 0 := by
    unfold Builtin.bitAnd
    rw [decide_eq_true hp, decide_eq_true hy]
    show (((x * 2 ^ k).toNat &&& y.toNat : Nat) : Int) = 0
    have e1 : (x * 2 ^ k).toNat = x.toNat * 2 ^ k := by
      rw [Int.toNat_mul hx (Int.pow_nonneg (by omega))]
      congr 1
    have e2 : y.toNat < 2 ^ k := by
      have : ((2 ^ k : Nat) : Int) = (2 : Int) ^ k := by simp
      omega
    rw [e1, and_shift k _ _ e2]; rfl
  rw [bitOr_and, this]; omega
end Mine
end
section
open PySem PySem.W PySem.Calls PyProof.Rows PyProof.Rows.LCg
set_option maxRecDepth 100000
set_option maxHeartbeats 8000000
namespace Mine
local macro_rules | `(tactic| walk_at "eval ListComp") => `(tactic| (k_here; k_dflt (refine listComp (F₀ := by k_asm) (by with_unfolding_all rfl) (by decide) (by rfl) (by decide) (by rfl) ?_)))
theorem bits144 {a n : Int} (h : Builtin.Int.intBits a ≤ 144) (hn : n ≤ 1000) : (Builtin.Int.intBits a : Int) + n ≤ 2 ^ 27 := by omega
local macro_rules | `(tactic| walk_at "binaryOp LShift int int") => `(tactic| (k_here; (with_reducible refine lshift_int (by decide) (bits144 (by assumption) (by decide)) ?_)))
theorem pow_24 {n : Nat} (h : n ≤ 24) : (64 : Int) ^ n ≤ 2 ^ 144 := by
  have : (2 : Int) ^ 144 = 64 ^ 24 := by decide
  rw [this]
  exact_mod_cast Nat.pow_le_pow_right (n := 64) (by omega) h
theorem down_small {many : Int} (h : 0 ≤ many) (h' : many ≤ 1000) : Builtin.Range.small (many - 1) (-1) (-1) = true := small_down (by omega) (by omega) (by omega) (by omega)
theorem down_size {many : Int} (h : 0 ≤ many) : Builtin.Range.rangeSize (many - 1) (-1) (-1) = (many.toNat : Int) := by rw [rangeSize_downNat]; omega
theorem intsAre_idx {f : Nat → Int} : ∀ {n : Nat} {ys : List Value}, ys.length = n → (∀ i y, ys[i]? = some y → ∃ t, y = Value.int (f i) t) → IntsAre ys ((List.range n).map f)
  | 0, ys, hl, _ => by
    have : ys = [] := List.length_eq_zero_iff.mp hl
    subst this; exact .nil
  | n + 1, ys, hl, h => by
    obtain ⟨r, a, rfl⟩ := snoc_of_ne (l := ys) (by intro e; simp [e] at hl)
    have hr : r.length = n := by simpa using hl
    obtain ⟨t, rfl⟩ := h n a (by rw [← hr]; simp)
    rw [List.range_succ, List.map_append]
    refine IntsAre.append (intsAre_idx hr fun i y hy => h i y ?_) (.cons _ _ .nil)
    rw [List.getElem?_append_left (by have := List.getElem?_eq_some_iff.mp hy; exact this.1)]; exact hy
theorem elem_val {N many : Int} {nl i : Nat} {t : Tok} (hm0 : 0 ≤ many) (hm8 : 8 * many ≤ 6 * (nl : Int)) (hi : i < many.toNat) (hN : 0 ≤ N) :
    Value.int (((N.fdiv (2 ^ (-(many * 8 - (nl : Int) * 6)).toNat)).fdiv (2 ^ (8 * (many - 1 - (i : Int))).toNat)).fmod (1 * 2 ^ Int.toNat 8)) t = Value.int (N / 2 ^ (6 * nl - 8 * many.toNat) / 256 ^ (many.toNat - 1 - i) % 256) t := by
  have h1 : (-(many * 8 - (nl : Int) * 6)).toNat = 6 * nl - 8 * many.toNat := by omega
  have h2 : (8 * (many - 1 - (i : Int))).toNat = 8 * (many.toNat - 1 - i) := by omega
  have h3 : (2 : Int) ^ (8 * (many.toNat - 1 - i)) = 256 ^ (many.toNat - 1 - i) := by rw [Int.pow_mul]; rfl
  have _ := hN
  rw [h1, h2, h3, Int.fdiv_eq_ediv_of_nonneg _ (Int.pow_nonneg (by omega)), Int.fdiv_eq_ediv_of_nonneg _ (Int.pow_nonneg (by omega)), Int.fmod_eq_emod_of_nonneg _ (by decide)]
  rfl
theorem upd_congr {m₁ m₀ : Str → Option Value} {x : Str} {v : Option Value} (h : ∀ z, z ≠ x → m₁ z = m₀ z) : (fun y => if y = x then v else m₁ y) = fun y => if y = x then v else m₀ y := by
  funext y; by_cases e : y = x
  · simp [e]
  · simp [e, h y e]
theorem regrouped {w : World} {mean : ExcName → Option Value} {mg mb : Str → Option Value} {dp un : Nat} {gd : Option (List Code)} {cn : Str} {cs : Scope} {L₀ a : Addr} {ccd : Value} {cl : List (Str × Addr)} {outer : List Env} {base : Heap} {s : Shared} {Q E : Value → Shared → Prop}
    {l : Addr} {vs : List Value} {ns : List Int} {many : Int} {t1 t2 t3 : Tok}
    (B : Below (ktrTop dp un gd cn cs L₀ a ccd cl outer) base (envX cn cs L₀ a ccd cl :: outer) s.heap)
    (X : (hd.heap_39 w.params).In s.heap) (T : Top hd.view_39 (looseW hd.view_39 [Str.ofString "b2a_base64", Str.ofString "b64encode"]) mean mg mb s.heap)
    (hdp : dp ≤ 500) (hun : un ≤ 500)
    (hl : s.heap.IsList l vs.toArray) (hi : IntsAre vs ns) (hlen : ns.length ≤ 24) (hns : ∀ v ∈ ns, 0 ≤ v ∧ v < 64) (hm0 : 0 ≤ many) (hm8 : 8 * many ≤ 6 * (ns.length : Int))
    (hret : ∀ D h' tk' ys, Grow s.heap h' → s.heap.get? D = none → h'.get? D = some (lst ys) → IntsAre ys (digits 256 many.toNat (valOf 64 ns / 2 ^ (6 * ns.length - 8 * many.toNat))) → Q (.ref D) { s with heap := h', toks := tk' }) :
    wpAny (model Challenge.rw_mj0084_01.row.prog w) (ktrTop dp un gd cn cs L₀ a ccd cl outer) (call (.ref 68) [.ref l, .int 6 t1, .int 8 t2, .int many t3]) Q E s := by
  k_with_none
  w_top off
  revert X; k_fill; intro X
  refine wpAny_call ?_
  refine' enterC X T.nolimit ?hroom ?ho ?hcd ?hbind ?hloc ?hnd ?_ ?c2 ?c3 ?c4
  case ho => k_is
  case hcd => k_is
  case hroom => (show dp < 1000); omega
  case hbind => exact BindsTo.of_eq rfl
  case hloc => exact rfl
  case hnd => decide +kernel
  case c2 => exact rfl
  case c3 => exact rfl
  case c4 => exact rfl
  intro L' h' tk' cells' hL' F' N' Y'
  k_cells Y'
  (try simp only [List.cons_append, List.nil_append] at N')
  try dsimp only
  k_with "pyIter ref" => (fail "stop")
  k_steps
  rename_i _ o2 _ d2 h1 o1 F1 N1 d1
  have iL : IntsAre vs ns := by assumption
  refine kst_list (σ := Obj) (fun o' => [(L' + 1 + 1, o'), (L' + 1, o2)]) (fun _ => []) (fun _ => True) [] (fun pre o' => ∃ tk, o'.data = .cell (some (.int (valOf 64 pre) tk))) o1 rfl hl iL F1 N1 trivial (fun _ h => nomatch h) ⟨_, d1⟩ ?_ ?_
  · rintro o' pre post n t u h tk own hpp hmem hoff - ⟨tn, hd'⟩ F2 N2
    have hb := hns n hmem
    have hpre := valOf_bound (b := 64) (by omega) pre.length pre rfl (fun v hv => hns v (by rw [hpp]; simp [hv]))
    have hlow : 0 ≤ valOf 64 pre := hpre.1
    have hhi : valOf 64 pre < 2 ^ 144 := Int.lt_of_lt_of_le hpre.2 (pow_24 (by have := congrArg List.length hpp; simp at this; omega))
    have hbits : Builtin.Int.intBits (valOf 64 pre) ≤ 144 := PySem.intBits_le_iff.mpr (by omega)
    k_steps
    rename_i hq oq Fq Nq dq
    refine kst_end oq Fq Nq ?_ ?_ rfl trivial (fun _ h => nomatch h) ?_ ?_
    · intro p hp; simp at hp; rcases hp with rfl | rfl <;> simp
    · intro p hp; simp [hp]
    · intro z hz _ _; simp [hz, kstB]
    · have e9 : Builtin.bitOr (valOf 64 pre * 2 ^ Int.toNat 6) n = valOf 64 (pre ++ [n]) := by
        rw [valOf_snoc]; exact bitOr_shift (x := valOf 64 pre) (y := n) (k := 6) hlow hb.1 (by simpa using hb.2)
      exact ⟨_, e9 ▸ dq⟩
  · rintro o' u h tk - ⟨tn, hd'⟩ F2 N2
    have hall := valOf_bound (b := 64) (by omega) ns.length ns rfl hns
    have hlow : 0 ≤ valOf 64 ns := hall.1
    have hhi : valOf 64 ns < 2 ^ 144 := Int.lt_of_lt_of_le hall.2 (pow_24 hlen)
    k_steps
    rename_i tn1 tn2 hr Fr1 Nr1 hkeep
    refine compIt_rangeD (n := many.toNat) rfl hr ?_ ?_ ?_ Fr1 Nr1 ?_
    · exact down_small hm0 (by omega)
    · exact down_size hm0
    · rw [sizeLine_eq]; omega
    · intro g
      refine compRest_of (fun i y => ∃ t, y = .int (valOf 64 ns / 2 ^ (6 * ns.length - 8 * many.toNat) / 256 ^ (many.toNat - 1 - i) % 256) t) trivial ?_ ?_
      · rintro i v I oI C oC D m₂ ys h tk E' hi ⟨t, rfl⟩ hN hx F3 N3
        k_steps
        refine ElemEnd.intro ⟨_, elem_val hm0 hm8 hi hlow⟩ F3 N3
      · intro ys hyl hy D h9 tk9 F9 N9 _
        exact hret D h9 tk9 ys F9.keep (N9.fresh (.head _)) (N9.get (.head _)) (intsAre_idx hyl hy)
end Mine
end
section
local macro_rules | `(tactic| walk_at "mine none") => `(tactic| fail "none")
local macro_rules | `(tactic| walk_at "mine none") => `(tactic| fail "none")
local macro_rules | `(tactic| walk_at "mine none") => `(tactic| fail "none")
local macro_rules | `(tactic| walk_at "mine none") => `(tactic| fail "none")
local macro_rules | `(tactic| walk_at "mine none") => `(tactic| fail "none")
local macro_rules | `(tactic| walk_at "mine none") => `(tactic| fail "none")
local macro_rules | `(tactic| walk_at "mine none") => `(tactic| fail "none")
local macro_rules | `(tactic| walk_at "mine none") => `(tactic| fail "none")
local macro_rules | `(tactic| walk_at "mine none") => `(tactic| fail "none")
local macro_rules | `(tactic| walk_at "mine none") => `(tactic| fail "none")
local macro_rules | `(tactic| walk_at "mine none") => `(tactic| fail "none")
local macro_rules | `(tactic| walk_at "mine none") => `(tactic| fail "none")
local macro_rules | `(tactic| walk_at "mine none") => `(tactic| fail "none")
local macro_rules | `(tactic| walk_at "mine none") => `(tactic| fail "none")
local macro_rules | `(tactic| walk_at "mine none") => `(tactic| fail "none")
local macro_rules | `(tactic| walk_at "mine none") => `(tactic| fail "none")
local macro_rules | `(tactic| walk_at "mine none") => `(tactic| fail "none")
local macro_rules | `(tactic| walk_at "mine none") => `(tactic| fail "none")
local macro_rules | `(tactic| walk_at "mine none") => `(tactic| fail "none")
local macro_rules | `(tactic| walk_at "mine none") => `(tactic| fail "none")
local macro_rules | `(tactic| walk_at "mine none") => `(tactic| fail "none")
local macro_rules | `(tactic| walk_at "mine none") => `(tactic| fail "none")
local macro_rules | `(tactic| walk_at "mine none") => `(tactic| fail "none")
local macro_rules | `(tactic| walk_at "mine none") => `(tactic| fail "none")
local macro_rules | `(tactic| walk_at "mine none") => `(tactic| fail "none")
local macro_rules | `(tactic| walk_at "mine none") => `(tactic| fail "none")
local macro_rules | `(tactic| walk_at "mine none") => `(tactic| fail "none")
local macro_rules | `(tactic| walk_at "mine none") => `(tactic| fail "none")
local macro_rules | `(tactic| walk_at "mine none") => `(tactic| fail "none")
local macro_rules | `(tactic| walk_at "mine none") => `(tactic| fail "none")
open PySem PySem.W PySem.Calls PyProof.Rows PyProof.Rows.LCg
set_option maxRecDepth 100000
set_option maxHeartbeats 8000000
namespace Mine
local macro_rules | `(tactic| walk_at "eval ListComp") => `(tactic| (k_here; k_dflt (refine listComp (F₀ := by k_asm) (by with_unfolding_all rfl) (by decide) (by rfl) (by decide) (by rfl) ?_)))
def pstep (st : List Str × Str × Bool) (c : Int) : List Str × Str × Bool :=
  if st.2.2 then (st.1, st.2.1 ++ ⟨#[c.toNat]⟩, c != 34)
  else if c = 44 then (st.1 ++ [st.2.1], Str.ofString "", false)
  else (st.1, st.2.1 ++ ⟨#[c.toNat]⟩, c == 34)
def pfold (l : List Int) : List Str × Str × Bool := l.foldl pstep ([], Str.ofString "", false)
theorem pfold_snoc (l : List Int) (c : Int) : pfold (l ++ [c]) = pstep (pfold l) c := by simp [pfold]
local macro_rules | `(tactic| walk_at "pyIter ref") => `(tactic| (k_here; (with_reducible show wpAny _ _ (pyIter (Value.ref _)) (CompIt _ _ _ _ _ _ _ _ _ _ _ _) _ _); k_dflt (refine compIt_led (by rfl) (by k_asm) (by k_asm) (by k_mem) ?_ ?_)))
theorem snoc_len {p : Str} {n : Nat} {pre : List Int} {c : Int} (h : p.length ≤ pre.length) : (p ++ (⟨#[n]⟩ : Str)).length ≤ (pre ++ [c]).length := by
  rw [Str.length_append]
  have : (⟨#[n]⟩ : Str).length = 1 := rfl
  simp; omega
def pitems (l : List Int) : List Str := if (pfold l).2.1.length = 0 then (pfold l).1 else (pfold l).1 ++ [(pfold l).2.1]
theorem pitems_ne {l : List Int} {ws : List Str} {p : Str} {q : Bool} (h : pfold l = (ws, p, q)) (hp : p.length ≠ 0) : pitems l = ws ++ [p] := by
  unfold pitems; rw [h]; simp [hp]
theorem pitems_eq {l : List Int} {ws : List Str} {p : Str} {q : Bool} (h : pfold l = (ws, p, q)) (hp : p.length = 0) : pitems l = ws := by
  unfold pitems; rw [h]; simp [hp]
theorem snocInd {α : Type} {P : List α → Prop} (h0 : P []) (h1 : ∀ l a, P l → P (l ++ [a])) (l : List α) : P l := by
  have : ∀ n (l : List α), l.length = n → P l := by
    intro n
    induction n with
    | zero => intro l hl; rw [List.length_eq_zero_iff.mp hl]; exact h0
    | succ n ih =>
      intro l hl
      obtain ⟨r, a, rfl⟩ := snoc_of_ne (l := l) (by intro e; simp [e] at hl)
      exact h1 r a (ih r (by simpa using hl))
  exact this _ l rfl
theorem pfold_len (l : List Int) : (∀ w ∈ (pfold l).1, w.length ≤ l.length) ∧ (pfold l).2.1.length ≤ l.length := by
  induction l using snocInd with
  | h0 => exact ⟨fun w h => by simp [pfold] at h, by simp [pfold]; decide⟩
  | h1 l c ih =>
    rw [pfold_snoc]
    generalize pfold l = st at ih ⊢
    obtain ⟨ws, p, q⟩ := st
    obtain ⟨i1, i2⟩ := ih
    dsimp only at i1 i2
    have e1 : (p ++ (⟨#[c.toNat]⟩ : Str)).length = p.length + 1 := by rw [Str.length_append]; rfl
    have e0 : (Str.ofString "").length = 0 := by decide
    unfold pstep
    dsimp only
    split
    · refine ⟨fun w h => ?_, ?_⟩
      · have := i1 w h; simp; omega
      · rw [e1]; simp; omega
    · split
      · refine ⟨fun w h => ?_, ?_⟩
        · rcases List.mem_append.mp h with h | h
          · have := i1 w h; simp; omega
          · rw [List.mem_singleton.mp h]; simp; omega
        · dsimp only; rw [e0]; omega
      · refine ⟨fun w h => ?_, ?_⟩
        · have := i1 w h; simp; omega
        · rw [e1]; simp; omega
theorem strs_length : ∀ {vs : List Value} {ws : List Str}, StrsAre vs ws → vs.length = ws.length
  | _, _, .nil => rfl
  | _, _, .cons w t r => by simp [strs_length r]
theorem strsAre_idx {f : Str → Str} : ∀ {n : Nat} {l : List Str} {ys : List Value}, l.length = n → ys.length = n → (∀ (i : Nat) (y : Value), ys[i]? = some y → ∃ (w : Str) (t : Tok), l[i]? = some w ∧ y = Value.str (f w) t) → StrsAre ys (l.map f)
  | 0, l, ys, hl, hy, _ => by
    rw [List.length_eq_zero_iff.mp hl, List.length_eq_zero_iff.mp hy]; exact .nil
  | n + 1, w :: l, y :: ys, hl, hy, h => by
    obtain ⟨w', t, e1, e2⟩ := h 0 y rfl
    have : w = w' := by simpa using e1
    subst this; subst e2
    exact .cons _ _ (strsAre_idx (by simpa using hl) (by simpa using hy) fun i z hz => by simpa using h (i + 1) z (by simpa using hz))
theorem strs_at : ∀ {vs : List Value} {ws : List Str}, StrsAre vs ws → ∀ {i : Nat} {v : Value}, vs[i]? = some v → ∃ w t, ws[i]? = some w ∧ v = Value.str w t
  | _, _, .nil, i, v, h => by simp at h
  | _, _, .cons w t r, 0, v, h => ⟨w, t, rfl, by simpa using h.symm⟩
  | _, _, .cons w t r, i + 1, v, h => by
    obtain ⟨w', t', h1, h2⟩ := strs_at r (i := i) (v := v) (by simpa using h)
    exact ⟨w', t', by simpa using h1, h2⟩
theorem chr_t {n : Nat} (k : Nat) {c : Str} (h : ((⟨#[n]⟩ : Str) == c) = true) (hc : c = ⟨#[k]⟩ := by decide +kernel) : n = k := by
  subst hc
  have := eq_of_beq h
  injection this with this
  simpa using this
theorem chr_f {n : Nat} (k : Nat) {c : Str} (h : ((⟨#[n]⟩ : Str) == c) = false) (hc : c = ⟨#[k]⟩ := by decide +kernel) : n ≠ k := by
  subst hc
  intro e
  subst e
  simp at h
theorem parseHttp {w : World} {mean : ExcName → Option Value} {mg mb : Str → Option Value} {dp un : Nat} {gd : Option (List Code)} {cn : Str} {cs : Scope} {L₀ a : Addr} {ccd : Value} {cl : List (Str × Addr)} {outer : List Env} {base : Heap} {s : Shared} {Q E : Value → Shared → Prop}
    {x : Str} {t1 : Tok}
    (B : Below (ktrTop dp un gd cn cs L₀ a ccd cl outer) base (envX cn cs L₀ a ccd cl :: outer) s.heap)
    (X : (hd.heap_39 w.params).In s.heap) (T : Top hd.view_39 (looseW hd.view_39 [Str.ofString "b2a_base64", Str.ofString "b64encode"]) mean mg mb s.heap)
    (hdp : dp ≤ 500) (hun : un ≤ 500)
    (hlen : x.length ≤ 100) (hbs : ∀ c ∈ KStt.codes x, c ≠ 92)
    (hret : ∀ D h' tk' ys, Grow s.heap h' → s.heap.get? D = none → h'.get? D = some (lst ys) → StrsAre ys ((pitems (KStt.codes x)).map Txt.strip) → Q (.ref D) { s with heap := h', toks := tk' }) :
    wpAny (model Challenge.rw_mj0084_01.row.prog w) (ktrTop dp un gd cn cs L₀ a ccd cl outer) (call (.ref 33) [.str x t1]) Q E s := by
  k_with_none
  w_top off
  revert X; k_fill; intro X
  refine wpAny_call ?_
  refine' enterP X T.nolimit ?hroom ?ho ?hcd ?hbind ?hloc ?_ ?c2 ?c3 ?c4 ?c5
  case ho => k_is
  case hcd => k_is
  case hroom => (show dp < 1000); omega
  case hbind => exact BindsTo.of_eq rfl
  case hloc => exact locs rfl
  case c2 => exact rfl
  case c3 => exact rfl
  case c4 => exact rfl
  case c5 => decide
  intro L' h' hL' F' N'
  try dsimp only
  k_with "pyIter str" => (fail "stop")
  k_steps
  rename_i l' _ _ _ _ _ h1 F1 N1
  refine KStt.kst_text (σ := (List Value × List Str × Nat) × (Str × Tok) × Bool) (fun c => [(l', W.listOf c.1.1.toArray c.1.2.2)]) (fun c => [(Str.ofString "part", .str c.2.1.1 c.2.1.2), (Str.ofString "quote", .bool c.2.2), (Str.ofString "escape", .bool false)]) (fun c => StrsAre c.1.1 c.1.2.1) [] (fun pre c => pfold pre = (c.1.2.1, c.2.1.1, c.2.2) ∧ c.1.1.length ≤ pre.length ∧ c.2.1.1.length ≤ pre.length) (([], [], 0), (Str.ofString "", tk), false) rfl F1 N1 .nil ?_ ⟨rfl, Nat.le_refl _, Nat.le_refl _⟩ ?_ ?_
  · intro p hp; simp at hp; rcases hp with rfl | rfl | rfl <;> rfl
  · rintro ⟨⟨vs, ws, nn⟩, ⟨p, tp⟩, q⟩ pre post n t u h tk own hpp hoff hS ⟨hP, hl1, hl2⟩ F2 N2
    dsimp only at hS hP hl1 hl2 F2 N2 ⊢
    have hlen2 : pre.length < 100 := by have := congrArg List.length hpp; rw [KStt.codes_length] at this; simp at this; omega
    have hn92 : (n : Int) ≠ 92 := hbs _ (by rw [hpp]; simp)
    cases q
    · k_steps
      have e1 := chr_t 44 (by assumption)
      subst e1
      rename Fr _ _ _ _ => Fq
      rename News _ _ _ _ => Nq
      refine kst_end ((vs ++ [.str p tp], ws ++ [p], nn + 1), (Str.ofString "", tk), false) Fq Nq ?_ ?_ rfl ?_ ?_ ?_ ⟨?_, ?_, ?_⟩
      · intro p hp; simp at hp; subst hp; simp
      · intro p hp; simp [hp]
      · exact KStt.strs_snoc hS
      · intro p hp; simp at hp; rcases hp with rfl | rfl | rfl <;> rfl
      · intro z hz hps _
        have z1 := hps _ (.head _); have z2 := hps _ (.tail _ (.head _)); have z3 := hps _ (.tail _ (.tail _ (.head _)))
        dsimp only at z1 z2 z3
        simp [hz, z1, z2, z3, kstB]
      · rw [pfold_snoc, hP]; simp [pstep, True]
      · simp; omega
      · (show (Str.ofString "").length ≤ _); exact Nat.le_trans (Nat.le_of_eq (by decide)) (Nat.zero_le _)
      rename_i tq _ _ _ _ _
      have e2 := chr_t 34 (by assumption)
      subst e2
      rename Fr _ _ _ _ => Fq
      rename News _ _ _ _ => Nq
      refine kst_end ((vs, ws, nn), (p ++ (⟨#[34]⟩ : Str), tq), true) Fq Nq ?_ ?_ rfl ?_ ?_ ?_ ⟨?_, ?_, ?_⟩
      · intro p hp; simp at hp; subst hp; simp
      · intro p hp; simp [hp]
      · exact hS
      · intro p hp; simp at hp; rcases hp with rfl | rfl | rfl <;> rfl
      · intro z hz hps _
        have z1 := hps _ (.head _); have z2 := hps _ (.tail _ (.head _)); have z3 := hps _ (.tail _ (.tail _ (.head _)))
        dsimp only at z1 z2 z3
        simp [hz, z1, z2, z3, kstB]
      · rw [pfold_snoc, hP]; simp [pstep, True]
      · simp; omega
      · exact snoc_len hl2
      rename_i tq _ _ _ _ _
      have e1 := chr_f (c := Str.ofString ",") 44 (by assumption)
      have e1' : (n : Int) ≠ 44 := by omega
      have e2 := chr_f (c := Str.ofString "\"") 34 (by assumption)
      have e2' : (n : Int) ≠ 34 := by omega
      rename Fr _ _ _ _ => Fq
      rename News _ _ _ _ => Nq
      refine kst_end ((vs, ws, nn), (p ++ (⟨#[n]⟩ : Str), tq), false) Fq Nq ?_ ?_ rfl ?_ ?_ ?_ ⟨?_, ?_, ?_⟩
      · intro p hp; simp at hp; subst hp; simp
      · intro p hp; simp [hp]
      · exact hS
      · intro p hp; simp at hp; rcases hp with rfl | rfl | rfl <;> rfl
      · intro z hz hps _
        have z1 := hps _ (.head _); have z2 := hps _ (.tail _ (.head _)); have z3 := hps _ (.tail _ (.tail _ (.head _)))
        dsimp only at z1 z2 z3
        simp [hz, z1, z2, z3, kstB]
      · rw [pfold_snoc, hP]; simp [pstep, e1', e2']
      · simp; omega
      · exact snoc_len hl2
    · k_steps
      · have e3 := chr_t 92 (by assumption)
        exact absurd e3 (by omega)
      · rename_i tq _ _ _ _ _
        have e2 := chr_t 34 (by assumption)
        subst e2
        rename Fr _ _ _ _ => Fq
        rename News _ _ _ _ => Nq
        refine kst_end ((vs, ws, nn), (p ++ (⟨#[34]⟩ : Str), tq), false) Fq Nq ?_ ?_ rfl ?_ ?_ ?_ ⟨?_, ?_, ?_⟩
        · intro p hp; simp at hp; subst hp; simp
        · intro p hp; simp [hp]
        · exact hS
        · intro p hp; simp at hp; rcases hp with rfl | rfl | rfl <;> rfl
        · intro z hz hps _
          have z1 := hps _ (.head _); have z2 := hps _ (.tail _ (.head _)); have z3 := hps _ (.tail _ (.tail _ (.head _)))
          dsimp only at z1 z2 z3
          simp [hz, z1, z2, z3, kstB]
        · rw [pfold_snoc, hP]; simp [pstep, True]
        · simp; omega
        · exact snoc_len hl2
      · rename_i tq _ _ _ _ _
        have e2 := chr_f (c := Str.ofString "\"") 34 (by assumption)
        have e2' : (n : Int) ≠ 34 := by omega
        rename Fr _ _ _ _ => Fq
        rename News _ _ _ _ => Nq
        refine kst_end ((vs, ws, nn), (p ++ (⟨#[n]⟩ : Str), tq), true) Fq Nq ?_ ?_ rfl ?_ ?_ ?_ ⟨?_, ?_, ?_⟩
        · intro p hp; simp at hp; subst hp; simp
        · intro p hp; simp [hp]
        · exact hS
        · intro p hp; simp at hp; rcases hp with rfl | rfl | rfl <;> rfl
        · intro z hz hps _
          have z1 := hps _ (.head _); have z2 := hps _ (.tail _ (.head _)); have z3 := hps _ (.tail _ (.tail _ (.head _)))
          dsimp only at z1 z2 z3
          simp [hz, z1, z2, z3, kstB]
        · rw [pfold_snoc, hP]; simp [pstep, e2']
        · simp; omega
        · exact snoc_len hl2
  · rintro ⟨⟨vs, ws, nn⟩, ⟨p, tp⟩, q⟩ u h tk hS ⟨hP, hl1, hl2⟩ F2 N2
    dsimp only at hS hP hl1 hl2 F2 N2 ⊢
    rw [KStt.codes_length] at hl1 hl2
    have hpb := pfold_len (KStt.codes x)
    rw [hP, KStt.codes_length] at hpb
    k_steps
    · simp; rw [sizeLine_eq]; omega
    · refine compRest_of (fun i y => ∃ w t, (ws ++ [p])[i]? = some w ∧ y = .str (Txt.strip w) t) (.inr ⟨_, by k_mem, rfl, _, rfl⟩) ?_ ?_
      · intro i v I oI C oC D m₂ ys h tk E' hi hv hN hx F3 N3
        obtain ⟨w9, t9, hw9, rfl⟩ := strs_at (KStt.strs_snoc (x := p) (t := tp) hS) (by simpa using hv)
        have hwl : w9.length ≤ 100 := Nat.le_trans ((List.mem_append.mp (List.mem_of_getElem? hw9)).elim (hpb.1 w9) (fun e => (List.mem_singleton.mp e) ▸ hpb.2)) hlen
        k_steps
        exact ElemEnd.intro ⟨_, _, hw9, rfl⟩ F3 N3
      · intro ys hyl hy D h9 tk9 F9 N9 _
        refine hret D h9 tk9 ys F9.keep (N9.fresh (.head _)) (N9.get (.head _)) ?_
        rw [pitems_ne hP (by omega)]
        exact strsAre_idx (n := ys.length) (by rw [hyl]; have := strs_length hS; simp [this]) rfl hy
    · simp; rw [sizeLine_eq]; omega
    · refine compRest_of (fun i y => ∃ w t, (ws)[i]? = some w ∧ y = .str (Txt.strip w) t) (.inr ⟨_, by k_mem, rfl, _, rfl⟩) ?_ ?_
      · intro i v I oI C oC D m₂ ys h tk E' hi hv hN hx F3 N3
        obtain ⟨w9, t9, hw9, rfl⟩ := strs_at (hS) (by simpa using hv)
        have hwl : w9.length ≤ 100 := Nat.le_trans (hpb.1 w9 (List.mem_of_getElem? hw9)) hlen
        k_steps
        exact ElemEnd.intro ⟨_, _, hw9, rfl⟩ F3 N3
      · intro ys hyl hy D h9 tk9 F9 N9 _
        refine hret D h9 tk9 ys F9.keep (N9.fresh (.head _)) (N9.get (.head _)) ?_
        rw [pitems_eq hP (by omega)]
        exact strsAre_idx (n := ys.length) (by rw [hyl]; have := strs_length hS; simp [this]) rfl hy
end Mine
end
section
open PySem PySem.W PySem.Calls PyProof.Rows PyProof.Rows.LCg
set_option maxRecDepth 100000
set_option maxHeartbeats 8000000
namespace Mine
def b64L : List UInt8 := [65, 66, 67, 68, 69, 70, 71, 72, 73, 74, 75, 76, 77, 78, 79, 80, 81, 82, 83, 84, 85, 86, 87, 88, 89, 90, 97, 98, 99, 100, 101, 102, 103, 104, 105, 106, 107, 108, 109, 110, 111, 112, 113, 114, 115, 116, 117, 118, 119, 120, 121, 122, 48, 49, 50, 51, 52, 53, 54, 55, 56, 57, 43, 47]
def b64c (i : Int) : Int := ((b64L.getD i.toNat 0).toNat : Int)
theorem b64_item {prog : Program} {w : World} {A : Around} {E : Value → Shared → Prop} {s : Shared} {value slice : Expr} {i : Int} {t u : Tok} {Q : Value → Shared → Prop} (h0 : 0 ≤ i ∧ i < 64)
    (h : Q (.int (b64c i) s.toks) { s with toks := s.toks + 1 }) (hs : subscripted slice false (.bytes b64L.toArray t) (.int i u) = operate [.bytes b64L.toArray t, .int i u] (getItem (.bytes b64L.toArray t) (.int i u))) (ht : ∀ r, letTemporaryGo value (.bytes b64L.toArray t) r = pure ()) :
    wpAny (model prog w) A (subscriptTail value slice (.bytes b64L.toArray t) (.int i u)) Q E s :=
  subscriptTail_builtin (typeIs_bytes _ _ _) FB.slot_bytes_getitem.lookup (getItem_bytes (by decide) h0.1 (by show i < ((64 : Nat) : Int); omega) h) hs ht
theorem idx63 (x : Int) : 0 ≤ Builtin.bitAnd x 63 ∧ Builtin.bitAnd x 63 < 64 := by have := bitAnd_range x (y := 63) (by omega); omega
def BInv (pre outs : List Int) (lc lb : Int) : Prop := 0 ≤ lc ∧ lc < 65536 ∧ ∃ q : Nat,
  (8 * pre.length = 6 * q ∧ lb = 0 ∧ outs = (digits 64 q (valOf 256 pre)).map b64c) ∨
  (8 * pre.length = 6 * q + 2 ∧ lb = 2 ∧ lc % 4 = valOf 256 pre % 4 ∧ outs = (digits 64 q (valOf 256 pre / 4)).map b64c) ∨
  (8 * pre.length = 6 * q + 4 ∧ lb = 4 ∧ lc % 16 = valOf 256 pre % 16 ∧ outs = (digits 64 q (valOf 256 pre / 16)).map b64c)
theorem BInv.start : BInv [] [] 0 0 := ⟨by omega, by omega, 0, .inl ⟨rfl, rfl, rfl⟩⟩
def lcN (lc n : Int) : Int := Builtin.bitAnd (Builtin.bitOr (lc * 2 ^ Int.toNat 8) n) 65535
theorem lcN_eq {lc n : Int} (h0 : 0 ≤ lc) (hn0 : 0 ≤ n) (hn1 : n < 256) : lcN lc n = (lc * 256 + n) % 65536 := by
  unfold lcN
  rw [bitAnd_m16]
  have : Builtin.bitOr (lc * 2 ^ Int.toNat 8) n = lc * 256 + n := bitOr_shift (k := 8) h0 hn0 (by simpa using hn1)
  rw [this]
def oN (lc n : Int) (k : Int) : Int := b64c (Builtin.bitAnd ((lcN lc n).fdiv (2 ^ k.toNat)) 63)
theorem oN_eq {lc n k : Int} (h0 : 0 ≤ lc) (hn0 : 0 ≤ n) (hn1 : n < 256) : oN lc n k = b64c ((lc * 256 + n) % 65536 / 2 ^ k.toNat % 64) := by
  unfold oN
  rw [lcN_eq h0 hn0 hn1, bitAnd_m6, Int.fdiv_eq_ediv_of_nonneg _ (Int.pow_nonneg (by omega))]
theorem BInv.step0 {pre os : List Int} {lc n : Int} {q : Nat} (h0 : 0 ≤ lc) (hn0 : 0 ≤ n) (hn1 : n < 256) (e1 : 8 * pre.length = 6 * q) (e3 : os = (digits 64 q (valOf 256 pre)).map b64c) :
    BInv (pre ++ [n]) (os ++ [oN lc n (0 + 8 - 6)]) (lcN lc n) (0 + 8 - 6) := by
  rw [lcN_eq h0 hn0 hn1, oN_eq h0 hn0 hn1]
  refine ⟨by omega, by omega, q + 1, .inr (.inl ⟨by simp; omega, by omega, ?_, ?_⟩)⟩
  · rw [valOf_snoc]; omega
  · rw [valOf_snoc, digits_succ (by omega), List.map_append, e3]
    generalize valOf 256 pre = V
    have a1 : (V * 256 + n) / 4 / 64 = V := by omega
    have a2 : (lc * 256 + n) % 65536 / 2 ^ (0 + 8 - 6 : Int).toNat % 64 = (V * 256 + n) / 4 % 64 := by
      show (lc * 256 + n) % 65536 / 4 % 64 = _
      omega
    rw [a1, a2]; rfl
theorem BInv.step2 {pre os : List Int} {lc n : Int} {q : Nat} (h0 : 0 ≤ lc) (hn0 : 0 ≤ n) (hn1 : n < 256) (e1 : 8 * pre.length = 6 * q + 2) (e2 : lc % 4 = valOf 256 pre % 4) (e3 : os = (digits 64 q (valOf 256 pre / 4)).map b64c) :
    BInv (pre ++ [n]) (os ++ [oN lc n (2 + 8 - 6)]) (lcN lc n) (2 + 8 - 6) := by
  rw [lcN_eq h0 hn0 hn1, oN_eq h0 hn0 hn1]
  refine ⟨by omega, by omega, q + 1, .inr (.inr ⟨by simp; omega, by omega, ?_, ?_⟩)⟩
  · rw [valOf_snoc]; omega
  · rw [valOf_snoc, digits_succ (by omega), List.map_append, e3]
    revert e2
    generalize valOf 256 pre = V
    intro e2
    have a1 : (V * 256 + n) / 16 / 64 = V / 4 := by omega
    have a2 : (lc * 256 + n) % 65536 / 2 ^ (2 + 8 - 6 : Int).toNat % 64 = (V * 256 + n) / 16 % 64 := by
      show (lc * 256 + n) % 65536 / 16 % 64 = _
      omega
    rw [a1, a2]; rfl
theorem BInv.step4 {pre os : List Int} {lc n : Int} {q : Nat} (h0 : 0 ≤ lc) (hn0 : 0 ≤ n) (hn1 : n < 256) (e1 : 8 * pre.length = 6 * q + 4) (e2 : lc % 16 = valOf 256 pre % 16) (e3 : os = (digits 64 q (valOf 256 pre / 16)).map b64c) :
    BInv (pre ++ [n]) (os ++ [oN lc n (4 + 8 - 6)] ++ [oN lc n (4 + 8 - 6 - 6)]) (lcN lc n) (4 + 8 - 6 - 6) := by
  rw [lcN_eq h0 hn0 hn1, oN_eq h0 hn0 hn1, oN_eq h0 hn0 hn1]
  refine ⟨by omega, by omega, q + 2, .inl ⟨by simp; omega, by omega, ?_⟩⟩
  · rw [valOf_snoc, digits_succ (by omega), digits_succ (by omega), List.map_append, List.map_append, e3]
    revert e2
    generalize valOf 256 pre = V
    intro e2
    have a1 : (V * 256 + n) / 64 / 64 = V / 16 := by omega
    have a2 : (lc * 256 + n) % 65536 / 2 ^ (4 + 8 - 6 : Int).toNat % 64 = (V * 256 + n) / 64 % 64 := by
      show (lc * 256 + n) % 65536 / 64 % 64 = _
      omega
    have a3 : (lc * 256 + n) % 65536 / 2 ^ (4 + 8 - 6 - 6 : Int).toNat % 64 = (V * 256 + n) % 64 := by
      show (lc * 256 + n) % 65536 / 1 % 64 = _
      omega
    rw [a1, a2, a3]; rfl
theorem endB {h₀ : Heap} {L l' : Addr} {x : Str} {m₀ m' : Str → Option Value} {own news' : List (Addr × Obj)} {s₁ : Shared} {h' : Heap} {tk : Nat} {pre os' : List Int} {lc' lb' : Int} {P : List Int → (List Value × List Int × Nat) × (Int × Tok) × (Int × Tok) → Prop}
    (F : Fr h₀ L h' m') (N : News h₀ L h' news') (hl : ∃ nn' arr, (l', W.listOf arr nn') ∈ news' ∧ IntsAre arr.toList os') (hc : ∃ t, m' (Str.ofString "leftchar") = some (.int lc' t)) (hb : ∃ t, m' (Str.ofString "leftbits") = some (.int lb' t))
    (ho : ∀ p ∈ own, p ∈ news') (hr : ∀ z, z ≠ x → z ≠ Str.ofString "leftchar" → z ≠ Str.ofString "leftbits" → m' z = m₀ z) (hp : ∀ vs nn tc tb, P pre ((vs, os', nn), (lc', tc), (lb', tb))) :
    InvEndN h₀ L (KstS (fun c : (List Value × List Int × Nat) × (Int × Tok) × (Int × Tok) => [(l', W.listOf c.1.1.toArray c.1.2.2)]) (fun c => [(Str.ofString "leftchar", .int c.2.1.1 c.2.1.2), (Str.ofString "leftbits", .int c.2.2.1 c.2.2.2)]) (fun c => IntsAre c.1.1 c.1.2.1) x [] m₀ P pre) own [l'] s₁ { s₁ with heap := h', toks := tk } := by
  obtain ⟨nn', arr, hm, hS⟩ := hl
  obtain ⟨tc, hc⟩ := hc
  obtain ⟨tb, hb⟩ := hb
  refine kst_end ((arr.toList, os', nn'), (lc', tc), (lb', tb)) F N ?_ ho rfl hS ?_ ?_ (hp _ _ _ _)
  · intro p hp; simp at hp; subst hp; exact hm
  · intro p hp; simp at hp; rcases hp with rfl | rfl
    · exact hc
    · exact hb
  · intro z hz hps _
    exact hr z hz (hps _ (.head _)) (hps _ (.tail _ (.head _)))
theorem b64c_in (i : Int) : 0 ≤ b64c i ∧ b64c i < 256 := by
  unfold b64c
  have := UInt8.toNat_lt (b64L.getD i.toNat 0)
  omega
theorem idx3 (x : Int) : 0 ≤ Builtin.bitAnd x 3 * 2 ^ Int.toNat 4 ∧ Builtin.bitAnd x 3 * 2 ^ Int.toNat 4 < 64 := by have := bitAnd_range x (y := 3) (by omega); have e : (2 : Int) ^ Int.toNat 4 = 16 := rfl; rw [e]; omega
theorem idx15 (x : Int) : 0 ≤ Builtin.bitAnd x 15 * 2 ^ Int.toNat 2 ∧ Builtin.bitAnd x 15 * 2 ^ Int.toNat 2 < 64 := by have := bitAnd_range x (y := 15) (by omega); have e : (2 : Int) ^ Int.toNat 2 = 4 := rfl; rw [e]; omega
theorem sm3 (x : Int) : (Builtin.bitAnd x 3).natAbs < 2 ^ 64 := by have := bitAnd_range x (y := 3) (by omega); omega
theorem sm15 (x : Int) : (Builtin.bitAnd x 15).natAbs < 2 ^ 64 := by have := bitAnd_range x (y := 15) (by omega); omega
def b64out (row : List Int) : List Int :=
  (digits 64 ((8 * row.length + 5) / 6) (valOf 256 row * 2 ^ (6 * ((8 * row.length + 5) / 6) - 8 * row.length))).map b64c ++ List.replicate ((3 - row.length % 3) % 3) 61
theorem b64out_0 {row os : List Int} {q : Nat} (e1 : 8 * row.length = 6 * q) (e3 : os = (digits 64 q (valOf 256 row)).map b64c) : os = b64out row := by
  unfold b64out
  have h1 : (8 * row.length + 5) / 6 = q := by omega
  have h2 : (3 - row.length % 3) % 3 = 0 := by omega
  have h3 : 6 * q - 8 * row.length = 0 := by omega
  rw [h1, h2, h3, e3]; simp
theorem b64out_2 {row os : List Int} {q : Nat} {lc : Int} (e1 : 8 * row.length = 6 * q + 2) (e2 : lc % 4 = valOf 256 row % 4) (e3 : os = (digits 64 q (valOf 256 row / 4)).map b64c) : os ++ [b64c (Builtin.bitAnd lc 3 * 2 ^ Int.toNat 4), 61, 61] = b64out row := by
  unfold b64out
  have h1 : (8 * row.length + 5) / 6 = q + 1 := by omega
  have h2 : (3 - row.length % 3) % 3 = 2 := by omega
  have h3 : 6 * (q + 1) - 8 * row.length = 4 := by omega
  rw [h1, h2, h3, e3, digits_succ (by omega), bitAnd_m2, e2]
  generalize valOf 256 row = V
  have a1 : V * 2 ^ 4 / 64 = V / 4 := by omega
  have a2 : V * 2 ^ 4 % 64 = V % 4 * 2 ^ Int.toNat 4 := by (show _ = V % 4 * 16); omega
  rw [a1, a2]; simp [List.replicate]
theorem b64out_4 {row os : List Int} {q : Nat} {lc : Int} (e1 : 8 * row.length = 6 * q + 4) (e2 : lc % 16 = valOf 256 row % 16) (e3 : os = (digits 64 q (valOf 256 row / 16)).map b64c) : os ++ [b64c (Builtin.bitAnd lc 15 * 2 ^ Int.toNat 2), 61] = b64out row := by
  unfold b64out
  have h1 : (8 * row.length + 5) / 6 = q + 1 := by omega
  have h2 : (3 - row.length % 3) % 3 = 1 := by omega
  have h3 : 6 * (q + 1) - 8 * row.length = 2 := by omega
  rw [h1, h2, h3, e3, digits_succ (by omega), bitAnd_m4, e2]
  generalize valOf 256 row = V
  have a1 : V * 2 ^ 2 / 64 = V / 16 := by omega
  have a2 : V * 2 ^ 2 % 64 = V % 16 * 2 ^ Int.toNat 2 := by (show _ = V % 16 * 4); omega
  rw [a1, a2]; simp [List.replicate]
theorem b64out_in (row : List Int) : KBa.In (b64out row) := by
  intro n hn
  unfold b64out at hn
  rcases List.mem_append.mp hn with h | h
  · obtain ⟨i, _, rfl⟩ := List.mem_map.mp h; exact b64c_in i
  · rw [(List.mem_replicate.mp h).2]; omega
theorem b64out_length (row : List Int) : (b64out row).length = (row.length + 2) / 3 * 4 := by
  unfold b64out
  rw [List.length_append, List.length_map, digits_length, List.length_replicate]; omega
theorem bytes_led {prog : Program} {w : World} {A : Around} {E : Value → Shared → Prop} {s : Shared} {h₀ : Heap} {L D : Addr} {m : Str → Option Value} {news : List (Addr × Obj)} {arr : Array Value} {nn : Nat} {ns : List Int} {Q : Value → Shared → Prop}
    (F : Fr h₀ L s.heap m) (N : News h₀ L s.heap news) (hh : A.handled = none) (hm : (D, W.listOf arr nn) ∈ news) (hi : IntsAre arr.toList ns) (hr : KBa.In ns) (hn : ns.length ≤ 16777216)
    (h : ∀ h' t' k, Fr h₀ L h' m → News h₀ L h' news → Q (.bytes (byteArr ns) t') { s with heap := h', toks := k }) : wpAny (model prog w) A (call (.type "bytes") [.ref D]) Q E s :=
  KBa.make_K (vs := arr.toList) F N hh (by simpa using N.isList hm) hi hr hn (fun h' t' k F' N' _ => h h' t' k F' N')
end Mine
end
section
open PySem PySem.W PySem.Calls PyProof.Rows PyProof.Rows.LCg
set_option maxRecDepth 100000
set_option maxHeartbeats 8000000
namespace Mine
local macro_rules | `(tactic| walk_at "call type:type") => `(tactic| ((with_reducible show wpAny _ _ (call _ [Value.bytes _ _]) _ _ _); refine call_type_of (Tx := "bytes") rfl (by decide +kernel) ?_))
local macro_rules | `(tactic| walk_at "subscriptTail") => `(tactic| (k_here; (with_reducible show wpAny _ _ (subscriptTail _ _ (Value.bytes _ _) (Value.int (Builtin.bitAnd _ _) _)) _ _ _); k_dflt (refine b64_item (idx63 _) ?_ (by with_unfolding_all rfl) (by intro _; with_unfolding_all rfl))))
local macro_rules | `(tactic| walk_at "binaryOp LShift int int") => `(tactic| (k_here; first | (with_reducible refine lshift_int_small (by decide) (by decide) (sm3 _) ?_) | (with_reducible refine lshift_int_small (by decide) (by decide) (sm15 _) ?_)))
local macro_rules | `(tactic| walk_at "subscriptTail") => `(tactic| (k_here; (with_reducible show wpAny _ _ (subscriptTail _ _ (Value.bytes _ _) (Value.int (_ * _) _)) _ _ _); k_dflt (first | (refine b64_item (idx3 _) ?_ (by with_unfolding_all rfl) (by intro _; with_unfolding_all rfl)) | (refine b64_item (idx15 _) ?_ (by with_unfolding_all rfl) (by intro _; with_unfolding_all rfl)))))
theorem b2a {w : World} {mean : ExcName → Option Value} {mg mb : Str → Option Value} {gd : Option (List Code)} {cn : Str} {cs : Scope} {L₀ a : Addr} {ccd : Value} {cl : List (Str × Addr)} {outer : List Env} {base : Heap} {s : Shared} {Q E : Value → Shared → Prop}
    {b : Array UInt8} {t1 : Tok}
    (B : Below (ktrTop 303 10 gd cn cs L₀ a ccd cl outer) base (envX cn cs L₀ a ccd cl :: outer) s.heap)
    (X : (hd.heap_39 w.params).In s.heap) (T : Top hd.view_39 (looseW hd.view_39 [Str.ofString "b2a_base64", Str.ofString "b64encode"]) mean mg mb s.heap)
        (hh : cs.kind = .function) (hlen : b.size ≤ 100)
    (hret : ∀ h' tk' t', Grow s.heap h' → Q (.bytes (byteArr (b64out (KBw.bInts b))) t') { s with heap := h', toks := tk' }) :
    wpAny (model Challenge.rw_mj0084_01.row.prog w) (ktrTop 303 10 gd cn cs L₀ a ccd cl outer) (call (.ref 55) [.bytes b t1] [(Str.ofString "newline", .bool false)]) Q E s := by
  k_with_none
  w_top off
  revert X; k_fill; intro X
  refine wpAny_call ?_
  refine' enterP X T.nolimit ?hroom ?ho ?hcd ?hbind ?hloc ?_ ?c2 ?c3 ?c4 ?c5
  case ho => k_is
  case hcd => k_is
  case hroom => (show 303 < 1000); decide
  case hbind => exact BindsTo.of_eq rfl
  case hloc => exact locs rfl
  case c2 => exact rfl
  case c3 => exact rfl
  case c4 => exact rfl
  case c5 => decide
  intro L' h' hL' F' N'
  try dsimp only
  k_with "pyIter bytes" => (fail "stop")
  k_with "call type:bytes" => (fail "stop")
  k_steps
  rename_i l' _ _ _ _ h1 F1 N1
  refine KStb.kst_bytes (σ := (List Value × List Int × Nat) × (Int × Tok) × (Int × Tok)) (fun c => [(l', W.listOf c.1.1.toArray c.1.2.2)]) (fun c => [(Str.ofString "leftchar", .int c.2.1.1 c.2.1.2), (Str.ofString "leftbits", .int c.2.2.1 c.2.2.2)]) (fun c => IntsAre c.1.1 c.1.2.1) [] (fun pre c => BInv pre c.1.2.1 c.2.1.1 c.2.2.1) (([], [], 0), (0, tk + 1 + 1), (0, tk)) rfl (KBw.ints_length b) rfl F1 N1 .nil ?_ BInv.start ?_ ?_
  · intro p hp; simp at hp; rcases hp with rfl | rfl <;> rfl
  · rintro ⟨⟨vs, os, nn⟩, ⟨lc, tc⟩, ⟨lb, tb⟩⟩ pre post n t u h tk own hpp hlt hn0 hn1 hoff hS hP F2 N2
    dsimp only at hS hP F2 N2 ⊢
    obtain ⟨h0, h1, q, hq | hq | hq⟩ := hP
    · obtain ⟨e1, rfl, e3⟩ := hq
      have hol : vs.length = q := by rw [hS.length, e3]; simp [digits_length]
      k_steps
      rename Fr _ _ _ _ => Fq
      rename News _ _ _ _ => Nq
      refine endB (os' := os ++ [oN lc n (0 + 8 - 6)]) Fq Nq ⟨_, _, .head _, ?_⟩ ⟨_, rfl⟩ ⟨_, rfl⟩ ?_ ?_ (fun _ _ _ _ => BInv.step0 h0 hn0 hn1 e1 e3)
      · simp only [Array.toList_push, List.toList_toArray]
        exact hS.append (.cons _ _ .nil)
      · intro p hp; exact .tail _ hp
      · intro z hz z1 z2
        simp [hz, z1, z2, kstB]
    · obtain ⟨e1, rfl, e2, e3⟩ := hq
      have hol : vs.length = q := by rw [hS.length, e3]; simp [digits_length]
      k_steps
      rename Fr _ _ _ _ => Fq
      rename News _ _ _ _ => Nq
      refine endB (os' := os ++ [oN lc n (2 + 8 - 6)]) Fq Nq ⟨_, _, .head _, ?_⟩ ⟨_, rfl⟩ ⟨_, rfl⟩ ?_ ?_ (fun _ _ _ _ => BInv.step2 h0 hn0 hn1 e1 e2 e3)
      · simp only [Array.toList_push, List.toList_toArray]
        exact hS.append (.cons _ _ .nil)
      · intro p hp; exact .tail _ hp
      · intro z hz z1 z2
        simp [hz, z1, z2, kstB]
    · obtain ⟨e1, rfl, e2, e3⟩ := hq
      have hol : vs.length = q := by rw [hS.length, e3]; simp [digits_length]
      k_steps
      rename Fr _ _ _ _ => Fq
      rename News _ _ _ _ => Nq
      refine endB (os' := os ++ [oN lc n (4 + 8 - 6)] ++ [oN lc n (4 + 8 - 6 - 6)]) Fq Nq ⟨_, _, .head _, ?_⟩ ⟨_, rfl⟩ ⟨_, rfl⟩ ?_ ?_ (fun _ _ _ _ => BInv.step4 h0 hn0 hn1 e1 e2 e3)
      · simp only [Array.toList_push, List.toList_toArray]
        exact (hS.append (.cons _ _ .nil)).append (.cons _ _ .nil)
      · intro p hp; exact .tail _ hp
      · intro z hz z1 z2
        simp [hz, z1, z2, kstB]
  · rintro ⟨⟨vs, os, nn⟩, ⟨lc, tc⟩, ⟨lb, tb⟩⟩ u h tk hlen2 hS hP F2 N2
    dsimp only at hS hP F2 N2 ⊢
    rw [KBw.ints_length] at hlen2
    have hbl := KBw.ints_length b
    have hol := b64out_length (KBw.bInts b)
    obtain ⟨h0, h1, q, hq | hq | hq⟩ := hP
    · obtain ⟨e1, rfl, e3⟩ := hq
      have hol : vs.length = q := by rw [hS.length, e3]; simp [digits_length]
      k_steps
      rename Fr _ _ _ _ => Fq
      rename News _ _ _ _ => Nq
      refine bytes_led (ns := b64out (KBw.bInts b)) Fq Nq rfl (.head _) ?_ (b64out_in _) (by omega) ?_
      · rw [← b64out_0 e1 e3]; simpa using hS
      · intro h9 t9 k9 F9 N9; exact hret _ _ _ F9.keep
    · obtain ⟨e1, rfl, e2, e3⟩ := hq
      have hol : vs.length = q := by rw [hS.length, e3]; simp [digits_length]
      k_steps
      rename Fr _ _ _ _ => Fq
      rename News _ _ _ _ => Nq
      refine bytes_led (ns := b64out (KBw.bInts b)) Fq Nq rfl (.head _) ?_ (b64out_in _) (by omega) ?_
      · rw [← b64out_2 e1 e2 e3]; simp only [Array.toList_push, List.toList_toArray, List.append_assoc]
        exact hS.append (.cons _ _ (.cons _ _ (.cons _ _ .nil)))
      · intro h9 t9 k9 F9 N9; exact hret _ _ _ F9.keep
    · obtain ⟨e1, rfl, e2, e3⟩ := hq
      have hol : vs.length = q := by rw [hS.length, e3]; simp [digits_length]
      k_steps
      rename Fr _ _ _ _ => Fq
      rename News _ _ _ _ => Nq
      refine bytes_led (ns := b64out (KBw.bInts b)) Fq Nq rfl (.head _) ?_ (b64out_in _) (by omega) ?_
      · rw [← b64out_4 e1 e2 e3]; simp only [Array.toList_push, List.toList_toArray, List.append_assoc]
        exact hS.append (.cons _ _ (.cons _ _ .nil))
      · intro h9 t9 k9 F9 N9; exact hret _ _ _ F9.keep
end Mine
end
section
open PySem PySem.W PySem.Calls PyProof.Rows
set_option maxRecDepth 100000
set_option maxHeartbeats 4000000
namespace Mine
theorem slot_tr : Slot "bytes" "translate" "bytes.translate" :=
  .of (owner := "bytes") (n := "translate") (by rw [typeLookup_type, builtinLookup_eq_fast]; kernel_rfl) (by decide +kernel) (by decide +kernel) (by decide +kernel)
    (by first | exact .inl (by decide +kernel) | exact .inr (by decide +kernel)) (by rw [isSubtype_type]; kernel_rfl)
theorem type_tr : typeOf (.builtin "bytes.translate") = pure (.type "method_descriptor") := by show builtinType _ = _; rw [builtinType_eq_fast]; kernel_rfl
theorem entry_tr : entryFor table "bytes.translate" = some Builtin.«bytes.translate» := entryFor_of_tree (by kernel_rfl)
theorem args_tr (a b : Value) : argsOk "bytes.translate" ⟨[a, b], []⟩ := by
  unfold argsOk; rw [signature?_of (id := "bytes.translate") (n := ['e', 't', 'a', 'l', 's', 'n', 'a', 'r', 't']) (o := ['s', 'e', 't', 'y', 'b']) (by kernel_rfl) FB.owner_bytes]; kernel_rfl
theorem entry_mk : entryFor table "bytes.maketrans" = some Builtin.«bytes.maketrans» := entryFor_of_tree (by kernel_rfl)
theorem plain_mk : plainId "bytes.maketrans" = true := by decide +kernel
theorem check_mk (a b : Value) : checkBuiltinCall "bytes.maketrans" ⟨[a, b], []⟩ = pure () := by
  unfold checkBuiltinCall; rw [signature?_of (id := "bytes.maketrans") (n := ['s', 'n', 'a', 'r', 't', 'e', 'k', 'a', 'm']) (o := ['s', 'e', 't', 'y', 'b']) (by kernel_rfl) FB.owner_bytes]; kernel_rfl
def trTab (a0 a1 : UInt8) : Array UInt8 := (((Array.range 256).map (·.toUInt8)).setIfInBounds 43 a0).setIfInBounds 47 a1
theorem trTab_size (a0 a1 : UInt8) : (trTab a0 a1).size = 256 := by simp [trTab]
section
variable {prog : Program} {w : World} {M : Model} {A : Around} {E : Value → Shared → Prop} {s : Shared} {K : Frag} {h₀ : Heap} {L : Addr} {m : PySem.Str → Option Value} {news : List (Addr × Obj)}
theorem tree_mk {a0 a1 : UInt8} {t u : Tok} {P : PySem.Fin → Shared → Prop} (h : P (.done (.ret (.bytes (trTab a0 a1) s.toks))) { s with toks := s.toks + 1 }) :
    wpAny M A (Builtin.«bytes.maketrans» ⟨[.bytes #[43, 47] t, .bytes #[a0, a1] u], []⟩) P E s := by
  unfold Builtin.«bytes.maketrans» Builtin.Bytes.maketransM
  refine wpAny_bind (wpAny_of_eq (a := ()) (by rfl) ?_)
  refine wpAny_bind (wpAny_of_eq (a := ()) (by rfl) ?_)
  refine wpAny_bind (wpAny_of_eq KBd.like_eq ?_)
  refine wpAny_bind (wpAny_of_eq KBd.like_eq ?_)
  refine bm_if_false (by rfl) ?_
  refine wpAny_bind (wpAny_mkBytes ?_ ?_)
  · exact wpAny_pure h
  · (show Array.size (trTab a0 a1) ≤ sizeLine); rw [trTab_size, sizeLine_eq]; decide
theorem call_mk {a0 a1 : UInt8} {t u : Tok} {Q : Value → Shared → Prop} (h : ∀ t' k, Q (.bytes (trTab a0 a1) t') { s with toks := k }) :
    wpAny (model prog w) A (call (.builtin "bytes.maketrans") [.bytes #[43, 47] t, .bytes #[a0, a1] u]) Q E s := by
  refine wpAny_call (codeAny_call_builtin plain_mk entry_mk (wpAny_of_eq (check_mk _ _) ?_))
  exact tree_mk (h _ _)
theorem getm_mk {pl : Sem Bool} {Q : Value × List Value → Shared → Prop} (F : Fr h₀ L s.heap m) (X₀ : K.In h₀)
    (e : findCls K (.type "bytes") (.type "type") (PySem.Str.ofString "maketrans") = some (.val (.builtin "bytes.maketrans")))
    (h : ∀ k, Q (.builtin "bytes.maketrans", []) { s with toks := k }) :
    wpAny (model prog w) A (getMethod (.type "bytes") (PySem.Str.ofString "maketrans") pl) Q E s := by
  have X := X₀.keeps F.keep
  have hstub : opaqueClassAbove (.type "bytes") = pure none := by unfold opaqueClassAbove; dsimp only; rw [show Manifest.isStub "bytes" = false by decide +kernel]; rfl
  have ht : typeOf (.type "bytes") = pure (.type "type") := by first | rfl | kernel_rfl
  have L0 : Looks (model prog w) s.heap (typeOf (.type "bytes")) (.type "type") := Looks.of_pure ht
  have hg : findIn K (.type "type") "__getattribute__" = some (some (.builtin "type.__getattribute__")) := type_tga
  unfold getMethod specialOf
  refine wpAny_bind (wpAny_bind (L0.here ((looks_findIn X hg).here ?_)))
  dsimp only
  rw [if_pos canon_tga]
  refine wpAny_bind (wpAny_mono (Q := fun v => Q (v, [])) (E := E) ?_ (fun _ _ z => wpAny_pure z) fun _ _ z => z)
  have LO : Looks (model prog w) s.heap (opaqueClassAbove (.type "bytes")) none := Looks.of_pure hstub
  refine cls_open X LO L0 hg (looks_hook X (r := none) (by rfl)) (by show subIn K _ _ = _; rfl) e ?_
  exact wpAny_pure (wpAny_pure (h _))
theorem getm_tr {b : Array UInt8} {t : Tok} {pl : Sem Bool} {Q : Value × List Value → Shared → Prop} (h : Q (.builtin "bytes.translate", [.bytes b t]) s) : wpAny M A (getMethod (.bytes b t) "translate" pl) Q E s := by
  with_reducible exact KBd.method_of (.bytes b t) (typeIs_bytes _ _ _) slot_tr type_tr KBd.noRef h
theorem tree_tr {a0 a1 : UInt8} {b : Array UInt8} {t u : Tok} {P : PySem.Fin → Shared → Prop} (hb : b.size ≤ 1000) (h : ∀ t' k, P (.done (.ret (.bytes (b.map fun c => (trTab a0 a1).getD c.toNat c) t'))) { s with toks := k }) :
    wpAny M A (Builtin.«bytes.translate» ⟨[.bytes b t, .bytes (trTab a0 a1) u], []⟩) P E s := by
  unfold Builtin.«bytes.translate» Builtin.Bytes.translateM
  dsimp only
  rw [if_neg (by simp)]
  refine bm_if_false rfl ?_
  refine bm_if_false rfl ?_
  refine wpAny_bind (wpAny_of_eq KBd.like_eq ?_)
  refine bm_if_false (by rw [trTab_size]; rfl) ?_
  refine wpAny_bind (wpAny_pure ?_)
  refine wpAny_bind (wpAny_pure ?_)
  refine wpAny_bind (wpAny_of_eq (a := b) rfl ?_)
  have ef : Array.filter (fun x => !(#[] : Array UInt8).contains x) b = b := by simp
  simp only [ef]
  cases hc : (Array.map (fun c => (trTab a0 a1).getD c.toNat c) b == b) with
  | true =>
    have e := eq_of_beq hc
    refine bm_if_true rfl ?_
    refine wpAny_bind (wpAny_rule ?_)
    refine wpAny_bind (wpAny_of_eq (a := .bytes b t) (by rfl) ?_)
    have := h t s.toks
    rw [e] at this
    exact wpAny_pure this
  | false =>
    refine bm_if_false rfl ?_
    refine wpAny_bind (wpAny_mkBytes ?_ ?_)
    · exact wpAny_pure (h _ _)
    · rw [Array.size_map, sizeLine_eq]; omega
theorem call_tr {a0 a1 : UInt8} {b : Array UInt8} {t u : Tok} {Q : Value → Shared → Prop} (hb : b.size ≤ 1000) (h : ∀ t' k, Q (.bytes (b.map fun c => (trTab a0 a1).getD c.toNat c) t') { s with toks := k }) :
    wpAny (model prog w) A (call (.builtin "bytes.translate") [.bytes b t, .bytes (trTab a0 a1) u]) Q E s := by
  refine call_meets slot_tr (typeIs_bytes _ _ _) entry_tr (args_tr _ _) (S := fun _ R s => ∀ t' k, R (.ok (.ret (.bytes (b.map fun c => (trTab a0 a1).getD c.toNat c) t'))) { s with toks := k }) ?_ h
  refine .of_wp fun prog w A R s hS => ?_
  exact tree_tr hb fun t' k => ⟨_, rfl, hS t' k⟩
end
end Mine
end
section
local macro_rules | `(tactic| walk_at "mine none") => `(tactic| fail "none")
local macro_rules | `(tactic| walk_at "mine none") => `(tactic| fail "none")
local macro_rules | `(tactic| walk_at "mine none") => `(tactic| fail "none")
local macro_rules | `(tactic| walk_at "mine none") => `(tactic| fail "none")
local macro_rules | `(tactic| walk_at "mine none") => `(tactic| fail "none")
local macro_rules | `(tactic| walk_at "mine none") => `(tactic| fail "none")
local macro_rules | `(tactic| walk_at "mine none") => `(tactic| fail "none")
local macro_rules | `(tactic| walk_at "mine none") => `(tactic| fail "none")
local macro_rules | `(tactic| walk_at "mine none") => `(tactic| fail "none")
local macro_rules | `(tactic| walk_at "mine none") => `(tactic| fail "none")
local macro_rules | `(tactic| walk_at "mine none") => `(tactic| fail "none")
local macro_rules | `(tactic| walk_at "mine none") => `(tactic| fail "none")
local macro_rules | `(tactic| walk_at "mine none") => `(tactic| fail "none")
local macro_rules | `(tactic| walk_at "mine none") => `(tactic| fail "none")
local macro_rules | `(tactic| walk_at "mine none") => `(tactic| fail "none")
local macro_rules | `(tactic| walk_at "mine none") => `(tactic| fail "none")
local macro_rules | `(tactic| walk_at "mine none") => `(tactic| fail "none")
local macro_rules | `(tactic| walk_at "mine none") => `(tactic| fail "none")
local macro_rules | `(tactic| walk_at "mine none") => `(tactic| fail "none")
local macro_rules | `(tactic| walk_at "mine none") => `(tactic| fail "none")
local macro_rules | `(tactic| walk_at "mine none") => `(tactic| fail "none")
local macro_rules | `(tactic| walk_at "mine none") => `(tactic| fail "none")
local macro_rules | `(tactic| walk_at "mine none") => `(tactic| fail "none")
local macro_rules | `(tactic| walk_at "mine none") => `(tactic| fail "none")
local macro_rules | `(tactic| walk_at "mine none") => `(tactic| fail "none")
local macro_rules | `(tactic| walk_at "mine none") => `(tactic| fail "none")
local macro_rules | `(tactic| walk_at "mine none") => `(tactic| fail "none")
local macro_rules | `(tactic| walk_at "mine none") => `(tactic| fail "none")
local macro_rules | `(tactic| walk_at "mine none") => `(tactic| fail "none")
local macro_rules | `(tactic| walk_at "mine none") => `(tactic| fail "none")
open PySem PySem.W PySem.Calls PyProof.Rows PyProof.Rows.LCg
set_option maxRecDepth 100000
set_option maxHeartbeats 8000000
namespace Mine
def Stop (p : Prop) : Prop := p
theorem Stop.intro {p : Prop} (h : Stop p) : p := h
theorem Stop.of {p : Prop} (h : p) : Stop p := h
theorem below_in {A₀ : Around} {base h₀ h : Heap} {outer : List Env} {dp un : Nat} {gd : Option (List Code)} {cn : Str} {cs : Scope} {L a : Addr} {ccd : Value} {m : Str → Option Value} (B : Below A₀ base outer h₀) (F : Fr h₀ L h m) (hk : cs.kind = .function) :
    Below (ktrTop dp un gd cn cs L a ccd [] outer) base (envX cn cs L a ccd [] :: outer) h :=
  ⟨rfl, (B.push (name := cn) (a := a) (cd := ccd) F hk).stays, (B.push (name := cn) (a := a) (cd := ccd) F hk).frames⟩
theorem b2a_use {w : World} {mean : ExcName → Option Value} {mg mb : Str → Option Value} {gd : Option (List Code)} {cn : Str} {cs : Scope} {L a : Addr} {ccd : Value} {outer : List Env} {A₀ : Around} {base h₀ : Heap} {m : Str → Option Value} {news : List (Addr × Obj)} {s : Shared} {Q E : Value → Shared → Prop}
    {b : Array UInt8} {t1 : Tok}
    (B : Below A₀ base outer h₀) (F : Fr h₀ L s.heap m) (N : News h₀ L s.heap news)
    (X : (hd.heap_39 w.params).In h₀) (T : Top hd.view_39 (looseW hd.view_39 [Str.ofString "b2a_base64", Str.ofString "b64encode"]) mean mg mb h₀)
        (hh : cs.kind = .function) (hlen : b.size ≤ 100)
    (hret : ∀ h' tk' t', Fr h₀ L h' m → News h₀ L h' news → Q (.bytes (byteArr (b64out (KBw.bInts b))) t') { s with heap := h', toks := tk' }) :
    wpAny (model Challenge.rw_mj0084_01.row.prog w) (ktrTop 303 10 gd cn cs L a ccd [] outer) (call (.ref 55) [.bytes b t1] [(Str.ofString "newline", .bool false)]) Q E s :=
  b2a (below_in B F hh) (X.keeps F.keep) (T.keeps F.keep) hh hlen fun h' tk' t' G => hret h' tk' t' (G.fr F) (G.news N)
local macro_rules | `(tactic| walk_at "call ref") => `(tactic| (k_here; (with_reducible show wpAny _ _ (call (Value.ref 55) [Value.bytes _ _] _) _ _ _); k_dflt (refine' b2a_use ?B ?F ?N ?X ?T ?hk ?hl ?_; (case B => k_asm); (case F => k_asm); (case N => k_asm); (case X => k_asm); (case T => k_asm); (case hk => exact rfl); (case hl => assumption); k_whole); intro h' tk' t' F' N'; (try k_sweep)))
def trI (a0 a1 : UInt8) (c : Int) : Int := if c = 43 then a0.toNat else if c = 47 then a1.toNat else c
theorem trTab_get {a0 a1 : UInt8} {i : Nat} (hi : i < 256) (d : UInt8) : (trTab a0 a1).getD i d = if i = 47 then a1 else if i = 43 then a0 else i.toUInt8 := by
  unfold trTab
  rw [Array.getD_eq_getD_getElem?, Array.getElem?_setIfInBounds, Array.getElem?_setIfInBounds]
  simp only [Array.getElem?_map, Array.getElem?_range, Array.size_setIfInBounds, Array.size_map, Array.size_range, hi, if_true, Option.map_some]
  by_cases h1 : i = 47
  · subst h1; simp
  · by_cases h2 : i = 43
    · subst h2; simp
    · simp [Ne.symm h1, Ne.symm h2, h1, h2]
theorem tr_eq {a0 a1 : UInt8} {ns : List Int} (h : KBa.In ns) : (byteArr ns).map (fun c => (trTab a0 a1).getD c.toNat c) = byteArr (ns.map (trI a0 a1)) := by
  unfold byteArr
  rw [List.map_toArray, List.map_map, List.map_map]
  congr 1
  apply List.map_congr_left
  intro n hn
  have hb := h n hn
  have e : n.toNat.toUInt8.toNat = n.toNat := by (show n.toNat % 256 = n.toNat); omega
  simp only [Function.comp, e]
  rw [trTab_get (by omega)]
  unfold trI
  by_cases h1 : n = 47
  · subst h1; simp
  · by_cases h2 : n = 43
    · subst h2; simp
    · rw [if_neg (by omega), if_neg (by omega), if_neg h2, if_neg h1]
local macro_rules | `(tactic| walk_at "getMethod bytes") => `(tactic| (k_here; (with_reducible refine getm_tr ?_)))
local macro_rules | `(tactic| walk_at "getMethod type:bytes") => `(tactic| (k_here; k_dflt (refine' getm_mk ?F ?X ?E ?_; (case F => k_asm); (case X => k_asm); (case E => k_is); k_whole); intro _))
local macro_rules | `(tactic| walk_at "call builtin:bytes.maketrans") => `(tactic| (k_here; k_dflt (refine call_mk ?_); intro _ _))
local macro_rules | `(tactic| walk_at "call builtin:bytes.translate") => `(tactic| (k_here; k_dflt (refine call_tr (by rw [byteArr_size, b64out_length, KBw.ints_length]; omega) ?_); intro _ _))
theorem b64encode {w : World} {mean : ExcName → Option Value} {mg mb : Str → Option Value} {gd : Option (List Code)} {cn : Str} {cs : Scope} {L₀ a : Addr} {ccd : Value} {cl : List (Str × Addr)} {outer : List Env} {base : Heap} {s : Shared} {Q E : Value → Shared → Prop}
    {b : Array UInt8} {t1 t2 : Tok} {a0 a1 : UInt8}
    (B : Below (ktrTop 302 7 gd cn cs L₀ a ccd cl outer) base (envX cn cs L₀ a ccd cl :: outer) s.heap)
    (X : (hd.heap_39 w.params).In s.heap) (T : Top hd.view_39 (looseW hd.view_39 [Str.ofString "b2a_base64", Str.ofString "b64encode"]) mean mg mb s.heap)
        (hh : cs.kind = .function) (hlen : b.size ≤ 100)
    (hret : ∀ h' tk' t', Grow s.heap h' → Q (.bytes (byteArr ((b64out (KBw.bInts b)).map (trI a0 a1))) t') { s with heap := h', toks := tk' }) :
    wpAny (model Challenge.rw_mj0084_01.row.prog w) (ktrTop 302 7 gd cn cs L₀ a ccd cl outer) (call (.ref 63) [.bytes b t1] [(Str.ofString "altchars", .bytes #[a0, a1] t2)]) Q E s := by
  k_with_none
  w_top off
  revert X; k_fill; intro X
  refine wpAny_call ?_
  refine' enterP X T.nolimit ?hroom ?ho ?hcd ?hbind ?hloc ?_ ?c2 ?c3 ?c4 ?c5
  case ho => k_is
  case hcd => k_is
  case hroom => (show 302 < 1000); decide
  case hbind => exact binds_K X rfl (by k_is) rfl rfl rfl
  case hloc => exact locs rfl
  case c2 => exact rfl
  case c3 => exact rfl
  case c4 => exact rfl
  case c5 => decide
  intro L' h' hL' F' N'
  try dsimp only
  k_steps
  · rename Fr _ _ _ _ => Fq
    rw [tr_eq (b64out_in _)]
    exact hret _ _ _ Fq.keep
  · rename_i ha
    exact absurd rfl ha
end Mine
end
section
open PySem PySem.W PySem.Calls PyProof.Rows
set_option maxRecDepth 100000
namespace Mine
section
variable {prog : Program} {w : World} {A : Around} {E : Value → Shared → Prop} {s : Shared} {env : Env} {h₀ : Heap} {target : Expr} {body : List Stmt} {Q : Flow → Shared → Prop}
theorem turns_invN {I : Addr} {fp wr : List Addr} {n : Nat} {P Md : Nat → Value → Heap → Prop} {St : Nat → Heap → Prop} {m₀ : Str → Option Value} {news keep : List (Addr × Obj)} (J : Nat → (Str → Option Value) → List (Addr × Obj) → Prop)
    (W : KTurns prog w A target I fp wr n P Md St) (hLf : env.locals ∉ fp) (hwr : ∀ b ∈ wr, h₀.get? b = none) (hfp : ∀ b ∈ fp, b ∈ wr ∨ ∃ o, (b, o) ∈ keep) (hkeep : ∀ i m₁ news₁, J i m₁ news₁ → ∀ p ∈ keep, p ∈ news₁)
    (hnw : ∀ p ∈ news, p.1 ∉ wr) (hst : St 0 s.heap) (F : Fr h₀ env.locals s.heap m₀) (N : News h₀ env.locals s.heap news) (hj : J 0 m₀ news)
    (turn : ∀ i v m₁ news₁ h tk own, i < n → P i v h → OwnOff own (news.map (·.1)) → J i m₁ news₁ → Fr h₀ env.locals h m₁ → News h₀ env.locals h (news₁ ++ own) →
      wpAny (model prog w) A (assign target env v) (fun _ s₂ => wpAny (model prog w) A (execs body env) (InvPostN h₀ env.locals (J (i + 1)) own (news.map (·.1)) { s with heap := h, toks := tk } Q) E s₂) E { s with heap := h, toks := tk })
    (done : ∀ m₁ news₁ h tk, J n m₁ news₁ → Fr h₀ env.locals h m₁ → News h₀ env.locals h news₁ → Q .next { s with heap := h, toks := tk }) :
    TurnsAt prog w A h₀ env target body Q E (.ref I) s := by
  let J' : Nat → (Str → Option Value) → List (Addr × Obj) → Prop := fun i m₁ news₁ => news₁.map (·.1) = news.map (·.1) ∧ J i m₁ news₁
  have hadrOff : ∀ b ∈ news.map (·.1), b ∉ wr := by
    intro b hb
    obtain ⟨q, hq, rfl⟩ := List.mem_map.mp hb
    exact hnw q hq
  refine ⟨I, fp, wr, n, P, Md, St, m₀, news, J', rfl, W, hLf, hwr, hnw, hst, F, N, ⟨rfl, hj⟩, ?_, ?_⟩
  · rintro i v m₁ news₁ hh' tk' own hin hP ⟨hadr, hJ⟩ hoff hown hget hall hst' F₁ N₁
    let own' : List (Addr × Obj) := own.filter fun p => decide (p.1 ∈ wr)
    have hown' : ∀ p ∈ own', p ∈ own ∧ p.1 ∈ wr := fun p hp => by simpa [own'] using hp
    have hsep : OwnOff own' (news.map (·.1)) := fun p hp b hb e => hadrOff b hb (e ▸ (hown' p hp).2)
    have N₂ : News h₀ env.locals hh' (news₁ ++ own') := fun p hp => N₁ p ((List.mem_append.mp hp).elim (fun h => List.mem_append.mpr (.inr h)) fun h => List.mem_append.mpr (.inl (hown' p h).1))
    refine wpAny_mono (turn i v m₁ news₁ hh' tk' own' hin hP hsep hJ F₁ N₂) (fun _ s₂ hb => wpAny_mono hb (fun f s₃ p => ?_) fun _ _ e => e) fun _ _ e => e
    have fin : InvEndN h₀ env.locals (J (i + 1)) own' (news.map (·.1)) { s with heap := hh', toks := tk' } s₃ → LoopStepU h₀ env.locals wr own (J' (i + 1)) { s with heap := hh', toks := tk' } .next s₃ := by
      rintro ⟨h', tk, m', news', nx, e, F', N', hn, ho, ha, hm⟩
      refine ⟨rfl, h', tk, m', nx, e, F', fun p hp => N' p ((List.mem_append.mp hp).elim (fun hp => ?_) (hn p)), fun p hp hq => ?_, ha, hm⟩
      · by_cases hw : p.1 ∈ wr
        · exact ho p (by simp [own', hp, hw])
        · obtain ⟨o, hk⟩ := (hfp p.1 (hown p hp)).resolve_left hw
          have e1 := (N₁ (p.1, o) (List.mem_append.mpr (.inr (hkeep _ _ _ hJ _ hk)))).1
          have e2 := hget p hp
          have e3 : p = (p.1, o) := Prod.ext rfl (Option.some.inj (e2.symm.trans e1))
          rw [e3]
          exact hn _ (hkeep _ _ _ hm _ hk)
      · exact hadrOff p.1 (ha ▸ List.mem_map.mpr ⟨p, hp, rfl⟩) hq
    cases f with
    | ret v => exact .ret p
    | brk => exact .brk p
    | next => exact .next (fin p)
    | cont => exact .cont (fin p)
  · rintro h' tk m' news' F' N' _ ⟨_, hJ⟩
    exact done m' news' h' tk hJ F' N'
def EnS {σ : Type} (Led : σ → List (Addr × Obj)) (ps : σ → List (Str × Value)) (Facts : σ → Prop) (stored : List Str) (m₀ : Str → Option Value) (P : Nat → σ → Prop) (i : Nat) (m : Str → Option Value) (nx : List (Addr × Obj)) : Prop :=
  ∃ c : σ, nx = Led c ∧ Facts c ∧ (∀ p ∈ ps c, m p.1 = some p.2) ∧ (∀ z, (∀ p ∈ ps c, z ≠ p.1) → stored.contains z = false → m z = m₀ z) ∧ P i c
theorem en_fr {L : Addr} {h : Heap} {ps : List (Str × Value)} {stored : List Str} {m₀ m₁ : Str → Option Value} (h1 : ∀ p ∈ ps, m₁ p.1 = some p.2) (h2 : ∀ z, (∀ p ∈ ps, z ≠ p.1) → stored.contains z = false → m₁ z = m₀ z)
    (F : Fr h₀ L h m₁) : Fr h₀ L h (kstB (fun z => if stored.contains z then m₁ z else m₀ z) ps) := by
  have em : kstB (fun z => if stored.contains z then m₁ z else m₀ z) ps = m₁ := by
    funext y
    refine kstB_eq h1 fun h => ?_
    by_cases hs : stored.contains y = true
    · rw [if_pos hs]
    · rw [if_neg hs]; exact (h2 y h (by simpa using hs)).symm
  rw [em]; exact F
theorem en_end {σ : Type} {Led : σ → List (Addr × Obj)} {ps : σ → List (Str × Value)} {Facts : σ → Prop} {stored : List Str} {m₀ : Str → Option Value} {P : Nat → σ → Prop} {i : Nat} (c : σ) {L : Addr} {m' : Str → Option Value} {own news' : List (Addr × Obj)} {adr : List Addr} {s₁ : Shared} {h' : Heap} {tk : Nat}
    (F : Fr h₀ L h' m') (N : News h₀ L h' news') (hn : ∀ p ∈ Led c, p ∈ news') (ho : ∀ p ∈ own, p ∈ news') (ha : (Led c).map (·.1) = adr) (hf : Facts c) (hk : ∀ p ∈ ps c, m' p.1 = some p.2) (hr : ∀ z, (∀ p ∈ ps c, z ≠ p.1) → stored.contains z = false → m' z = m₀ z) (hp : P i c) :
    InvEndN h₀ L (EnS Led ps Facts stored m₀ P i) own adr s₁ { s₁ with heap := h', toks := tk } :=
  InvEndN.intro F N ⟨c, rfl, hf, hk, hr, hp⟩ ha hn ho
theorem enumText {elts : List Expr} {k : Nat} {pos : Pos} {σ : Type} {xt : Str} {tx : Tok} {m₀ : Str → Option Value} (Led : σ → List (Addr × Obj)) (ps : σ → List (Str × Value)) (Facts : σ → Prop) (stored : List Str) (P : Nat → σ → Prop) (c₀ : σ)
    (hh : A.handled = none) (F : Fr h₀ env.locals s.heap m₀) (N : News h₀ env.locals s.heap (Led c₀)) (hf : Facts c₀) (hk : ∀ p ∈ ps c₀, m₀ p.1 = some p.2) (hp : P 0 c₀)
    (turn : ∀ (c : σ) (i cp : Nat) (T : Addr) (t u' : Tok) (u : Str → Option Value) h tk own, xt.cps[i]? = some cp → OwnOff own ((Led c₀).map (·.1)) → Facts c → P i c → IsTup h T #[.int (i : Int) t, .str ⟨#[cp]⟩ u'] →
      Fr h₀ env.locals h (kstB (fun z => if stored.contains z then u z else m₀ z) (ps c)) → News h₀ env.locals h (Led c ++ own) →
      wpAny (model prog w) A (assign (.Tuple elts k pos) env (.ref T)) (fun _ s₂ => wpAny (model prog w) A (execs body env) (InvPostN h₀ env.locals (EnS Led ps Facts stored m₀ P (i + 1)) own ((Led c₀).map (·.1)) { s with heap := h, toks := tk } Q) E s₂) E { s with heap := h, toks := tk })
    (done : ∀ (c : σ) (u : Str → Option Value) h tk, Facts c → P xt.cps.size c → Fr h₀ env.locals h (kstB (fun z => if stored.contains z then u z else m₀ z) (ps c)) → News h₀ env.locals h (Led c) → Q .next { s with heap := h, toks := tk }) :
    wpAny (model prog w) A (call (.type "enumerate") [.str xt tx]) (fun xv s₁ => wpAny (model prog w) A (pyIter xv) (fun it s₂ => TurnsAt prog w A h₀ env (.Tuple elts k pos) body Q E it s₂) E s₁) E s := by
  refine call_enumerate_str fun h' hE hI hsz hkp => ?_
  refine wpAny_pyIter_enum hE ?_
  have hLs : env.locals < s.heap.objs.size := F.ns.lt
  have D : Draws prog w A.in1 s.heap.objs.size [s.heap.objs.size] xt.cps.size (fun i v => ∃ c u, xt.cps[i]? = some c ∧ v = .str ⟨#[c]⟩ u) (fun i h => h.IsStrIter s.heap.objs.size (strIterType xt) xt tx i) := by
    unfold strIterType
    split
    · exact Draws.strAscii (by exact hh) _ _ _
    · exact Draws.strWide (by exact hh) _ _ _
  have W := WalksT.enumerateD D (s.heap.objs.size + 1) (Nat.succ_ne_self _) (by simp) (by simp)
  refine turns_invN (s := { s with heap := h' }) (keep := []) (EnS Led ps Facts stored m₀ P) (KTurns.ofWalksU W.toU) ?_ ?_ ?_ (fun _ _ _ _ _ h => nomatch h) ?_ ⟨⟨.none, hE⟩, hI⟩ (F.keeps hkp) (N.grown hkp) ⟨c₀, rfl, hf, hk, fun _ _ _ => rfl, hp⟩ ?_ ?_
  · intro hm
    have hb' : env.locals = s.heap.objs.size + 1 ∨ env.locals = s.heap.objs.size := by simpa using hm
    rcases hb' with e | e
    · exact absurd (e ▸ hLs) (Nat.not_lt.mpr (Nat.le_succ _))
    · exact Nat.ne_of_lt hLs e
  · intro b hb
    have hb' : b = s.heap.objs.size + 1 ∨ b = s.heap.objs.size := by simpa using hb
    rcases hb' with rfl | rfl
    · exact ktu_new F (Nat.le_add_right _ _)
    · exact ktu_new F (Nat.le_refl _)
  · intro b hb
    have hb' : b = s.heap.objs.size + 1 ∨ b = s.heap.objs.size := by simpa using hb
    exact .inl (by simpa using hb')
  · intro p hp hI'
    have hb' : p.1 = s.heap.objs.size + 1 ∨ p.1 = s.heap.objs.size := by simpa using hI'
    have hlp := Heap.lt_size (N p hp).1
    rcases hb' with e | e
    · rw [e] at hlp; exact absurd hlp (Nat.not_lt.mpr (Nat.le_succ _))
    · exact Nat.ne_of_lt hlp e
  · rintro i v m₁ news₁ h tk own hin ⟨T, vals, rfl, ⟨t, x, ⟨c', u', hx, rfl⟩, rfl⟩, hT⟩ hoff ⟨c, rfl, hf', h1, h2, hp'⟩ F₁ N₁
    exact turn c i c' T t u' m₁ h tk own hx hoff hf' hp' hT (en_fr h1 h2 F₁) N₁
  · rintro m₁ news₁ h tk ⟨c, rfl, hf', h1, h2, hp'⟩ F₁ N₁
    exact done c m₁ h tk hf' hp' (en_fr h1 h2 F₁) N₁
theorem enumList {elts : List Expr} {k : Nat} {pos : Pos} {σ : Type} {l : Addr} {its : Array Value} {nn : Nat} {m₀ : Str → Option Value} (Led : σ → List (Addr × Obj)) (ps : σ → List (Str × Value)) (Facts : σ → Prop) (stored : List Str) (P : Nat → σ → Prop) (c₀ : σ)
    (hh : A.handled = none) (F : Fr h₀ env.locals s.heap m₀) (N : News h₀ env.locals s.heap (Led c₀)) (hl : ∀ c, (l, W.listOf its nn) ∈ Led c) (hf : Facts c₀) (hk : ∀ p ∈ ps c₀, m₀ p.1 = some p.2) (hp : P 0 c₀)
    (turn : ∀ (c : σ) (i : Nat) (v : Value) (T : Addr) (t : Tok) (u : Str → Option Value) h tk own, its[i]? = some v → OwnOff own ((Led c₀).map (·.1)) → Facts c → P i c → IsTup h T #[.int (i : Int) t, v] →
      Fr h₀ env.locals h (kstB (fun z => if stored.contains z then u z else m₀ z) (ps c)) → News h₀ env.locals h (Led c ++ own) →
      wpAny (model prog w) A (assign (.Tuple elts k pos) env (.ref T)) (fun _ s₂ => wpAny (model prog w) A (execs body env) (InvPostN h₀ env.locals (EnS Led ps Facts stored m₀ P (i + 1)) own ((Led c₀).map (·.1)) { s with heap := h, toks := tk } Q) E s₂) E { s with heap := h, toks := tk })
    (done : ∀ (c : σ) (u : Str → Option Value) h tk, Facts c → P its.size c → Fr h₀ env.locals h (kstB (fun z => if stored.contains z then u z else m₀ z) (ps c)) → News h₀ env.locals h (Led c) → Q .next { s with heap := h, toks := tk }) :
    wpAny (model prog w) A (call (.type "enumerate") [.ref l]) (fun xv s₁ => wpAny (model prog w) A (pyIter xv) (fun it s₂ => TurnsAt prog w A h₀ env (.Tuple elts k pos) body Q E it s₂) E s₁) E s := by
  have hax := N _ (hl c₀)
  have hL : s.heap.IsList l its := ⟨_, hax.1, rfl, _, rfl⟩
  have hlt : l < s.heap.objs.size := Heap.lt_size hax.1
  refine call_enumerate_list hL fun h' hE hI hsz hkp => ?_
  refine wpAny_pyIter_enum hE ?_
  have hLs : env.locals < s.heap.objs.size := F.ns.lt
  have W := (WalksT.enumerate (prog := prog) (w := w) hh (s.heap.objs.size + 1) s.heap.objs.size l (Nat.succ_ne_self _) (ktu_ne 1 hlt) (Nat.ne_of_lt hlt) its)
  refine turns_invN (s := { s with heap := h' }) (keep := [(l, PySem.W.listOf its nn)]) (EnS Led ps Facts stored m₀ P) (KTurns.ofWalksU W.toU) ?_ ?_ ?_ ?_ ?_ ⟨⟨.none, hE⟩, hI, hL.at fun o e => hkp l o e⟩ (F.keeps hkp) (N.grown hkp) ⟨c₀, rfl, hf, hk, fun _ _ _ => rfl, hp⟩ ?_ ?_
  · intro hm
    have hb' : env.locals = s.heap.objs.size + 1 ∨ env.locals = s.heap.objs.size ∨ env.locals = l := by simpa using hm
    rcases hb' with e | e | e
    · exact ktu_ne 1 hLs e
    · exact Nat.ne_of_lt hLs e
    · exact hax.2.1 e.symm
  · intro b hb
    have hb' : b = s.heap.objs.size + 1 ∨ b = s.heap.objs.size := by simpa using hb
    rcases hb' with rfl | rfl
    · exact ktu_new F (Nat.le_add_right _ _)
    · exact ktu_new F (Nat.le_refl _)
  · intro b hb
    have hb' : b = s.heap.objs.size + 1 ∨ b = s.heap.objs.size ∨ b = l := by simpa using hb
    rcases hb' with rfl | rfl | rfl
    · exact .inl (by simp)
    · exact .inl (by simp)
    · exact .inr ⟨_, List.mem_singleton.mpr rfl⟩
  · rintro i m₁ news₁ ⟨c, rfl, _⟩ p hp
    rw [List.mem_singleton.mp hp]; exact hl c
  · intro p hp hI'
    have hb' : p.1 = s.heap.objs.size + 1 ∨ p.1 = s.heap.objs.size := by simpa using hI'
    have hlp := Heap.lt_size (N p hp).1
    rcases hb' with e | e
    · exact ktu_ne 1 hlp e
    · exact Nat.ne_of_lt hlp e
  · rintro i v m₁ news₁ h tk own hin ⟨T, vals, rfl, ⟨t, x, hx, rfl⟩, hT⟩ hoff ⟨c, rfl, hf', h1, h2, hp'⟩ F₁ N₁
    exact turn c i x T t m₁ h tk own hx hoff hf' hp' hT (en_fr h1 h2 F₁) N₁
  · rintro m₁ news₁ h tk ⟨c, rfl, hf', h1, h2, hp'⟩ F₁ N₁
    exact done c m₁ h tk hf' hp' (en_fr h1 h2 F₁) N₁
end
end Mine
end
section
open PySem PySem.W PySem.Calls PyProof.Rows PyProof.Rows.LCg
set_option maxRecDepth 100000
set_option maxHeartbeats 8000000
namespace Mine
theorem regrouped_use {w : World} {mean : ExcName → Option Value} {mg mb : Str → Option Value} {dp un : Nat} {gd : Option (List Code)} {cn : Str} {cs : Scope} {L a : Addr} {ccd : Value} {outer : List Env} {A₀ : Around} {base h₀ : Heap} {m : Str → Option Value} {news : List (Addr × Obj)} {s : Shared} {Q E : Value → Shared → Prop}
    {l : Addr} {arr : Array Value} {nn : Nat} {ns : List Int} {many : Int} {t1 t2 t3 : Tok}
    (B : Below A₀ base outer h₀) (F : Fr h₀ L s.heap m) (N : News h₀ L s.heap news)
    (X : (hd.heap_39 w.params).In h₀) (T : Top hd.view_39 (looseW hd.view_39 [Str.ofString "b2a_base64", Str.ofString "b64encode"]) mean mg mb h₀)
    (hh : cs.kind = .function) (hdp : dp ≤ 500) (hun : un ≤ 500) (hm : (l, W.listOf arr nn) ∈ news)
    (hi : IntsAre arr.toList ns) (hlen : ns.length ≤ 24) (hns : ∀ v ∈ ns, 0 ≤ v ∧ v < 64) (hm0 : 0 ≤ many) (hm8 : 8 * many ≤ 6 * (ns.length : Int))
    (hret : ∀ D h' tk' ys, Fr h₀ L h' m → News h₀ L h' ((D, lst ys) :: news) → (∀ p ∈ news, p.1 ≠ D) → IntsAre ys (digits 256 many.toNat (valOf 64 ns / 2 ^ (6 * ns.length - 8 * many.toNat))) → Q (.ref D) { s with heap := h', toks := tk' }) :
    wpAny (model Challenge.rw_mj0084_01.row.prog w) (ktrTop dp un gd cn cs L a ccd [] outer) (call (.ref 68) [.ref l, .int 6 t1, .int 8 t2, .int many t3]) Q E s :=
  regrouped (vs := arr.toList) (below_in B F hh) (X.keeps F.keep) (T.keeps F.keep) hdp hun (by simpa using N.isList hm) hi hlen hns hm0 hm8 fun D h' tk' ys G hD hg hy => hret D h' tk' ys (G.fr F) (by
    intro p hp
    rcases List.mem_cons.mp hp with rfl | hp
    · refine ⟨hg, ?_, ?_⟩
      · intro e
        have e : D = L := e
        obtain ⟨o, _, _, hL, _⟩ := F.ns
        rw [e, hL] at hD; cases hD
      · cases q : h₀.get? D with
        | none => rfl
        | some o => rw [F.keep _ _ q] at hD; cases hD
    · exact G.news N p hp) (fun p hp e => by rw [← e, (N p hp).1] at hD; cases hD) hy
def tabOf (sg : Str) (i : Nat) : List (Str × Int) := (sg.cps.toList.take i).zipIdx.map fun p => (⟨#[p.1]⟩, (p.2 : Int))
theorem tabOf_succ {sg : Str} {i cp : Nat} (h : sg.cps[i]? = some cp) : tabOf sg (i + 1) = tabOf sg i ++ [(⟨#[cp]⟩, (i : Int))] := by
  have hl : i < sg.cps.toList.length := by
    have := Array.getElem?_eq_some_iff.mp h; simpa using this.1
  have h' : sg.cps.toList[i]? = some cp := by simpa using h
  unfold tabOf
  rw [List.take_add_one, h', List.zipIdx_append]
  simp at hl ⊢; omega
theorem chr_inj {a b : Nat} (h : (⟨#[a]⟩ : Str) = ⟨#[b]⟩) : a = b := by injection h with h; simpa using h
theorem tabOf_has {sg : Str} {i : Nat} {k : Str} (h : kdpHas (tabOf sg i) k = true) : ∃ j cp, j < i ∧ sg.cps[j]? = some cp ∧ k = ⟨#[cp]⟩ := by
  unfold kdpHas tabOf at h
  rw [List.any_eq_true] at h
  obtain ⟨p, hp, e⟩ := h
  obtain ⟨q, hq, rfl⟩ := List.mem_map.mp hp
  obtain ⟨c, j⟩ := q
  have hq2 := List.mem_zipIdx_iff_getElem?.mp hq
  dsimp only at hq2 e
  rw [List.getElem?_take] at hq2
  split at hq2
  · exact ⟨j, c, by assumption, by simpa using hq2, (of_decide_eq_true e).symm⟩
  · cases hq2
theorem tabOf_put {sg : Str} (hnd : sg.cps.toList.Nodup) {i cp : Nat} (h : sg.cps[i]? = some cp) : kdpPut (tabOf sg i) ⟨#[cp]⟩ (i : Int) = tabOf sg (i + 1) := by
  rw [tabOf_succ h]
  unfold kdpPut
  rw [if_neg]
  intro hc
  obtain ⟨j, cp', hj, hcp, e⟩ := tabOf_has (sg := sg) (i := i) (k := ⟨#[cp]⟩) hc
  have := chr_inj e
  subst this
  have h1 : sg.cps.toList[i]? = some cp := by simpa using h
  have h2 : sg.cps.toList[j]? = some cp := by simpa using hcp
  have := (List.getElem?_inj (by have := List.getElem?_eq_some_iff.mp h1; exact this.1) hnd).mp (h1.trans h2.symm)
  omega
def figsOf (tab : List (Str × Int)) (l : List Int) : List Int := l.filterMap fun c => if kdpHas tab ⟨#[c.toNat]⟩ then some (kdpLook tab ⟨#[c.toNat]⟩ 0) else none
theorem figsOf_snoc (tab : List (Str × Int)) (l : List Int) (c : Int) : figsOf tab (l ++ [c]) = figsOf tab l ++ (if kdpHas tab ⟨#[c.toNat]⟩ then [kdpLook tab ⟨#[c.toNat]⟩ 0] else []) := by
  unfold figsOf
  rw [List.filterMap_append]
  congr 1
  split <;> rename_i h <;> simp [h]
def LenIs (arr : Array Value) (n : Nat) : Prop := arr.size = n ∧ n ≤ 1000
theorem len_led {prog : Program} {w : World} {A : Around} {E : Value → Shared → Prop} {s : Shared} {h₀ : Heap} {L l : Addr} {news : List (Addr × Obj)} {arr : Array Value} {nn n : Nat} {Q : Value → Shared → Prop}
    (N : News h₀ L s.heap news) (hm : (l, W.listOf arr nn) ∈ news) (e : LenIs arr n) (h : Q (.int (n : Int) (s.toks + 1)) { s with toks := s.toks + 1 + 1 }) : wpAny (model prog w) A (call (.builtin "len") [.ref l]) Q E s := by
  obtain ⟨rfl, e⟩ := e
  exact len_list (N.isList hm) (by omega) h
local macro_rules | `(tactic| walk_at "call builtin:len") => `(tactic| (k_here; (with_reducible show wpAny _ _ (call (Value.builtin "len") [Value.ref _]) _ _ _); k_dflt (refine len_led (by k_asm) (by k_mem) (by assumption) ?_)))
local macro_rules | `(tactic| walk_at "call type:enumerate") => `(tactic| ((with_reducible show wpAny _ _ (call (Value.type _) [_]) (fun xv s₁ => wpAny _ _ (pyIter xv) (fun it s₂ => TurnsAt _ _ _ _ _ _ _ _ _ it s₂) _ s₁) _ _); refine Stop.intro ?_))
local macro_rules | `(tactic| walk_at "call ref") => `(tactic| ((with_reducible show wpAny _ _ (call (Value.ref 68) _ _) _ _ _); refine Stop.intro ?_))
local macro_rules | `(tactic| walk_at "exec For Tuple Call cons nil") => `(tactic| (k_here; (rename Fr _ _ _ _ => lF'); (with_unfolding_all refine' For_turns lF' ?_; k_whole)))
theorem lawRead {w : World} {mean : ExcName → Option Value} {mg mb : Str → Option Value} {gd : Option (List Code)} {cn : Str} {cs : Scope} {L₀ a : Addr} {ccd : Value} {cl : List (Str × Addr)} {outer : List Env} {base : Heap} {s : Shared} {Q E : Value → Shared → Prop}
    {x sg : Str} {t1 t2 : Tok}
    (B : Below (ktrTop 302 7 gd cn cs L₀ a ccd cl outer) base (envX cn cs L₀ a ccd cl :: outer) s.heap)
    (X : (hd.heap_39 w.params).In s.heap) (T : Top hd.view_39 (looseW hd.view_39 [Str.ofString "b2a_base64", Str.ofString "b64encode"]) mean mg mb s.heap)
    (hlen : x.length ≤ 100) (hsg : sg.cps.size = 64) (hnd : sg.cps.toList.Nodup) (hall : ∀ c ∈ KStt.codes x, kdpHas (tabOf sg 64) ⟨#[c.toNat]⟩ = true ∨ c = 61) {fs : List Int} (hfs : figsOf (tabOf sg 64) (KStt.codes x) = fs) (hfl : fs.length ≤ 24) (hfb : ∀ v ∈ fs, 0 ≤ v ∧ v < 64)
    (hret : ∀ D h' tk' ys, Grow s.heap h' → s.heap.get? D = none → h'.get? D = some (lst ys) → IntsAre ys (digits 256 (6 * fs.length / 8) (valOf 64 fs / 2 ^ (6 * fs.length - 8 * (6 * fs.length / 8)))) → Q (.ref D) { s with heap := h', toks := tk' }) :
    wpAny (model Challenge.rw_mj0084_01.row.prog w) (ktrTop 302 7 gd cn cs L₀ a ccd cl outer) (call (.ref 75) [.str x t1, .str sg t2]) Q E s := by
  k_with_none
  w_top off
  revert X; k_fill; intro X
  refine wpAny_call ?_
  refine' enterP X T.nolimit ?hroom ?ho ?hcd ?hbind ?hloc ?_ ?c2 ?c3 ?c4 ?c5
  case ho => k_is
  case hcd => k_is
  case hroom => (show 302 < 1000); decide
  case hbind => exact BindsTo.of_eq rfl
  case hloc => exact locs rfl
  case c2 => exact rfl
  case c3 => exact rfl
  case c4 => exact rfl
  case c5 => decide
  intro L' h' hL' F' N'
  try dsimp only
  k_steps
  rename_i d' _ o' _ hs' fs' _ _ _ h1 F1 N1
  refine Stop.of ?_
  refine enumText (σ := Obj × List (Str × Value) × List (Str × Int)) (fun c => [(d', c.1)]) (fun _ => []) (fun c => c.1.IsDictOf (PySem.strKind Challenge.rw_mj0084_01.row.prog w) c.2.1 ∧ PyProof.V.FlatPairs PyData.str c.2.1 (kdpD c.2.2)) [Str.ofString "k", Str.ofString "sign"] (fun i c => c.2.2 = tabOf sg i) (o', [], []) rfl F1 N1 ⟨hs', fs'⟩ (fun _ h => nomatch h) rfl ?_ ?_
  · rintro ⟨o2, kvs, c⟩ i cp T t u' u h tk own hcp hoff ⟨hdo, hfl⟩ hP hT F2 N2
    dsimp only at hdo hfl hP N2 F2
    have hcl : c.length ≤ 64 := by
      rw [hP]; unfold tabOf; simp; omega
    subst hP
    k_steps
    rename_i h9 o9 kvs9 F9 N9 hd9 hf9
    rw [tabOf_put hnd hcp] at hf9
    refine en_end (o9, kvs9, tabOf sg (i + 1)) F9 N9 ?_ ?_ rfl ⟨hd9, hf9⟩ (fun _ h => nomatch h) ?_ rfl
    · intro p hp; exact (List.mem_singleton.mp hp) ▸ .head _
    · intro p hp; exact .tail _ hp
    · intro z _ hz
      simp at hz
      simp [hz, kstB]
  · rintro ⟨o2, kvs, c⟩ u h tk ⟨hdo, hfl⟩ hP F2 N2
    dsimp only at hdo hfl hP N2 F2
    rw [hsg] at hP
    subst hP
    k_with "pyIter str" => (fail "stop")
    k_steps
    rename_i l' _ _ _ _ h3 F3 N3
    refine KStt.kst_text (σ := List Value × List Int × Nat) (fun c => [(l', W.listOf c.1.toArray c.2.2), (d', o2)]) (fun _ => []) (fun c => IntsAre c.1 c.2.1) [] (fun pre c => c.2.1 = figsOf (tabOf sg 64) pre ∧ c.1.length ≤ pre.length) ([], [], 0) rfl F3 N3 .nil (fun _ h => nomatch h) ⟨rfl, Nat.le_refl _⟩ ?_ ?_
    · rintro ⟨vs, ns, nn⟩ pre post n t u3 h tk own hpp hoff hS ⟨hP, hl1⟩ F4 N4
      dsimp only at hS hP hl1 F4 N4
      have hlen2 : pre.length < 100 := by have := congrArg List.length hpp; rw [KStt.codes_length] at this; simp at this; omega
      have hn := hall n (by rw [hpp]; simp)
      have e0 : (n : Int).toNat = n := Int.toNat_natCast n
      rw [e0] at hn
      k_steps
      · rename_i hk _ t9 h9 F9 N9
        refine kst_end (vs ++ [.int (kdpLook (tabOf sg 64) ⟨#[n]⟩ 0) t9], ns ++ [kdpLook (tabOf sg 64) ⟨#[n]⟩ 0], nn + 1) F9 N9 ?_ ?_ rfl ?_ (fun _ h => nomatch h) ?_ ⟨?_, ?_⟩
        · intro p hp; simp at hp; rcases hp with rfl | rfl
          · simp
          · simp
        · intro p hp; exact .tail _ (.tail _ hp)
        · exact hS.append (.cons _ _ .nil)
        · intro z hz _ _; simp [hz, kstB]
        · rw [figsOf_snoc, hP, e0, hk]; rfl
        · simp; omega
      · rename_i hk _ hne
        rcases hn with hn | hn
        · rw [hn] at hk; cases hk
        · have : n = 61 := by omega
          subst this
          exact absurd hne (by decide +kernel)
      · rename_i hk _ hne
        refine kst_end (vs, ns, nn) F4 N4 ?_ ?_ rfl hS (fun _ h => nomatch h) ?_ ⟨?_, ?_⟩
        · intro p hp; simp at hp; rcases hp with rfl | rfl <;> simp
        · intro p hp; exact .tail _ (.tail _ hp)
        · intro z hz _ _; simp [hz, kstB]
        · rw [figsOf_snoc, hP, e0, hk]; simp
        · simp; omega
    · rintro ⟨vs, ns, nn⟩ u3 h tk hS ⟨hP, hl1⟩ F4 N4
      dsimp only at hS hP hl1 F4 N4
      rw [KStt.codes_length] at hl1
      rw [hfs] at hP
      subst hP
      have hLn : LenIs vs.toArray ns.length := ⟨by simp [hS.length], by omega⟩
      k_steps
      refine Stop.of ?_
      have e6 : ((6 * (ns.length : Int)).fdiv 8) = ((6 * ns.length / 8 : Nat) : Int) := by
        rw [Int.fdiv_eq_ediv_of_nonneg _ (by decide)]; omega
      rw [e6]
      refine regrouped_use (ns := ns) (by assumption) (by assumption) (by assumption) X T rfl (by (show 303 ≤ 500); decide) (by (show 10 ≤ 500); decide) (.head _) (by simpa using hS) hfl hfb (by omega) (by omega) ?_
      intro D h9 tk9 ys F9 N9 _ hy
      rw [Int.toNat_natCast] at hy
      exact hret D h9 _ ys F9.keep (N9.fresh (.head _)) (N9.get (.head _)) hy
end Mine
end
section
local macro_rules | `(tactic| walk_at "mine none") => `(tactic| fail "none")
local macro_rules | `(tactic| walk_at "mine none") => `(tactic| fail "none")
local macro_rules | `(tactic| walk_at "mine none") => `(tactic| fail "none")
local macro_rules | `(tactic| walk_at "mine none") => `(tactic| fail "none")
local macro_rules | `(tactic| walk_at "mine none") => `(tactic| fail "none")
local macro_rules | `(tactic| walk_at "mine none") => `(tactic| fail "none")
local macro_rules | `(tactic| walk_at "mine none") => `(tactic| fail "none")
local macro_rules | `(tactic| walk_at "mine none") => `(tactic| fail "none")
local macro_rules | `(tactic| walk_at "mine none") => `(tactic| fail "none")
local macro_rules | `(tactic| walk_at "mine none") => `(tactic| fail "none")
local macro_rules | `(tactic| walk_at "mine none") => `(tactic| fail "none")
local macro_rules | `(tactic| walk_at "mine none") => `(tactic| fail "none")
local macro_rules | `(tactic| walk_at "mine none") => `(tactic| fail "none")
local macro_rules | `(tactic| walk_at "mine none") => `(tactic| fail "none")
local macro_rules | `(tactic| walk_at "mine none") => `(tactic| fail "none")
local macro_rules | `(tactic| walk_at "mine none") => `(tactic| fail "none")
local macro_rules | `(tactic| walk_at "mine none") => `(tactic| fail "none")
local macro_rules | `(tactic| walk_at "mine none") => `(tactic| fail "none")
local macro_rules | `(tactic| walk_at "mine none") => `(tactic| fail "none")
local macro_rules | `(tactic| walk_at "mine none") => `(tactic| fail "none")
local macro_rules | `(tactic| walk_at "mine none") => `(tactic| fail "none")
local macro_rules | `(tactic| walk_at "mine none") => `(tactic| fail "none")
local macro_rules | `(tactic| walk_at "mine none") => `(tactic| fail "none")
local macro_rules | `(tactic| walk_at "mine none") => `(tactic| fail "none")
local macro_rules | `(tactic| walk_at "mine none") => `(tactic| fail "none")
local macro_rules | `(tactic| walk_at "mine none") => `(tactic| fail "none")
local macro_rules | `(tactic| walk_at "mine none") => `(tactic| fail "none")
local macro_rules | `(tactic| walk_at "mine none") => `(tactic| fail "none")
local macro_rules | `(tactic| walk_at "mine none") => `(tactic| fail "none")
local macro_rules | `(tactic| walk_at "mine none") => `(tactic| fail "none")
open PySem PySem.W PySem.Calls PyProof.Rows PyProof.Rows.LCg
set_option maxRecDepth 100000
set_option maxHeartbeats 8000000
namespace Mine
theorem unpack_short {prog : Program} {w : World} {A : Around} {E : Value → Shared → Prop} {s : Shared} {env : Env} {h₀ : Heap} {L l : Addr} {m : Str → Option Value} {news : List (Addr × Obj)} {elts : List Expr} {k : Nat} {pos : Pos} {v : Value} {Q : Unit → Shared → Prop}
    (F : Fr h₀ L s.heap m) (N : News h₀ L s.heap news) (hl : s.heap.IsList l #[v]) (hh : A.handled = none) (hn : (assignEach elts env).length = 2) (hstar : (assignEach elts env).findIdx? (·.1) = none)
    (hE : ∀ h₂ h' tk e, Fr h₀ L h₂ m → News h₀ L h₂ news → Heap.NewExc h₂ h' e "ValueError" → E (.ref e) { s with heap := h', toks := tk }) :
    wpAny (model prog w) A (assign (.Tuple elts k pos) env (.ref l)) Q E s := by
  rw [assign_Tuple]
  refine wpAny_bind (wpAny_standAt ?_)
  unfold unpack
  rw [hn, hstar]
  refine wpAny_bind (wpAny_holding ?_)
  have hlt : l ≠ s.heap.objs.size := by obtain ⟨o, ho, _⟩ := hl; exact Nat.ne_of_lt (Heap.lt_size ho)
  unfold unpackItems
  refine wpAny_bind ?_
  unfold notIterableAtAll
  refine wpAny_bind (wpAny_specialOf hl.typeIs slot_list_iter.lookup ?_)
  refine wpAny_pure ?_
  simp only [Bool.false_eq_true, if_false]
  refine wpAny_bind (wpAny_holding (wpAny_pyIter_list hl ?_))
  refine wpAny_bind (wpAny_holding ?_)
  show wpAny _ _ (pyNext (.ref _) >>= _) _ _ _
  refine wpAny_bind (wpAny_pyNext_list_item (i := 0) (items := #[v]) (x := v) (l := l) ⟨_, Heap.get?_push_size _ rfl, rfl, rfl⟩ (hl.push _) rfl fun h₁ hit₁ hs₁ => ?_)
  refine wpAny_bind (wpAny_holding ?_)
  show wpAny _ _ (pyNext (.ref _) >>= _) _ _ _
  have hl₁ : h₁.IsList l #[v] := (hl.push _).extBut hs₁.extBut hlt
  refine wpAny_bind (wpAny_pyNext_list_end hh hit₁ hl₁ rfl fun h₂ he₂ => ?_)
  refine wpAny_pure (wpAny_pure ?_)
  have hk : Heap.ExtBut s.heap.objs.size s.heap h₂ := fun b o hb e => he₂ b o hb (hs₁.extBut b o hb (Heap.get?_push_of_some _ e))
  have F₂ := F.extBut hk (Nat.le_refl _)
  have N₂ := N.extBut hk (Nat.le_refl _)
  rw [if_pos (by simp)]
  refine wpAny_bind (wpAny_rule ?_)
  simp only [List.length_cons, List.length_nil, Nat.zero_add]
  refine wpAny_bind (wpAny_raiseErrorMade plainExc_ValueError hh ?_ (by rw [PyProof.Rows.ofString_length, sizeLine_eq]; decide +kernel))
  intro h' tk e x
  exact hE h₂ h' tk e F₂ N₂ x
theorem setItem_new {prog : Program} {w : World} {A : Around} {E : Value → Shared → Prop} {s : Shared} {h₀ : Heap} {L al ai d : Addr} {m : Str → Option Value} {ol oi o : Obj} {rest : List (Addr × Obj)} {k y : Str} {tk ty : Tok} {its : Array Value} {nn : Nat} {Q : Unit → Shared → Prop}
    (F : Fr h₀ L s.heap m) (N : News h₀ L s.heap ((al, ol) :: (ai, oi) :: (d, o) :: rest)) (hl : ol.data = .seq its nn) (hi : d < ai) (hr : ∀ p ∈ rest, p.1 < d)
    (hs : o.IsDictOf (PySem.strKind prog w) []) (hf : PyProof.V.FlatPairs PyData.str [] [])
    (h : ∀ h' o' kvs, Fr h₀ L h' m → News h₀ L h' ((al, ol) :: (ai, oi) :: (d, o') :: rest) → o'.IsDictOf (PySem.strKind prog w) kvs → PyProof.V.FlatPairs PyData.str kvs [(.str k, .str y)] → Q () { s with heap := h', toks := s.toks + 1 }) :
    wpAny (model prog w) A (setItem (.ref d) (.str k tk) (.str y ty)) Q E s := by
  refine setItem_K PyProof.V.same_str (strKind_is _ _ _ _) (PyProof.V.Flat.str y ty) F N (UpdF.tail ?_ (UpdF.tail ?_ (UpdF.head ?_))) hs hf (fun h' o' F' N' a b => h h' o' _ F' N' a b) (Nat.zero_le _)
  · intro e
    have e : al = d := e
    have h1 := (N (al, ol) (.head _)).1
    have h2 := (N (d, o) (.tail _ (.tail _ (.head _)))).1
    dsimp only at h1 h2
    rw [e, h2] at h1
    obtain ⟨es, ep, _, hd, _⟩ := hs
    rw [Option.some.inj h1, hl] at hd
    cases hd
  · exact Nat.ne_of_gt hi
  · exact fun p hp => Nat.ne_of_lt (hr p hp)
def Stopped : Prop := True
theorem unrEnd_keep {h₀ h' : Heap} {L I al d : Addr} {it ol o : Obj} {rest' : (Str → Option Value) → List (Addr × Obj) → Prop} {s₁ : Shared} {tk : Nat} {m' : Str → Option Value} {rest : List (Addr × Obj)}
    (F : Fr h₀ L h' m') (N : News h₀ L h' ((al, ol) :: (I, it) :: (d, o) :: rest)) (hi : d < I) (hr : ∀ p ∈ rest, p.1 < d) (r : rest' m' ((d, o) :: rest)) : UnrEnd h₀ L s₁ I it rest' { s₁ with heap := h', toks := tk } :=
  UnrEnd.intro F N ((d, o) :: rest) (fun p hp => .tail _ hp) (fun p hp => by
    rcases List.mem_cons.mp hp with rfl | hp
    · exact Nat.ne_of_lt hi
    · exact Nat.ne_of_lt (Nat.lt_trans (hr p hp) hi)) r
local macro_rules | `(tactic| walk_at "UnrEnd") => `(tactic| (refine Stop.intro ?_))
local macro_rules | `(tactic| walk_at "assign Tuple") => `(tactic| ((with_reducible show wpAny _ _ (assign (Expr.Tuple _ _ _) _ (Value.ref _)) _ _ _); (fail_if_success (rename Stopped => hst)); refine Stop.intro ?_))
theorem lawPairs {w : World} {mean : ExcName → Option Value} {mg mb : Str → Option Value} {gd : Option (List Code)} {cn : Str} {cs : Scope} {L₀ a : Addr} {ccd : Value} {cl : List (Str × Addr)} {outer : List Env} {base : Heap} {s : Shared} {Q E : Value → Shared → Prop}
    {x : Str} {t1 : Tok}
    (B : Below (ktrTop 302 7 gd cn cs L₀ a ccd cl outer) base (envX cn cs L₀ a ccd cl :: outer) s.heap)
    (X : (hd.heap_39 w.params).In s.heap) (T : Top hd.view_39 (looseW hd.view_39 [Str.ofString "b2a_base64", Str.ofString "b64encode"]) mean mg mb s.heap)
    (XB : (hd.heap_39 w.params).In base) (TB : Top hd.view_39 (looseW hd.view_39 [Str.ofString "b2a_base64", Str.ofString "b64encode"]) mean mg mb base)
    (D : KtsDicts ((envX cn cs L₀ a ccd cl :: outer).filterMap (·.frame)) s.heap)
    (hlen : x.length ≤ 100)
    (hsp : Txt.splitMax x (Str.ofString "=") 1 = [x] ∨ (∃ stem, Txt.splitMax x (Str.ofString "=") 1 = [stem, Str.ofString "="]) ∨ (∃ stem, Txt.splitMax x (Str.ofString "=") 1 = [stem, Str.ofString ""]))
    (hret0 : Txt.splitMax x (Str.ofString "=") 1 = [x] → ∀ g' h' tk' t, KtsTurn ((envX cn cs L₀ a ccd cl :: outer).filterMap (·.frame)) s.heap g' → Grow g' h' → Q (.str (Str.ofString "no sign between") t) { s with heap := h', toks := tk' })
    (hret2 : ∀ stem, Txt.splitMax x (Str.ofString "=") 1 = [stem, Str.ofString ""] → ∀ g' h' tk' t, KtsTurn ((envX cn cs L₀ a ccd cl :: outer).filterMap (·.frame)) s.heap g' → Grow g' h' → Q (.str (Str.ofString "nothing behind it") t) { s with heap := h', toks := tk' })
    (hret1 : ∀ stem, Txt.splitMax x (Str.ofString "=") 1 = [stem, Str.ofString "="] → ∀ D o kvs h' tk', Grow s.heap h' → s.heap.get? D = none → h'.get? D = some o → (D == sysModules) = false → o.IsDictOf (PySem.strKind Challenge.rw_mj0084_01.row.prog w) kvs → PyProof.V.FlatPairs PyData.str kvs [(.str stem, .str (Str.ofString "="))] → Q (.ref D) { s with heap := h', toks := tk' }) :
    wpAny (model Challenge.rw_mj0084_01.row.prog w) (ktrTop 302 7 gd cn cs L₀ a ccd cl outer) (call (.ref 82) [.str x t1]) Q E s := by
  k_with_none
  w_top off
  revert X; k_fill; intro X
  refine wpAny_call ?_
  refine' enterP X T.nolimit ?hroom ?ho ?hcd ?hbind ?hloc ?_ ?c2 ?c3 ?c4 ?c5
  case ho => k_is
  case hcd => k_is
  case hroom => (show 302 < 1000); decide
  case hbind => exact BindsTo.of_eq rfl
  case hloc => exact locs rfl
  case c2 => exact rfl
  case c3 => exact rfl
  case c4 => exact rfl
  case c5 => decide
  intro L' h' hL' F' N'
  try dsimp only
  k_steps
  refine Stop.of ?_
  have hSt : Stopped := trivial
  rename_i l hh1 _ e1 _ _ hL F1 N1
  rcases hsp with e | ⟨stem, e⟩ | ⟨stem, e⟩
  · rw [e] at e1
    obtain ⟨⟨x1, ta⟩, rfl, rfl⟩ := List.map_eq_singleton_iff.mp e1
    simp only [strValues, List.map_cons, List.map_nil] at hL N1
    refine unpack_short F1 N1 hL rfl rfl rfl ?_
    intro h2 h9 tk9 e9 F2 N2 hn9
    clear hL F1 N1
    k_steps
    dsimp only
    rename KtsTurn _ _ _ => hT9
    rename Fr _ _ _ _ => hF9
    exact hret0 e _ _ _ _ hT9 hF9.keep
  · rw [e] at e1
    obtain ⟨⟨x1, ta⟩, l, rfl, e4, e5⟩ := List.map_eq_cons_iff.mp e1
    obtain ⟨⟨x2, tb⟩, rfl, e6⟩ := List.map_eq_singleton_iff.mp e5
    dsimp only at e4 e6
    subst e4 e6
    simp only [strValues, List.map_cons, List.map_nil] at hL N1
    k_steps
    rename Fr _ _ _ _ => hF9
    rename News _ _ _ _ => hN9
    refine setItem_new hF9 hN9 rfl (And.left (by assumption)) ?_ (by assumption) (by assumption) ?_
    · intro p hp; rw [List.mem_singleton.mp hp]; assumption
    · intro h9 o9 kvs9 F9 N9 hd9 hf9
      k_steps
      refine Stop.of ?_
      refine unrEnd_keep F9 N9 (And.left (by assumption)) (fun p hp => by rw [List.mem_singleton.mp hp]; assumption) ⟨.tail _ (.head _), ?_⟩
      k_steps
      rename News _ _ _ _ => hN8
      rename Fr _ _ _ _ => hF8
      exact hret1 _ e _ _ _ _ _ hF8.keep (hN8.fresh (.head _)) (hN8.get (.head _)) (by assumption) hd9 hf9
  · rw [e] at e1
    obtain ⟨⟨x1, ta⟩, l, rfl, e4, e5⟩ := List.map_eq_cons_iff.mp e1
    obtain ⟨⟨x2, tb⟩, rfl, e6⟩ := List.map_eq_singleton_iff.mp e5
    dsimp only at e4 e6
    subst e4 e6
    simp only [strValues, List.map_cons, List.map_nil] at hL N1
    k_steps
    refine item_str_or rfl (by decide) (fun _ h9 tk9 e9 hn9 => ?_) (fun _ h9 => absurd h9 (by decide))
    k_steps
    dsimp only
    rename KtsTurn _ _ _ => hT9
    rename Fr _ _ _ _ => hF9
    exact hret2 _ e _ _ _ _ hT9 hF9.keep
end Mine
end
section
open PySem PySem.W PySem.Calls PyProof.Rows PyProof.Rows.LCg
set_option maxRecDepth 100000
namespace Mine
section
variable {prog : Program} {w : World} {A : Around} {E : Value → Shared → Prop} {s : Shared} {env : Env} {h₀ : Heap} {target : Expr} {body : List Stmt} {Q : Flow → Shared → Prop}
def TupJ (stored : List Str) (m₀ : Str → Option Value) (news : List (Addr × Obj)) (m : Str → Option Value) (nx : List (Addr × Obj)) : Prop :=
  nx = news ∧ ∀ z, stored.contains z = false → m z = m₀ z
theorem tup_fr {L : Addr} {h : Heap} {stored : List Str} {m₀ m₁ : Str → Option Value} (h2 : ∀ z, stored.contains z = false → m₁ z = m₀ z) (F : Fr h₀ L h m₁) : Fr h₀ L h (fun z => if stored.contains z then m₁ z else m₀ z) := by
  have em : (fun z => if stored.contains z then m₁ z else m₀ z) = m₁ := by
    funext y
    by_cases hs : stored.contains y = true
    · rw [if_pos hs]
    · rw [if_neg hs]; exact (h2 y (by simpa using hs)).symm
  rw [em]; exact F
theorem tup_end {stored : List Str} {m₀ : Str → Option Value} {news : List (Addr × Obj)} {L : Addr} {m' : Str → Option Value} {own news' : List (Addr × Obj)} {s₁ : Shared} {h' : Heap} {tk : Nat}
    (F : Fr h₀ L h' m') (N : News h₀ L h' news') (hn : ∀ p ∈ news ++ own, p ∈ news') (hr : ∀ z, stored.contains z = false → m' z = m₀ z) :
    InvEndN h₀ L (TupJ stored m₀ news) own (news.map (·.1)) s₁ { s₁ with heap := h', toks := tk } :=
  InvEndN.intro F N ⟨rfl, hr⟩ rfl (fun p hp => hn p (List.mem_append.mpr (.inl hp))) (fun p hp => hn p (List.mem_append.mpr (.inr hp)))
theorem tupInv {ax : Addr} {lo : Obj} {vs : List Value} {n : Nat} {m₀ : Str → Option Value} {news : List (Addr × Obj)} (stored : List Str)
    (hh : A.handled = none) (F : Fr h₀ env.locals s.heap m₀) (N : News h₀ env.locals s.heap news) (hm : (ax, lo) ∈ news) (hc : lo.cls = .type "tuple") (hd : lo.data = .seq vs.toArray n)
    (turn : ∀ (i : Nat) (v : Value) (u : Str → Option Value) h tk own, vs[i]? = some v → OwnOff own (news.map (·.1)) → Fr h₀ env.locals h (fun z => if stored.contains z then u z else m₀ z) → News h₀ env.locals h (news ++ own) →
      wpAny (model prog w) A (assign target env v) (fun _ s₂ => wpAny (model prog w) A (execs body env) (InvPostN h₀ env.locals (TupJ stored m₀ news) own (news.map (·.1)) { s with heap := h, toks := tk } Q) E s₂) E { s with heap := h, toks := tk })
    (done : ∀ (u : Str → Option Value) h tk, Fr h₀ env.locals h (fun z => if stored.contains z then u z else m₀ z) → News h₀ env.locals h news → Q .next { s with heap := h, toks := tk }) :
    wpAny (model prog w) A (pyIter (.ref ax)) (fun it s₂ => TurnsAt prog w A h₀ env target body Q E it s₂) E s := by
  have hax := N _ hm
  have hl : s.heap.IsTuple ax vs.toArray := ⟨lo, hax.1, hc, n, hd⟩
  have hlt : ax < s.heap.objs.size := Heap.lt_size hax.1
  have hne : ax ≠ s.heap.objs.size := Nat.ne_of_lt hlt
  have hLs : env.locals < s.heap.objs.size := F.ns.lt
  refine wpAny_pyIter_tuple hl ?_
  refine turns_invN (s := { s with heap := _ }) (keep := [(ax, lo)]) (fun _ => TupJ stored m₀ news) (KTurns.ofWalks (Walks.tuple hh s.heap.objs.size ax hne vs.toArray) fun i v s Q E st q => letGo_tupleiter st.1 q) ?_ ?_ ?_ ?_ ?_ ⟨⟨_, Heap.get?_push_size _ rfl, rfl, rfl⟩, hl.at fun o e => Heap.get?_push_of_some _ e⟩ (F.push _) (fun p hp => ⟨Heap.get?_push_of_some _ (N p hp).1, (N p hp).2⟩) ⟨rfl, fun _ _ => rfl⟩ ?_ ?_
  · intro hI
    rcases List.mem_cons.mp hI with e | hI
    · exact absurd hLs (e ▸ Nat.lt_irrefl _)
    · exact hax.2.1 (List.mem_singleton.mp hI).symm
  · intro b hb
    rw [List.mem_singleton.mp hb]; exact next_is_new F
  · intro b hb
    rcases List.mem_cons.mp hb with e | hb
    · exact .inl (by simp [e])
    · exact .inr ⟨lo, by simp [List.mem_singleton.mp hb]⟩
  · rintro i m₁ news₁ ⟨rfl, _⟩ p hp
    rw [List.mem_singleton.mp hp]; exact hm
  · intro p hp hI
    exact absurd (Heap.lt_size (N p hp).1) ((List.mem_singleton.mp hI) ▸ Nat.lt_irrefl _)
  · rintro i v m₁ news₁ h tk own hin hv hoff ⟨rfl, h2⟩ F₁ N₁
    exact turn i v m₁ h tk own (by simpa using hv) hoff (tup_fr h2 F₁) N₁
  · rintro m₁ news₁ h tk ⟨rfl, h2⟩ F₁ N₁
    exact done m₁ h tk (tup_fr h2 F₁) N₁
end
section
variable {prog : Program} {w : World} {A : Around} {E : Value → Shared → Prop} {s : Shared} {h₀ : Heap} {L : Addr} {m : Str → Option Value} {env : Env}
theorem compIt_text {elt : Expr} {x : Str} {scope : Scope} {cl : List (Str × Addr)} {Q : Value → Shared → Prop} {xt : Str} {tx : Tok} {news : List (Addr × Obj)}
    (ha : xt.cps.all (· < 128) = true) (hh : A.handled = none) (hsz : xt.cps.size ≤ sizeLine) (F : Fr h₀ L s.heap m) (N : News h₀ L s.heap news)
    (h : ∀ g, CompRest prog w A h₀ L m env elt x scope cl { s with heap := g } (fun _ => True) (fun i v => ∃ c u, xt.cps[i]? = some c ∧ v = .str ⟨#[c]⟩ u) (FinE h₀ L m { s with heap := g } Q) xt.cps.size 0 [] news) :
    wpAny (model prog w) A (pyIter (.str xt tx)) (CompIt prog w A h₀ L m env elt x scope cl Q) E s := by
  refine wpAny_pyIter_ascii ha ?_
  have W := Walks.strAscii (prog := prog) (w := w) hh s.heap.objs.size xt tx
  refine ⟨_, _, xt.cps.size, _, _, fun _ => True, news, rfl, W, hsz, fun i h st => let ⟨o, e, _⟩ := st; ⟨o, e⟩, ?_, ⟨_, Heap.get?_push_size _ rfl, rfl, rfl⟩, ?_, F.push _, fun p hp => ⟨Heap.get?_push_of_some _ (N p hp).1, (N p hp).2⟩, Nat.ne_of_lt F.ns.lt, next_is_new F, fun p hp => Nat.ne_of_lt (Heap.lt_size (N p hp).1), trivial, h _⟩
  · intro i h h' o nw st e e' _ _ _
    obtain ⟨o', q, r⟩ := st; rw [e] at q; cases q; exact ⟨o, e', r⟩
  · intro b hb
    rw [List.mem_singleton.mp hb]
    show s.heap.objs.size < (s.heap.push _).objs.size
    rw [Heap.size_push]; exact Nat.lt_succ_self _
end
end Mine
end
section
open PySem PySem.W PySem.Calls PyProof.Rows PyProof.Rows.LCg
set_option maxRecDepth 100000
set_option maxHeartbeats 4000000
namespace Mine
theorem news_new {h₀ h h' : Heap} {L D : Addr} {m : Str → Option Value} {news : List (Addr × Obj)} {o : Obj} (F : Fr h₀ L h m) (N : News h₀ L h news) (G : Grow h h') (hD : h.get? D = none) (hg : h'.get? D = some o) : News h₀ L h' ((D, o) :: news) := by
  intro p hp
  rcases List.mem_cons.mp hp with rfl | hp
  · refine ⟨hg, ?_, ?_⟩
    · intro e
      have e : D = L := e
      obtain ⟨o, _, _, hL, _⟩ := F.ns
      rw [e, hL] at hD; cases hD
    · cases q : h₀.get? D with
      | none => rfl
      | some o => rw [F.keep _ _ q] at hD; cases hD
  · exact G.news N p hp
theorem news_off {h₀ h : Heap} {L D : Addr} {news : List (Addr × Obj)} (N : News h₀ L h news) (hD : h.get? D = none) : ∀ p ∈ news, p.1 ≠ D := fun p hp e => by rw [← e, (N p hp).1] at hD; cases hD
section
variable {w : World} {mean : ExcName → Option Value} {mg mb : Str → Option Value} {gd : Option (List Code)} {cn : Str} {cs : Scope} {L a : Addr} {ccd : Value} {A₀ : Around} {base h₀ : Heap} {outer : List Env} {m : Str → Option Value} {news : List (Addr × Obj)} {s : Shared} {Q E : Value → Shared → Prop}
theorem parse_use {x : Str} {t1 : Tok} (B : Below A₀ base outer h₀) (F : Fr h₀ L s.heap m) (N : News h₀ L s.heap news)
    (X : (hd.heap_39 w.params).In h₀) (T : Top hd.view_39 (looseW hd.view_39 [Str.ofString "b2a_base64", Str.ofString "b64encode"]) mean mg mb h₀) (hk : cs.kind = .function)
    (hlen : x.length ≤ 100) (hbs : ∀ c ∈ KStt.codes x, c ≠ 92)
    (hret : ∀ D h' tk' ys, Fr h₀ L h' m → News h₀ L h' ((D, lst ys) :: news) → (∀ p ∈ news, p.1 ≠ D) → StrsAre ys ((pitems (KStt.codes x)).map Txt.strip) → Q (.ref D) { s with heap := h', toks := tk' }) :
    wpAny (model Challenge.rw_mj0084_01.row.prog w) (ktrTop 302 7 gd cn cs L a ccd [] outer) (call (.ref 33) [.str x t1]) Q E s :=
  parseHttp (below_in B F hk) (X.keeps F.keep) (T.keeps F.keep) (by decide) (by decide) hlen hbs fun D h' tk' ys G hD hg hy => hret D h' tk' ys (G.fr F) (news_new F N G hD hg) (news_off N hD) hy
theorem b64enc_use {b : Array UInt8} {t1 t2 : Tok} {i0 i1 : Int} (B : Below A₀ base outer h₀) (F : Fr h₀ L s.heap m) (N : News h₀ L s.heap news)
    (X : (hd.heap_39 w.params).In h₀) (T : Top hd.view_39 (looseW hd.view_39 [Str.ofString "b2a_base64", Str.ofString "b64encode"]) mean mg mb h₀) (hk : cs.kind = .function) (hlen : b.size ≤ 100)
    (hret : ∀ h' tk' t', Fr h₀ L h' m → News h₀ L h' news → Q (.bytes (byteArr ((b64out (KBw.bInts b)).map (trI i0.toNat.toUInt8 i1.toNat.toUInt8))) t') { s with heap := h', toks := tk' }) :
    wpAny (model Challenge.rw_mj0084_01.row.prog w) (ktrTop 302 7 gd cn cs L a ccd [] outer) (call (.ref 63) [.bytes b t1] [(Str.ofString "altchars", .bytes (byteArr [i0, i1]) t2)]) Q E s :=
  b64encode (a0 := i0.toNat.toUInt8) (a1 := i1.toNat.toUInt8) (below_in B F hk) (X.keeps F.keep) (T.keeps F.keep) hk hlen fun h' tk' t' G => hret h' tk' t' (G.fr F) (G.news N)
theorem read_use {x sg : Str} {t1 t2 : Tok} (B : Below A₀ base outer h₀) (F : Fr h₀ L s.heap m) (N : News h₀ L s.heap news)
    (X : (hd.heap_39 w.params).In h₀) (T : Top hd.view_39 (looseW hd.view_39 [Str.ofString "b2a_base64", Str.ofString "b64encode"]) mean mg mb h₀) (hk : cs.kind = .function)
    (hlen : x.length ≤ 100) (hsg : sg.cps.size = 64) (hnd : sg.cps.toList.Nodup) (hall : ∀ c ∈ KStt.codes x, kdpHas (tabOf sg 64) ⟨#[c.toNat]⟩ = true ∨ c = 61) {fs : List Int} (hfs : figsOf (tabOf sg 64) (KStt.codes x) = fs) (hfl : fs.length ≤ 24) (hfb : ∀ v ∈ fs, 0 ≤ v ∧ v < 64)
    (hret : ∀ D h' tk' ys, Fr h₀ L h' m → News h₀ L h' ((D, lst ys) :: news) → (∀ p ∈ news, p.1 ≠ D) → IntsAre ys (digits 256 (6 * fs.length / 8) (valOf 64 fs / 2 ^ (6 * fs.length - 8 * (6 * fs.length / 8)))) → Q (.ref D) { s with heap := h', toks := tk' }) :
    wpAny (model Challenge.rw_mj0084_01.row.prog w) (ktrTop 302 7 gd cn cs L a ccd [] outer) (call (.ref 75) [.str x t1, .str sg t2]) Q E s :=
  lawRead (below_in B F hk) (X.keeps F.keep) (T.keeps F.keep) hlen hsg hnd hall hfs hfl hfb fun D h' tk' ys G hD hg hy => hret D h' tk' ys (G.fr F) (news_new F N G hD hg) (news_off N hD) hy
theorem turned {h h' g' : Heap} (F : Fr h₀ L h m) (N : News h₀ L h news) (T : KtsTurn [L] h g') (G : Grow g' h') : Fr h₀ L h' m ∧ News h₀ L h' news := by
  obtain ⟨oL, es, ep, hL, r⟩ := F.ns
  obtain ⟨sl, hs⟩ := T.up hL
  refine ⟨⟨⟨_, es, ep, G _ _ hs, r⟩, fun b o e => G _ _ (T.other b o (F.keep b o e) fun q => ?_), F.above⟩, fun p hp => ⟨G _ _ (T.other _ _ (N p hp).1 fun q => (N p hp).2.1 (List.mem_singleton.mp q)), (N p hp).2⟩⟩
  rw [List.mem_singleton.mp q, kts_self F] at e; cases e
theorem pairs_use {x : Str} {t1 : Tok} (B : Below A₀ h₀ [] h₀) (F : Fr h₀ L s.heap m) (N : News h₀ L s.heap news)
    (X : (hd.heap_39 w.params).In h₀) (T : Top hd.view_39 (looseW hd.view_39 [Str.ofString "b2a_base64", Str.ofString "b64encode"]) mean mg mb h₀) (hk : cs.kind = .function)
    (hlen : x.length ≤ 100)
    (hsp : Txt.splitMax x (Str.ofString "=") 1 = [x] ∨ (∃ stem, Txt.splitMax x (Str.ofString "=") 1 = [stem, Str.ofString "="]) ∨ (∃ stem, Txt.splitMax x (Str.ofString "=") 1 = [stem, Str.ofString ""]))
    (hret0 : Txt.splitMax x (Str.ofString "=") 1 = [x] → ∀ h' tk' t, Fr h₀ L h' m → News h₀ L h' news → Q (.str (Str.ofString "no sign between") t) { s with heap := h', toks := tk' })
    (hret2 : ∀ stem, Txt.splitMax x (Str.ofString "=") 1 = [stem, Str.ofString ""] → ∀ h' tk' t, Fr h₀ L h' m → News h₀ L h' news → Q (.str (Str.ofString "nothing behind it") t) { s with heap := h', toks := tk' })
    (hret1 : ∀ stem, Txt.splitMax x (Str.ofString "=") 1 = [stem, Str.ofString "="] → ∀ D o kvs h' tk', Fr h₀ L h' m → News h₀ L h' ((D, o) :: news) → (∀ p ∈ news, p.1 ≠ D) → (D == sysModules) = false → o.IsDictOf (PySem.strKind Challenge.rw_mj0084_01.row.prog w) kvs → PyProof.V.FlatPairs PyData.str kvs [(.str stem, .str (Str.ofString "="))] → Q (.ref D) { s with heap := h', toks := tk' }) :
    wpAny (model Challenge.rw_mj0084_01.row.prog w) (ktrTop 302 7 gd cn cs L a ccd [] []) (call (.ref 82) [.str x t1]) Q E s :=
  lawPairs (below_in B F hk) (X.keeps F.keep) (T.keeps F.keep) X T (by
      intro b hb
      have hb' : b = L := by simpa using hb
      obtain ⟨oL, es, ep, hL, hd, _⟩ := F.ns
      exact ⟨oL, es, ep, hb' ▸ hL, hd⟩) hlen hsp
    (fun e g' h' tk' t T' G => let R := turned F N T' G; hret0 e h' tk' t R.1 R.2)
    (fun stem e g' h' tk' t T' G => let R := turned F N T' G; hret2 stem e h' tk' t R.1 R.2)
    fun stem e D o kvs h' tk' G hD hg lo hd hf => hret1 stem e D o kvs h' tk' (G.fr F) (news_new F N G hD hg) (news_off N hD) lo hd hf
end
end Mine
end
section
open PySem PySem.W PySem.Calls PyProof.Rows PyProof.Rows.LCg
set_option maxRecDepth 100000
namespace Mine
def figs (row : List Int) : List Int := digits 64 ((8 * row.length + 5) / 6) (valOf 256 row * 2 ^ (6 * ((8 * row.length + 5) / 6) - 8 * row.length))
def sgn (c0 c1 : Nat) (f : Int) : Int := if f = 62 then c0 else if f = 63 then c1 else b64c f
def wlOf (c0 c1 : Nat) (row : List Int) : List Int := (figs row).map (sgn c0 c1) ++ List.replicate ((3 - row.length % 3) % 3) 61
def GoodC (c0 c1 : Nat) : Prop := (c0 = 44 ∧ c1 = 34) ∨ (c0 = 34 ∧ c1 = 44)
/-- a sign that parse_http_list leaves alone: no blank, no backslash -/
def Sign (c : Int) : Prop := 0 ≤ c ∧ c < 128 ∧ c ≠ 92 ∧ 33 ≤ c
abbrev alph : Str := Str.ofString "ABCDEFGHIJKLMNOPQRSTUVWXYZabcdefghijklmnopqrstuvwxyz0123456789"
theorem figs_len (row : List Int) : (figs row).length = (8 * row.length + 5) / 6 := digits_length _ _ _
theorem figs_in (row : List Int) : ∀ v ∈ figs row, 0 ≤ v ∧ v < 64 := fun _ hv => digits_mem (by omega) hv
theorem sgn_tr {c0 c1 : Nat} (hc : GoodC c0 c1) {f : Int} (h0 : 0 ≤ f) (h1 : f < 64) : trI (c0 : Int).toNat.toUInt8 (c1 : Int).toNat.toUInt8 (b64c f) = sgn c0 c1 f := by
  obtain ⟨n, rfl⟩ := Int.eq_ofNat_of_zero_le h0
  have hn : n < 64 := by omega
  rcases hc with ⟨rfl, rfl⟩ | ⟨rfl, rfl⟩ <;> clear h0 h1 <;> revert n <;> decide +kernel
theorem wl_eq {c0 c1 : Nat} (hc : GoodC c0 c1) (row : List Int) : List.map (trI (c0 : Int).toNat.toUInt8 (c1 : Int).toNat.toUInt8) (b64out row) = wlOf c0 c1 row := by
  unfold b64out wlOf
  rw [List.map_append, List.map_map, List.map_replicate]
  congr 1
  apply List.map_congr_left
  intro f hf
  have := digits_mem (by omega) hf
  exact sgn_tr hc this.1 this.2
theorem wl_length (c0 c1 : Nat) (row : List Int) : (wlOf c0 c1 row).length = (row.length + 2) / 3 * 4 := by
  unfold wlOf figs
  rw [List.length_append, List.length_map, digits_length, List.length_replicate]; omega
theorem sgn_sign {c0 c1 : Nat} (hc : GoodC c0 c1) {f : Int} (h0 : 0 ≤ f) (h1 : f < 64) : Sign (sgn c0 c1 f) := by
  obtain ⟨n, rfl⟩ := Int.eq_ofNat_of_zero_le h0
  have hn : n < 64 := by omega
  unfold Sign
  rcases hc with ⟨rfl, rfl⟩ | ⟨rfl, rfl⟩ <;> clear h0 h1 <;> revert n <;> decide +kernel
theorem wl_sign {c0 c1 : Nat} (hc : GoodC c0 c1) (row : List Int) : ∀ c ∈ wlOf c0 c1 row, Sign c := by
  intro c h
  rcases List.mem_append.mp h with h | h
  · obtain ⟨f, hf, rfl⟩ := List.mem_map.mp h
    have := digits_mem (by omega) hf
    exact sgn_sign hc this.1 this.2
  · rw [(List.mem_replicate.mp h).2]; unfold Sign; decide
theorem codes_txt {l : List Int} (h : ∀ c ∈ l, 0 ≤ c) : KStt.codes (KStt.txt l) = l := by
  show ((l.map Int.toNat).toArray.toList.map fun (c : Nat) => (c : Int)) = l
  rw [List.toList_toArray, List.map_map]
  refine (List.map_congr_left (g := _root_.id) fun c hc => ?_).trans (List.map_id _)
  exact Int.toNat_of_nonneg (h c hc)
theorem foldl_chars : ∀ (l : List Int) (acc : Array Nat), (l.map fun c => (⟨#[c.toNat]⟩ : Str)).foldl (fun a p => a ++ (Str.ofString "").cps ++ p.cps) acc = acc ++ (l.map Int.toNat).toArray
  | [], acc => by simp
  | c :: r, acc => by
    rw [List.map_cons, List.foldl_cons, foldl_chars r]
    have e : (Str.ofString "").cps = #[] := by decide +kernel
    rw [e]
    apply Array.toList_inj.mp
    simp
theorem join_chars (l : List Int) : Txt.join (Str.ofString "") (l.map fun c => (⟨#[c.toNat]⟩ : Str)) = KStt.txt l := by
  cases l with
  | nil => rfl
  | cons c r =>
    show (⟨(r.map fun c => (⟨#[c.toNat]⟩ : Str)).foldl (fun a p => a ++ (Str.ofString "").cps ++ p.cps) #[c.toNat]⟩ : Str) = _
    rw [foldl_chars]
    refine Str.ext' (Array.toList_inj.mp ?_)
    show _ = (List.map Int.toNat (c :: r)).toArray.toList
    simp
theorem sgText_size {lt : Str} (h : lt.cps.size = 2) : (alph ++ lt).cps.size = 64 := by
  rw [Str.cps_append, Array.size_append, h]
  have : alph.cps.size = 62 := by decide +kernel
  omega
theorem sg_nodup {c0 c1 : Nat} (hc : GoodC c0 c1) : (alph ++ (⟨#[c0, c1]⟩ : Str)).cps.toList.Nodup := by
  rcases hc with ⟨rfl, rfl⟩ | ⟨rfl, rfl⟩ <;> decide +kernel
theorem sgn_read {c0 c1 : Nat} (hc : GoodC c0 c1) {f : Int} (h0 : 0 ≤ f) (h1 : f < 64) : kdpHas (tabOf (alph ++ ⟨#[c0, c1]⟩) 64) ⟨#[(sgn c0 c1 f).toNat]⟩ = true ∧ kdpLook (tabOf (alph ++ ⟨#[c0, c1]⟩) 64) ⟨#[(sgn c0 c1 f).toNat]⟩ 0 = f := by
  obtain ⟨n, rfl⟩ := Int.eq_ofNat_of_zero_le h0
  have hn : n < 64 := by omega
  rcases hc with ⟨rfl, rfl⟩ | ⟨rfl, rfl⟩ <;> clear h0 h1 <;> revert n <;> decide +kernel
theorem eq_not {c0 c1 : Nat} (hc : GoodC c0 c1) : kdpHas (tabOf (alph ++ ⟨#[c0, c1]⟩) 64) ⟨#[(61 : Int).toNat]⟩ = false := by
  rcases hc with ⟨rfl, rfl⟩ | ⟨rfl, rfl⟩ <;> decide +kernel
theorem wl_has {c0 c1 : Nat} (hc : GoodC c0 c1) (row : List Int) : ∀ c ∈ wlOf c0 c1 row, kdpHas (tabOf (alph ++ ⟨#[c0, c1]⟩) 64) ⟨#[c.toNat]⟩ = true ∨ c = 61 := by
  intro c h
  rcases List.mem_append.mp h with h | h
  · obtain ⟨f, hf, rfl⟩ := List.mem_map.mp h
    have := digits_mem (by omega) hf
    exact .inl (sgn_read hc this.1 this.2).1
  · exact .inr (List.mem_replicate.mp h).2
theorem figsOf_map {c0 c1 : Nat} (hc : GoodC c0 c1) : ∀ (l : List Int), (∀ v ∈ l, 0 ≤ v ∧ v < 64) → figsOf (tabOf (alph ++ ⟨#[c0, c1]⟩) 64) (l.map (sgn c0 c1)) = l
  | [], _ => rfl
  | f :: r, h => by
    have hf := h f (.head _)
    have := sgn_read hc hf.1 hf.2
    have ih := figsOf_map hc r fun v hv => h v (.tail _ hv)
    unfold figsOf at ih ⊢
    rw [List.map_cons, List.filterMap_cons]
    simp only [this.1, this.2, if_true]
    rw [ih]
theorem figsOf_eqs {c0 c1 : Nat} (hc : GoodC c0 c1) (n : Nat) : figsOf (tabOf (alph ++ ⟨#[c0, c1]⟩) 64) (List.replicate n 61) = [] := by
  unfold figsOf
  rw [List.filterMap_replicate_of_none]
  rw [eq_not hc]; rfl
theorem wl_read {c0 c1 : Nat} (hc : GoodC c0 c1) (row : List Int) : figsOf (tabOf (alph ++ ⟨#[c0, c1]⟩) 64) (wlOf c0 c1 row) = figs row := by
  have e : ∀ a b, figsOf (tabOf (alph ++ ⟨#[c0, c1]⟩) 64) (a ++ b) = figsOf (tabOf (alph ++ ⟨#[c0, c1]⟩) 64) a ++ figsOf (tabOf (alph ++ ⟨#[c0, c1]⟩) 64) b := fun a b => List.filterMap_append
  unfold wlOf
  rw [e, figsOf_map hc _ (figs_in row), figsOf_eqs hc, List.append_nil]
theorem figs_back {row : List Int} (h : ∀ v ∈ row, 0 ≤ v ∧ v < 256) : digits 256 (6 * (figs row).length / 8) (valOf 64 (figs row) / 2 ^ (6 * (figs row).length - 8 * (6 * (figs row).length / 8))) = row := by
  rw [figs_len]
  unfold figs
  generalize hq : (8 * row.length + 5) / 6 = q
  have e1 : 6 * q / 8 = row.length := by omega
  rw [e1, valOf_digits (by omega)]
  have hb := valOf_bound (b := 256) (by omega) row.length row rfl h
  generalize hk : 6 * q - 8 * row.length = k
  have e2 : (64 : Int) ^ q = 256 ^ row.length * 2 ^ k := by
    have a : (64 : Int) ^ q = 2 ^ (6 * q) := by rw [Int.pow_mul]; rfl
    have b : (256 : Int) ^ row.length = 2 ^ (8 * row.length) := by rw [Int.pow_mul]; rfl
    rw [a, b, ← Int.pow_add]; congr 1; omega
  have hp : (0 : Int) < 2 ^ k := Int.pow_pos (by omega)
  rw [Int.emod_eq_of_lt (Int.mul_nonneg hb.1 (Int.le_of_lt hp)) (by rw [e2]; exact Int.mul_lt_mul_of_pos_right hb.2 hp), Int.mul_ediv_cancel _ (by omega)]
  exact digits_valOf (by omega) row.length row rfl h
end Mine
end
section
open PySem PySem.W PySem.Calls PyProof.Rows PyProof.Rows.LCg
open PySem.Builtin PySem.Builtin.Str PySem.StrLaws
set_option maxRecDepth 100000
namespace Mine
theorem occ_stay (s sub : Str) (hi : Nat) : ∀ (l : List Nat) (st : Array Nat × Nat), st.fst.size = 1 → (forIn l st (occBody s sub hi 1)).run.fst = st.fst
  | [], st, _ => rfl
  | a :: l, st, h => by
    rw [List.forIn_cons]
    unfold occBody
    rw [if_neg (by intro hc; have := hc.1.1.1; omega)]
    exact occ_stay s sub hi l _ h
theorem occ_from (x : Str) (c k : Nat) (hk : x.cps.toList[k]? = some c) (hf : ∀ i, i < k → x.cps.toList[i]? ≠ some c) : ∀ m j, j ≤ k → k < j + m →
    (forIn (List.range' j m) ((#[] : Array Nat), 0) (occBody x ⟨#[c]⟩ x.length 1)).run.fst = #[k]
  | 0, j, h1, h2 => by omega
  | m + 1, j, h1, h2 => by
    rw [List.range'_succ, List.forIn_cons]
    unfold occBody
    by_cases e : j = k
    · subst e
      have := (subAt_one x c j).mpr hk
      rw [if_pos ⟨⟨⟨by simp, Nat.zero_le _⟩, this.1⟩, this.2⟩]
      exact occ_stay x ⟨#[c]⟩ x.length _ _ rfl
    · have hn : ¬ (j + (⟨#[c]⟩ : Str).length ≤ x.length ∧ subAt x ⟨#[c]⟩ j = true) := fun h => hf j (by omega) ((subAt_one x c j).mp h)
      rw [if_neg (fun h => hn ⟨h.1.2, h.2⟩)]
      exact occ_from x c k hk hf m (j + 1) (by omega) (by omega)
theorem occ_one (x : Str) (c k : Nat) (hk : x.cps.toList[k]? = some c) (hf : ∀ i, i < k → x.cps.toList[i]? ≠ some c) : occurrences x ⟨#[c]⟩ 0 x.length 1 = [k] := by
  rw [occ_eq]
  have hl : k < x.length := by have := (List.getElem?_eq_some_iff.mp hk).1; simpa [Str.length] using this
  rw [occ_from x c k hk hf (x.length + 1 - 0) 0 (Nat.zero_le _) (by omega)]
theorem eqs_is : Str.ofString "=" = ⟨#[61]⟩ := by decide +kernel
theorem split_none {x : Str} (h : 61 ∉ x.cps.toList) : Txt.splitMax x (Str.ofString "=") 1 = [x] := by
  unfold Txt.splitMax
  split
  · rfl
  · have := found_one x 61
    rw [decide_eq_false h] at this
    have e : limitOf x 1 = 1 := rfl
    rw [e, eqs_is, if_pos (by simpa using this)]
theorem split_first {stem rest : Str} (h : 61 ∉ stem.cps.toList) : Txt.splitMax (stem ++ (⟨#[61]⟩ : Str) ++ rest) (Str.ofString "=") 1 = [stem, rest] := by
  have hc : (stem ++ (⟨#[61]⟩ : Str) ++ rest).cps.toList = stem.cps.toList ++ 61 :: rest.cps.toList := by
    rw [Str.cps_append, Str.cps_append]; simp
  have hlen : (stem ++ (⟨#[61]⟩ : Str) ++ rest).length = stem.length + 1 + rest.length := by
    rw [Str.length_append, Str.length_append]; rfl
  have hs : stem.length = stem.cps.toList.length := by simp [Str.length]
  have ho := occ_one (stem ++ (⟨#[61]⟩ : Str) ++ rest) 61 stem.length (by rw [hc, hs, List.getElem?_append_right (Nat.le_refl _)]; simp) (by
    intro i hi
    rw [hc, List.getElem?_append_left (by omega)]
    intro e
    exact h (List.mem_of_getElem? e))
  unfold Txt.splitMax
  have e : limitOf (stem ++ (⟨#[61]⟩ : Str) ++ rest) 1 = 1 := rfl
  have hk : (decide ((stem ++ (⟨#[61]⟩ : Str) ++ rest).length < (⟨#[61]⟩ : Str).length) || decide (PySem.Builtin.Str.strKind (stem ++ (⟨#[61]⟩ : Str) ++ rest) < PySem.Builtin.Str.strKind (⟨#[61]⟩ : Str))) = false := by
    rw [Bool.or_eq_false_iff, decide_eq_false_iff_not, decide_eq_false_iff_not]
    refine ⟨by rw [hlen]; (show ¬ _ < 1); omega, ?_⟩
    have : PySem.Builtin.Str.strKind (⟨#[61]⟩ : Str) = 1 := by decide +kernel
    rw [this]
    unfold PySem.Builtin.Str.strKind
    split
    · omega
    · split <;> omega
  rw [eqs_is, hk, e, ho]
  simp only [Bool.false_eq_true, if_false, List.isEmpty_cons]
  unfold partsBetween
  simp only [List.map_cons, List.map_nil, List.cons_append, List.nil_append, List.zip_cons_cons, List.zip_nil_left]
  have e1 : strSub (stem ++ (⟨#[61]⟩ : Str) ++ rest) 0 stem.length = stem := by
    refine Str.ext' (Array.toList_inj.mp ?_)
    rw [strSub_toList, hc, hs]; simp
  have e2 : strSub (stem ++ (⟨#[61]⟩ : Str) ++ rest) (stem.length + (⟨#[61]⟩ : Str).length) (stem ++ (⟨#[61]⟩ : Str) ++ rest).length = rest := by
    refine Str.ext' (Array.toList_inj.mp ?_)
    rw [strSub_toList, hc, hlen]
    (show ((stem.cps.toList ++ 61 :: rest.cps.toList).drop (stem.length + 1)).take (stem.length + 1 + rest.length - (stem.length + 1)) = _)
    have ed : (stem.cps.toList ++ 61 :: rest.cps.toList).drop (stem.length + 1) = rest.cps.toList := by
      rw [show stem.cps.toList ++ 61 :: rest.cps.toList = (stem.cps.toList ++ [61]) ++ rest.cps.toList by simp, List.drop_left' (by simp [hs])]
    rw [ed]
    exact List.take_of_length_le (by simp [Str.length])
  rw [e1, e2]
theorem takeWhile_none {goes : Nat → Bool} : ∀ {l : List Nat}, (∀ c ∈ l, goes c = false) → l.takeWhile goes = []
  | [], _ => rfl
  | c :: r, h => by rw [List.takeWhile_cons, h c (.head _)]; rfl
theorem strip_signs {x : Str} (h : ∀ c ∈ x.cps.toList, Unicode.isSpace c = false) : Txt.strip x = x := by
  have hs : stripSame Unicode.isSpace true true x = true := by
    unfold stripSame stripHi stripLo
    simp only [if_true]
    rw [takeWhile_none h]
    simp only [List.length_nil, List.drop_zero, beq_self_eq_true, Bool.true_and]
    rw [takeWhile_none (fun c hc => h c (List.mem_reverse.mp hc))]
    simp
  show (if stripSame Unicode.isSpace true true x = true then x else _) = x
  rw [if_pos hs]
theorem space_small : ∀ c, c < 128 → 33 ≤ c → Unicode.isSpace c = false := by decide +kernel
theorem range_take {a : List Nat} : ∀ {n : Nat}, n ≤ a.length → (List.range n).filterMap (fun i => a[i]?) = a.take n
  | 0, _ => by simp
  | n + 1, h => by
    rw [List.range_succ, List.filterMap_append, range_take (by omega), List.take_add_one]
    have : a[n]? = some a[n] := List.getElem?_eq_getElem (by omega)
    rw [this]; simp [this]
theorem slice_stem' (stem : Str) : Txt.slice (stem ++ Str.ofString "==") none (some (-2)) = stem := by
  have e2 : (Str.ofString "==").length = 2 := by decide +kernel
  have hl : (stem ++ Str.ofString "==").length = stem.length + 2 := by rw [Str.length_append, e2]
  have hi : strSliceIndices none (some (-2)) 1 (stem ++ Str.ofString "==").length = List.range stem.length := by
    rw [hl]
    unfold strSliceIndices sliceRange
    simp only [show (1 : Int) > 0 by decide, if_true, show (-2 : Int) < 0 by decide]
    have e : max 0 (min (-2 + ((stem.length + 2 : Nat) : Int)) ((stem.length + 2 : Nat) : Int)) = (stem.length : Int) := by omega
    rw [e]
    by_cases h0 : (0 : Int) < (stem.length : Int)
    · rw [if_pos h0]
      have e3 : (((stem.length : Int) - 0 + 1 - 1) / 1).toNat = stem.length := by omega
      rw [e3]
      refine (List.map_congr_left (g := _root_.id) fun k _ => ?_).trans (List.map_id _)
      (show ((0 : Int) + 1 * (k : Int)).toNat = k); omega
    · rw [if_neg h0]
      have : stem.length = 0 := by omega
      rw [this]; rfl
  unfold Txt.slice
  rw [hi, List.length_range, hl]
  rw [if_neg (by simp)]
  refine Str.ext' (Array.toList_inj.mp ?_)
  (show (List.filterMap _ (List.range stem.length)) = stem.cps.toList)
  have hc : (stem ++ Str.ofString "==").cps.toList = stem.cps.toList ++ [61, 61] := by
    rw [Str.cps_append, Array.toList_append]; congr 1
  have := range_take (a := (stem ++ Str.ofString "==").cps.toList) (n := stem.length) (by rw [hc]; simp [Str.length])
  simp only [Array.getElem?_toList] at this
  rw [this, hc, List.take_append_of_le_length (by simp [Str.length])]
  exact List.take_of_length_le (by simp [Str.length])
end Mine
end
section
open PySem PySem.W PySem.Calls PyProof.Rows PyProof.Rows.LCg
set_option maxRecDepth 100000
namespace Mine
def qc (l : List Int) : Nat := (l.filter fun c => c == 34).length
theorem qc_snoc (l : List Int) (c : Int) : qc (l ++ [c]) = qc l + (if c = 34 then 1 else 0) := by
  unfold qc
  rw [List.filter_append, List.length_append]
  by_cases h : c = 34
  · subst h; rfl
  · rw [if_neg h]; simp [h]
/-- in an item, ahead of each comma, stand an odd number of quotes -/
def GoodItem (x : Str) : Prop := ∀ pre post, KStt.codes x = pre ++ (44 : Int) :: post → qc pre % 2 = 1
theorem codes_app (x y : Str) : KStt.codes (x ++ y) = KStt.codes x ++ KStt.codes y := by
  unfold KStt.codes; rw [Str.cps_append, Array.toList_append, List.map_append]
theorem codes_one {c : Int} (h : 0 ≤ c) : KStt.codes ⟨#[c.toNat]⟩ = [c] := by
  show [((c.toNat : Nat) : Int)] = [c]; rw [Int.toNat_of_nonneg h]
theorem codes_none : KStt.codes (Str.ofString "") = [] := by decide +kernel
theorem codes_comma : KStt.codes (Str.ofString ",") = [44] := by decide +kernel
theorem codes_inj {x y : Str} (h : KStt.codes x = KStt.codes y) : x = y := by rw [← KStt.txt_codes x, h, KStt.txt_codes]
theorem good_snoc {p : Str} {c : Int} (h0 : 0 ≤ c) (h : GoodItem p) (h44 : c = 44 → qc (KStt.codes p) % 2 = 1) : GoodItem (p ++ ⟨#[c.toNat]⟩) := by
  intro pre post e
  rw [codes_app, codes_one h0] at e
  rcases List.eq_nil_or_concat post with rfl | ⟨post', d, rfl⟩
  · have e' : KStt.codes p ++ [c] = pre ++ [44] := e
    have := List.append_inj' e' rfl
    rw [← this.1]
    exact h44 (by simpa using this.2)
  · have e' : KStt.codes p ++ [c] = (pre ++ 44 :: post') ++ [d] := by rw [e]; simp
    exact h pre post' (List.append_inj' e' rfl).1
def joinW (ws : List Str) : List Int := (ws.map fun w => KStt.codes w ++ [44]).flatten
theorem joinW_snoc (ws : List Str) (p : Str) : joinW (ws ++ [p]) = joinW ws ++ (KStt.codes p ++ [44]) := by unfold joinW; simp
theorem pfold_inv (l : List Int) (hs : ∀ c ∈ l, 0 ≤ c) :
    l = joinW (pfold l).1 ++ KStt.codes (pfold l).2.1 ∧ (∀ w ∈ (pfold l).1, GoodItem w ∧ qc (KStt.codes w) % 2 = 0) ∧ GoodItem (pfold l).2.1 ∧ ((pfold l).2.2 = true ↔ qc (KStt.codes (pfold l).2.1) % 2 = 1) := by
  induction l using snocInd with
  | h0 =>
    have e : pfold [] = ([], Str.ofString "", false) := rfl
    rw [e]
    refine ⟨by rw [codes_none]; rfl, fun w h => by simp at h, ?_, ?_⟩
    · intro pre post h; rw [codes_none] at h; simp at h
    · rw [codes_none]; simp [qc]
  | h1 l c ih =>
    have hc0 : 0 ≤ c := hs c (by simp)
    obtain ⟨i1, i2, i3, i4⟩ := ih fun d hd => hs d (by simp [hd])
    rw [pfold_snoc]
    generalize pfold l = st at i1 i2 i3 i4 ⊢
    obtain ⟨ws, p, q⟩ := st
    dsimp only at i1 i2 i3 i4
    unfold pstep
    dsimp only
    cases q with
    | true =>
      have hq : qc (KStt.codes p) % 2 = 1 := i4.mp rfl
      rw [if_pos rfl]
      refine ⟨?_, i2, good_snoc hc0 i3 fun _ => hq, ?_⟩
      · dsimp only; rw [codes_app, codes_one hc0, ← List.append_assoc, ← i1]
      · dsimp only; rw [codes_app, codes_one hc0, qc_snoc]
        by_cases h : c = 34
        · subst h; simp; omega
        · rw [if_neg h]; simp [h]; omega
    | false =>
      have hq : ¬ qc (KStt.codes p) % 2 = 1 := fun h => by have := i4.mpr h; cases this
      rw [if_neg (by simp)]
      by_cases h44 : c = 44
      · subst h44
        rw [if_pos rfl]
        refine ⟨?_, ?_, ?_, ?_⟩
        · dsimp only; rw [joinW_snoc, codes_none, List.append_nil, ← List.append_assoc, ← i1]
        · intro w hw
          rcases List.mem_append.mp hw with hw | hw
          · exact i2 w hw
          · rw [List.mem_singleton.mp hw]; exact ⟨i3, by omega⟩
        · intro pre post h; dsimp only at h; rw [codes_none] at h; simp at h
        · dsimp only; rw [codes_none]; simp [qc]
      · rw [if_neg h44]
        refine ⟨?_, i2, good_snoc hc0 i3 fun e => absurd e h44, ?_⟩
        · dsimp only; rw [codes_app, codes_one hc0, ← List.append_assoc, ← i1]
        · dsimp only; rw [codes_app, codes_one hc0, qc_snoc]
          by_cases h : c = 34
          · subst h; simp; omega
          · rw [if_neg h]; simp [h]; omega
theorem len_codes (x : Str) : (KStt.codes x).length = x.length := KStt.codes_length x
theorem joinW_len (ws : List Str) : (joinW ws).length = (ws.map (·.length)).sum + ws.length := by
  induction ws with
  | nil => rfl
  | cons w r ih =>
    have : joinW (w :: r) = (KStt.codes w ++ [44]) ++ joinW r := by unfold joinW; simp
    rw [this, List.length_append, ih, List.length_append, len_codes]
    simp; omega
theorem pitems_ne_nil' {l : List Int} (hs : ∀ c ∈ l, 0 ≤ c) (hl : l ≠ []) : pitems l ≠ [] := by
  have := (pfold_inv l hs).1
  unfold pitems
  split
  · rename_i h
    intro e
    rw [e] at this
    apply hl
    rw [this]
    have : KStt.codes (pfold l).2.1 = [] := List.length_eq_zero_iff.mp (by rw [len_codes]; exact h)
    rw [this]; rfl
  · simp
theorem items_len' {l : List Int} {w : Str} (h : w ∈ pitems l) : w.length ≤ l.length := by
  have := pfold_len l
  unfold pitems at h
  split at h
  · exact this.1 w h
  · rcases List.mem_append.mp h with h | h
    · exact this.1 w h
    · rw [List.mem_singleton.mp h]; exact this.2
theorem items_sum' (l : List Int) (hs : ∀ c ∈ l, 0 ≤ c) : ((pitems l).map (·.length)).sum + (pitems l).length ≤ l.length + 1 := by
  have h := congrArg List.length (pfold_inv l hs).1
  rw [List.length_append, joinW_len, len_codes] at h
  unfold pitems
  split
  · omega
  · simp; omega
theorem join_codes : ∀ (ws : List Str) (p : Str), KStt.codes (Str.join (Str.ofString ",") (ws ++ [p])) = joinW ws ++ KStt.codes p
  | [], p => by show KStt.codes p = _; rfl
  | w :: r, p => by
    have ih := join_codes r p
    have e : Str.join (Str.ofString ",") (w :: (r ++ [p])) = w ++ Str.ofString "," ++ Str.join (Str.ofString ",") (r ++ [p]) := by
      cases r <;> rfl
    have e2 : joinW (w :: r) = (KStt.codes w ++ [44]) ++ joinW r := by unfold joinW; simp
    rw [List.cons_append, e, codes_app, codes_app, codes_comma, ih, e2]
    simp
theorem items_join' {l : List Int} (hl : l ≠ []) (h : ∀ c ∈ l, 0 ≤ c) :
    ((pfold l).2.1.length ≠ 0 ∧ Txt.join (Str.ofString ",") (pitems l) = KStt.txt l) ∨
    ((pfold l).2.1.length = 0 ∧ Txt.join (Str.ofString ",") (pitems l) ++ Str.ofString "," = KStt.txt l) := by
  have hj : ∀ ps, Txt.join (Str.ofString ",") ps = Str.join (Str.ofString ",") ps := fun ps => StrLaws.glued_eq_join _ ps
  have hi := (pfold_inv l h).1
  have hn := pitems_ne_nil' h hl
  by_cases h0 : (pfold l).2.1.length = 0
  · right
    refine ⟨h0, ?_⟩
    have hp : pitems l = (pfold l).1 := by unfold pitems; rw [if_pos h0]
    rw [hp] at hn ⊢
    obtain ⟨ws, p, e⟩ := snoc_of_ne hn
    have hz : KStt.codes (pfold l).2.1 = [] := List.length_eq_zero_iff.mp (by rw [len_codes]; exact h0)
    apply codes_inj
    rw [codes_txt h, hj, e, codes_app, join_codes, codes_comma, List.append_assoc, ← joinW_snoc, ← e]
    rw [hz, List.append_nil] at hi
    exact hi.symm
  · left
    refine ⟨h0, ?_⟩
    have hp : pitems l = (pfold l).1 ++ [(pfold l).2.1] := by unfold pitems; rw [if_neg h0]
    apply codes_inj
    rw [codes_txt h, hj, hp, join_codes]
    exact hi.symm
theorem items_good' {l : List Int} (hs : ∀ c ∈ l, 0 ≤ c) {i : Nat} {w : Str} (h : (pitems l)[i]? = some w) : GoodItem w ∧ (qc (KStt.codes w) % 2 = 1 → i + 1 = (pitems l).length ∧ (pfold l).2.1.length ≠ 0) := by
  obtain ⟨_, i2, i3, _⟩ := pfold_inv l hs
  unfold pitems at h ⊢
  split at h
  · have := i2 w (List.mem_of_getElem? h)
    exact ⟨this.1, fun e => by omega⟩
  · rename_i hp
    rw [if_neg hp]
    by_cases hi : i < (pfold l).1.length
    · rw [List.getElem?_append_left hi] at h
      have := i2 w (List.mem_of_getElem? h)
      exact ⟨this.1, fun e => by omega⟩
    · have hlt := (List.getElem?_eq_some_iff.mp h).1
      rw [List.length_append] at hlt
      have hlt : i < (pfold l).1.length + 1 := hlt
      have : i = (pfold l).1.length := by omega
      subst this
      rw [List.getElem?_append_right (Nat.le_refl _)] at h
      simp at h
      subst h
      exact ⟨i3, fun _ => ⟨by simp, hp⟩⟩
theorem sgn_ne {c0 c1 : Nat} (hc : GoodC c0 c1) {f : Int} (h0 : 0 ≤ f) (h1 : f < 64) : sgn c0 c1 f ≠ 61 := by
  obtain ⟨n, rfl⟩ := Int.eq_ofNat_of_zero_le h0
  have hn : n < 64 := by omega
  rcases hc with ⟨rfl, rfl⟩ | ⟨rfl, rfl⟩ <;> clear h0 h1 <;> revert n <;> decide +kernel
theorem no_eq {x : Str} (h : (61 : Int) ∉ KStt.codes x) : 61 ∉ x.cps.toList := fun e => h (List.mem_map.mpr ⟨61, e, rfl⟩)
theorem pitem_codes {l : List Int} (hs : ∀ c ∈ l, 0 ≤ c) {w : Str} (h : w ∈ pitems l) : ∀ c ∈ KStt.codes w, c ∈ l := by
  have hi := (pfold_inv l hs).1
  have hw : ∀ w ∈ (pfold l).1, ∀ c ∈ KStt.codes w, c ∈ joinW (pfold l).1 := fun w hw c hc => by
    unfold joinW
    exact List.mem_flatten.mpr ⟨_, List.mem_map.mpr ⟨w, hw, rfl⟩, List.mem_append.mpr (.inl hc)⟩
  intro c hc
  rw [hi]
  unfold pitems at h
  split at h
  · exact List.mem_append.mpr (.inl (hw w h c hc))
  · rcases List.mem_append.mp h with h | h
    · exact List.mem_append.mpr (.inl (hw w h c hc))
    · rw [List.mem_singleton.mp h] at hc; exact List.mem_append.mpr (.inr hc)
theorem items_strip' {l : List Int} (h : ∀ c ∈ l, Sign c) : (pitems l).map Txt.strip = pitems l := by
  refine (List.map_congr_left (g := _root_.id) fun w hw => ?_).trans (List.map_id _)
  refine strip_signs fun c hc => ?_
  have := h (c : Int) (pitem_codes (fun c hc => (h c hc).1) hw _ (List.mem_map.mpr ⟨c, hc, rfl⟩))
  exact space_small c (by have := this.2.1; omega) (by have := this.2.2.2; omega)
theorem step_eq (st : List Str × Str × Bool) : pstep st 61 = (st.1, st.2.1 ++ ⟨#[61]⟩, st.2.2) := by
  obtain ⟨ws, p, q⟩ := st
  unfold pstep
  cases q <;> rfl
theorem last_of_p {l : List Int} {w : Str} (hp : (pfold l).2.1.length ≠ 0) (h : (pitems l)[(pitems l).length - 1]? = some w) : w = (pfold l).2.1 := by
  have e : pitems l = (pfold l).1 ++ [(pfold l).2.1] := by unfold pitems; rw [if_neg hp]
  rw [e] at h
  simp at h
  exact h.symm
theorem last_item' {c0 c1 : Nat} (hc : GoodC c0 c1) {row : List Int} {w : Str} (h : (pitems (wlOf c0 c1 row))[(pitems (wlOf c0 c1 row)).length - 1]? = some w) :
    (row.length % 3 = 0 ∧ Txt.splitMax w (Str.ofString "=") 1 = [w]) ∨
    (row.length % 3 = 1 ∧ (pfold (wlOf c0 c1 row)).2.1.length ≠ 0 ∧ ∃ stem, w = stem ++ Str.ofString "==" ∧ Txt.splitMax w (Str.ofString "=") 1 = [stem, Str.ofString "="]) ∨
    (row.length % 3 = 2 ∧ (pfold (wlOf c0 c1 row)).2.1.length ≠ 0 ∧ ∃ stem, w = stem ++ Str.ofString "=" ∧ Txt.splitMax w (Str.ofString "=") 1 = [stem, Str.ofString ""]) := by
  have hsg := wl_sign hc row
  have hbody : ∀ c ∈ (figs row).map (sgn c0 c1), 0 ≤ c ∧ c ≠ 61 := by
    intro c hcm
    obtain ⟨f, hf, rfl⟩ := List.mem_map.mp hcm
    have hb := figs_in row f hf
    exact ⟨(sgn_sign hc hb.1 hb.2).1, sgn_ne hc hb.1 hb.2⟩
  have hpc : (61 : Int) ∉ KStt.codes (pfold ((figs row).map (sgn c0 c1))).2.1 := by
    intro hm
    have hi := (pfold_inv _ fun c hcm => (hbody c hcm).1).1
    have : (61 : Int) ∈ (figs row).map (sgn c0 c1) := by rw [hi]; exact List.mem_append.mpr (.inr hm)
    exact (hbody _ this).2 rfl
  have hcase : row.length % 3 = 0 ∨ row.length % 3 = 1 ∨ row.length % 3 = 2 := by omega
  rcases hcase with hr | hr | hr
  · left
    refine ⟨hr, split_none (no_eq fun hm => ?_)⟩
    have e : wlOf c0 c1 row = (figs row).map (sgn c0 c1) := by unfold wlOf; rw [hr]; simp
    have := pitem_codes (fun c hcm => (hsg c hcm).1) (List.mem_of_getElem? h) _ hm
    rw [e] at this
    exact (hbody _ this).2 rfl
  · right; left
    have e : wlOf c0 c1 row = (figs row).map (sgn c0 c1) ++ [61] ++ [61] := by unfold wlOf; rw [hr]; simp [List.replicate]
    have ep : (pfold (wlOf c0 c1 row)).2.1 = (pfold ((figs row).map (sgn c0 c1))).2.1 ++ ⟨#[61]⟩ ++ ⟨#[61]⟩ := by
      rw [e, pfold_snoc, pfold_snoc, step_eq, step_eq]
    have hp : (pfold (wlOf c0 c1 row)).2.1.length ≠ 0 := by
      rw [ep, Str.length_append]; (show _ + 1 ≠ 0); omega
    have hw := last_of_p hp h
    refine ⟨hr, hp, (pfold ((figs row).map (sgn c0 c1))).2.1, ?_, ?_⟩
    · rw [hw, ep, Str.append_assoc]; congr 1
    · rw [hw, ep, split_first (no_eq hpc), eqs_is]
  · right; right
    have e : wlOf c0 c1 row = (figs row).map (sgn c0 c1) ++ [61] := by unfold wlOf; rw [hr]; simp [List.replicate]
    have ep : (pfold (wlOf c0 c1 row)).2.1 = (pfold ((figs row).map (sgn c0 c1))).2.1 ++ ⟨#[61]⟩ := by
      rw [e, pfold_snoc, step_eq]
    have hp : (pfold (wlOf c0 c1 row)).2.1.length ≠ 0 := by
      rw [ep, Str.length_append]; (show _ + 1 ≠ 0); omega
    have hw := last_of_p hp h
    refine ⟨hr, hp, (pfold ((figs row).map (sgn c0 c1))).2.1, ?_, ?_⟩
    · rw [hw, ep, eqs_is]
    · have e0 : (pfold ((figs row).map (sgn c0 c1))).2.1 ++ (⟨#[61]⟩ : Str) = (pfold ((figs row).map (sgn c0 c1))).2.1 ++ (⟨#[61]⟩ : Str) ++ Str.ofString "" := by
        refine codes_inj ?_
        rw [codes_app _ (Str.ofString ""), codes_none, List.append_nil]
      rw [hw, ep, e0, split_first (no_eq hpc)]
end Mine
end
section
open PySem PySem.W PySem.Calls PyProof.Rows PyProof.Rows.LCg
set_option maxRecDepth 100000
namespace Mine
def CatIs (x y z : Str) : Prop := x ++ y = z ∧ x.length + y.length ≤ 1000
def ModIs (a b r : Int) : Prop := a.fmod b = r ∧ b ≠ 0
def TLen (x : Str) (n : Int) : Prop := (x.length : Int) = n ∧ x.length ≤ 1000
section
variable {prog : Program} {w : World} {A : Around} {E : Value → Shared → Prop} {s : Shared} {Q : Value → Shared → Prop} {t u : Tok}
theorem add_known {x y z : Str} (h : CatIs x y z) (hQ : ∀ t' k, Q (.str z t') { s with toks := k }) : wpAny (model prog w) A (binaryOp .Add (.str x t) (.str y u)) Q E s := by
  obtain ⟨rfl, hl⟩ := h
  exact PyProof.Rows.add_str hQ (by rw [sizeLine_eq]; omega)
theorem mod_known {a b r : Int} (h : ModIs a b r) (hQ : Q (.int r s.toks) { s with toks := s.toks + 1 }) : wpAny (model prog w) A (binaryOp .Mod (.int a t) (.int b u)) Q E s := by
  obtain ⟨rfl, hb⟩ := h
  exact mod_int' hb hQ
theorem tlen_known {x : Str} {n : Int} (h : TLen x n) (hQ : ∀ t' k, Q (.int n t') { s with toks := k }) : wpAny (model prog w) A (call (.builtin "len") [.str x t]) Q E s := by
  obtain ⟨rfl, hb⟩ := h
  exact P.len_str (by omega) (hQ _ _)
end
def LastV (arr : Array Value) (v : Value) : Prop := 0 < arr.size ∧ arr[arr.size - 1]? = some v
theorem last_led {prog : Program} {w : World} {A : Around} {E : Value → Shared → Prop} {s : Shared} {Q : Value → Shared → Prop} {h₀ : Heap} {L l : Addr} {news : List (Addr × Obj)} {arr : Array Value} {nn : Nat} {v : Value} {u : Tok} {value slice : Expr}
    (N : News h₀ L s.heap news) (hm : (l, W.listOf arr nn) ∈ news) (e : LastV arr v) (h : Q v s)
    (hs : subscripted slice false (.ref l) (.int (-1) u) = operate [.ref l, .int (-1) u] (getItem (.ref l) (.int (-1) u)) := by with_unfolding_all rfl) :
    wpAny (model prog w) A (subscriptTail value slice (.ref l) (.int (-1) u)) Q E s := by
  obtain ⟨h1, h2⟩ := e
  have hl := N.isList hm
  refine tail_any hl.typeIs slot_list_getitem.lookup (wpAny_getItem_list_neg hl (by decide) (by omega) (by decide) ?_ h) hs
  rw [show ((-1 : Int) + (arr.size : Int)).toNat = arr.size - 1 by omega]
  exact h2
theorem ne_same_dict {prog : Program} {w : World} {A : Around} {E : Value → Shared → Prop} {s : Shared} {Q : Value → Shared → Prop} {h₀ : Heap} {L a b : Addr} {news : List (Addr × Obj)} {oa ob : Obj} {ka kb : List (Str × Value)} {x : Str}
    (N : News h₀ L s.heap news) (pa : (a, oa) ∈ news) (pb : (b, ob) ∈ news) (la : (a == sysModules) = false) (lb : (b == sysModules) = false) (da : oa.IsDictOf (PySem.strKind prog w) ka) (fa : PyProof.V.FlatPairs PyData.str ka [(.str x, .str (Str.ofString "="))])
    (db : ob.IsDictOf (PySem.strKind prog w) kb) (fb : PyProof.V.FlatPairs PyData.str kb [(.str x, .str (Str.ofString "="))]) (hu : A.units < cLine) (h : Q (.bool false) s) :
    wpAny (model prog w) A (compareOp .NotEq (.ref a) (.ref b)) Q E s := by
  have hl : PySem.Spec.lookup (PyData.str x) [(PyData.str x, PyData.str (Str.ofString "="))] = some (PyData.str (Str.ofString "=")) := by
    simp [PySem.Spec.lookup, PyProof.V.same_str]
  have e : (PyData.eqv (PyData.str (Str.ofString "=")) (PyData.str (Str.ofString "=")) && true) = true := by decide +kernel
  have rows : KeqRows [(PyData.str x, PyData.str (Str.ofString "="))] [(PyData.str x, PyData.str (Str.ofString "="))] true := by
    have := KeqRows.hit (v := PyData.str (Str.ofString "=")) hl (KeqRows.nil (Db := [(PyData.str x, PyData.str (Str.ofString "="))]))
    rw [e] at this; exact this
  exact kne_tabs (r := true) PyProof.V.same_str (TabAt.ofNews N pa la da fa) (TabAt.ofNews N pb lb db fb) rfl hu rows h
end Mine
end
section
open PySem PySem.W PySem.Calls PyProof.Rows PyProof.Rows.LCg
set_option maxRecDepth 100000
set_option maxHeartbeats 8000000
namespace Mine
local macro_rules | `(tactic| walk_at "pyIter ref") => `(tactic| ((with_reducible show wpAny _ _ (pyIter (Value.ref _)) (fun it s₂ => LoopAtV _ _ _ _ _ _ _ _ _ it s₂) _ _); refine Stop.intro ?_))
theorem menu_in (n : Int) : 0 ≤ [62, 63, (n.fdiv 4).fmod 64, (n.fdiv 4).fmod 64].getD (n.fmod 4).toNat 0 ∧ [62, 63, (n.fdiv 4).fmod 64, (n.fdiv 4).fmod 64].getD (n.fmod 4).toNat 0 < 64 := by
  have e1 : (n.fdiv 4).fmod 64 = (n.fdiv 4) % 64 := Int.fmod_eq_emod_of_nonneg _ (by decide)
  have e2 : n.fmod 4 = n % 4 := Int.fmod_eq_emod_of_nonneg _ (by decide)
  rw [e1, e2]
  generalize n.fdiv 4 = q
  have h : n % 4 = 0 ∨ n % 4 = 1 ∨ n % 4 = 2 ∨ n % 4 = 3 := by omega
  rcases h with h | h | h | h <;> rw [h]
  · (show (0 : Int) ≤ 62 ∧ (62 : Int) < 64); decide
  · (show (0 : Int) ≤ 63 ∧ (63 : Int) < 64); decide
  · (show 0 ≤ q % 64 ∧ q % 64 < 64); omega
  · (show 0 ≤ q % 64 ∧ q % 64 < 64); omega
local macro_rules | `(tactic| walk_at "call builtin:len") => `(tactic| (k_here; (with_reducible show wpAny _ _ (call (Value.builtin "len") [Value.ref _]) _ _ _); k_dflt (refine len_led (by k_asm) (by k_mem) (by with_reducible assumption) ?_)))
local macro_rules | `(tactic| walk_at "call ref") => `(tactic| ((with_reducible show wpAny _ _ (call (Value.ref _) _ _) _ _ _); refine Stop.intro ?_))
local macro_rules | `(tactic| walk_at "pyIter ref") => `(tactic| ((with_reducible show wpAny _ _ (pyIter (Value.ref _)) (fun it s₂ => TurnsAt _ _ _ _ _ _ _ _ _ it s₂) _ _); refine Stop.intro ?_))
local macro_rules | `(tactic| walk_at "call type:enumerate") => `(tactic| ((with_reducible show wpAny _ _ (call (Value.type _) [_]) (fun xv s₁ => wpAny _ _ (pyIter xv) (fun it s₂ => TurnsAt _ _ _ _ _ _ _ _ _ it s₂) _ s₁) _ _); refine Stop.intro ?_))
local macro_rules | `(tactic| walk_at "exec For Tuple Call cons nil") => `(tactic| (k_here; (rename Fr _ _ _ _ => lF'); (with_unfolding_all refine' For_turns lF' ?_; k_whole)))
local macro_rules | `(tactic| walk_at "eval ListComp") => `(tactic| (k_here; k_dflt (refine listComp (F₀ := by k_asm) (by with_unfolding_all rfl) (by decide) (by rfl) (by decide) (by rfl) ?_)))
local macro_rules | `(tactic| walk_at "pyIter str") => `(tactic| ((with_reducible show wpAny _ _ (pyIter (Value.str _ _)) (CompIt _ _ _ _ _ _ _ _ _ _ _ _) _ _); refine Stop.intro ?_))
local macro_rules | `(tactic| walk_at "call builtin:str.join") => `(tactic| ((with_reducible show wpAny _ _ (call (Value.builtin "str.join") [Value.str _ _, Value.ref _]) _ _ _); refine Stop.intro ?_))
local macro_rules | `(tactic| walk_at "pyIter bytes") => `(tactic| ((with_reducible show wpAny _ _ (pyIter (Value.bytes _ _)) (CompIt _ _ _ _ _ _ _ _ _ _ _ _) _ _); refine Stop.intro ?_))
theorem ints_two {lt : Str} {c0 c1 : Nat} {ys : List Value} (hlt : lt = ⟨#[c0, c1]⟩) (hyl : ys.length = lt.cps.size) (hy : ∀ (i : Nat) (y : Value), ys[i]? = some y → ∃ (c : Nat) (t : Tok), lt.cps[i]? = some c ∧ y = Value.int (c : Int) t) : IntsAre ys [(c0 : Int), (c1 : Int)] := by
  subst hlt
  match ys, hyl with
  | [a, b], _ =>
    obtain ⟨c, t, e1, rfl⟩ := hy 0 a rfl
    obtain ⟨d, u, e2, rfl⟩ := hy 1 b rfl
    have e1 : some c0 = some c := e1
    have e2 : some c1 = some d := e2
    cases e1; cases e2
    exact .cons _ _ (.cons _ _ .nil)
theorem byteArr_at {wl : List Int} (h : KBa.In wl) {i : Nat} {cb : UInt8} (e : (byteArr wl)[i]? = some cb) : ∃ cc : Int, wl[i]? = some cc ∧ (cb.toNat : Int) = cc := by
  have h1 := KBw.ints_get e
  rw [KBa.ints_make h] at h1
  exact ⟨_, h1, rfl⟩
theorem strsOf_idx : ∀ {wl : List Int} {ys : List Value}, ys.length = wl.length → (∀ (i : Nat) (y : Value), ys[i]? = some y → ∃ (c : Int) (t : Tok), wl[i]? = some c ∧ y = Value.str ⟨#[c.toNat]⟩ t) → StrsAre ys (wl.map fun c => (⟨#[c.toNat]⟩ : Str))
  | [], [], _, _ => .nil
  | c :: wl, y :: ys, hl, h => by
    obtain ⟨d, t, e, rfl⟩ := h 0 y rfl
    have e : some c = some d := e
    cases e
    exact .cons _ _ (strsOf_idx (by simpa using hl) fun i z hz => by simpa using h (i + 1) z (by simpa using hz))
theorem sum_ones (wl : List Int) : ((wl.map fun c => (⟨#[c.toNat]⟩ : Str)).map (·.length)).sum = wl.length := by
  induction wl with
  | nil => rfl
  | cons c r ih =>
    rw [List.map_cons, List.map_cons, List.sum_cons, ih, List.length_cons]
    (show 1 + r.length = _); omega
theorem endQ {h₀ : Heap} {L : Addr} {x : Str} {m₀ m' : Str → Option Value} {led own news' : List (Addr × Obj)} {s₁ : Shared} {h' : Heap} {tk : Nat} {pre : List Int} {q' : Int}
    (F : Fr h₀ L h' m') (N : News h₀ L h' news') (hn : ∀ p ∈ led ++ own, p ∈ news') (hc : ∃ t, m' (Str.ofString "quotes") = some (.int q' t)) (hr : ∀ z, z ≠ x → z ≠ Str.ofString "quotes" → m' z = m₀ z) (hq : q' = (qc pre : Int)) :
    InvEndN h₀ L (KstS (fun _ : Int × Tok => led) (fun c => [(Str.ofString "quotes", .int c.1 c.2)]) (fun _ => True) x [] m₀ (fun pre c => c.1 = (qc pre : Int)) pre) own (led.map (·.1)) s₁ { s₁ with heap := h', toks := tk } := by
  obtain ⟨t, hc⟩ := hc
  refine kst_end (q', t) F N (fun p hp => hn p (List.mem_append.mpr (.inl hp))) (fun p hp => hn p (List.mem_append.mpr (.inr hp))) rfl trivial ?_ ?_ hq
  · intro p hp; simp at hp; subst hp; exact hc
  · intro z hz hps _; exact hr z hz (hps _ (.head _))
theorem odd_of {q : Int} {n : Nat} (hP : q = (n : Int)) (h : q.fmod 2 = 1) : n % 2 = 1 := by
  rw [hP, Int.fmod_eq_emod_of_nonneg _ (by decide)] at h; omega
theorem eq_len : (Str.ofString "=").length = 1 := by decide +kernel
theorem last_of {ys : List Value} {its : List Str} {wz : Str} (hI : StrsAre ys its) (hil : its.length - 1 < its.length) (hz : its[its.length - 1]? = some wz) : ∃ tz, LastV ys.toArray (.str wz tz) := by
  have hl := strs_length hI
  have hy : ys[its.length - 1]? = some (ys[its.length - 1]'(by omega)) := List.getElem?_eq_getElem (by omega)
  obtain ⟨w, t, e1, e2⟩ := strs_at hI hy
  rw [hz] at e1
  cases e1
  refine ⟨t, by simp; omega, ?_⟩
  simp only [List.size_toArray, List.getElem?_toArray, hl]
  rw [hy, e2]
theorem comma_len : (Str.ofString ",").length = 1 := by decide +kernel
theorem empty_len : (Str.ofString "").length = 0 := by decide +kernel
local macro_rules | `(tactic| walk_at "compareOp NotEq ref ref") => `(tactic| ((with_reducible show wpAny _ _ (compareOp CmpOp.NotEq (Value.ref _) (Value.ref _)) _ _ _); refine Stop.intro ?_))
def NoRet : Prop := True
local macro_rules | `(tactic| walk_at "exec Return some") => `(tactic| ((with_reducible rename NoRet => hnr9); refine Stop.intro ?_))
local macro_rules | `(tactic| walk_at "InvEndN") => `(tactic| ((with_reducible rename NoRet => hnr9); refine Stop.intro ?_))
local macro_rules | `(tactic| walk_at "subscriptTail") => `(tactic| ((with_reducible rename LastV _ _ => hlv9); (with_reducible show wpAny _ _ (subscriptTail _ _ (Value.ref _) (Value.int (-1) _)) _ _ _); k_dflt (refine last_led (by k_asm) (by k_mem) hlv9 ?_)))
local macro_rules | `(tactic| walk_at "eval Dict") => `(tactic| ((with_reducible rename NoRet => hnr9); refine Stop.intro ?_))
local macro_rules | `(tactic| walk_at "KdnMade") => `(tactic| ((with_reducible rename NoRet => hnr9); refine Stop.intro ?_))
local macro_rules | `(tactic| walk_at "binaryOp Add str str") => `(tactic| (k_here; k_dflt (refine add_known (by with_reducible assumption) ?_); intro _ _))
local macro_rules | `(tactic| walk_at "binaryOp Mod int int") => `(tactic| (k_here; k_dflt (refine mod_known (by with_reducible assumption) ?_)))
local macro_rules | `(tactic| walk_at "call builtin:len") => `(tactic| (k_here; (with_reducible show wpAny _ _ (call (Value.builtin "len") [Value.str _ _]) _ _ _); k_dflt (refine tlen_known (by with_reducible assumption) ?_); intro _ _))
theorem lawHolds : Challenge.rw_mj0084_01.Holds := by
  k_with_none
  w_top off
  refine hd ?_
  k_go0
  all_goals try k_fold
  k_with "pyIter ref" => (fail "stop")
  k_steps
  rename_i w _ s₁ mg mb _ _ _ _ _ _ _ _ _ X _ _ _ T _ _ _ _ _ _ _ _ _ ns0 _ _ _ _ _ _ _ l0 vs0 _ _ _ _ _ _ _ hcond _ K0 _ _ l' _ _ _ D' ws' h1 F1 N1 hI1 hC1 hL1 l1
  refine Stop.of ?_
  have hb20 : (List.take 20 ns0).length ≤ 20 := by rw [hC1]; omega
  refine kst_listL (σ := List Value × List Int × Nat) (fun c => [(D', W.listOf ws'.toArray 0), (l', W.listOf c.1.toArray c.2.2)]) (fun _ => []) (fun c => IntsAre c.1 c.2.1) [] (fun pre c => c.1.length = 4 + pre.length ∧ ∀ v ∈ c.2.1, 0 ≤ v ∧ v < 64) ([_, _, _, _], [62, 63, 62, 1], 0) rfl (fun _ => .head _) hI1 F1 N1 (.cons _ _ (.cons _ _ (.cons _ _ (.cons _ _ .nil)))) (fun _ h => nomatch h) ⟨rfl, by intro v hv; simp at hv; omega⟩ ?_ ?_
  · rintro ⟨vs, ns, nn⟩ pre post n t u h tk own hpp hmem hoff hS ⟨hlen, hb⟩ F2 N2
    dsimp only at hS hlen hb F2 N2
    have hp20 : pre.length < 20 := by have := congrArg List.length hpp; simp at this; omega
    k_steps
    rename_i l9 h9 F9 N9 l19 t9
    have hl9 := ltN (l19 (l', W.listOf vs.toArray nn) (by simp))
    have hl8 := ltN (l19 (D', W.listOf ws'.toArray 0) (by simp))
    simp only [List.cons_append, List.nil_append] at N9
    have hw := menu_in n
    revert hw
    generalize [62, 63, (n.fdiv 4).fmod 64, (n.fdiv 4).fmod 64].getD (n.fmod 4).toNat 0 = fg
    intro hw
    k_steps
    rename Fr _ _ _ _ => Fq
    rename News _ _ _ _ => Nq
    refine kst_end (vs ++ [.int fg t9], ns ++ [fg], nn + 1) Fq Nq ?_ ?_ rfl ?_ (fun _ h => nomatch h) ?_ ⟨?_, ?_⟩
    · intro p hp; simp at hp; rcases hp with rfl | rfl <;> simp
    · intro p hp; exact .tail _ (.tail _ (.tail _ hp))
    · exact hS.append (.cons _ _ .nil)
    · intro z hz _ _; simp [hz, kstB]
    · simp; omega
    · intro v hv
      rcases List.mem_append.mp hv with hv | hv
      · exact hb v hv
      · rw [List.mem_singleton.mp hv]; exact hw
  · rintro ⟨vs, ns, nn⟩ u h tk hS ⟨hlen, hb⟩ F2 N2
    dsimp only at hS hlen hb F2 N2
    have hnl : ns.length = 4 + (List.take 20 ns0).length := by rw [← hS.length]; exact hlen
    have hLn : LenIs vs.toArray ns.length := ⟨by simp [hS.length], by omega⟩
    k_steps
    refine Stop.of ?_
    have e6 : ((6 * (ns.length : Int)).fdiv 8) = ((6 * ns.length / 8 : Nat) : Int) := by
      rw [Int.fdiv_eq_ediv_of_nonneg _ (by decide)]; omega
    rw [e6]
    refine regrouped_use (ns := ns) K0 (by assumption) (by assumption) X T rfl (by (show 302 ≤ 500); decide) (by (show 7 ≤ 500); decide) (.tail _ (.head _)) (by simpa using hS) (by omega) hb (by omega) (by omega) ?_
    intro Dr h3 tk3 ys F3 N3 hoff3 hy
    rw [Int.toNat_natCast] at hy
    generalize hrow : digits 256 (6 * ns.length / 8) (valOf 64 ns / 2 ^ (6 * ns.length - 8 * (6 * ns.length / 8))) = row at hy
    have hrl : row.length = 6 * ns.length / 8 := by rw [← hrow, digits_length]
    have hrb : ∀ v ∈ row, 0 ≤ v ∧ v < 256 := by rw [← hrow]; exact fun v hv => digits_mem (by omega) hv
    have hr3 : 3 ≤ row.length := by omega
    have hr18 : row.length ≤ 18 := by omega
    clear hrow e6
    k_steps
    refine Stop.of ?_
    rename Fr _ _ _ _ => F4
    rename News _ _ _ _ => N4
    refine tupInv [Str.ofString "last", Str.ofString "sign", Str.ofString "writing", Str.ofString "items", Str.ofString "whole", Str.ofString "cut", Str.ofString "k", Str.ofString "item", Str.ofString "quotes", Str.ofString "stem"] rfl F4 N4 (.head _) rfl rfl ?_ ?_
    · intro i v u4 h4 tk4 own hv hoff4 F5 N5
      have hlast : ∃ (lt : Str) (tl : Tok) (c0 c1 : Nat), v = .str lt tl ∧ lt = ⟨#[c0, c1]⟩ ∧ ((c0 = 44 ∧ c1 = 34) ∨ (c0 = 34 ∧ c1 = 44)) := by
        rcases i with _ | _ | i
        · exact ⟨_, _, 44, 34, (Option.some.inj hv).symm, by decide +kernel, .inl ⟨rfl, rfl⟩⟩
        · exact ⟨_, _, 34, 44, (Option.some.inj hv).symm, by decide +kernel, .inr ⟨rfl, rfl⟩⟩
        · cases hv
      obtain ⟨lt, tl, c0, c1, rfl, hlt, hc⟩ := hlast
      have hlc : lt.cps.size = 2 := by rw [hlt]; rfl
      clear hv
      k_steps
      refine Stop.of ?_
      rename Fr _ _ _ _ => F6
      rename News _ _ _ _ => N6
      refine compIt_text (by rw [hlt]; rcases hc with ⟨rfl, rfl⟩ | ⟨rfl, rfl⟩ <;> decide +kernel) rfl (by rw [hlc, sizeLine_eq]; decide) F6 N6 ?_
      intro g6
      refine compRest_of (fun i y => ∃ c t, lt.cps[i]? = some c ∧ y = .int (c : Int) t) trivial ?_ ?_
      · rintro i v I oI C oC D m₂ ys' h tk E' hi ⟨cp, u, hcp, rfl⟩ hN hx F7 N7
        k_steps
        exact ElemEnd.intro ⟨_, _, hcp, rfl⟩ F7 N7
      · intro ys2 hyl hy D2 h7 tk7 F7 N7 _
        have hI2 : IntsAre ys2 [(c0 : Int), (c1 : Int)] := ints_two hlt hyl hy
        k_steps
        refine Stop.of ?_
        have hrs : (byteArr row).size ≤ 100 := by rw [byteArr_size]; omega
        refine b64enc_use (i0 := (c0 : Int)) (i1 := (c1 : Int)) K0 (by assumption) (by assumption) X T rfl hrs ?_
        intro h8 tk8 t8 F8 N8
        rw [KBa.ints_make hrb]
        clear hy hyl
        rw [wl_eq hc]
        have hwb := wl_sign hc row
        have hwlen := wl_length c0 c1 row
        generalize hwl : wlOf c0 c1 row = wl at F8 N8 hwb hwlen ⊢
        k_steps
        refine Stop.of ?_
        rename Fr _ _ _ _ => F9
        rename News _ _ _ _ => N9
        refine compIt_bytes rfl (by rw [byteArr_size, sizeLine_eq]; omega) F9 N9 ?_
        intro g9
        refine compRest_of (fun i y => ∃ (c : Int) (t : Tok), wl[i]? = some c ∧ y = .str ⟨#[c.toNat]⟩ t) trivial ?_ ?_
        · rintro i v I oI C oC D m₂ ys' h tk E' hi ⟨cb, u, hcb, rfl⟩ hN hx FA NA
          obtain ⟨cc, hcc, hce⟩ := byteArr_at (fun c hc => ⟨(hwb c hc).1, Int.lt_trans (hwb c hc).2.1 (by decide)⟩) hcb
          have hcr := hwb cc (List.mem_of_getElem? hcc)
          have hcr1 := hcr.1
          have hcr2 := hcr.2.1
          rw [hce] at hx
          clear hce hcb
          k_steps
          exact ElemEnd.intro ⟨_, _, hcc, rfl⟩ FA NA
        · intro ys3 hyl3 hy3 D3 hA tkA FA NA _
          have hI3 : StrsAre ys3 (wl.map fun c => (⟨#[c.toNat]⟩ : Str)) := strsOf_idx (by rw [hyl3, byteArr_size]) hy3
          clear hy3
          k_steps
          refine Stop.of ?_
          refine join_list (NA.isList (.head _)) (by simpa using hI3) ?_ ?_
          · rw [sum_ones, empty_len]; omega
          intro tB kB
          rw [join_chars]
          have hcx : KStt.codes (KStt.txt wl) = wl := codes_txt fun c hc => (hwb c hc).1
          have hxl : (KStt.txt wl).length = wl.length := KStt.txt_length wl
          k_steps
          refine Stop.of ?_
          refine parse_use K0 (by assumption) (by assumption) X T rfl (by rw [hxl]; omega) (by rw [hcx]; exact fun c hc => (hwb c hc).2.2.1) ?_
          intro D5 hD tkD ys5 FD ND hoff5 hI5
          rw [hcx, items_strip' hwb] at hI5
          have hwne : wl ≠ [] := by intro e; rw [e] at hwlen; simp at hwlen; omega
          have hj := items_join' hwne (fun c hc => (hwb c hc).1)
          have hgood : ∀ i w, (pitems wl)[i]? = some w → GoodItem w ∧ (qc (KStt.codes w) % 2 = 1 → i + 1 = (pitems wl).length ∧ (pfold wl).2.1.length ≠ 0) := fun i w h => items_good' (fun c hc => (hwb c hc).1) h
          have hlast : ∀ w, (pitems wl)[(pitems wl).length - 1]? = some w → _ := fun w h => last_item' hc (row := row) (w := w) (by rw [hwl]; exact h)
          rw [hwl] at hlast
          have hhas : ∀ c ∈ wl, kdpHas (tabOf (alph ++ lt) 64) ⟨#[c.toNat]⟩ = true ∨ c = 61 := by rw [← hwl, hlt]; exact wl_has hc row
          have hread : figsOf (tabOf (alph ++ lt) 64) wl = figs row := by rw [← hwl, hlt]; exact wl_read hc row
          have hine := pitems_ne_nil' (fun c hc => (hwb c hc).1) hwne
          have hisum := items_sum' wl (fun c hc => (hwb c hc).1)
          have hilen : ∀ w ∈ pitems wl, w.length ≤ wl.length := fun w h => items_len' h
          generalize pitems wl = its at hI5 hj hgood hlast hine hisum hilen
          generalize (pfold wl).2.1.length = pl at hj hgood hlast
          have hsgn : (alph ++ lt).cps.size = 64 := sgText_size hlc
          have hsgd : (alph ++ lt).cps.toList.Nodup := by rw [hlt]; exact sg_nodup hc
          have hcat : CatIs alph lt (alph ++ lt) := ⟨rfl, by rw [← Str.length_append]; (show (alph ++ lt).cps.size ≤ 1000); omega⟩
          have hxw : TLen (KStt.txt wl) (((row.length : Int) + 2).fdiv 3 * 4) := ⟨by rw [hxl, hwlen, Int.fdiv_eq_ediv_of_nonneg _ (by decide)]; omega, by omega⟩
          generalize alph ++ lt = sg at hcat hsgn hsgd hhas hread
          generalize KStt.txt wl = xw at hxl hcx hj hxw FD ND ⊢
          have hL5 : LenIs ys5.toArray its.length := ⟨by simp [strs_length hI5], by omega⟩
          have hLr : LenIs ys.toArray row.length := ⟨by simp [hy.length], by omega⟩
          k_steps
          refine Stop.of ?_
          refine join_list (News.isList (by assumption) (.head _)) (by simpa using hI5) (by rw [comma_len]; omega) ?_
          intro tE kE
          rcases hj with ⟨hj1, hj⟩ | ⟨hj1, hj⟩
          · rw [hj]
            have hm4 : ModIs (((row.length : Int) + 2).fdiv 3 * 4) 4 0 := ⟨by rw [Int.fmod_eq_emod_of_nonneg _ (by decide)]; omega, by decide⟩
            k_steps
            refine Stop.of ?_
            refine read_use (fs := figs row) K0 (by assumption) (by assumption) X T rfl (by rw [hxl]; omega) hsgn hsgd (by rw [hcx]; exact hhas) (by rw [hcx]; exact hread) (by rw [figs_len]; omega) (figs_in row) ?_
            intro D6 h6 tk6 ys6 F6 N6 hoff6 hI6
            rw [figs_back hrb] at hI6
            k_steps
            refine Stop.of ?_
            refine ne_intsK (News.isList N6 (.head _)) hI6 (News.isList N6 (n := ys.length) (.tail _ (.tail _ (.tail _ (.tail _ (.tail _ (.head _))))))) hy (by units_room) ?_
            rw [show (!decide (row = row)) = false by simp]
            k_steps
            refine Stop.of ?_
            rename Fr _ _ _ _ => FE
            rename News _ _ _ _ => NE
            refine enumList (σ := Unit) (l := D5) (its := ys5.toArray) (nn := ys5.length) (fun _ => _) (fun _ => []) (fun _ => True) [Str.ofString "k", Str.ofString "item", Str.ofString "quotes", Str.ofString "sign"] (fun _ _ => True) () rfl FE NE (fun _ => .tail _ (.head _)) trivial (fun _ h => nomatch h) trivial ?_ ?_
            · intro _ i v T t uE hE tkE2 ownE hv hoffE _ _ hT FE2 NE2
              obtain ⟨w9, t9, hw9, rfl⟩ := strs_at hI5 (by simpa using hv)
              obtain ⟨hg9, hp9⟩ := hgood i w9 hw9
              have hwl9 := hilen w9 (List.mem_of_getElem? hw9)
              have hi9 : i < its.length := (List.getElem?_eq_some_iff.mp hw9).1
              try clear hread
              try clear hhas
              try clear hlast
              try clear hgood
              try clear hine
              try clear hisum
              try clear hilen
              try clear hsgn
              try clear hsgd
              try clear hcat
              try clear hxw
              try clear hcx
              try clear hxl
              try clear hwb
              try clear hI6
              try clear hm4
              try clear hwt
              try clear hwtl
              try clear hcat2
              try clear hj
              try clear hwne
              try clear hwlen
              try clear hI2
              try clear hI3
              try clear hrs
              try clear hrb
              try clear hr3
              try clear hr18
              try clear hrl
              try clear hy
              try clear hb
              try clear hS
              try clear hC1
              try clear hL1
              try clear hI1
              try clear hcond
              try clear hb20
              try clear hnl
              try clear hLn
              try clear hlen
              try clear hlt
              try clear hc
              try clear hlc
              try clear hoff3
              try clear hoff4
              try clear hoff5
              try clear hoff6
              try clear hwl
              try clear hyl3
              try clear hLr
              try clear hv
              try clear hw9
              try clear l1
              k_with "pyIter str" => (fail "stop")
              k_steps
              rename Fr _ _ _ _ => FI
              rename News _ _ _ _ => NI
              refine KStt.kst_text (σ := Int × Tok) (fun _ => _) (fun c => [(Str.ofString "quotes", .int c.1 c.2)]) (fun _ => True) [] (fun pre c => c.1 = (qc pre : Int)) (0, tk) rfl FI NI trivial (fun p hp => by simp at hp; subst hp; rfl) rfl ?_ ?_
              · rintro ⟨q9, tq9⟩ pre post n tn u9 h9 tk9 own9 hpp hoff9 _ hP F9 N9
                dsimp only at hP F9
                have hgn : n = 44 → qc pre % 2 = 1 := fun e => hg9 pre post (by rw [hpp, e]; rfl)
                have hNR : NoRet := trivial
                clear hpp hg9 hp9
                k_steps
                · refine Stop.of ?_
                  have e34 := chr_t (c := Str.ofString "\"") 34 (by assumption)
                  rename Fr _ _ _ _ => FJ
                  rename News _ _ _ _ => NJ
                  refine endQ (q' := q9 + 1) FJ NJ (fun p hp => hp) ⟨_, rfl⟩ ?_ (by rw [qc_snoc, if_pos (by omega), hP]; rfl)
                  intro z hz z1; simp [hz, z1, kstB]
                · rename_i h44 hev
                  have e44 := chr_t (c := Str.ofString ",") 44 h44
                  have := hgn e44
                  rw [hP, Int.fmod_eq_emod_of_nonneg _ (by decide)] at hev
                  omega
                · refine Stop.of ?_
                  have e34 := chr_f (c := Str.ofString "\"") 34 (by assumption)
                  refine endQ (q' := q9) F9 N9 (fun p hp => hp) ⟨_, rfl⟩ ?_ (by rw [qc_snoc, if_neg (by omega), hP]; rfl)
                  intro z hz z1; simp [hz, z1, kstB]
                · refine Stop.of ?_
                  have e34 := chr_f (c := Str.ofString "\"") 34 (by assumption)
                  refine endQ (q' := q9) F9 N9 (fun p hp => hp) ⟨_, rfl⟩ ?_ (by rw [qc_snoc, if_neg (by omega), hP]; rfl)
                  intro z hz z1; simp [hz, z1, kstB]
              · rintro ⟨q9, tq9⟩ u9 h9 tk9 _ hP F9 N9
                dsimp only at hP F9
                have hNR : NoRet := trivial
                clear hg9
                k_steps
                all_goals first
                  | (refine Stop.of ?_
                     refine en_end () F9 N9 (fun p hp => List.mem_append.mpr (.inl hp)) (fun p hp => List.mem_append.mpr (.inr hp)) rfl trivial (fun _ h => nomatch h) ?_ trivial
                     intro z _ hz
                     simp at hz
                     simp [hz, kstB])
                  | (exfalso
                     have hodd : qc (KStt.codes w9) % 2 = 1 := odd_of hP (by assumption)
                     obtain ⟨e1, e2⟩ := hp9 hodd
                     omega)
            · intro _ uE hE tkE2 _ _ FE2 NE2
              have hNR : NoRet := trivial
              have hil : its.length - 1 < its.length := by have := List.length_pos_iff.mpr hine; omega
              have hz : its[its.length - 1]? = some its[its.length - 1] := List.getElem?_eq_getElem hil
              have hzl := hilen _ (List.getElem_mem hil)
              have hlz := hlast _ hz
              generalize its[its.length - 1] = wz at hz hzl hlz
              have hwz : wz.length ≤ 100 := by omega
              have hLV : ∃ tz, LastV ys5.toArray (.str wz tz) := last_of hI5 hil hz
              obtain ⟨tz, hLV⟩ := hLV
              have hK0 := K0
              clear hread hhas hlast hgood hine hisum hilen hsgn hsgd hcat hxw hcx hxl hwb hI6 hm4
              rcases hlz with ⟨hr, hsp⟩ | ⟨hr, hpl, stem, hst, hsp⟩ | ⟨hr, hpl, stem, hst, hsp⟩
              · have hm3 : ModIs (row.length : Int) 3 0 := ⟨by rw [Int.fmod_eq_emod_of_nonneg _ (by decide)]; omega, by decide⟩
                k_steps
                refine Stop.of ?_
                refine pairs_use K0 (by assumption) (by assumption) X T rfl hwz (.inl hsp) (fun _ => ?_) (fun stem e => by rw [hsp] at e; simp at e) (fun stem e => by rw [hsp] at e; simp at e)
                intro hP tkP tP FP NP
                k_steps
                refine Stop.of ?_
                refine kdn_eval (knd := PySem.strKind Challenge.rw_mj0084_01.row.prog w) (by assumption) (by assumption) T.nolimit rfl rfl (List.cons_ne_nil _ _) (by decide) ?_
                intro d2 hd2 o2 Fd2 Nd2 ld2 lo2 ho2
                k_steps
                refine Stop.of ?_
                refine kdn_made_strF (by assumption) (by assumption) (UpdF.head (fun p hp => Nat.ne_of_lt (ld2 p hp))) ho2 rfl (by simp [strPairs]) rfl ?_
                intro hd3 o3 Fd3 Nd3 ho3 hf3
                k_steps
                refine Stop.of ?_
                rename Fr _ _ _ _ => Fz
                rename News _ _ _ _ => Nz
                refine tup_end Fz Nz (fun p hp => .tail _ (.tail _ (.tail _ (.tail _ (.tail _ (.tail _ hp)))))) ?_
                intro z hz9
                simp at hz9
                simp [hz9, kstB]
              · have hm3 : ModIs (row.length : Int) 3 1 := ⟨by rw [Int.fmod_eq_emod_of_nonneg _ (by decide)]; omega, by decide⟩
                k_steps
                refine Stop.of ?_
                refine pairs_use K0 (by assumption) (by assumption) X T rfl hwz (.inr (.inl ⟨_, hsp⟩)) (fun e => by rw [hsp] at e; simp at e) (fun stem e => by rw [hsp] at e; exact absurd (congrArg (fun l : List Str => l.map (·.length)) e) (by simp [empty_len, eq_len])) (fun stem2 e => ?_)
                intro Dp op kvp hP tkP FP NP hoffP lop hdp hfp
                k_steps
                refine Stop.of ?_
                refine kdn_eval (knd := PySem.strKind Challenge.rw_mj0084_01.row.prog w) (by assumption) (by assumption) T.nolimit rfl rfl (List.cons_ne_nil _ _) (by decide) ?_
                intro d2 hd2 o2 Fd2 Nd2 ld2 lo2 ho2
                k_steps
                refine Stop.of ?_
                refine kdn_made_strF (by assumption) (by assumption) (UpdF.head (fun p hp => Nat.ne_of_lt (ld2 p hp))) ho2 rfl (by simp [strPairs]) rfl ?_
                intro hd3 o3 Fd3 Nd3 ho3 hf3
                k_steps
                refine Stop.of ?_
                have hsl : Txt.slice wz none (some (-2)) = stem := by rw [hst]; exact slice_stem' stem
                have est : stem2 = stem := by rw [hsp] at e; exact (List.cons.inj e).1.symm
                subst est
                rename News _ _ _ _ => Nz
                refine ne_same_dict Nz (.tail _ (.tail _ (.head _))) (.tail _ (.head _)) lop lo2 hdp hfp ho3 (by rw [← hsl]; exact hf3) (Nat.lt_of_le_of_lt (Nat.le_add_right _ 64) (by units_room)) ?_
                k_steps
                refine Stop.of ?_
                rename Fr _ _ _ _ => Fz
                rename News _ _ _ _ => Nz
                refine tup_end Fz Nz (fun p hp => .tail _ (.tail _ (.tail _ (.tail _ (.tail _ (.tail _ (.tail _ hp))))))) ?_
                intro z hz9
                simp at hz9
                simp [hz9, kstB]
              · have hm3 : ModIs (row.length : Int) 3 2 := ⟨by rw [Int.fmod_eq_emod_of_nonneg _ (by decide)]; omega, by decide⟩
                k_steps
                refine Stop.of ?_
                refine pairs_use K0 (by assumption) (by assumption) X T rfl hwz (.inr (.inr ⟨_, hsp⟩)) (fun e => by rw [hsp] at e; simp at e) (fun stem2 e => ?_) (fun stem2 e => by rw [hsp] at e; exact absurd (congrArg (fun l : List Str => l.map (·.length)) e) (by simp [empty_len, eq_len]))
                intro hP tkP tP FP NP
                k_steps
                refine Stop.of ?_
                refine kdn_eval (knd := PySem.strKind Challenge.rw_mj0084_01.row.prog w) (by assumption) (by assumption) T.nolimit rfl rfl (List.cons_ne_nil _ _) (by decide) ?_
                intro d2 hd2 o2 Fd2 Nd2 ld2 lo2 ho2
                k_steps
                refine Stop.of ?_
                refine kdn_made_strF (by assumption) (by assumption) (UpdF.head (fun p hp => Nat.ne_of_lt (ld2 p hp))) ho2 rfl (by simp [strPairs]) rfl ?_
                intro hd3 o3 Fd3 Nd3 ho3 hf3
                k_steps
                refine Stop.of ?_
                rename Fr _ _ _ _ => Fz
                rename News _ _ _ _ => Nz
                refine tup_end Fz Nz (fun p hp => .tail _ (.tail _ (.tail _ (.tail _ (.tail _ (.tail _ hp)))))) ?_
                intro z hz9
                simp at hz9
                simp [hz9, kstB]
          · generalize Txt.join (Str.ofString ",") its = wt at hj ⊢
            have hwt : wt.length + 1 = xw.length := by rw [← hj, Str.length_append]; rfl
            have hwtl : TLen wt (((row.length : Int) + 2).fdiv 3 * 4 - 1) := ⟨by have := hxw.1; omega, by have := hxw.2; omega⟩
            have hm4 : ModIs (((row.length : Int) + 2).fdiv 3 * 4 - 1) 4 3 := ⟨by rw [Int.fmod_eq_emod_of_nonneg _ (by decide)]; omega, by decide⟩
            have hcat2 : CatIs wt (Str.ofString ",") xw := ⟨hj, by have := hxw.2; rw [← hj, Str.length_append] at this; exact this⟩
            k_steps
            refine Stop.of ?_
            refine read_use (fs := figs row) K0 (by assumption) (by assumption) X T rfl (by rw [hxl]; omega) hsgn hsgd (by rw [hcx]; exact hhas) (by rw [hcx]; exact hread) (by rw [figs_len]; omega) (figs_in row) ?_
            intro D6 h6 tk6 ys6 F6 N6 hoff6 hI6
            rw [figs_back hrb] at hI6
            k_steps
            refine Stop.of ?_
            refine ne_intsK (News.isList N6 (.head _)) hI6 (News.isList N6 (n := ys.length) (.tail _ (.tail _ (.tail _ (.tail _ (.tail _ (.head _))))))) hy (by units_room) ?_
            rw [show (!decide (row = row)) = false by simp]
            k_steps
            refine Stop.of ?_
            rename Fr _ _ _ _ => FE
            rename News _ _ _ _ => NE
            refine enumList (σ := Unit) (l := D5) (its := ys5.toArray) (nn := ys5.length) (fun _ => _) (fun _ => []) (fun _ => True) [Str.ofString "k", Str.ofString "item", Str.ofString "quotes", Str.ofString "sign"] (fun _ _ => True) () rfl FE NE (fun _ => .tail _ (.head _)) trivial (fun _ h => nomatch h) trivial ?_ ?_
            · intro _ i v T t uE hE tkE2 ownE hv hoffE _ _ hT FE2 NE2
              obtain ⟨w9, t9, hw9, rfl⟩ := strs_at hI5 (by simpa using hv)
              obtain ⟨hg9, hp9⟩ := hgood i w9 hw9
              have hwl9 := hilen w9 (List.mem_of_getElem? hw9)
              have hi9 : i < its.length := (List.getElem?_eq_some_iff.mp hw9).1
              try clear hread
              try clear hhas
              try clear hlast
              try clear hgood
              try clear hine
              try clear hisum
              try clear hilen
              try clear hsgn
              try clear hsgd
              try clear hcat
              try clear hxw
              try clear hcx
              try clear hxl
              try clear hwb
              try clear hI6
              try clear hm4
              try clear hwt
              try clear hwtl
              try clear hcat2
              try clear hj
              try clear hwne
              try clear hwlen
              try clear hI2
              try clear hI3
              try clear hrs
              try clear hrb
              try clear hr3
              try clear hr18
              try clear hrl
              try clear hy
              try clear hb
              try clear hS
              try clear hC1
              try clear hL1
              try clear hI1
              try clear hcond
              try clear hb20
              try clear hnl
              try clear hLn
              try clear hlen
              try clear hlt
              try clear hc
              try clear hlc
              try clear hoff3
              try clear hoff4
              try clear hoff5
              try clear hoff6
              try clear hwl
              try clear hyl3
              try clear hLr
              try clear hv
              try clear hw9
              try clear l1
              k_with "pyIter str" => (fail "stop")
              k_steps
              rename Fr _ _ _ _ => FI
              rename News _ _ _ _ => NI
              refine KStt.kst_text (σ := Int × Tok) (fun _ => _) (fun c => [(Str.ofString "quotes", .int c.1 c.2)]) (fun _ => True) [] (fun pre c => c.1 = (qc pre : Int)) (0, tk) rfl FI NI trivial (fun p hp => by simp at hp; subst hp; rfl) rfl ?_ ?_
              · rintro ⟨q9, tq9⟩ pre post n tn u9 h9 tk9 own9 hpp hoff9 _ hP F9 N9
                dsimp only at hP F9
                have hgn : n = 44 → qc pre % 2 = 1 := fun e => hg9 pre post (by rw [hpp, e]; rfl)
                have hNR : NoRet := trivial
                clear hpp hg9 hp9
                k_steps
                · refine Stop.of ?_
                  have e34 := chr_t (c := Str.ofString "\"") 34 (by assumption)
                  rename Fr _ _ _ _ => FJ
                  rename News _ _ _ _ => NJ
                  refine endQ (q' := q9 + 1) FJ NJ (fun p hp => hp) ⟨_, rfl⟩ ?_ (by rw [qc_snoc, if_pos (by omega), hP]; rfl)
                  intro z hz z1; simp [hz, z1, kstB]
                · rename_i h44 hev
                  have e44 := chr_t (c := Str.ofString ",") 44 h44
                  have := hgn e44
                  rw [hP, Int.fmod_eq_emod_of_nonneg _ (by decide)] at hev
                  omega
                · refine Stop.of ?_
                  have e34 := chr_f (c := Str.ofString "\"") 34 (by assumption)
                  refine endQ (q' := q9) F9 N9 (fun p hp => hp) ⟨_, rfl⟩ ?_ (by rw [qc_snoc, if_neg (by omega), hP]; rfl)
                  intro z hz z1; simp [hz, z1, kstB]
                · refine Stop.of ?_
                  have e34 := chr_f (c := Str.ofString "\"") 34 (by assumption)
                  refine endQ (q' := q9) F9 N9 (fun p hp => hp) ⟨_, rfl⟩ ?_ (by rw [qc_snoc, if_neg (by omega), hP]; rfl)
                  intro z hz z1; simp [hz, z1, kstB]
              · rintro ⟨q9, tq9⟩ u9 h9 tk9 _ hP F9 N9
                dsimp only at hP F9
                have hNR : NoRet := trivial
                clear hg9
                k_steps
                all_goals first
                  | (refine Stop.of ?_
                     refine en_end () F9 N9 (fun p hp => List.mem_append.mpr (.inl hp)) (fun p hp => List.mem_append.mpr (.inr hp)) rfl trivial (fun _ h => nomatch h) ?_ trivial
                     intro z _ hz
                     simp at hz
                     simp [hz, kstB])
                  | (exfalso
                     have hodd : qc (KStt.codes w9) % 2 = 1 := odd_of hP (by assumption)
                     obtain ⟨e1, e2⟩ := hp9 hodd
                     omega)
            · intro _ uE hE tkE2 _ _ FE2 NE2
              have hNR : NoRet := trivial
              have hil : its.length - 1 < its.length := by have := List.length_pos_iff.mpr hine; omega
              have hz : its[its.length - 1]? = some its[its.length - 1] := List.getElem?_eq_getElem hil
              have hzl := hilen _ (List.getElem_mem hil)
              have hlz := hlast _ hz
              generalize its[its.length - 1] = wz at hz hzl hlz
              have hwz : wz.length ≤ 100 := by omega
              have hLV : ∃ tz, LastV ys5.toArray (.str wz tz) := last_of hI5 hil hz
              obtain ⟨tz, hLV⟩ := hLV
              have hK0 := K0
              clear hread hhas hlast hgood hine hisum hilen hsgn hsgd hcat hxw hcx hxl hwb hI6 hm4
              rcases hlz with ⟨hr, hsp⟩ | ⟨hr, hpl, stem, hst, hsp⟩ | ⟨hr, hpl, stem, hst, hsp⟩
              · have hm3 : ModIs (row.length : Int) 3 0 := ⟨by rw [Int.fmod_eq_emod_of_nonneg _ (by decide)]; omega, by decide⟩
                k_steps
                refine Stop.of ?_
                refine pairs_use K0 (by assumption) (by assumption) X T rfl hwz (.inl hsp) (fun _ => ?_) (fun stem e => by rw [hsp] at e; simp at e) (fun stem e => by rw [hsp] at e; simp at e)
                intro hP tkP tP FP NP
                k_steps
                refine Stop.of ?_
                refine kdn_eval (knd := PySem.strKind Challenge.rw_mj0084_01.row.prog w) (by assumption) (by assumption) T.nolimit rfl rfl (List.cons_ne_nil _ _) (by decide) ?_
                intro d2 hd2 o2 Fd2 Nd2 ld2 lo2 ho2
                k_steps
                refine Stop.of ?_
                refine kdn_made_strF (by assumption) (by assumption) (UpdF.head (fun p hp => Nat.ne_of_lt (ld2 p hp))) ho2 rfl (by simp [strPairs]) rfl ?_
                intro hd3 o3 Fd3 Nd3 ho3 hf3
                k_steps
                refine Stop.of ?_
                rename Fr _ _ _ _ => Fz
                rename News _ _ _ _ => Nz
                refine tup_end Fz Nz (fun p hp => .tail _ (.tail _ (.tail _ (.tail _ (.tail _ (.tail _ hp)))))) ?_
                intro z hz9
                simp at hz9
                simp [hz9, kstB]
              · exact absurd hj1 hpl
              · exact absurd hj1 hpl
    · intro u4 h4 tk4 F5 N5
      k_steps
end Mine
end
theorem PySem.Challenge.cw_mj0084_01_holds : PySem.Challenge.rw_mj0084_01.Holds := by
  exact Mine.lawHolds
