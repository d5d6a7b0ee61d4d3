import PyProof.Rows.All
import Wide.All
import OpenK.AllK
import Wide.FinOn
import PySem.Challenge.RW_nb0011_01
set_option Elab.async false

-- part Nb_top
section
open PySem PySem.W PyProof.Rows
namespace Mine
set_option maxRecDepth 100000 in
set_option maxHeartbeats 8000000 in
open_top hd for PySem.Challenge.rw_nb0011_01
end Mine
end

-- part Nb_fig
section
open PySem PySem.W PyProof.Rows
set_option maxRecDepth 100000
namespace Mine
def figs (ss : List Int) : Int := ss.foldl (fun n s => 2 * n + s) 0
theorem figs_snoc (pre : List Int) (x : Int) : figs (pre ++ [x]) = 2 * figs pre + x := by simp [figs]

set_option maxHeartbeats 8000000 in
theorem c_figures : ∀ (w : World) (loose : List Str) (mean : ExcName → Option Value) (mg mb : Str → Option Value)
    (dp un : Nat) (gd : Option (List Code)) (cn : Str) (cs : Scope) (a : Addr) (ccd : Value) (cl : List (Str × Addr)) (outer : List Env) (A₀ : Around) (base h₀ : Heap) (L : Addr) (m : Str → Option Value) (news : List (Addr × Obj)) (s : Shared)
    (Q E : Value → Shared → Prop) (l : Addr) (vs : List Value) (n : Nat) (ss : List Int),
    Below A₀ base outer h₀ → Fr h₀ L s.heap m → (Mine.hd.heap_39 w.params).In h₀ → News h₀ L s.heap ((l, listOf vs.toArray n) :: news) → Top Mine.hd.view_39 loose mean mg mb h₀ → cs.kind = .function →
    IntsAre vs ss →
    dp + 2 < recursionLimit → un + 16 < cLine →
    (∀ t h' tk', Fr h₀ L h' m → News h₀ L h' ((l, listOf vs.toArray n) :: news) → Q (.int (figs ss) t) { s with heap := h', toks := tk' }) →
    wpAny (model PySem.Challenge.rw_nb0011_01.row.prog w) (ktrTop dp un gd cn cs L a ccd cl outer) (call (.ref 92) [.ref l]) Q E s := by
  k_fill
  w_top off
  intro w loose mean mg mb dp un gd cn cs a ccd cl outer A₀ base h₀ L m news s Q E l vs n ss B F X N T hk hi hd hu hret
  refine wpAny_call ?_
  k_dflt ktr_enter
  k_with_none
  k_with "state" => (first | rfl | (simp only [figs_snoc]; simp_all))
  k_with "pyIter ref" => k_state (fun pre number => number = figs pre) "number"
  k_steps
  all_goals (subst_vars; exact hret _ _ _ (by k_asm) (by k_asm))
end Mine
end

-- part Nb_code
section
open PySem PySem.W PyProof.Rows
set_option maxRecDepth 100000
namespace Mine
def stepC (c : Int × Int × Int) : Int × Int × Int :=
  if c.2.2 > 1 then (Builtin.bitOr c.1 (c.2.2 * 2 ^ c.2.1.toNat), c.2.1 + ((Builtin.Int.intBits c.2.2 : Int) - 1 + 1), (Builtin.Int.intBits c.2.2 : Int) - 1) else c
def iterC (n : Int) : Nat → Int × Int × Int
  | 0 => (0, 1, n)
  | k + 1 => stepC (iterC n k)
def CodeEq (n : Int) (k : Nat) (code width left : Int) : Prop := (code, width, left) = iterC n k
abbrev CodeP (n : Int) (pre : List Int) (code width left : Int) : Prop := CodeEq n pre.length code width left ∧ 1 ≤ left ∧ left < 2 ^ 40 ∧ 1 ≤ width ∧ width ≤ 1 + 40 * (pre.length : Int)
theorem bits_two {x : Int} (h : 1 < x) (h2 : x < 2 ^ 40) : 2 ≤ Builtin.Int.intBits x ∧ Builtin.Int.intBits x ≤ 40 := by
  have hx : x ≠ 0 := by omega
  have hn : x.natAbs ≠ 0 := by omega
  unfold Builtin.Int.intBits
  rw [if_neg (by simpa using hx)]
  have a : 1 ≤ x.natAbs.log2 := (Nat.le_log2 hn).mpr (by omega)
  have b : x.natAbs.log2 < 40 := (Nat.log2_lt hn).mpr (by omega)
  omega
theorem codeP_start {n : Int} (h1 : 1 ≤ n) (h2 : n < 2 ^ 40) : CodeP n [] 0 1 n := ⟨rfl, h1, h2, by simp, by simp⟩
theorem codeP_yes {n : Int} {pre : List Int} {c w l x : Int} (h : CodeP n pre c w l) (hl : 1 < l) :
    CodeP n (pre ++ [x]) (Builtin.bitOr c (l * 2 ^ w.toNat)) (w + ((Builtin.Int.intBits l : Int) - 1 + 1)) ((Builtin.Int.intBits l : Int) - 1) := by
  obtain ⟨e, h1, h2, h3, h4⟩ := h
  have hb := bits_two hl h2
  unfold CodeEq at e
  refine ⟨?_, by omega, by omega, by omega, by simp only [List.length_append, List.length_cons, List.length_nil]; omega⟩
  unfold CodeEq
  simp only [List.length_append, List.length_cons, List.length_nil, Nat.zero_add, iterC]
  rw [← e, stepC, if_pos hl]
theorem codeP_no {n : Int} {pre : List Int} {c w l x : Int} (h : CodeP n pre c w l) (hl : ¬ 1 < l) : CodeP n (pre ++ [x]) c w l := by
  obtain ⟨e, h1, h2, h3, h4⟩ := h
  unfold CodeEq at e
  refine ⟨?_, by omega, by omega, by omega, by simp only [List.length_append, List.length_cons, List.length_nil]; omega⟩
  unfold CodeEq
  simp only [List.length_append, List.length_cons, List.length_nil, Nat.zero_add, iterC]
  rw [← e, stepC, if_neg hl]
local macro_rules | `(tactic| k_room) => `(tactic| (simp only [depth_under_make, depth_under_kw, depth_in1, depth_deeper, depth_caller, ktrTop]; omega))

set_option maxHeartbeats 8000000 in
theorem c_code : ∀ (w : World) (loose : List Str) (mean : ExcName → Option Value) (mg mb : Str → Option Value)
    (dp un : Nat) (gd : Option (List Code)) (cn : Str) (cs : Scope) (a : Addr) (ccd : Value) (cl : List (Str × Addr)) (outer : List Env) (A₀ : Around) (base h₀ : Heap) (L : Addr) (m : Str → Option Value) (news : List (Addr × Obj)) (s : Shared)
    (Q E : Value → Shared → Prop) (v : Int) (tv : Tok),
    Below A₀ base outer h₀ → Fr h₀ L s.heap m → (Mine.hd.heap_39 w.params).In h₀ → News h₀ L s.heap news → Top Mine.hd.view_39 loose mean mg mb h₀ → cs.kind = .function →
    1 ≤ v → v < 2 ^ 40 →
    dp + 2 < recursionLimit → un + 16 < cLine →
    (∀ D t1 t2 h' tk' c wd le, CodeEq v 6 c wd le → 1 ≤ wd → wd ≤ 241 → Fr h₀ L h' m → News h₀ L h' ((D, ({ cls := .type "tuple", data := .seq #[.int c t1, .int wd t2] 0 } : Obj)) :: news) → (∀ p ∈ news, p.1 < D) → Q (.ref D) { s with heap := h', toks := tk' }) →
    wpAny (model PySem.Challenge.rw_nb0011_01.row.prog w) (ktrTop dp un gd cn cs L a ccd cl outer) (call (.ref 80) [.int v tv]) Q E s := by
  k_fill
  w_top off
  intro w loose mean mg mb dp un gd cn cs a ccd cl outer A₀ base h₀ L m news s Q E v tv B F X N T hk hv1 hv2 hd hu hret
  refine wpAny_call ?_
  k_dflt ktr_enter
  k_with_none
  k_with "exec For Name Call cons nil" => kpr_for
  k_with "binaryOp LShift int int" => (refine lshift_int_small (by omega) (by omega) (by omega) ?_)
  k_with "state" => (first | exact codeP_start (by assumption) (by assumption) | exact codeP_yes ⟨by assumption, by omega, by omega, by omega, by omega⟩ (by first | assumption | omega) | exact codeP_no ⟨by assumption, by omega, by omega, by omega, by omega⟩ (by omega))
  k_with "pyIter ref" => k_state_short (fun pre code width left => CodeEq v pre.length code width left ∧ 1 ≤ left ∧ left < 2 ^ 40 ∧ 1 ≤ width ∧ width ≤ 1 + 40 * (pre.length : Int)) "code" "width" "left"
  k_steps
  all_goals exact hret _ _ _ _ _ _ _ _ (by assumption) (by omega) (by simp only [rangeKs_length] at *; omega) (by k_asm) (by k_asm) (by k_asm)
end Mine
end

-- part Nb_sl
section
open PySem PySem.W PyProof.Rows
set_option maxRecDepth 100000
namespace Mine
section
variable {prog : Program} {w : World} {A : Around} {E : Value → Shared → Prop} {s : Shared} {env : Env} {h₀ : Heap} {x : Str} {body : List Stmt} {Q : Flow → Shared → Prop}
/-- the end of a turn: the name y holds a new list, the cell cc something, led is kept -/
def SgEnd (h₀ : Heap) (L cc : Addr) (led : List (Addr × Obj)) (y : Str) (P : List Int → Prop) (s₁ s₂ : Shared) : Prop :=
  ∃ h' tk m' news' D us cnt oc as, s₂ = { s₁ with heap := h', toks := tk } ∧ Fr h₀ L h' m' ∧ News h₀ L h' news' ∧ (∀ p ∈ (D, listOf (List.toArray us) cnt) :: (cc, oc) :: led, p ∈ news') ∧ (∀ p ∈ (cc, oc) :: led, p.1 < D) ∧ IntsAre us as ∧ P as ∧ (∃ v, oc.data = .cell v) ∧ m' y = some (.ref D)
def SgPost (h₀ : Heap) (L cc : Addr) (led : List (Addr × Obj)) (y : Str) (P : List Int → Prop) (s₁ : Shared) (Q : Flow → Shared → Prop) (f : Flow) (s₂ : Shared) : Prop :=
  match f with
  | .ret v => Q (.ret v) s₂
  | .brk => Q .next s₂
  | _ => SgEnd h₀ L cc led y P s₁ s₂
def SgJ (cc : Addr) (rest : List (Addr × Obj)) (y : Str) (P : List Int → Prop) (m : Str → Option Value) (nx : List (Addr × Obj)) : Prop :=
  ∃ D us cnt oc as, nx = (D, listOf (List.toArray us) cnt) :: (cc, oc) :: rest ∧ (∀ p ∈ (cc, oc) :: rest, p.1 < D) ∧ IntsAre us as ∧ P as ∧ (∃ v, oc.data = .cell v) ∧ m y = some (.ref D)
theorem signs_loop {l cc D₀ : Addr} {vs us₀ : List Value} {ns as₀ : List Int} {nn cnt₀ : Nat} {oc₀ : Obj} {m₀ : Str → Option Value} {rest : List (Addr × Obj)} {y : Str} (P : List Int → List Int → Prop)
    (hh : A.handled = none) (hl : (l, listOf vs.toArray nn) ∈ rest) (hi : IntsAre vs ns) (F : Fr h₀ env.locals s.heap m₀) (N : News h₀ env.locals s.heap ((D₀, listOf us₀.toArray cnt₀) :: (cc, oc₀) :: rest))
    (hlt₀ : ∀ p ∈ (cc, oc₀) :: rest, p.1 < D₀) (hcc : ∀ p ∈ rest, p.1 ≠ cc) (hyx : y ≠ x) (hm₀ : m₀ y = some (.ref D₀)) (hI₀ : IntsAre us₀ as₀) (hP₀ : P [] as₀) (hc₀ : ∃ v, oc₀.data = .cell v)
    (turn : ∀ pre post n t D us cnt oc as (u : Str → Option Value) h tk led, ns = pre ++ n :: post → IntsAre us as → P pre as → (∃ v, oc.data = .cell v) → cc < D → (∀ p ∈ led, p.1 ≠ cc) → (∀ p ∈ led, p.1 ≠ D) →
      Fr h₀ env.locals h (fun z => if z = x then some (.int n t) else if z = y then some (.ref D) else u z) → News h₀ env.locals h ((D, listOf (List.toArray us) cnt) :: (cc, oc) :: led) →
      wpAny (model prog w) A (execs body env) (SgPost h₀ env.locals cc led y (P (pre ++ [n])) { s with heap := h, toks := tk } Q) E { s with heap := h, toks := tk })
    (done : ∀ D us cnt oc as (u : Str → Option Value) h tk, IntsAre us as → P ns as → (∀ p ∈ (cc, oc) :: rest, p.1 < D) → Fr h₀ env.locals h (fun z => if z = y then some (.ref D) else u z) → News h₀ env.locals h ((D, listOf (List.toArray us) cnt) :: (cc, oc) :: rest) → Q .next { s with heap := h, toks := tk }) :
    wpAny (model prog w) A (pyIter (.ref l)) (fun it s₂ => LoopAtV prog w A h₀ env x body Q E it s₂) E s := by
  have hlen : vs.length = ns.length := hi.length
  refine kdl_iter (news := (D₀, listOf us₀.toArray cnt₀) :: (cc, oc₀) :: rest) (fun i m nx => SgJ cc rest y (P (ns.take i)) m nx) hh (.tail _ (.tail _ hl)) F N ⟨D₀, us₀, cnt₀, oc₀, as₀, rfl, hlt₀, hI₀, by simpa using hP₀, hc₀, hm₀⟩ ?_ ?_
  · rintro i v m₁ nx h tk own hv hoff _ ⟨D, us, cnt, oc, as, rfl, hlt, hI, hP, hc, hm⟩ F₁ N₁
    have hi' : i < ns.length := by rw [← hlen]; exact (List.getElem?_eq_some_iff.mp hv).1
    obtain ⟨t, hx⟩ := hi.get i (ns[i]'hi') (List.getElem?_eq_getElem hi')
    have ev : v = .int (ns[i]'hi') t := by rw [hx] at hv; exact (Option.some.inj hv).symm
    subst ev
    have hs : ns.take (i + 1) = ns.take i ++ [ns[i]'hi'] := by rw [List.take_add_one, List.getElem?_eq_getElem hi'] <;> rfl
    have e : ns = ns.take i ++ (ns[i]'hi') :: ns.drop (i + 1) := by
      have h9 := List.take_append_drop (i + 1) ns
      rw [hs, List.append_assoc] at h9
      exact h9.symm
    have em : (fun z => if z = x then some (Value.int (ns[i]'hi') t) else m₁ z) = fun z => if z = x then some (Value.int (ns[i]'hi') t) else if z = y then some (.ref D) else m₁ z := by
      funext z
      by_cases h1 : z = x
      · simp [h1]
      · by_cases h2 : z = y
        · subst h2; simp [h1, hm]
        · simp [h1, h2]
    rw [em] at F₁
    have oD : ∀ p ∈ own, p.1 ≠ D := fun p hp => hoff p hp D (by simp)
    have ocn : ∀ p ∈ own, p.1 ≠ cc := fun p hp => hoff p hp cc (by simp)
    have h1 : ∀ p ∈ rest ++ own, p.1 ≠ cc := fun p hp => (List.mem_append.mp hp).elim (hcc p) (ocn p)
    have h2 : ∀ p ∈ rest ++ own, p.1 ≠ D := fun p hp => (List.mem_append.mp hp).elim (fun q => Nat.ne_of_lt (hlt p (.tail _ q))) (oD p)
    refine wpAny_mono (turn _ _ _ t D us cnt oc as m₁ h tk (rest ++ own) e hI hP hc (hlt _ (.head _)) h1 h2 F₁ N₁) (fun f s₂ p => ?_) fun _ _ x => x
    have up : SgEnd h₀ env.locals cc (rest ++ own) y (P (ns.take i ++ [ns[i]'hi'])) { s with heap := h, toks := tk } s₂ →
        InvEndG h₀ env.locals (fun m' nx => (l, listOf vs.toArray nn) ∈ nx ∧ SgJ cc rest y (P (ns.take (i + 1))) m' nx) own { s with heap := h, toks := tk } s₂ := by
      rintro ⟨h', tk', m', news', D', us', cnt', oc', as', e', F', N', hn', hlt', hI', hP', hc', hm'⟩
      refine ⟨h', tk', m', news', (D', listOf us'.toArray cnt') :: (cc, oc') :: rest, e', F', N', fun p hp => hn' p ?_, fun p hp => hn' p ?_, ?_, .tail _ (.tail _ hl), D', us', cnt', oc', as', rfl, fun p hp => hlt' p ?_, hI', by rw [hs]; exact hP', hc', hm'⟩
      · rcases List.mem_cons.mp hp with rfl | hp
        · exact .head _
        · rcases List.mem_cons.mp hp with rfl | hp
          · exact .tail _ (.head _)
          · exact .tail _ (.tail _ (List.mem_append.mpr (.inl hp)))
      · exact .tail _ (.tail _ (List.mem_append.mpr (.inr hp)))
      · intro p hp b hb
        rcases List.mem_cons.mp hb with rfl | hb
        · exact Nat.ne_of_lt (hlt' p (.tail _ (List.mem_append.mpr (.inr hp))))
        · rcases List.mem_cons.mp hb with hb | hb
          · exact fun q => ocn p hp (q.trans hb)
          · exact hoff p hp b (.tail _ (.tail _ hb))
      · rcases List.mem_cons.mp hp with rfl | hp
        · exact .head _
        · exact .tail _ (List.mem_append.mpr (.inl hp))
    cases f with
    | ret v => exact p
    | brk => exact p
    | next => exact up p
    | cont => exact up p
  · rintro m₁ nx h tk ⟨D, us, cnt, oc, as, rfl, hlt, hI, hP, hc, hm⟩ F₁ N₁
    rw [hlen, List.take_length] at hP
    have em : (fun z => if z = y then some (Value.ref D) else m₁ z) = m₁ := by
      funext z
      by_cases h2 : z = y
      · subst h2; simp [hm]
      · simp [h2]
    exact done D us cnt oc as m₁ h tk hI hP hlt (by rw [em]; exact F₁) N₁
end
end Mine
end

-- part Nb_down
section
open PySem PySem.W PySem.Spec PySem.Calls PyProof.Rows
set_option maxRecDepth 100000
namespace Mine
section
variable {prog : Program} {w : World} {A : Around} {E : Value → Shared → Prop} {s : Shared} {h₀ : Heap} {L : Addr} {m : Str → Option Value} {env : Env}
/-- a range that goes down by ones, as a comprehension's source -/
def SrcDown (prog : Program) (w : World) (A : Around) (h₀ : Heap) (L : Addr) (m : Str → Option Value) (env : Env) (elt : Expr) (x : Str) (scope : Scope) (cl : List (Str × Addr)) (Fin : Shared → List Value → List (Addr × Obj) → Prop) (xv : Value) (s₁ : Shared) : Prop :=
  ∃ r a b t u v n news, xv = .ref r ∧ A.handled = none ∧ Fr h₀ L s₁.heap m ∧ News h₀ L s₁.heap news ∧ IsRange s₁.heap r a b (-1) t u v ∧ Builtin.Range.small a b (-1) = true ∧ Builtin.Range.rangeSize a b (-1) = ((n : Nat) : Int) ∧ n ≤ sizeLine ∧
    ∀ g : Heap, LCg.CompRest prog w A h₀ L m env elt x scope cl { s₁ with heap := g } (fun _ => True) (fun i v => ∃ t, v = .int (a - (i : Int)) t) (Fin { s₁ with heap := g }) n 0 [] news
theorem down_walks {I : Addr} (hh : A.handled = none) (a : Int) (n : Nat) : Walks prog w A I [I] [I] n (fun i v => ∃ t, v = .int (a - (i : Int)) t) (fun i h => IsRangeIter h I (a + (i : Nat) * (-1)) ((n : Int) - (i : Nat)) (-1)) :=
  let W : Walks prog w A I [I] [I] n (fun i v => i < n ∧ ∃ t, v = .int (a + i * (-1)) t) (fun i h => IsRangeIter h I (a + (i : Nat) * (-1)) ((n : Int) - (i : Nat)) (-1)) := (Walks.range hh I a (-1) n).bound
  { sub := W.sub, frame := W.frame, done := W.done, self := W.self,
    item := fun i s Q E hi st hQ => W.item i s Q E hi st fun v h' tk hP => hQ v h' tk (by obtain ⟨_, t, rfl⟩ := hP; exact ⟨t, by congr 1; omega⟩) }
theorem down_st {I : Addr} {a : Int} {n : Nat} (i : Nat) (h h' : Heap) (o : Obj) (st : IsRangeIter h I (a + (i : Nat) * (-1)) ((n : Int) - (i : Nat)) (-1)) (e : h.get? I = some o) (e' : h'.get? I = some o) : IsRangeIter h' I (a + (i : Nat) * (-1)) ((n : Int) - (i : Nat)) (-1) := by
  have st' : h.get? I = some _ := st
  show h'.get? I = some _
  rw [e', ← e]; exact st'
theorem comp_down {elt iter : Expr} {x : Str} {px : Pos} {scope : Scope} {cl : List (Str × Addr)} {pos : Pos} {Q : Value → Shared → Prop} (F₀ : Fr h₀ L s.heap m)
    (hclos : closureFor scope env = pure cl) (hcell : ∀ y ∈ scope.names, y.2 ≠ .cell) (hkind : scope.kind = .function)
    (hnames : ∀ y ∈ scope.names, y.2 = .local → scope.names.lookup y.1 = some .local) (hx : scope.names.lookup x = some .local)
    (h : wpAny (model prog w) A (eval iter env) (SrcDown prog w A h₀ L m env elt x scope cl (fun s₂ => LCg.FinE h₀ L m s₂ Q)) E s)
    (hs : ∀ x, foldedSetIterable iter env x = pure x := by intro _; rfl) :
    wpAny (model prog w) A (eval (.ListComp elt [⟨.Name x px, iter, [], 0⟩] scope pos) env) Q E s := by
  rw [eval_ListComp]
  refine wpAny_comprehension_free (use := none) rfl hs hclos hkind hnames (wpAny_mono h (fun xv s₁ h₁ => ?_) fun _ _ e => e)
  obtain ⟨r, a, b, t, u, v, n, news, rfl, hh, F, N, hr, hsm, hn, hsz, R⟩ := h₁
  refine wpAny_pyIter_range hr hsm ?_
  refine LCg.block_U (down_walks hh a n) hsz (fun i h st => ⟨_, st⟩) (fun i h h' o nw st e e' _ _ _ => down_st i h h' o st e e') hcell hkind hx (by show IsRangeIter _ _ _ _ _; rw [hn]; simpa using Heap.get?_push_size _ rfl) (fun b hb => ?_)
    (F.keeps fun _ _ e => Heap.get?_push_of_some _ e) (N.grown fun _ _ e => Heap.get?_push_of_some _ e) (Nat.ne_of_lt F.ns.lt) (next_is_new F) (fun p hp => Nat.ne_of_lt (Heap.lt_size (N p hp).1)) trivial (R _) ?_
  · rw [List.mem_singleton.mp hb]
    show s₁.heap.objs.size < (s₁.heap.push _).objs.size
    rw [Heap.size_push]; exact Nat.lt_succ_self _
  · intro D C h tk m' ys news' F' N' o1 hn hC₀ hD₀ hCL hDL hCD offC fin
    refine ⟨m', hn, fun h'' hs'' => fin D h'' tk (F'.change hs'' hCL hC₀) (fun p hp => ?_) o1⟩
    refine ⟨hs''.extBut _ _ ?_ (N' p hp).1, (N' p hp).2⟩
    rcases List.mem_cons.mp hp with rfl | hp
    · exact Ne.symm hCD
    · exact offC p hp
end
end Mine
end

-- part Nb_signs
section
open PySem PySem.W PyProof.Rows
set_option maxRecDepth 100000
namespace Mine
def bitsOf (c wd : Int) : List Int := (downKs (wd - 1) wd.toNat).map fun k => Builtin.bitAnd (c.fdiv (2 ^ k.toNat)) 1
def codeBits (v : Int) : List Int := bitsOf (iterC v 6).1 (iterC v 6).2.1
def signsF (ss : List Int) : List Int := ss.flatMap codeBits
theorem signsF_snoc (pre : List Int) (n : Int) : signsF (pre ++ [n]) = signsF pre ++ codeBits n := by simp [signsF]
theorem codeBits_of {v c wd le : Int} (h : CodeEq v 6 c wd le) : codeBits v = bitsOf c wd := by
  unfold CodeEq at h
  unfold codeBits
  rw [← h]
local macro_rules | `(tactic| k_room) => `(tactic| (simp only [depth_under_make, depth_under_kw, depth_in1, depth_deeper, depth_caller, ktrTop]; omega))
local macro_rules | `(tactic| k_all) => `(tactic| assumption)
local macro_rules | `(tactic| walk_at "eval ListComp") => `(tactic| (k_here; k_dflt (refine comp_down (by k_asm) (by with_unfolding_all rfl) (by decide) (by rfl) (by decide) (by rfl) ?_)))

set_option maxHeartbeats 8000000 in
theorem c_signs : ∀ (w : World) (loose : List Str) (mean : ExcName → Option Value) (mg mb : Str → Option Value)
    (dp un : Nat) (gd : Option (List Code)) (cn : Str) (cs : Scope) (a : Addr) (ccd : Value) (cl : List (Str × Addr)) (outer : List Env) (A₀ : Around) (base h₀ : Heap) (L : Addr) (m : Str → Option Value) (news : List (Addr × Obj)) (s : Shared)
    (Q E : Value → Shared → Prop) (l : Addr) (vs : List Value) (n : Nat) (ss : List Int),
    Below A₀ base outer h₀ → Fr h₀ L s.heap m → (Mine.hd.heap_39 w.params).In h₀ → News h₀ L s.heap ((l, listOf vs.toArray n) :: news) → Top Mine.hd.view_39 loose mean mg mb h₀ → cs.kind = .function →
    IntsAre vs ss → (∀ x ∈ ss, 1 ≤ x ∧ x < 2 ^ 40) → ss.length ≤ 1000 →
    dp + 4 < recursionLimit → un + 40 < cLine →
    (∀ D us c h' tk', IntsAre us (signsF ss) → (signsF ss).length ≤ 241 * ss.length → Fr h₀ L h' m → News h₀ L h' ((D, listOf (List.toArray us) c) :: (l, listOf vs.toArray n) :: news) → (∀ p ∈ (l, listOf vs.toArray n) :: news, p.1 < D) → Q (.ref D) { s with heap := h', toks := tk' }) →
    wpAny (model PySem.Challenge.rw_nb0011_01.row.prog w) (ktrTop dp un gd cn cs L a ccd cl outer) (call (.ref 85) [.ref l]) Q E s := by
  k_fill
  w_top off
  intro w loose mean mg mb dp un gd cn cs a ccd cl outer A₀ base h₀ L m news s Q E l vs n ss B F X N T hk hi hss hlen hdp hun hret
  refine wpAny_call ?_
  k_dflt (refine' code_defC ?k1 ?k2 ?k3 ?k4 ?k5 ?kA ?kF ?kK ?k6 ?k7 ?k8 ?k9 ?kB ?kD ?_ ?c2 ?c3 ?c4; (case kA => exact rfl); (case kF => exact rfl); (case kK => assumption); (case k1 => k_asm); (case k2 => k_asm); (case k3 => k_asm); (case k4 => k_asm); (case k5 => k_asm); (case k6 => k_is); (case k7 => k_is); (case k8 => k_room); (case k9 => exact BindsTo.of_eq rfl); (case kB => exact rfl); (case kD => decide +kernel); (case c2 => exact rfl); (case c3 => exact rfl); (case c4 => exact rfl); k_whole; intro g' L' h' tk' cells' FG' F' N' Y' B' X' T' l1; (k_cells Y'); (try simp only [List.cons_append, List.nil_append] at N'); (try dsimp only); (try k_fold))
  k_with_none
  k_with "pyIter ref" => fail
  k_steps
  (rename Fr g' L' _ _ => lF)
  (rename News g' L' _ _ => lN)
  (rename (_ < _ ∧ _ < _ ∧ AllLt _ news) => lLt)
  (rename (_ = Data.cell _) => lC)
  with_unfolding_all refine' signs_loop (P := fun pre as => as = signsF pre ∧ as.length ≤ 241 * pre.length) (rest := (l, listOf vs.toArray n) :: news) (cc := L' + 1) (y := Str.ofString "signs") (us₀ := []) (as₀ := []) rfl (List.Mem.head _) hi lF lN ?lt ?cc ?yx ?my .nil ⟨rfl, Nat.zero_le _⟩ ⟨_, lC⟩ ?turn ?done
  case lt =>
    intro p hp
    rcases List.mem_cons.mp hp with rfl | hp
    · exact lLt.1
    · rcases List.mem_cons.mp hp with rfl | hp
      · exact lLt.2.1
      · exact ktn_ltOf lLt.2.2 p hp
  case cc =>
    intro p hp e
    have := l1 p hp
    rw [e] at this
    exact absurd this (by simp [Nat.not_lt])
  case yx => decide
  case my => rfl
  case done =>
    intro D us cnt oc as u h tk hI hP hlt F9 N9
    obtain ⟨rfl, hPl⟩ := hP
    try k_fold
    k_steps
    exact hret D us cnt _ _ hI hPl (by k_asm) (fun p hp => (by k_asm : News h₀ L _ _) p (by rcases List.mem_cons.mp hp with rfl | hp; exact .head _; exact .tail _ (.tail _ hp))) (fun p hp => hlt p (.tail _ hp))
  case turn =>
    intro pre post x t D us cnt oc as u h tk led e hI hP hc hcD hled hledD F9 N9
    clear lF lN lLt lC
    have hx := hss x (by rw [e]; simp)
    obtain ⟨hx1, hx2⟩ := hx
    obtain ⟨hc0, hc⟩ := hc
    k_lt2 hcD
    obtain ⟨hP, hPl⟩ := hP
    k_with "call ref" => (k_here; k_dflt (refine' c_code _ _ _ _ _ _ _ _ _ _ _ _ _ _ _ _ _ _ _ _ _ _ _ _ _ ?kB ?kF ?kX ?kN ?kT ?kk ?k1 ?k2 ?kd ?ku ?_; (case kB => k_asm); (case kF => k_asm); (case kX => k_asm); (case kN => k_asm); (case kT => k_asm); (case kk => exact rfl); (case k1 => omega); (case k2 => omega); (case kd => k_room); (case ku => ktr_units)); intro D1 t1 t2 h1 tk1 c wd le hCE hwd1 hwd2 F1 N1 lt1; (try k_lt lt1); (try dsimp only); (try k_fold))
    try k_fold
    k_steps
    refine ⟨_, _, _, _, _, _, wd.toNat, _, rfl, rfl, by k_asm, by k_asm, by assumption, small_down (by omega) (by omega) (by omega) (by omega), by rw [rangeSize_downNat]; congr 1; omega, by rw [sizeLine_eq]; omega, fun g => ?_⟩
    refine' kcf_rest (ks := downKs (wd - 1) wd.toNat) (fun k => Builtin.bitAnd (c.fdiv (2 ^ k.toNat)) 1) (downKs_length _ _) ?hP (fun k t I oI C oC D m₂ ys h tk E' hk hC hx F N off ne hMark => ?tn) ?fin
    case hP =>
      rintro i v hi ⟨t, rfl⟩
      exact ⟨_, t, by simp [downKs, hi], rfl⟩
    case tn =>
      have hk0 := (mem_downKs hk).1
      try k_fold
      k_steps
    case fin =>
      unfold KPfDone
      intro ys hys
      k_steps
      have hpl : pre.length ≤ 1000 := by
        have h9 := congrArg List.length e
        simp only [List.length_append, List.length_cons] at h9
        omega
      (rename (_ = Data.cell (some _)) => hd2)
      refine kmk_add_ints (by k_asm) (by k_asm) (News.isList (by k_asm) (by k_mem)) (News.isList (by k_asm) (by k_mem)) hI hys (fun D2 us2 h2 F2 N2 l2 hI2 => ?_) (by rw [sizeLine_eq]; simp only [List.length_map, downKs_length]; omega)
      try k_fold
      k_steps
      refine ⟨_, _, _, _, D2, us2, 0, _, _, rfl, (by k_asm), (by k_asm), ?sub, ?lt, hI2, ⟨?eq, ?len⟩, ⟨_, hd2⟩, rfl⟩
      case sub =>
        intro p hp
        rcases List.mem_cons.mp hp with rfl | hp
        · exact .head _
        · exact .tail _ (.tail _ (.tail _ (.tail _ hp)))
      case lt => exact fun p hp => l2 p (.tail _ (.tail _ (.tail _ hp)))
      case eq => rw [signsF_snoc, hP, codeBits_of hCE]; rfl
      case len =>
        simp only [List.length_append, List.length_map, downKs_length, List.length_cons, List.length_nil]
        omega
end Mine
end

-- part Nb_read
section
open PySem PySem.W PyProof.Rows
set_option maxRecDepth 100000
namespace Mine
abbrev RSt := List Int × Int × Int × Int
def stR (ss : List Int) (c : RSt) : RSt :=
  if c.2.2.1 < (ss.length : Int) then
    (if ss.getD c.2.2.1.toNat 0 = 0 then (c.1 ++ [c.2.1], 1, c.2.2.1 + 1, c.2.2.1 + 1)
     else (c.1, figs ((ss.drop c.2.2.1.toNat).take (min (c.2.2.1 + 1 + c.2.1).toNat ss.length - c.2.2.1.toNat)), c.2.2.1 + 1 + c.2.1, c.2.2.2))
  else c
def iterR (ss : List Int) : Nat → RSt
  | 0 => ([], 1, 0, 0)
  | k + 1 => stR ss (iterR ss k)
def RdEq (ss nums : List Int) (number place ended : Int) : Prop := ∃ k, iterR ss k = (nums, number, place, ended)
abbrev ReadP (ss nums : List Int) (number place ended : Int) : Prop := RdEq ss nums number place ended ∧ 0 ≤ number ∧ 0 ≤ place ∧ 0 ≤ ended ∧ ended ≤ place ∧ ended ≤ (ss.length : Int) ∧ (nums.length : Int) ≤ ended
theorem figs_nonneg (ss : List Int) (h : ∀ x ∈ ss, 0 ≤ x) : 0 ≤ figs ss := by
  have key : ∀ (l : List Int) (a : Int), (∀ x ∈ l, 0 ≤ x) → 0 ≤ a → 0 ≤ l.foldl (fun n s => 2 * n + s) a := by
    intro l
    induction l with
    | nil => intro a _ ha; exact ha
    | cons x r ih =>
      intro a hx ha
      have h1 := hx x (.head _)
      exact ih _ (fun y hy => hx y (.tail _ hy)) (by show 0 ≤ 2 * a + x; omega)
  exact key ss 0 h (by omega)
theorem readP_start (ss : List Int) : ReadP ss [] 1 0 0 := ⟨⟨0, rfl⟩, by omega, by omega, by omega, by omega, by omega, by simp⟩
theorem readP_zero {ss nums : List Int} {number place ended : Int} (h : ReadP ss nums number place ended) (hlt : place < (ss.length : Int)) (hz : ss.getD place.toNat 0 = 0) : ReadP ss (nums ++ [number]) 1 (place + 1) (place + 1) := by
  obtain ⟨⟨k, hk⟩, h1, h2, h3, h4, h5, h6⟩ := h
  refine ⟨⟨k + 1, ?_⟩, by omega, by omega, by omega, by omega, by omega, by simp only [List.length_append, List.length_cons, List.length_nil]; omega⟩
  show stR ss (iterR ss k) = _
  rw [hk]
  simp only [stR]
  rw [if_pos hlt, if_pos hz]
theorem readP_one {ss nums : List Int} {number place ended : Int} (hss : ∀ x ∈ ss, 0 ≤ x) (h : ReadP ss nums number place ended) (hlt : place < (ss.length : Int)) (hz : ss.getD place.toNat 0 ≠ 0) :
    ReadP ss nums (figs ((ss.drop place.toNat).take (min (place + 1 + number).toNat ss.length - place.toNat))) (place + 1 + number) ended := by
  obtain ⟨⟨k, hk⟩, h1, h2, h3, h4, h5, h6⟩ := h
  refine ⟨⟨k + 1, ?_⟩, figs_nonneg _ fun x hx => hss x (List.mem_of_mem_drop (List.mem_of_mem_take hx)), by omega, by omega, by omega, by omega, by omega⟩
  show stR ss (iterR ss k) = _
  rw [hk]
  simp only [stR]
  rw [if_pos hlt, if_neg hz]
local macro_rules | `(tactic| k_room) => `(tactic| (simp only [depth_under_make, depth_under_kw, depth_in1, depth_deeper, depth_caller, ktrTop]; omega))

set_option maxHeartbeats 8000000 in
theorem c_read : ∀ (w : World) (loose : List Str) (mean : ExcName → Option Value) (mg mb : Str → Option Value)
    (dp un : Nat) (gd : Option (List Code)) (cn : Str) (cs : Scope) (a : Addr) (ccd : Value) (cl : List (Str × Addr)) (outer : List Env) (A₀ : Around) (base h₀ : Heap) (L : Addr) (m : Str → Option Value) (news : List (Addr × Obj)) (s : Shared)
    (Q E : Value → Shared → Prop) (l : Addr) (vs : List Value) (n : Nat) (ss : List Int),
    Below A₀ base outer h₀ → Fr h₀ L s.heap m → (Mine.hd.heap_39 w.params).In h₀ → News h₀ L s.heap ((l, listOf vs.toArray n) :: news) → Top Mine.hd.view_39 loose mean mg mb h₀ → cs.kind = .function →
    IntsAre vs ss → (∀ x ∈ ss, 0 ≤ x) → ss.length ≤ 1000000 →
    dp + 4 < recursionLimit → un + 40 < cLine →
    (∀ Dt N R us cu ws cw h' tk' nums number place ended, RdEq ss nums number place ended → (ss.length : Int) ≤ place → IntsAre us nums → IntsAre ws (ss.drop ended.toNat) → Fr h₀ L h' m →
      News h₀ L h' ((Dt, ({ cls := .type "tuple", data := .seq #[.ref N, .ref R] 0 } : Obj)) :: (R, listOf (List.toArray ws) cw) :: (N, listOf (List.toArray us) cu) :: (l, listOf vs.toArray n) :: news) → Q (.ref Dt) { s with heap := h', toks := tk' }) →
    wpAny (model PySem.Challenge.rw_nb0011_01.row.prog w) (ktrTop dp un gd cn cs L a ccd cl outer) (call (.ref 99) [.ref l]) Q E s := by
  k_fill
  w_top off
  intro w loose mean mg mb dp un gd cn cs a ccd cl outer A₀ base h₀ L m news s Q E l vs n ss B F X N T hk hi hss hlen hdp hun hret
  refine wpAny_call ?_
  k_dflt ktr_enter
  k_with_none
  k_with "call ref" => (k_here; k_dflt (refine' c_figures _ _ _ _ _ _ _ _ _ _ _ _ _ _ _ _ _ _ _ _ _ _ _ _ _ _ _ ?kB ?kF ?kX ?kN ?kT ?kk ?k1 ?kd ?ku ?_; (case kB => k_asm); (case kF => k_asm); (case kX => k_asm); (case kN => k_asm); (case kT => k_asm); (case kk => exact rfl); (case k1 => k_asm); (case kd => k_room); (case ku => ktr_units)); intro t1 h1 tk1 F1 N1; (try dsimp only); (try k_fold))
  k_with "exec While Compare cons nil" => k_while (fun ss nums number place ended => RdEq ss nums number place ended ∧ 0 ≤ number ∧ 0 ≤ place ∧ 0 ≤ ended ∧ ended ≤ place ∧ ended ≤ (ss.length : Int) ∧ (nums.length : Int) ≤ ended) (fun ss nums number place ended => ss.length - place.toNat) "numbers" "number" "place" "ended"
  k_with "state" => (first | exact readP_start _ | exact readP_zero ⟨by assumption, by omega, by omega, by omega, by omega, by omega, by omega⟩ (by assumption) (by assumption) | exact readP_one hss ⟨by assumption, by omega, by omega, by omega, by omega, by omega, by omega⟩ (by assumption) (by assumption))
  k_steps
  all_goals exact hret _ _ _ _ _ _ _ _ _ _ _ _ _ (by assumption) (by omega) (by assumption) (by assumption) (by k_asm) (by k_asm)
end Mine
end

-- part Nb_sl3
section
open PySem PySem.W PySem.Spec PySem.Calls PyProof.Rows
set_option maxRecDepth 100000
namespace Mine
theorem ints_of_all : ∀ (ws : List Value), (∀ v ∈ ws, ∃ n t, v = Value.int n t) → ∃ ms, IntsAre ws ms
  | [], _ => ⟨[], .nil⟩
  | v :: ws, h => by
    obtain ⟨n, t, rfl⟩ := h v (.head _)
    obtain ⟨ms, hm⟩ := ints_of_all ws fun u hu => h u (.tail _ hu)
    exact ⟨n :: ms, .cons n t hm⟩
theorem all_of_ints : ∀ {ws : List Value} {ms : List Int}, IntsAre ws ms → ∀ v ∈ ws, ∃ n t, v = Value.int n t
  | _, _, .cons n t h, v, hv => by
    rcases List.mem_cons.mp hv with rfl | hv
    · exact ⟨n, t, rfl⟩
    · exact all_of_ints h v hv
theorem pick_ints {vs : List Value} {ns : List Int} (hi : IntsAre vs ns) (lo up st : Option Int) : ∃ ms, IntsAre (slicePick vs.toArray lo up st).toList ms := by
  refine ints_of_all _ fun v hv => ?_
  unfold slicePick at hv
  simp only [List.mem_filterMap] at hv
  obtain ⟨i, _, h⟩ := hv
  exact all_of_ints hi v (List.mem_of_getElem? (by simpa using h))
section
variable {prog : Program} {w : World} {A : Around} {E : Value → Shared → Prop} {s : Shared} {h₀ : Heap} {L l : Addr} {m : Str → Option Value} {news : List (Addr × Obj)} {value slice : PySem.Expr} {vs : List Value} {ns : List Int} {vl vu vk : Value} {lo up st : Option Int} {ops : List Value} {Q : Value → Shared → Prop}
theorem slice3_ints (F : Fr h₀ L s.heap m) (N : News h₀ L s.heap news) (hl : s.heap.IsList l vs.toArray) (pl : IsPart vl lo) (pu : IsPart vu up) (pk : IsPart vk st) (h0 : st ≠ some 0) (hi : IntsAre vs ns)
    (h : ∀ D ws ms h', Fr h₀ L h' m → News h₀ L h' ((D, listOf (List.toArray ws) 0) :: news) → (∀ p ∈ news, p.1 < D) → IntsAre ws ms → Q (.ref D) { s with heap := h' })
    (hs : subscripted slice false (.ref l) (.ref s.heap.objs.size) = operate ops (getItem (.ref l) (.ref s.heap.objs.size))) (ht : ∀ r, letTemporaryGo value (.ref l) r = pure ()) (hz : vs.toArray.size ≤ sizeLine) :
    wpAny (model prog w) A (subscriptTail value slice (.ref l) (.ref s.heap.objs.size)) Q E { s with heap := s.heap.push { cls := .type "slice", data := .fields #[vl, vu, vk] } } := by
  obtain ⟨ms, hm⟩ := pick_ints hi lo up st
  refine slice_list3 F N hl pl pu pk h0 (fun h' F' N' => h _ (slicePick vs.toArray lo up st).toList ms h' F' ?_ (fun p hp => Nat.lt_succ_of_lt (Heap.lt_size (N p hp).1)) hm) hs ht hz
  rw [Array.toArray_toList]
  exact N'
end
section
variable {prog : Program} {w : World} {A : Around} {h₀ : Heap} {L : Addr} {m : Str → Option Value} {env : Env} {elt : Expr} {x : Str} {scope : Scope} {cl : List (Str × Addr)} {s : Shared} {S : List (Addr × Obj) → Prop} {P : Nat → Value → Prop} {Fin : List Value → List (Addr × Obj) → Prop} {news : List (Addr × Obj)}
/-- what an element of a comprehension comes to: an int of which R holds, and the ledger as it was -/
def ElIs (news : List (Addr × Obj)) (R : Int → Prop) (y : Value) (news' : List (Addr × Obj)) : Prop := news' = news ∧ ∃ r t, y = .int r t ∧ R r
theorem rest_all {n : Nat} (R : Int → Prop)
    (hP : ∀ i v, i < n → P i v → ∃ t, v = .int (i : Int) t)
    (turn : ∀ (k : Int) t I oI C oC D m₂ ys h tk (E' : Value → Shared → Prop), 0 ≤ k → k < (n : Int) → LCg.NsObj oC m₂ → m₂ x = some (.int k t) → Fr h₀ L h m → News h₀ L h ((I, oI) :: (C, oC) :: (D, LCg.lst ys) :: news) → LCg.Off3 I C D news → ((@Ne Nat I C) ∧ (@Ne Nat I D) ∧ (@Ne Nat C D)) →
      wpAny (model prog w) A (eval elt (compEnvC scope cl C env)) (LCg.CompEnd h₀ L m { s with heap := h, toks := tk } I oI C oC D (LCg.lst ys) S (fun y news' => ElIs news R y news')) E' { s with heap := h, toks := tk })
    (fin : ∀ ys rs, IntsAre ys rs → rs.length = n → (∀ r ∈ rs, R r) → Fin ys news) : LCg.CompRest prog w A h₀ L m env elt x scope cl s S P Fin n 0 [] news := by
  have key : ∀ (j i : Nat) (ys : List Value) (rs : List Int), i + j = n → IntsAre ys rs → rs.length = i → (∀ r ∈ rs, R r) → LCg.CompRest prog w A h₀ L m env elt x scope cl s S P Fin j i ys news := by
    intro j
    induction j with
    | zero =>
      intro i ys rs hi hy hl hr
      exact LCg.CompRest.zero (fin ys rs hy (by omega) hr)
    | succ j ih =>
      intro i ys rs hi hy hl hr
      refine LCg.CompRest.succ ?_
      intro v I oI C oC D m₂ h tk E' hv hC hx F N off ne
      obtain ⟨t, rfl⟩ := hP i v (by omega) hv
      refine wpAny_mono (turn (i : Int) t I oI C oC D m₂ ys h tk E' (by omega) (by omega) hC hx F N off ne) (fun y s₂ hq => ?_) fun _ _ e => e
      obtain ⟨h', tk', nw, e, F', N', off', hS, rfl, r, t', rfl, hR⟩ := hq
      refine ⟨h', tk', _, e, F', N', off', hS, ?_⟩
      refine ih (i + 1) _ (rs ++ [r]) (by omega) (IntsAre.append hy (.cons r t' .nil)) (by simp [hl]) fun q hq => ?_
      rcases List.mem_append.mp hq with hq | hq
      · exact hr q hq
      · rw [List.mem_singleton.mp hq]; exact hR
  exact key n 0 [] [] (by omega) .nil rfl fun _ h => nomatch h
end
end Mine
end

-- part Nb_num
section
open PySem PySem.W PyProof.Rows
set_option maxRecDepth 100000
namespace Mine
local macro_rules | `(tactic| k_room) => `(tactic| (simp only [depth_under_make, depth_under_kw, depth_in1, depth_deeper, depth_caller, ktrTop]; omega))
local macro_rules | `(tactic| k_all) => `(tactic| assumption)
local macro_rules | `(tactic| walk_at "subscriptTail Name Slice ref ref") => `(tactic| (k_here; (with_reducible show wpAny _ _ (subscriptTail _ (PySem.Expr.Slice _ _ (some _) _) (Value.ref _) (Value.ref _)) _ _ _); k_dflt (refine' slice3_ints ?F ?N ?l ?p ?q ?k ?o ?i ?_ ?s ?t ?z; (case F => k_asm); (case N => k_asm); (case l => kmk_list); (case p => kmk_part); (case q => kmk_part); (case k => kmk_part); (case o => decide); (case i => l_ints); (case s => with_unfolding_all rfl); (case t => kmk_pure); (case z => kmk_size)); intro D' ws' ms' h' F' N' l1 hI'; (try k_lt l1); (try k_sweep)))
local macro_rules | `(tactic| walk_at "eval ListComp") => `(tactic| (k_here; k_dflt (refine LCg.ListComp_U (F₀ := by k_asm) (by with_unfolding_all rfl) (by decide) (by rfl) (by decide) (by rfl) ?_)))
def NumR (r : Int) : Prop := 1 ≤ r ∧ r < 2 ^ 40
theorem mask_ok (x : Int) : 0 ≤ Builtin.bitAnd x 1048575 ∧ Builtin.bitAnd x 1048575 ≤ 1048575 := by
  unfold Builtin.bitAnd
  have e : decide ((0 : Int) ≤ 1048575) = true := by decide
  rw [e]
  by_cases h : 0 ≤ x
  · rw [decide_eq_true h]
    dsimp only
    have := Nat.and_le_right (n := x.toNat) (m := (1048575 : Int).toNat)
    have e2 : (1048575 : Int).toNat = 1048575 := rfl
    rw [e2] at this ⊢
    omega
  · rw [decide_eq_false h]
    dsimp only
    have := Nat.and_le_left (n := (1048575 : Int).toNat) (m := (Builtin.bitNot x).toNat)
    have e2 : (1048575 : Int).toNat = 1048575 := rfl
    rw [e2] at this ⊢
    omega
theorem numR_of (x k : Int) (h0 : 0 ≤ k) (h5 : k < 5) : NumR (Builtin.bitAnd x 1048575 + [1, 2, 17, 5, 100].getD k.toNat 0) := by
  have h := mask_ok x
  have hk : k = 0 ∨ k = 1 ∨ k = 2 ∨ k = 3 ∨ k = 4 := by omega
  unfold NumR
  rcases hk with rfl | rfl | rfl | rfl | rfl
  all_goals (refine ⟨?_, ?_⟩; all_goals (simp; omega))
local macro_rules | `(tactic| walk_at "CompSrc") => `(tactic| (k_here; k_dflt (refine LCg.CompSrc.range (by rfl) (by k_asm) (by k_asm) (by assumption) (by decide) (by exact rangeSize_nat _ _) (by exact Nat.le_of_ble_eq_true rfl) ?_; intro g'; refine' rest_all NumR ?hP (fun k' t' I' oI' C' oC' D' m' ys' h' tk' E' hlo' hhi' hC' hx' F' N' off' ne' => ?_) ?_; (case hP => (intro i v _ h; obtain ⟨t, e⟩ := h; exact ⟨t, by rw [e, Int.zero_add]⟩)); (all_goals (try (simp only [LCg.Off3, and_true] at off'))); kcf_last)))
local macro_rules | `(tactic| walk_at "CompEnd") => `(tactic| (refine LCg.CompEnd.intro (by assumption) (by assumption) _ (by kcf_all) (by first | assumption | (simp only [LCg.Off3, and_true]; done) | (simp only [LCg.Off3, and_true]; assumption)) (by first | lcg_src | assumption) ⟨rfl, _, _, rfl, ?_⟩))

set_option maxHeartbeats 8000000 in
theorem c_numbers : ∀ (w : World) (loose : List Str) (mean : ExcName → Option Value) (mg mb : Str → Option Value)
    (dp un : Nat) (gd : Option (List Code)) (cn : Str) (cs : Scope) (a : Addr) (ccd : Value) (cl : List (Str × Addr)) (outer : List Env) (A₀ : Around) (base h₀ : Heap) (L : Addr) (m : Str → Option Value) (news : List (Addr × Obj)) (s : Shared)
    (Q E : Value → Shared → Prop) (l : Addr) (vs : List Value) (ss : List Int),
    Below A₀ base outer h₀ → Fr h₀ L s.heap m → (Mine.hd.heap_39 w.params).In h₀ → News h₀ L s.heap news → Top Mine.hd.view_39 loose mean mg mb h₀ → cs.kind = .function →
    base.IsList l vs.toArray → IntsAre vs ss → ss.length ≤ 1000 →
    dp + 4 < recursionLimit → un + 40 < cLine →
    (∀ D us rs c h' tk', IntsAre us rs → rs.length = 5 → (∀ r ∈ rs, NumR r) → Fr h₀ L h' m → News h₀ L h' ((D, listOf (List.toArray us) c) :: news) → Q (.ref D) { s with heap := h', toks := tk' }) →
    wpAny (model PySem.Challenge.rw_nb0011_01.row.prog w) (ktrTop dp un gd cn cs L a ccd cl outer) (call (.ref 68) [.ref l]) Q E s := by
  k_fill
  w_top off
  intro w loose mean mg mb dp un gd cn cs a ccd cl outer A₀ base h₀ L m news s Q E l vs ss B F X N T hk hl hi hlen hdp hun hret
  refine wpAny_call ?_
  k_dflt (refine' code_defC ?k1 ?k2 ?k3 ?k4 ?k5 ?kA ?kF ?kK ?k6 ?k7 ?k8 ?k9 ?kB ?kD ?_ ?c2 ?c3 ?c4; (case kA => exact rfl); (case kF => exact rfl); (case kK => assumption); (case k1 => k_asm); (case k2 => k_asm); (case k3 => k_asm); (case k4 => k_asm); (case k5 => k_asm); (case k6 => k_is); (case k7 => k_is); (case k8 => k_room); (case k9 => exact BindsTo.of_eq rfl); (case kB => exact rfl); (case kD => decide +kernel); (case c2 => exact rfl); (case c3 => exact rfl); (case c4 => exact rfl); k_whole; intro g' L' h' tk' cells' FG' F' N' Y' B' X' T' l1; (k_cells Y'); (try simp only [List.cons_append, List.nil_append] at N'); (try dsimp only); (try k_lift B'); (try k_fold))
  have hn1 : ∀ p ∈ news, p.1 ≠ L' + 1 + 1 := fun p hp e => absurd (l1 p hp) (by rw [e]; exact Nat.not_lt.mpr (Nat.le_add_right _ 2))
  have hn2 : ∀ p ∈ news, p.1 ≠ L' + 1 := fun p hp e => absurd (l1 p hp) (by rw [e]; exact Nat.not_lt.mpr (Nat.le_add_right _ 1))
  k_with_none
  k_steps
  · exact numR_of _ _ (by assumption) (by omega)
  · exact hret _ _ _ _ _ _ (by assumption) (by simpa using (by assumption : _ = (5 - 0 : Int).toNat)) (by assumption) (by k_asm) (fun p hp => (by k_asm : News h₀ L _ _) p (by rcases List.mem_cons.mp hp with rfl | hp; exact .head _; exact .tail _ (.tail _ (.tail _ (.tail _ hp)))))
end Mine
end

-- part Nb_tape
section
open PySem PySem.W PyProof.Rows
set_option maxRecDepth 100000
namespace Mine
local macro_rules | `(tactic| k_room) => `(tactic| (simp only [depth_under_make, depth_under_kw, depth_in1, depth_deeper, depth_caller, ktrTop]; omega))
local macro_rules | `(tactic| k_all) => `(tactic| assumption)
local macro_rules | `(tactic| walk_at "subscriptTail Name Slice ref ref") => `(tactic| (k_here; (with_reducible show wpAny _ _ (subscriptTail _ (PySem.Expr.Slice _ _ (some _) _) (Value.ref _) (Value.ref _)) _ _ _); k_dflt (refine' slice3_ints ?F ?N ?l ?p ?q ?k ?o ?i ?_ ?s ?t ?z; (case F => k_asm); (case N => k_asm); (case l => kmk_list); (case p => kmk_part); (case q => kmk_part); (case k => kmk_part); (case o => decide); (case i => l_ints); (case s => with_unfolding_all rfl); (case t => kmk_pure); (case z => kmk_size)); intro D' ws' ms' h' F' N' l1 hI'; (try k_lt l1); (try k_sweep)))
local macro_rules | `(tactic| walk_at "eval ListComp") => `(tactic| (k_here; k_dflt (refine LCg.ListComp_U (F₀ := by k_asm) (by with_unfolding_all rfl) (by decide) (by rfl) (by decide) (by rfl) ?_)))
theorem item_int {prog : Program} {w : World} {A : Around} {E : Value → Shared → Prop} {s : Shared} {value slice : PySem.Expr} {l : Addr} {vs : List Value} {ns : List Int} {k : Int} {u : Tok} {Q : Value → Shared → Prop}
    (hl : s.heap.IsList l vs.toArray) (hi : IntsAre vs ns) (h0 : 0 ≤ k) (hk : k < (ns.length : Int)) (hz : ns.length ≤ 1000) (h : ∀ r t, Q (.int r t) s)
    (hs : subscripted slice false (.ref l) (.int k u) = operate [.ref l, .int k u] (getItem (.ref l) (.int k u))) :
    wpAny (model prog w) A (subscriptTail value slice (.ref l) (.int k u)) Q E s := by
  have hlt : k.toNat < ns.length := by omega
  obtain ⟨t, hx⟩ := hi.get k.toNat (ns[k.toNat]'hlt) (List.getElem?_eq_getElem hlt)
  exact tail_any hl.typeIs slot_list_getitem.lookup (wpAny_getItem_list hl h0 (by omega) (by simpa using hx) (h _ _)) hs
local macro_rules | `(tactic| walk_at "subscriptTail Name Name ref int") => `(tactic| (k_here; k_dflt (refine' item_int ?l ?i ?a ?b ?z ?_ ?s; (case l => exact News.isList (by k_asm) (by k_mem)); (case i => (repeat constructor)); (case a => assumption); (case b => (show _ < ((32 : Nat) : Int); assumption)); (case z => decide); (case s => with_unfolding_all rfl)); intro r9' t9'; (try dsimp only)))
def TapeR (r : Int) : Prop := 0 ≤ r ∧ r ≤ 1
theorem tapeR_of (x : Int) : TapeR (Int.fmod x 2) := by
  have h1 := Int.fmod_nonneg_of_pos x (show (0 : Int) < 2 by decide)
  have h2 := Int.fmod_lt_of_pos x (show (0 : Int) < 2 by decide)
  exact ⟨h1, by omega⟩
local macro_rules | `(tactic| walk_at "CompSrc") => `(tactic| (k_here; k_dflt (refine LCg.CompSrc.range (by rfl) (by k_asm) (by k_asm) (by assumption) (by decide) (by exact rangeSize_nat _ _) (by exact Nat.le_of_ble_eq_true rfl) ?_; intro g'; refine' rest_all TapeR ?hP (fun k' t' I' oI' C' oC' D' m' ys' h' tk' E' hlo' hhi' hC' hx' F' N' off' ne' => ?_) ?_; (case hP => (intro i v _ h; obtain ⟨t, e⟩ := h; exact ⟨t, by rw [e, Int.zero_add]⟩)); (all_goals (try (simp only [LCg.Off3, and_true] at off'))); kcf_last)))
local macro_rules | `(tactic| walk_at "CompEnd") => `(tactic| (refine LCg.CompEnd.intro (by assumption) (by assumption) _ (by kcf_all) (by first | assumption | (simp only [LCg.Off3, and_true]; done) | (simp only [LCg.Off3, and_true]; assumption)) (by first | lcg_src | assumption) ⟨rfl, _, _, rfl, ?_⟩))

set_option maxHeartbeats 8000000 in
theorem c_tape : ∀ (w : World) (loose : List Str) (mean : ExcName → Option Value) (mg mb : Str → Option Value)
    (dp un : Nat) (gd : Option (List Code)) (cn : Str) (cs : Scope) (a : Addr) (ccd : Value) (cl : List (Str × Addr)) (outer : List Env) (A₀ : Around) (base h₀ : Heap) (L : Addr) (m : Str → Option Value) (news : List (Addr × Obj)) (s : Shared)
    (Q E : Value → Shared → Prop) (l : Addr) (vs : List Value) (ss : List Int),
    Below A₀ base outer h₀ → Fr h₀ L s.heap m → (Mine.hd.heap_39 w.params).In h₀ → News h₀ L s.heap news → Top Mine.hd.view_39 loose mean mg mb h₀ → cs.kind = .function →
    base.IsList l vs.toArray → IntsAre vs ss → ss.length ≤ 1000 →
    dp + 4 < recursionLimit → un + 40 < cLine →
    (∀ D us rs c h' tk', IntsAre us rs → rs.length = 32 → (∀ r ∈ rs, TapeR r) → Fr h₀ L h' m → News h₀ L h' ((D, listOf (List.toArray us) c) :: news) → Q (.ref D) { s with heap := h', toks := tk' }) →
    wpAny (model PySem.Challenge.rw_nb0011_01.row.prog w) (ktrTop dp un gd cn cs L a ccd cl outer) (call (.ref 73) [.ref l]) Q E s := by
  k_fill
  w_top off
  intro w loose mean mg mb dp un gd cn cs a ccd cl outer A₀ base h₀ L m news s Q E l vs ss B F X N T hk hl hi hlen hdp hun hret
  refine wpAny_call ?_
  k_dflt (refine' code_defC ?k1 ?k2 ?k3 ?k4 ?k5 ?kA ?kF ?kK ?k6 ?k7 ?k8 ?k9 ?kB ?kD ?_ ?c2 ?c3 ?c4; (case kA => exact rfl); (case kF => exact rfl); (case kK => assumption); (case k1 => k_asm); (case k2 => k_asm); (case k3 => k_asm); (case k4 => k_asm); (case k5 => k_asm); (case k6 => k_is); (case k7 => k_is); (case k8 => k_room); (case k9 => exact BindsTo.of_eq rfl); (case kB => exact rfl); (case kD => decide +kernel); (case c2 => exact rfl); (case c3 => exact rfl); (case c4 => exact rfl); k_whole; intro g' L' h' tk' cells' FG' F' N' Y' B' X' T' l1; (k_cells Y'); (try simp only [List.cons_append, List.nil_append] at N'); (try dsimp only); (try k_lift B'); (try k_fold))
  have hn1 : ∀ p ∈ news, p.1 ≠ L' + 1 + 1 := fun p hp e => absurd (l1 p hp) (by rw [e]; exact Nat.not_lt.mpr (Nat.le_add_right _ 2))
  have hn2 : ∀ p ∈ news, p.1 ≠ L' + 1 := fun p hp e => absurd (l1 p hp) (by rw [e]; exact Nat.not_lt.mpr (Nat.le_add_right _ 1))
  k_with_none
  k_steps
  · exact tapeR_of _
  · exact hret _ _ _ _ _ _ (by assumption) (by simpa using (by assumption : _ = (32 - 0 : Int).toNat)) (by assumption) (by k_asm) (fun p hp => (by k_asm : News h₀ L _ _) p (by
      rcases List.mem_cons.mp hp with rfl | hp
      · exact .head _
      · repeat (first | exact hp | apply List.Mem.tail)))
end Mine
end

-- part Nb_math
section
open PySem PySem.W PyProof.Rows
namespace Mine
/-! plain law: figures -/
def nb (n : Nat) : Nat → List Int
  | 0 => []
  | w + 1 => nb (n / 2) w ++ [((n % 2 : Nat) : Int)]
theorem nb_length (w : Nat) : ∀ n, (nb n w).length = w := by
  induction w with
  | zero => intro n; rfl
  | succ w ih => intro n; simp [nb, ih]
theorem nb_zero (w : Nat) : nb w 0 = [] := rfl
theorem figs_nb (w : Nat) : ∀ n, figs (nb n w) = ((n % 2 ^ w : Nat) : Int) := by
  induction w with
  | zero => intro n; simp [nb, figs, Nat.mod_one]
  | succ w ih =>
    intro n
    rw [nb, figs_snoc, ih, Nat.pow_succ, Nat.mul_comm (2 ^ w) 2, Nat.mod_mul]
    omega
theorem nb_split (v a : Nat) : ∀ (w b : Nat), b < 2 ^ w → nb (a * 2 ^ w + b) (v + w) = nb a v ++ nb b w := by
  intro w
  induction w with
  | zero =>
    intro b hb
    have : b = 0 := by omega
    subst this
    simp [nb]
  | succ w ih =>
    intro b hb
    rw [Nat.pow_succ] at hb ⊢
    have e1 : (a * (2 ^ w * 2) + b) / 2 = a * 2 ^ w + b / 2 := by rw [← Nat.mul_assoc]; omega
    have e2 : (a * (2 ^ w * 2) + b) % 2 = b % 2 := by rw [← Nat.mul_assoc]; omega
    show nb _ (v + w + 1) = _
    rw [nb, e1, e2, ih (b / 2) (by omega), nb, List.append_assoc]
theorem nb_top {n w : Nat} (h1 : 2 ^ w ≤ n) (h2 : n < 2 ^ (w + 1)) : nb n (w + 1) = 1 :: nb (n - 2 ^ w) w := by
  have h := nb_split 1 1 w (n - 2 ^ w) (by rw [Nat.pow_succ] at h2; omega)
  rw [Nat.one_mul, Nat.add_comm 1 w, show 2 ^ w + (n - 2 ^ w) = n by omega] at h
  rw [h]
  rfl
theorem figs_cons_bound : ∀ (l : List Int) (a : Int), (∀ x ∈ l, 0 ≤ x ∧ x ≤ 1) → 0 ≤ a → a * 2 ^ l.length ≤ l.foldl (fun n s => 2 * n + s) a ∧ l.foldl (fun n s => 2 * n + s) a < (a + 1) * 2 ^ l.length := by
  intro l
  induction l with
  | nil => intro a _ ha; simp; omega
  | cons x r ih =>
    intro a hx ha
    have h1 := hx x (.head _)
    have h2 := ih (2 * a + x) (fun y hy => hx y (.tail _ hy)) (by omega)
    simp only [List.foldl_cons, List.length_cons]
    have hp : (0 : Int) < 2 ^ r.length := Int.pow_pos (by decide)
    have e : (2 : Int) ^ (r.length + 1) = 2 * 2 ^ r.length := by rw [Int.pow_succ, Int.mul_comm]
    rw [e]
    generalize (2 : Int) ^ r.length = p at *
    have a1 : a * (2 * p) ≤ (2 * a + x) * p := by
      have : (2 * a + x) * p = a * (2 * p) + x * p := by rw [Int.add_mul, Int.mul_assoc, Int.mul_left_comm]
      have : 0 ≤ x * p := Int.mul_nonneg h1.1 (by omega)
      omega
    have a2 : (2 * a + x + 1) * p ≤ (a + 1) * (2 * p) := by
      have e1 : (a + 1) * (2 * p) = (2 * a + x + 1) * p + (1 - x) * p := by
        rw [← Int.add_mul, ← Int.mul_assoc]
        congr 1
        omega
      have : 0 ≤ (1 - x) * p := Int.mul_nonneg (by omega) (by omega)
      omega
    omega
theorem figs_lt {l : List Int} (h : ∀ x ∈ l, 0 ≤ x ∧ x ≤ 1) : 0 ≤ figs l ∧ figs l < 2 ^ l.length := by
  have := figs_cons_bound l 0 h (by omega)
  unfold figs
  omega
theorem figs_one {r : List Int} (h : ∀ x ∈ r, 0 ≤ x ∧ x ≤ 1) : 2 ^ r.length ≤ figs (1 :: r) ∧ figs (1 :: r) < 2 ^ (r.length + 1) := by
  have := figs_cons_bound r 1 h (by omega)
  have e : (2 : Int) ^ (r.length + 1) = 2 * 2 ^ r.length := by rw [Int.pow_succ, Int.mul_comm]
  unfold figs
  rw [e]
  simp only [List.foldl_cons]
  simp only [Int.mul_zero, Int.zero_add]
  omega
theorem nb_figs : ∀ (n : Nat) (l : List Int), l.length = n → (∀ x ∈ l, 0 ≤ x ∧ x ≤ 1) → nb (figs l).toNat n = l := by
  intro n
  induction n with
  | zero => intro l hl _; rw [List.length_eq_zero_iff.mp hl]; rfl
  | succ n ih =>
    intro l hl h
    have hne : l ≠ [] := by intro e; rw [e] at hl; cases hl
    obtain ⟨r, x, rfl⟩ : ∃ r x, l = r ++ [x] := ⟨l.dropLast, l.getLast hne, (List.dropLast_concat_getLast hne).symm⟩
    have hr : r.length = n := by simpa using hl
    have hr1 : ∀ y ∈ r, 0 ≤ y ∧ y ≤ 1 := fun y hy => h y (List.mem_append.mpr (.inl hy))
    have hx := h x (by simp)
    have hf := figs_lt hr1
    rw [figs_snoc, nb]
    have e1 : (2 * figs r + x).toNat / 2 = (figs r).toNat := by omega
    have e2 : (((2 * figs r + x).toNat % 2 : Nat) : Int) = x := by omega
    rw [e1, e2, ih r hr hr1]
end Mine
end

-- part Nb_math2
section
open PySem PySem.W PyProof.Rows
namespace Mine
theorem bitAnd_one (n : Nat) : Builtin.bitAnd (n : Int) 1 = ((n % 2 : Nat) : Int) := by
  unfold Builtin.bitAnd
  have e : decide ((0 : Int) ≤ 1) = true := by decide
  rw [e, decide_eq_true (Int.natCast_nonneg n)]
  dsimp only
  rw [show (1 : Int).toNat = 1 from rfl, Int.toNat_natCast, Nat.and_one_is_mod]
theorem bitOr_nat (a b : Nat) : Builtin.bitOr (a : Int) (b : Int) = ((a ||| b : Nat) : Int) := by
  unfold Builtin.bitOr Builtin.bitAnd
  have e1 : decide ((0 : Int) ≤ Builtin.bitNot (a : Int)) = false := by unfold Builtin.bitNot; simp; omega
  have e2 : decide ((0 : Int) ≤ Builtin.bitNot (b : Int)) = false := by unfold Builtin.bitNot; simp; omega
  rw [e1, e2]
  dsimp only
  have f : ∀ x : Int, Builtin.bitNot (Builtin.bitNot x) = x := by intro x; unfold Builtin.bitNot; omega
  rw [f, f, f, Int.toNat_natCast, Int.toNat_natCast]
theorem bitsOf_nb (w : Nat) : ∀ n : Nat, bitsOf (n : Int) (w : Int) = nb n w := by
  have shape : ∀ (w n : Nat), bitsOf (n : Int) (w : Int) = (List.range w).map fun i => ((n / 2 ^ (w - 1 - i) % 2 : Nat) : Int) := by
    intro w n
    unfold bitsOf downKs
    rw [Int.toNat_natCast, List.map_map]
    apply List.map_congr_left
    intro i hi
    have hi' := List.mem_range.mp hi
    show Builtin.bitAnd ((n : Int).fdiv (2 ^ ((w : Int) - 1 - (i : Int)).toNat)) 1 = _
    have e : ((w : Int) - 1 - (i : Int)).toNat = w - 1 - i := by omega
    have e2 : (n : Int).fdiv (2 ^ (w - 1 - i)) = ((n / 2 ^ (w - 1 - i) : Nat) : Int) := by
      rw [Int.fdiv_eq_ediv_of_nonneg _ (Int.le_of_lt (Int.pow_pos (by decide)))]
      simp
    rw [e, e2, bitAnd_one]
  induction w with
  | zero => intro n; rw [shape]; rfl
  | succ w ih =>
    intro n
    rw [nb, ← ih, shape, shape, List.range_succ, List.map_append]
    congr 1
    · apply List.map_congr_left
      intro i hi
      have hi' := List.mem_range.mp hi
      have e : w + 1 - 1 - i = (w - 1 - i) + 1 := by omega
      rw [e, Nat.pow_succ, Nat.mul_comm, ← Nat.div_div_eq_div_mul]
    · simp
/-- the levels, from the highest down -/
def lev : Nat → Nat → List Int
  | 0, _ => []
  | f + 1, n => if 1 < n then lev f n.log2 ++ nb n (n.log2 + 1) else []
theorem intBits_nat {n : Nat} (h : n ≠ 0) : Builtin.Int.intBits (n : Int) = n.log2 + 1 := by
  unfold Builtin.Int.intBits
  rw [if_neg (by simp; omega)]
  simp
theorem stepC_nat {c wd l : Nat} (h : 1 < l) (hc : c < 2 ^ wd) : stepC ((c : Int), (wd : Int), (l : Int)) = (((l * 2 ^ wd + c : Nat) : Int), ((l.log2 + 1 + wd : Nat) : Int), ((l.log2 : Nat) : Int)) := by
  unfold stepC
  dsimp only
  rw [if_pos (by omega), intBits_nat (by omega), Int.toNat_natCast]
  have e : ((l : Int) * 2 ^ wd) = ((l * 2 ^ wd : Nat) : Int) := by simp
  rw [e, bitOr_nat]
  have e2 : c ||| l * 2 ^ wd = l * 2 ^ wd + c := by
    have h9 := Nat.two_pow_add_eq_or_of_lt hc l
    rw [Nat.or_comm, Nat.mul_comm l, ← h9]
  rw [e2]
  refine Prod.ext rfl (Prod.ext ?_ ?_)
  · show (wd : Int) + (((l.log2 + 1 : Nat) : Int) - 1 + 1) = ((l.log2 + 1 + wd : Nat) : Int)
    omega
  · show ((l.log2 + 1 : Nat) : Int) - 1 = ((l.log2 : Nat) : Int)
    omega
theorem iterC_lev (n : Nat) : ∀ (k j : Nat), k + j = 6 → ∃ c wd l : Nat, iterC (n : Int) k = ((c : Int), (wd : Int), (l : Int)) ∧ c < 2 ^ wd ∧ lev j l ++ nb c wd = lev 6 n ++ [0] := by
  intro k
  induction k with
  | zero =>
    intro j hj
    have : j = 6 := by omega
    subst this
    exact ⟨0, 1, n, rfl, by decide, rfl⟩
  | succ k ih =>
    intro j hj
    obtain ⟨c, wd, l, e, hc, hl⟩ := ih (j + 1) (by omega)
    by_cases h : 1 < l
    · refine ⟨l * 2 ^ wd + c, l.log2 + 1 + wd, l.log2, ?_, ?_, ?_⟩
      · rw [iterC, e, stepC_nat h hc]
      · have h2 : l < 2 ^ (l.log2 + 1) := Nat.lt_log2_self
        rw [Nat.pow_add]
        have h3 : (l + 1) * 2 ^ wd ≤ 2 ^ (l.log2 + 1) * 2 ^ wd := Nat.mul_le_mul_right _ h2
        rw [Nat.add_mul, Nat.one_mul] at h3
        omega
      · rw [nb_split _ _ _ _ hc, ← List.append_assoc, ← hl, lev, if_pos h]
    · refine ⟨c, wd, l, ?_, hc, ?_⟩
      · rw [iterC, e, stepC]
        dsimp only
        rw [if_neg (by omega)]
      · rw [← hl, lev, if_neg h]
        cases j with
        | zero => rfl
        | succ j => rw [lev, if_neg h]
theorem codeBits_lev (n : Nat) : codeBits (n : Int) = lev 6 n ++ [0] := by
  obtain ⟨c, wd, l, e, _, h⟩ := iterC_lev n 6 0 rfl
  unfold codeBits
  rw [e]
  dsimp only
  rw [bitsOf_nb, ← h]
  rfl
theorem log2_lt_self {n : Nat} (h : 1 < n) : n.log2 < n := (Nat.log2_lt (by omega)).mpr Nat.lt_two_pow_self
def pref (n : Nat) : List Int := if h9 : 1 < n then pref n.log2 ++ nb n (n.log2 + 1) else []
termination_by n
decreasing_by exact log2_lt_self h9
theorem pref_big {n : Nat} (h : 1 < n) : pref n = pref n.log2 ++ nb n (n.log2 + 1) := by rw [pref, dif_pos h]
theorem pref_one : pref 1 = [] := by rw [pref, dif_neg (by decide)]
def tow : Nat → Nat
  | 0 => 2
  | f + 1 => 2 ^ min (tow f) 64
theorem lev_pref : ∀ (f n : Nat), n < tow f → lev f n = pref n := by
  intro f
  induction f with
  | zero =>
    intro n h
    have h' : n < 2 := h
    rw [pref, dif_neg (by omega)]
    rfl
  | succ f ih =>
    intro n h
    by_cases h1 : 1 < n
    · rw [lev, if_pos h1, pref_big h1, ih _ (Nat.lt_of_lt_of_le ((Nat.log2_lt (by omega)).mpr h) (Nat.min_le_left _ _))]
    · rw [lev, if_neg h1, pref, dif_neg h1]
theorem tow_six : 2 ^ 40 < tow 6 := by decide +kernel
theorem codeBits_pref {n : Nat} (h : n < 2 ^ 40) : codeBits (n : Int) = pref n ++ [0] := by
  rw [codeBits_lev, lev_pref 6 n (Nat.lt_trans h tow_six)]
end Mine
end

-- part Nb_math3
section
open PySem PySem.W PyProof.Rows
namespace Mine
def iterFrom (ss : List Int) (c : RSt) : Nat → RSt
  | 0 => c
  | k + 1 => stR ss (iterFrom ss c k)
theorem iterFrom_add (ss : List Int) (c : RSt) (j : Nat) : ∀ k, iterFrom ss c (j + k) = iterFrom ss (iterFrom ss c j) k := by
  intro k
  induction k with
  | zero => rfl
  | succ k ih => show stR ss (iterFrom ss c (j + k)) = stR ss _; rw [ih]
theorem iterR_from (ss : List Int) : ∀ k, iterR ss k = iterFrom ss ([], 1, 0, 0) k := by
  intro k
  induction k with
  | zero => rfl
  | succ k ih => show stR ss _ = stR ss _; rw [ih]
theorem iterFrom_fix {ss : List Int} {c : RSt} (h : (ss.length : Int) ≤ c.2.2.1) : ∀ k, iterFrom ss c k = c := by
  intro k
  induction k with
  | zero => rfl
  | succ k ih =>
    show stR ss _ = c
    rw [ih, stR, if_neg (by omega)]
/-- c comes to c' -/
def Comes (ss : List Int) (c c' : RSt) : Prop := ∃ k, iterFrom ss c k = c'
theorem Comes.trans {ss : List Int} {a b c : RSt} (h : Comes ss a b) (h' : Comes ss b c) : Comes ss a c := by
  obtain ⟨j, rfl⟩ := h
  obtain ⟨k, rfl⟩ := h'
  exact ⟨j + k, iterFrom_add ss a j k⟩
theorem comes_one {ss : List Int} {c c' : RSt} (h : stR ss c = c') : Comes ss c c' := ⟨1, h⟩
theorem comes_end {ss : List Int} {a b c : RSt} (h : Comes ss a b) (h' : Comes ss a c) (hb : (ss.length : Int) ≤ b.2.2.1) (hc : (ss.length : Int) ≤ c.2.2.1) : b = c := by
  obtain ⟨j, rfl⟩ := h
  obtain ⟨k, rfl⟩ := h'
  have e1 := iterFrom_add ss a j k
  have e2 := iterFrom_add ss a k j
  rw [iterFrom_fix hb] at e1
  rw [iterFrom_fix hc] at e2
  rw [← e1, ← e2, Nat.add_comm]
theorem drop_facts {ss : List Int} {p : Nat} {x : Int} {r : List Int} (h : ss.drop p = x :: r) : p < ss.length ∧ ss.getD p 0 = x ∧ ss.length = p + 1 + r.length := by
  have hl := congrArg List.length h
  rw [List.length_drop, List.length_cons] at hl
  refine ⟨by omega, ?_, by omega⟩
  have e : ss[p]? = some x := by
    have h9 : (ss.drop p)[0]? = some x := by rw [h]; rfl
    rwa [List.getElem?_drop] at h9
  rw [List.getD_eq_getElem?_getD, e]
  rfl
theorem read_pref (ss : List Int) : ∀ (n : Nat), 1 ≤ n → ∀ (nums : List Int) (e : Int) (p : Nat) (tl : List Int), ss.drop p = pref n ++ tl →
    Comes ss (nums, 1, (p : Int), e) (nums, (n : Int), ((p + (pref n).length : Nat) : Int), e) := by
  intro n
  induction n using Nat.strongRecOn with
  | ind n ih =>
    intro h1 nums e p tl hd
    by_cases h : 1 < n
    · have hl1 : 1 ≤ n.log2 := (Nat.le_log2 (by omega)).mpr (by omega)
      rw [pref_big h, List.append_assoc] at hd
      have h0 := ih n.log2 (log2_lt_self h) hl1 nums e p _ hd
      refine h0.trans (comes_one ?_)
      have hd2 : ss.drop (p + (pref n.log2).length) = nb n (n.log2 + 1) ++ tl := by
        rw [← List.drop_drop, hd, List.drop_left]
      have hlen : (pref n).length = (pref n.log2).length + (n.log2 + 1) := by rw [pref_big h, List.length_append, nb_length]
      rw [hlen]
      generalize hq : p + (pref n.log2).length = q at hd2 ⊢
      have hn2 : n < 2 ^ (n.log2 + 1) := Nat.lt_log2_self
      have hn1 : 2 ^ n.log2 ≤ n := Nat.log2_self_le (by omega)
      have ht := nb_top hn1 hn2
      have hd3 := hd2
      rw [ht, List.cons_append] at hd3
      obtain ⟨f1, f2, f3⟩ := drop_facts hd3
      rw [List.length_append, nb_length] at f3
      have e1 : min ((q : Int) + 1 + (n.log2 : Int)).toNat ss.length - q = n.log2 + 1 := by omega
      simp only [stR]
      rw [if_pos (by omega), Int.toNat_natCast, f2, if_neg (by decide), e1, hd2]
      have e2 : (nb n (n.log2 + 1) ++ tl).take (n.log2 + 1) = nb n (n.log2 + 1) := List.take_left' (nb_length _ _)
      rw [e2, figs_nb, Nat.mod_eq_of_lt hn2]
      refine Prod.ext rfl (Prod.ext rfl (Prod.ext ?_ rfl))
      show (q : Int) + 1 + (n.log2 : Int) = ((p + ((pref n.log2).length + (n.log2 + 1)) : Nat) : Int)
      omega
    · have hn : n = 1 := by omega
      subst hn
      rw [pref_one]
      exact ⟨0, rfl⟩
theorem read_code {ss nums tl : List Int} {e : Int} {n p : Nat} (h1 : 1 ≤ n) (h2 : n < 2 ^ 40) (hd : ss.drop p = codeBits (n : Int) ++ tl) :
    Comes ss (nums, 1, (p : Int), e) (nums ++ [(n : Int)], 1, ((p + (codeBits (n : Int)).length : Nat) : Int), ((p + (codeBits (n : Int)).length : Nat) : Int)) := by
  rw [codeBits_pref h2] at hd ⊢
  rw [List.append_assoc] at hd
  refine (read_pref ss n h1 nums e p _ hd).trans (comes_one ?_)
  have hd2 : ss.drop (p + (pref n).length) = 0 :: tl := by
    rw [← List.drop_drop, hd, List.drop_left]
    rfl
  obtain ⟨f1, f2, f3⟩ := drop_facts hd2
  simp only [stR]
  rw [if_pos (by omega), Int.toNat_natCast, f2, if_pos rfl]
  have e9 : ((p + (pref n).length : Nat) : Int) + 1 = ((p + (pref n ++ [(0 : Int)]).length : Nat) : Int) := by
    rw [List.length_append, List.length_cons, List.length_nil]
    omega
  rw [e9]
theorem read_all (ss : List Int) : ∀ (rs nums : List Int) (p : Nat), (∀ r ∈ rs, NumR r) → p ≤ ss.length → ss.drop p = signsF rs →
    Comes ss (nums, 1, (p : Int), (p : Int)) (nums ++ rs, 1, (ss.length : Int), (ss.length : Int)) := by
  intro rs
  induction rs with
  | nil =>
    intro nums p _ hp hd
    have hl := congrArg List.length hd
    rw [List.length_drop] at hl
    have hl' : ss.length - p = 0 := hl
    have : p = ss.length := by omega
    subst this
    rw [List.append_nil]
    exact ⟨0, rfl⟩
  | cons r rs ih =>
    intro nums p hr hp hd
    have hR := hr r (.head _)
    obtain ⟨n, rfl⟩ : ∃ n : Nat, r = (n : Int) := ⟨r.toNat, by have := hR.1; omega⟩
    have hd' : ss.drop p = codeBits (n : Int) ++ signsF rs := by rw [hd]; simp [signsF]
    have h0 := read_code (nums := nums) (e := (p : Int)) (by have := hR.1; omega) (by have := hR.2; omega) hd'
    have hl := congrArg List.length hd'
    rw [List.length_drop, List.length_append] at hl
    have hpos : 1 ≤ (codeBits (n : Int)).length := by
      rw [codeBits_pref (by have := hR.2; omega)]
      simp
    have h3 := ih (nums ++ [(n : Int)]) (p + (codeBits (n : Int)).length) (fun q hq => hr q (.tail _ hq)) (by omega) (by rw [← List.drop_drop, hd', List.drop_left])
    rw [List.append_assoc] at h3
    exact h0.trans h3
theorem there_law {rs nums : List Int} {number place ended : Int} (h : ∀ r ∈ rs, NumR r) (hR : RdEq (signsF rs) nums number place ended) (hp : ((signsF rs).length : Int) ≤ place) :
    nums = rs ∧ (signsF rs).drop ended.toNat = [] := by
  obtain ⟨k, hk⟩ := hR
  rw [iterR_from] at hk
  have h0 := read_all (signsF rs) rs [] 0 h (Nat.zero_le _) rfl
  have e := comes_end (c := (nums, number, place, ended)) h0 ⟨k, hk⟩ (Int.le_refl _) hp
  rw [List.nil_append] at e
  have e1 : rs = nums := congrArg (·.1) e
  have e4 : ((signsF rs).length : Int) = ended := congrArg (·.2.2.2) e
  refine ⟨e1.symm, ?_⟩
  rw [← e4, Int.toNat_natCast, List.drop_length]
end Mine
end

-- part Nb_math4
section
open PySem PySem.W PyProof.Rows
namespace Mine
/-- what holds of the reader's state on a tape of 32 signs at most -/
def BackInv (ss : List Int) (c : RSt) : Prop :=
  ∃ (nums : List Int) (nn pl en : Nat), c = (nums, (nn : Int), (pl : Int), (en : Int)) ∧ en ≤ ss.length ∧ en ≤ pl ∧ (∀ x ∈ nums, 1 ≤ x ∧ x < 2 ^ 40) ∧ nums.length ≤ en ∧ signsF nums = ss.take en ∧
    (pl ≤ ss.length → 1 ≤ nn ∧ nn < 2 ^ 40 ∧ pref nn = (ss.drop en).take (pl - en))
theorem take_more {α : Type} (l : List α) {a b c : Nat} (h1 : a ≤ b) (h2 : b ≤ c) : (l.drop a).take (b - a) ++ (l.drop b).take (c - b) = (l.drop a).take (c - a) := by
  have e : c - a = (b - a) + (c - b) := by omega
  rw [e, List.take_add, List.drop_drop, show a + (b - a) = b by omega]
theorem back_step {ss : List Int} (hss : ∀ x ∈ ss, TapeR x) (hlen : ss.length ≤ 32) {c : RSt} (h : BackInv ss c) : BackInv ss (stR ss c) := by
  obtain ⟨nums, nn, pl, en, rfl, h1, h2, h3, h4, h5, h6⟩ := h
  by_cases hlt : pl < ss.length
  · obtain ⟨n1, n2, n3⟩ := h6 (by omega)
    have hd : ss.drop pl = ss[pl] :: ss.drop (pl + 1) := List.drop_eq_getElem_cons hlt
    obtain ⟨_, g1, _⟩ := drop_facts hd
    have hx := hss ss[pl] (List.getElem_mem hlt)
    simp only [stR]
    rw [if_pos (by omega), Int.toNat_natCast, g1]
    by_cases hz : ss[pl] = 0
    · rw [if_pos hz]
      refine ⟨nums ++ [(nn : Int)], 1, pl + 1, pl + 1, rfl, by omega, Nat.le_refl _, ?_, ?_, ?_, ?_⟩
      · intro x hx'
        rcases List.mem_append.mp hx' with hx' | hx'
        · exact h3 x hx'
        · rw [List.mem_singleton.mp hx']
          omega
      · rw [List.length_append, List.length_cons, List.length_nil]
        omega
      · rw [signsF_snoc, h5, codeBits_pref n2, n3]
        have e0 : [(0 : Int)] = (ss.drop pl).take (pl + 1 - pl) := by
          rw [hd, hz, show pl + 1 - pl = 1 by omega]
          rfl
        rw [e0, take_more ss h2 (by omega), show ss.take en = (ss.drop 0).take (en - 0) by simp, take_more ss (by omega) (by omega)]
        simp
      · intro _
        refine ⟨by omega, by omega, ?_⟩
        rw [pref_one, Nat.sub_self, List.take_zero]
    · rw [if_neg hz]
      have hone : ss[pl] = 1 := by
        have := hx.1
        have := hx.2
        omega
      have hsl : ∀ x ∈ (ss.drop pl).take (min ((pl : Int) + 1 + (nn : Int)).toNat ss.length - pl), 0 ≤ x ∧ x ≤ 1 := fun x hx => hss x (List.mem_of_mem_drop (List.mem_of_mem_take hx))
      have hf := figs_lt hsl
      generalize hsd : (ss.drop pl).take (min ((pl : Int) + 1 + (nn : Int)).toNat ss.length - pl) = sl at hsl hf ⊢
      refine ⟨nums, (figs sl).toNat, pl + 1 + nn, en, ?_, h1, by omega, h3, h4, h5, ?_⟩
      · refine Prod.ext rfl (Prod.ext ?_ (Prod.ext ?_ rfl))
        · show figs sl = ((figs sl).toNat : Int)
          omega
        · show (pl : Int) + 1 + (nn : Int) = ((pl + 1 + nn : Nat) : Int)
          omega
      · intro hle
        have em : min ((pl : Int) + 1 + (nn : Int)).toNat ss.length - pl = pl + 1 + nn - pl := by omega
        rw [em] at hsd
        have hslen : sl.length = nn + 1 := by rw [← hsd, List.length_take, List.length_drop]; omega
        have hcons : sl = 1 :: (ss.drop (pl + 1)).take nn := by
          rw [← hsd, hd, hone, show pl + 1 + nn - pl = nn + 1 by omega]
          rfl
        have hrl : ((ss.drop (pl + 1)).take nn).length = nn := by
          rw [hcons, List.length_cons] at hslen
          omega
        have hb := figs_one (r := (ss.drop (pl + 1)).take nn) fun x hx => hss x (List.mem_of_mem_drop (List.mem_of_mem_take hx))
        rw [← hcons, hrl] at hb
        obtain ⟨f, hfe⟩ : ∃ f : Nat, figs sl = (f : Int) := ⟨(figs sl).toNat, by omega⟩
        have b1 : 2 ^ nn ≤ f := by
          have := hb.1
          rw [hfe] at this
          exact_mod_cast this
        have b2 : f < 2 ^ (nn + 1) := by
          have := hb.2
          rw [hfe] at this
          exact_mod_cast this
        have hnb := nb_figs (nn + 1) sl hslen hsl
        rw [hfe, Int.toNat_natCast] at hnb ⊢
        have p1 : 2 ≤ 2 ^ nn := by
          calc 2 = 2 ^ 1 := rfl
            _ ≤ 2 ^ nn := Nat.pow_le_pow_right (by decide) n1
        have p2 : 2 ^ (nn + 1) ≤ 2 ^ 40 := Nat.pow_le_pow_right (by decide) (by omega)
        have hlog : f.log2 = nn := by
          have a1 : nn ≤ f.log2 := (Nat.le_log2 (by omega)).mpr b1
          have a2 : f.log2 < nn + 1 := (Nat.log2_lt (by omega)).mpr b2
          omega
        refine ⟨by omega, by omega, ?_⟩
        rw [pref_big (by omega), hlog, n3, hnb, ← hsd, take_more ss h2 (by omega)]
  · refine ⟨nums, nn, pl, en, ?_, h1, h2, h3, h4, h5, h6⟩
    rw [stR, if_neg (by show ¬ ((pl : Int) < (ss.length : Int)); omega)]
theorem back_inv {ss : List Int} (hss : ∀ x ∈ ss, TapeR x) (hlen : ss.length ≤ 32) : ∀ k, BackInv ss (iterR ss k) := by
  intro k
  induction k with
  | zero =>
    refine ⟨[], 1, 0, 0, rfl, Nat.zero_le _, Nat.le_refl _, ?_, Nat.le_refl _, rfl, ?_⟩
    · intro x hx
      cases hx
    · intro _
      refine ⟨by omega, by omega, ?_⟩
      rw [pref_one, Nat.sub_self, List.take_zero]
  | succ k ih => exact back_step hss hlen ih
theorem back_law {ss nums : List Int} {number place ended : Int} (hss : ∀ x ∈ ss, TapeR x) (hlen : ss.length ≤ 32) (hR : RdEq ss nums number place ended) :
    (∀ x ∈ nums, 1 ≤ x ∧ x < 2 ^ 40) ∧ nums.length ≤ 32 ∧ signsF nums ++ ss.drop ended.toNat = ss := by
  obtain ⟨k, hk⟩ := hR
  obtain ⟨nums', nn, pl, en, e, h1, _, h3, h4, h5, _⟩ := back_inv hss hlen k
  rw [hk] at e
  have e1 : nums = nums' := congrArg (·.1) e
  have e4 : ended = (en : Int) := congrArg (·.2.2.2) e
  subst e1
  subst e4
  refine ⟨h3, by omega, ?_⟩
  rw [h5, Int.toNat_natCast, List.take_append_drop]
end Mine
end

-- part Nb_there
section
open PySem PySem.W PyProof.Rows
set_option maxRecDepth 100000
namespace Mine
theorem codeBits_nonneg (v x : Int) (h : x ∈ codeBits v) : 0 ≤ x := by
  unfold codeBits bitsOf at h
  obtain ⟨k, _, rfl⟩ := List.mem_map.mp h
  exact (bitAnd_range _ (by decide)).1
theorem signsF_nonneg (rs : List Int) : ∀ x ∈ signsF rs, 0 ≤ x := by
  intro x hx
  unfold signsF at hx
  obtain ⟨v, _, hv⟩ := List.mem_flatMap.mp hx
  exact codeBits_nonneg v x hv
theorem news_front {h₀ h : Heap} {L : Addr} {led : List (Addr × Obj)} {q : Addr × Obj} (N : News h₀ L h led) (hq : q ∈ led) : News h₀ L h (q :: led) := fun p hp => by
  rcases List.mem_cons.mp hp with rfl | hp
  · exact N _ hq
  · exact N p hp
local macro_rules | `(tactic| k_room) => `(tactic| (simp only [depth_under_make, depth_under_kw, depth_in1, depth_deeper, depth_caller, ktrTop]; omega))

set_option maxHeartbeats 8000000 in
theorem c_there : ∀ (w : World) (loose : List Str) (mean : ExcName → Option Value) (mg mb : Str → Option Value)
    (dp un : Nat) (gd : Option (List Code)) (cn : Str) (cs : Scope) (a : Addr) (ccd : Value) (cl : List (Str × Addr)) (outer : List Env) (A₀ : Around) (base h₀ : Heap) (L : Addr) (m : Str → Option Value) (news : List (Addr × Obj)) (s : Shared)
    (Q E : Value → Shared → Prop) (l : Addr) (vs : List Value) (n : Nat) (rs : List Int),
    Below A₀ base outer h₀ → Fr h₀ L s.heap m → (Mine.hd.heap_39 w.params).In h₀ → News h₀ L s.heap ((l, listOf vs.toArray n) :: news) → Top Mine.hd.view_39 loose mean mg mb h₀ → cs.kind = .function →
    IntsAre vs rs → (∀ r ∈ rs, NumR r) → rs.length ≤ 100 →
    dp + 8 < recursionLimit → un + 80 < cLine →
    (∀ h' tk', Fr h₀ L h' m → News h₀ L h' ((l, listOf vs.toArray n) :: news) → Q (.bool true) { s with heap := h', toks := tk' }) →
    wpAny (model PySem.Challenge.rw_nb0011_01.row.prog w) (ktrTop dp un gd cn cs L a ccd cl outer) (call (.ref 106) [.ref l]) Q E s := by
  k_fill
  w_top off
  intro w loose mean mg mb dp un gd cn cs a ccd cl outer A₀ base h₀ L m news s Q E l vs n rs B F X N T hk hi hrs hlen hdp hun hret
  refine wpAny_call ?_
  k_dflt ktr_enter
  k_with_none
  k_with "call ref" => (k_here; k_dflt (refine' c_signs _ _ _ _ _ _ _ _ _ _ _ _ _ _ _ _ _ _ _ _ _ _ _ _ _ _ _ ?kB ?kF ?kX ?kN ?kT ?kk ?k1 ?k2 ?k3 ?kd ?ku ?_; (case kB => k_asm); (case kF => k_asm); (case kX => k_asm); (case kN => k_asm); (case kT => k_asm); (case kk => exact rfl); (case k1 => k_asm); (case k2 => exact hrs); (case k3 => omega); (case kd => k_room); (case ku => ktr_units)); intro D1 us1 c1 h1 tk1 hI1 hL1 F1 N1 lt1; (try k_lt lt1); (try dsimp only); (try k_fold))
  k_with "call ref" => (k_here; k_dflt (refine' c_read _ _ _ _ _ _ _ _ _ _ _ _ _ _ _ _ _ _ _ _ _ _ _ _ _ _ _ ?kB ?kF ?kX ?kN ?kT ?kk ?k1 ?k2 ?k3 ?kd ?ku ?_; (case kB => k_asm); (case kF => k_asm); (case kX => k_asm); (case kN => k_asm); (case kT => k_asm); (case kk => exact rfl); (case k1 => k_asm); (case k2 => exact signsF_nonneg _); (case k3 => omega); (case kd => k_room); (case ku => ktr_units)); intro Dt Nn Rr us2 cu2 ws2 cw2 h2 tk2 nums number place ended hRd hpl hI2 hW2 F2 N2; (have hTh := there_law hrs hRd hpl); (obtain ⟨hT1, hT2⟩ := hTh); (rw [hT2] at hW2); (rw [hT1] at hI2); (try dsimp only); (try k_fold))
  k_steps
  all_goals exact hret _ _ (by k_asm) (fun p hp => (by k_asm : News h₀ L _ _) p (.tail _ (.tail _ (.tail _ (.tail _ (.tail _ hp))))))
end Mine
end

-- part Nb_back
section
open PySem PySem.W PyProof.Rows
set_option maxRecDepth 100000
namespace Mine
local macro_rules | `(tactic| k_room) => `(tactic| (simp only [depth_under_make, depth_under_kw, depth_in1, depth_deeper, depth_caller, ktrTop]; omega))

set_option maxHeartbeats 8000000 in
theorem c_back : ∀ (w : World) (loose : List Str) (mean : ExcName → Option Value) (mg mb : Str → Option Value)
    (dp un : Nat) (gd : Option (List Code)) (cn : Str) (cs : Scope) (a : Addr) (ccd : Value) (cl : List (Str × Addr)) (outer : List Env) (A₀ : Around) (base h₀ : Heap) (L : Addr) (m : Str → Option Value) (news : List (Addr × Obj)) (s : Shared)
    (Q E : Value → Shared → Prop) (l : Addr) (vs : List Value) (n : Nat) (ss : List Int),
    Below A₀ base outer h₀ → Fr h₀ L s.heap m → (Mine.hd.heap_39 w.params).In h₀ → News h₀ L s.heap ((l, listOf vs.toArray n) :: news) → Top Mine.hd.view_39 loose mean mg mb h₀ → cs.kind = .function →
    IntsAre vs ss → (∀ r ∈ ss, TapeR r) → ss.length ≤ 32 →
    dp + 8 < recursionLimit → un + 80 < cLine →
    (∀ h' tk', Fr h₀ L h' m → News h₀ L h' ((l, listOf vs.toArray n) :: news) → Q (.bool true) { s with heap := h', toks := tk' }) →
    wpAny (model PySem.Challenge.rw_nb0011_01.row.prog w) (ktrTop dp un gd cn cs L a ccd cl outer) (call (.ref 113) [.ref l]) Q E s := by
  k_fill
  w_top off
  intro w loose mean mg mb dp un gd cn cs a ccd cl outer A₀ base h₀ L m news s Q E l vs n ss B F X N T hk hi hss hlen hdp hun hret
  refine wpAny_call ?_
  k_dflt ktr_enter
  k_with_none
  k_with "call ref" => (k_here; k_dflt (refine' c_signs _ _ _ _ _ _ _ _ _ _ _ _ _ _ _ _ _ _ _ _ _ _ _ _ _ _ _ ?kB ?kF ?kX ?kN ?kT ?kk ?k1 ?k2 ?k3 ?kd ?ku ?_; (case kB => k_asm); (case kF => k_asm); (case kX => k_asm); (case kN => exact news_front (by k_asm) (by k_mem)); (case kT => k_asm); (case kk => exact rfl); (case k1 => k_asm); (case k2 => exact hB1); (case k3 => omega); (case kd => k_room); (case ku => ktr_units)); intro D1 us1 c1 h1 tk1 hI1 hL1 F1 N1 lt1; (try k_lt lt1); (try dsimp only); (try k_fold))
  k_with "call ref" => (k_here; k_dflt (refine' c_read _ _ _ _ _ _ _ _ _ _ _ _ _ _ _ _ _ _ _ _ _ _ _ _ _ _ _ ?kB ?kF ?kX ?kN ?kT ?kk ?k1 ?k2 ?k3 ?kd ?ku ?_; (case kB => k_asm); (case kF => k_asm); (case kX => k_asm); (case kN => k_asm); (case kT => k_asm); (case kk => exact rfl); (case k1 => k_asm); (case k2 => exact fun x hx => (hss x hx).1); (case k3 => omega); (case kd => k_room); (case ku => ktr_units)); intro Dt Nn Rr us2 cu2 ws2 cw2 h2 tk2 nums number place ended hRd hpl hI2 hW2 F2 N2; (have hBk := back_law hss hlen hRd); (obtain ⟨hB1, hB2, hB3⟩ := hBk); (try dsimp only); (try k_fold))
  k_steps
  rw [decide_eq_true hB3]
  exact hret _ _ (by k_asm) (fun p hp => (by k_asm : News h₀ L _ _) p (.tail _ (.tail _ (.tail _ (.tail _ (.tail _ (.tail _ hp)))))))
end Mine
end

-- part Nb_law
open PySem PySem.W PyProof.Rows
set_option maxRecDepth 100000 in
set_option maxHeartbeats 8000000 in
theorem PySem.Challenge.cw_nb0011_01_holds : PySem.Challenge.rw_nb0011_01.Holds := by
  refine Mine.hd ?_
  k_with_none
  k_with "call ref" => (k_here; k_dflt (refine' Mine.c_numbers _ _ _ _ _ _ _ _ _ _ _ _ _ _ _ _ _ _ _ _ _ _ _ _ _ _ ?kB ?kF ?kX ?kN ?kT ?kk ?k1 ?k2 ?k3 ?kd ?ku ?_; (case kB => k_asm); (case kF => k_asm); (case kX => k_asm); (case kN => k_asm); (case kT => k_asm); (case kk => exact rfl); (case k1 => k_asm); (case k2 => k_asm); (case k3 => omega); (case kd => decide); (case ku => decide)); intro D1 us1 rs1 c1 h1 tk1 hI1 hL1 hR1 F1 N1; (try dsimp only); (try k_fold))
  k_with "call ref" => (k_here; k_dflt (refine' Mine.c_tape _ _ _ _ _ _ _ _ _ _ _ _ _ _ _ _ _ _ _ _ _ _ _ _ _ _ ?kB ?kF ?kX ?kN ?kT ?kk ?k1 ?k2 ?k3 ?kd ?ku ?_; (case kB => k_asm); (case kF => k_asm); (case kX => k_asm); (case kN => k_asm); (case kT => k_asm); (case kk => exact rfl); (case k1 => k_asm); (case k2 => k_asm); (case k3 => omega); (case kd => decide); (case ku => decide)); intro D2 us2 rs2 c2 h2 tk2 hI2 hL2 hR2 F2 N2; (try dsimp only); (try k_fold))
  k_with "call ref" => (k_here; k_dflt (refine' Mine.c_there _ _ _ _ _ _ _ _ _ _ _ _ _ _ _ _ _ _ _ _ _ _ _ _ _ _ _ ?kB ?kF ?kX ?kN ?kT ?kk ?k1 ?k2 ?k3 ?kd ?ku ?_; (case kB => k_asm); (case kF => k_asm); (case kX => k_asm); (case kN => exact Mine.news_front (by k_asm) (by k_mem)); (case kT => k_asm); (case kk => exact rfl); (case k1 => k_asm); (case k2 => k_asm); (case k3 => omega); (case kd => decide); (case ku => decide)); intro h3 tk3 F3 N3; (try dsimp only); (try k_fold))
  k_with "call ref" => (k_here; k_dflt (refine' Mine.c_back _ _ _ _ _ _ _ _ _ _ _ _ _ _ _ _ _ _ _ _ _ _ _ _ _ _ _ ?kB ?kF ?kX ?kN ?kT ?kk ?k1 ?k2 ?k3 ?kd ?ku ?_; (case kB => k_asm); (case kF => k_asm); (case kX => k_asm); (case kN => exact Mine.news_front (by k_asm) (by k_mem)); (case kT => k_asm); (case kk => exact rfl); (case k1 => k_asm); (case k2 => k_asm); (case k3 => omega); (case kd => decide); (case ku => decide)); intro h4 tk4 F4 N4; (try dsimp only); (try k_fold))
  w_strict k_go
