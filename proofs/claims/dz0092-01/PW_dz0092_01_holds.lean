import PyProof.Rows.All
import Wide.All
import OpenK.AllK
import Wide.FinOn
import PySem.Challenge.RW_dz0092_01
set_option Elab.async false
section
open PySem PySem.W PyProof.Rows
namespace Mine
set_option maxRecDepth 100000 in
set_option maxHeartbeats 8000000 in
open_top hd for PySem.Challenge.rw_dz0092_01
end Mine
end
section
open PySem PySem.W PyProof.Rows PySem.Spec PySem.Calls
namespace Mine
abbrev tupO (a b : Str) (t u : Tok) (c : Nat) : Obj := { cls := .type "tuple", data := .seq #[.str a t, .str b u] c }
/-- what a call that makes a pair of texts leaves: the pair, new, on top of the ledger that stood -/
def Ret2 (h₀ : Heap) (L : Addr) (m : Str → Option Value) (news : List (Addr × Obj)) (s : Shared) (r : Str × Str) (v : Value) (s' : Shared) : Prop :=
  ∃ (D : Addr) (t1 t2 : Tok) (c : Nat) (h : Heap) (tk : Nat), v = .ref D ∧ s' = { s with heap := h, toks := tk } ∧ Fr h₀ L h m ∧ News h₀ L h ((D, tupO r.1 r.2 t1 t2 c) :: news) ∧ (∀ p ∈ news, p.1 < D)

/-- the contract of a def of one text that gives a pair of texts -/
def Calls2 (w : World) (f : Addr) (g : Str → Str × Str) : Prop :=
  ∀ (mean : ExcName → Option Value) (mg mb : Str → Option Value) (dp un : Nat) (gd : Option (List Code)) (cn : Str) (cs : Scope) (a : Addr) (ccd : Value) (cl : List (Str × Addr)) (outer : List Env) (A₀ : Around) (base h₀ : Heap) (L : Addr) (m : Str → Option Value) (news : List (Addr × Obj)) (s : Shared) (x : Str) (t : Tok) (E : Value → Shared → Prop),
    Below A₀ base outer h₀ → Fr h₀ L s.heap m → (hd.heap_39 w.params).In h₀ → News h₀ L s.heap news → Top hd.view_39 (looseW hd.view_39 []) mean mg mb h₀ → cs.kind = .function → x.length ≤ 100 → dp + 1 < recursionLimit → un + 8 < cLine →
    wpAny (model Challenge.rw_dz0092_01.row.prog w) (ktrTop dp un gd cn cs L a ccd cl outer) (call (.ref f) [.str x t]) (Ret2 h₀ L m news s (g x)) E s

section
variable {prog : Program} {w : World} {A : Around} {h₀ : Heap} {L : Addr} {m : Str → Option Value} {env : Env} {ct elt : Expr} {x : Str} {scope : Scope} {cl : List (Str × Addr)} {s : Shared} {Fin : List Value → List (Addr × Obj) → Prop} {news : List (Addr × Obj)}
def KeepEl (news : List (Addr × Obj)) (b : Bool) (k : Int) (y : Value) (news' : List (Addr × Obj)) : Prop := news' = news ∧ b = true ∧ ∃ t : Tok, y = .int k t
def KeepNo (news : List (Addr × Obj)) (b : Bool) (news' : List (Addr × Obj)) : Prop := news' = news ∧ b = false

/-- a comprehension over a range that keeps the numbers of one test: what it makes is a filter -/
theorem comp_filter {n : Nat} (p : Int → Bool)
    (turn : ∀ k t I oI C oC D m₂ ys h tk (E' : Value → Shared → Prop), 0 ≤ k → k < (n : Int) → LCg.NsObj oC m₂ → m₂ x = some (.int k t) → Fr h₀ L h m → News h₀ L h ((I, oI) :: (C, oC) :: (D, LCg.lst ys) :: news) → LCg.Off3 I C D news → ((@Ne Nat I C) ∧ (@Ne Nat I D) ∧ (@Ne Nat C D)) →
      wpAny (model prog w) A (isTrue ct (compEnvC scope cl C env) (eval ct (compEnvC scope cl C env))) (fun b s' => if b = true then wpAny (model prog w) A (eval elt (compEnvC scope cl C env)) (LCg.CompEnd h₀ L m { s with heap := h, toks := tk } I oI C oC D (LCg.lst ys) (fun _ => True) (fun y news' => KeepEl news (p k) k y news')) E' s'
        else LCg.CompEnd h₀ L m { s with heap := h, toks := tk } I oI C oC D (LCg.lst ys) (fun _ => True) (fun _ news' => KeepNo news (p k) news') Value.none s') E' { s with heap := h, toks := tk })
    (fin : ∀ ys ns, ns = (rangeKs 0 n).filter p → IntsAre ys ns → ys.length ≤ n → ns.length ≤ n → Fin ys news) : LCt.CompRestT prog w A h₀ L m env ct elt x scope cl s (fun _ => True) (fun i v => ∃ t, v = .int (0 + (i : Int)) t) Fin n 0 [] news := by
  have hfold : ∀ (ks acc : List Int), ks.foldl (fun l k => if p k = true then l ++ [k] else l) acc = acc ++ ks.filter p := by
    intro ks
    induction ks with
    | nil => intro acc; simp
    | cons k r ih =>
      intro acc
      rw [List.foldl_cons, ih]
      cases hk : p k <;> simp [hk]
  refine kci_range (fun l k => if p k = true then l ++ [k] else l) ?_ ?_ ?_
  · intro k t I oI C oC D m₂ ys l h tk E' h0 h1 _ hC hx F N off ne _
    refine wpAny_mono (turn k t I oI C oC D m₂ ys h tk E' h0 (by omega) hC hx F N off ne) (fun b s₂ hq => ?_) fun _ _ e => e
    cases b with
    | true =>
      simp only [if_true] at hq ⊢
      refine wpAny_mono hq (fun y s₃ hr => ?_) fun _ _ e => e
      obtain ⟨h', tk', nw, e, F', N', off', hS, hn, hp, t', hy⟩ := hr
      exact ⟨h', tk', nw, e, F', N', off', hS, hn, k, t', hy, by rw [if_pos hp]⟩
    | false =>
      simp only [Bool.false_eq_true, if_false] at hq ⊢
      obtain ⟨h', tk', nw, e, F', N', off', hS, hn, hp⟩ := hq
      exact ⟨h', tk', nw, e, F', N', off', hS, hn, by rw [hp]; rfl⟩
  · unfold KPfDone
    intro ys hy hl
    rw [hfold, List.nil_append] at hy
    exact fin ys _ rfl hy hl (by rw [← hy.length]; exact hl)
  · unfold KPfGrows
    intro l k
    dsimp only
    split <;> simp
end
end Mine
end
section
open PySem PySem.W PyProof.Rows PySem.Spec PySem.Calls
namespace Mine
section
variable {prog : Program} {w : World} {A : Around} {E : Value → Shared → Prop} {s : Shared} {h₀ : Heap} {L : Addr} {m : Str → Option Value} {env : Env}
/-- the source of a comprehension is a text, its element a bool of the sign -/
def SrcS (prog : Program) (w : World) (A : Around) (h₀ : Heap) (L : Addr) (m : Str → Option Value) (env : Env) (elt : Expr) (x : Str) (scope : Scope) (cl : List (Str × Addr)) (Q : Value → Shared → Prop) (xv : Value) (s₁ : Shared) : Prop :=
  ∃ (y : Str) (t : Tok) (news : List (Addr × Obj)) (q : Nat → Bool), xv = .str y t ∧ A.handled = none ∧ Fr h₀ L s₁.heap m ∧ News h₀ L s₁.heap news ∧ y.length ≤ sizeLine ∧
    (∀ c u I oI C oC D m₂ ys h tk (E' : Value → Shared → Prop), LCg.NsObj oC m₂ → m₂ x = some (.str ⟨#[c]⟩ u) → Fr h₀ L h m → News h₀ L h ((I, oI) :: (C, oC) :: (D, LCg.lst ys) :: news) → LCg.Off3 I C D news → ((@Ne Nat I C) ∧ (@Ne Nat I D) ∧ (@Ne Nat C D)) →
      wpAny (model prog w) A (eval elt (compEnvC scope cl C env)) (LCg.CompEnd h₀ L m { s₁ with heap := h, toks := tk } I oI C oC D (LCg.lst ys) (fun _ => True) (fun v news' => news' = news ∧ v = .bool (q c))) E' { s₁ with heap := h, toks := tk }) ∧
    (∀ ys D h tk, LSm.BoolsAre ys (y.cps.toList.map q) → ys.length ≤ y.length → Fr h₀ L h m → News h₀ L h ((D, LCg.lst ys) :: news) → LCg.Off1 D news → Q (.ref D) { s₁ with heap := h, toks := tk })

theorem bools_snoc {vs : List Value} {bs : List Bool} {b : Bool} (h : LSm.BoolsAre vs bs) : LSm.BoolsAre (vs ++ [.bool b]) (bs ++ [b]) := kbo_app h (.cons _ .nil)

theorem signs_rest {elt : Expr} {x : Str} {scope : Scope} {cl : List (Str × Addr)} {y : Str} {q : Nat → Bool} {news : List (Addr × Obj)} {Fin : List Value → List (Addr × Obj) → Prop}
    (turn : ∀ c u I oI C oC D m₂ ys h tk (E' : Value → Shared → Prop), LCg.NsObj oC m₂ → m₂ x = some (.str ⟨#[c]⟩ u) → Fr h₀ L h m → News h₀ L h ((I, oI) :: (C, oC) :: (D, LCg.lst ys) :: news) → LCg.Off3 I C D news → ((@Ne Nat I C) ∧ (@Ne Nat I D) ∧ (@Ne Nat C D)) →
      wpAny (model prog w) A (eval elt (compEnvC scope cl C env)) (LCg.CompEnd h₀ L m { s with heap := h, toks := tk } I oI C oC D (LCg.lst ys) (fun _ => True) (fun v news' => news' = news ∧ v = .bool (q c))) E' { s with heap := h, toks := tk })
    (fin : ∀ ys, LSm.BoolsAre ys (y.cps.toList.map q) → ys.length ≤ y.length → Fin ys news) :
    LCg.CompRest prog w A h₀ L m env elt x scope cl s (fun _ => True) (SignAt y) Fin y.cps.size 0 [] news := by
  have key : ∀ (j i : Nat) (ys : List Value), i + j = y.cps.size → LSm.BoolsAre ys ((y.cps.toList.take i).map q) → ys.length = i → LCg.CompRest prog w A h₀ L m env elt x scope cl s (fun _ => True) (SignAt y) Fin j i ys news := by
    intro j
    induction j with
    | zero =>
      intro i ys hi hy hl
      have e : (y.cps.toList.take i) = y.cps.toList := List.take_of_length_le (by simp; omega)
      rw [e] at hy
      exact LCg.CompRest.zero (fin ys hy (by show ys.length ≤ y.cps.size; omega))
    | succ j ih =>
      intro i ys hi hy hl
      refine LCg.CompRest.succ ?_
      intro v I oI C oC D m₂ h tk E' hv hC hx F N off ne
      obtain ⟨c, u, hc, rfl⟩ := hv
      refine wpAny_mono (turn c u I oI C oC D m₂ ys h tk E' hC hx F N off ne) (fun v s₂ hq => ?_) fun _ _ e => e
      obtain ⟨h', tk', nw, e, F', N', off', hS, rfl, rfl⟩ := hq
      refine ⟨h', tk', nw, e, F', N', off', hS, ih (i + 1) _ (by omega) ?_ (by simp [hl])⟩
      have ht : y.cps.toList.take (i + 1) = y.cps.toList.take i ++ [c] := by
        rw [List.take_add_one]
        have : y.cps.toList[i]? = some c := by simpa using hc
        rw [this]
        rfl
      rw [ht, List.map_append]
      exact bools_snoc hy
  exact key y.cps.size 0 [] (by omega) (by simp only [List.take_zero, List.map_nil]; exact .nil) rfl

theorem ListComp_S {elt iter : Expr} {x : Str} {px : Pos} {scope : Scope} {cl : List (Str × Addr)} {pos : Pos} {Q : Value → Shared → Prop} (F₀ : Fr h₀ L s.heap m)
    (hclos : closureFor scope env = pure cl) (hcell : ∀ y ∈ scope.names, y.2 ≠ .cell) (hkind : scope.kind = .function)
    (hnames : ∀ y ∈ scope.names, y.2 = .local → scope.names.lookup y.1 = some .local) (hx : scope.names.lookup x = some .local)
    (h : wpAny (model prog w) A (eval iter env) (SrcS prog w A h₀ L m env elt x scope cl Q) E s)
    (hs : ∀ x, foldedSetIterable iter env x = pure x := by intro _; rfl) :
    wpAny (model prog w) A (eval (.ListComp elt [⟨.Name x px, iter, [], 0⟩] scope pos) env) Q E s := by
  rw [eval_ListComp]
  refine wpAny_comprehension_free (use := none) rfl hs hclos hkind hnames (wpAny_mono h (fun xv s₁ h₁ => ?_) fun _ _ e => e)
  obtain ⟨y, t, news, q, rfl, hh, F, N, hsz, turn, fin⟩ := h₁
  cases ha : y.cps.all (· < 128)
  · refine wpAny_pyIter_wide ha ?_
    refine LCg.block_U (Walks.strWide hh _ y t) (S := fun _ => True) hsz (fun i h st => by obtain ⟨o, e, _⟩ := st; exact ⟨o, e⟩)
      (fun i h h' o nw st e e' _ _ _ => by obtain ⟨o', q', r⟩ := st; rw [e] at q'; cases q'; exact ⟨o, e', r⟩) hcell hkind hx ⟨_, Heap.get?_push_size _ rfl, rfl, rfl⟩ (fun b hb => ?_)
      (F.keeps fun _ _ e => Heap.get?_push_of_some _ e) (N.grown fun _ _ e => Heap.get?_push_of_some _ e) (Nat.ne_of_lt F.ns.lt) (next_is_new F) (fun p hp => Nat.ne_of_lt (Heap.lt_size (N p hp).1)) trivial
      (signs_rest (q := q) (Fin := LCg.FinE h₀ L m s₁ Q) turn fun ys hy hl D h tk F' N' o1 => fin ys D h tk hy hl F' N' o1) ?_
    · rw [List.mem_singleton.mp hb]
      show s₁.heap.objs.size < (s₁.heap.push _).objs.size
      rw [Heap.size_push]; exact Nat.lt_succ_self _
    · intro D C h tk m' ys news' F' N' o1 hn hC₀ hD₀ hCL hDL hCD offC fin
      refine ⟨m', hn, fun h'' hs'' => fin D h'' tk (F'.change hs'' hCL hC₀) (fun p hp => ?_) o1⟩
      refine ⟨hs''.extBut _ _ ?_ (N' p hp).1, (N' p hp).2⟩
      rcases List.mem_cons.mp hp with rfl | hp
      · exact Ne.symm hCD
      · exact offC p hp
  · refine wpAny_pyIter_ascii ha ?_
    refine LCg.block_U (Walks.strAscii hh _ y t) (S := fun _ => True) hsz (fun i h st => by obtain ⟨o, e, _⟩ := st; exact ⟨o, e⟩)
      (fun i h h' o nw st e e' _ _ _ => by obtain ⟨o', q', r⟩ := st; rw [e] at q'; cases q'; exact ⟨o, e', r⟩) hcell hkind hx ⟨_, Heap.get?_push_size _ rfl, rfl, rfl⟩ (fun b hb => ?_)
      (F.keeps fun _ _ e => Heap.get?_push_of_some _ e) (N.grown fun _ _ e => Heap.get?_push_of_some _ e) (Nat.ne_of_lt F.ns.lt) (next_is_new F) (fun p hp => Nat.ne_of_lt (Heap.lt_size (N p hp).1)) trivial
      (signs_rest (q := q) (Fin := LCg.FinE h₀ L m s₁ Q) turn fun ys hy hl D h tk F' N' o1 => fin ys D h tk hy hl F' N' o1) ?_
    · rw [List.mem_singleton.mp hb]
      show s₁.heap.objs.size < (s₁.heap.push _).objs.size
      rw [Heap.size_push]; exact Nat.lt_succ_self _
    · intro D C h tk m' ys news' F' N' o1 hn hC₀ hD₀ hCL hDL hCD offC fin
      refine ⟨m', hn, fun h'' hs'' => fin D h'' tk (F'.change hs'' hCL hC₀) (fun p hp => ?_) o1⟩
      refine ⟨hs''.extBut _ _ ?_ (N' p hp).1, (N' p hp).2⟩
      rcases List.mem_cons.mp hp with rfl | hp
      · exact Ne.symm hCD
      · exact offC p hp
end
end Mine
end
section
open PySem PySem.W PyProof.Rows PySem.Spec PySem.Calls
namespace Mine
theorem all_ne {news : List (Addr × Obj)} {L c : Nat} (h : ∀ p ∈ news, p.1 < L) (hc : L ≤ c) : ∀ p ∈ news, p.1 ≠ c := fun p hp e => by
  have := h p hp
  rw [e] at this
  exact absurd (Nat.lt_of_lt_of_le this hc) (Nat.lt_irrefl _)
theorem gen_cell {o : Obj} {b : Str} {t : Tok} {G : Prop} (h : o.data = .cell (some (.str b t))) (k : ∀ b', b' = b → o.data = .cell (some (.str b' t)) → G) : G := k b rfl h
theorem of_beq' {a b : Str} (h : (a == b) = true) : decide (a = b) = true := decide_eq_true (by simpa using h)
theorem of_nbeq' {a b : Str} (h : (a == b) = false) : decide (a = b) = false := decide_eq_false (by simpa using h)
theorem ret2_end {h₀ h : Heap} {L D : Addr} {m : Str → Option Value} {news rest : List (Addr × Obj)} {s : Shared} {a b : Str} {t u : Tok} {c tk : Nat} {r : Str × Str}
    (F : Fr h₀ L h m) (N : News h₀ L h ((D, tupO a b t u c) :: rest)) (hs : ∀ p ∈ news, p ∈ rest) (hl : ∀ p ∈ news, p.1 < D) (e : r = (a, b)) : Ret2 h₀ L m news s r (.ref D) { s with heap := h, toks := tk } := by
  subst e
  refine ⟨D, t, u, c, h, tk, rfl, rfl, F, fun p hp => ?_, hl⟩
  rcases List.mem_cons.mp hp with rfl | hp
  · exact N _ List.mem_cons_self
  · exact N p (List.mem_cons_of_mem _ (hs p hp))
/-- the walk halts here: the line is mine -/
def Stop (P : Prop) : Prop := P
theorem Stop.out {P : Prop} (h : Stop P) : P := h

theorem join_bound (sep : Str) : ∀ parts : List Str, (parts.map (·.length)).sum + parts.length * sep.length ≤ (Str.join sep parts).length + sep.length
  | [] => by simp
  | [x] => by
    show _ ≤ x.length + sep.length
    simp
  | x :: y :: r => by
    have h := join_bound sep (y :: r)
    show _ ≤ (x ++ sep ++ Str.join sep (y :: r)).length + sep.length
    rw [Str.length_append, Str.length_append]
    simp only [List.map_cons, List.sum_cons, List.length_cons, Nat.succ_mul] at h ⊢
    omega
theorem split_bound (x sep : Str) : ((Txt.split x sep).map (·.length)).sum + (Txt.split x sep).length * sep.length ≤ x.length + sep.length := by
  have h := join_bound sep (Txt.split x sep)
  rw [StrLaws.join_split] at h
  exact h
theorem sum_mem : ∀ (parts : List Str) (p : Str), p ∈ parts → p.length ≤ (parts.map (·.length)).sum
  | [], _, h => nomatch h
  | x :: r, p, h => by
    simp only [List.map_cons, List.sum_cons]
    rcases List.mem_cons.mp h with rfl | h
    · omega
    · have := sum_mem r p h
      omega
theorem split_part_le {x sep p : Str} (h : p ∈ Txt.split x sep) : p.length ≤ x.length + sep.length := by
  have h1 := split_bound x sep
  have h2 := sum_mem _ _ h
  omega
theorem split_count {x sep : Str} (h : 1 ≤ sep.length) : (Txt.split x sep).length ≤ x.length + sep.length := by
  have h1 := split_bound x sep
  have h2 : (Txt.split x sep).length ≤ (Txt.split x sep).length * sep.length := Nat.le_mul_of_pos_right _ h
  omega
theorem joinOk_drop {x sep : Str} (n : Nat) (h : x.length + sep.length ≤ 1000) : JoinOk sep ((Txt.split x sep).drop n) = true := by
  unfold JoinOk
  rw [Bool.not_eq_true', StrLaws.joinTotal]
  have h1 := split_bound x sep
  have h2 : ∀ (l : List Str) (n : Nat), ((l.drop n).map (·.length)).sum + (l.drop n).length * sep.length ≤ (l.map (·.length)).sum + l.length * sep.length := by
    intro l
    induction l with
    | nil => intro n; simp
    | cons a r ih =>
      intro n
      cases n with
      | zero => simp
      | succ n =>
        have := ih n
        simp only [List.drop_succ_cons, List.map_cons, List.sum_cons, List.length_cons, Nat.succ_mul]
        omega
  have h3 := h2 (Txt.split x sep) n
  unfold Builtin.Str.tooLong
  rw [sizeLine_eq]
  simp only [decide_eq_false_iff_not]
  omega
theorem joinOk_all {x sep : Str} (h : x.length + sep.length ≤ 1000) : JoinOk sep (Txt.split x sep) = true := joinOk_drop 0 h
theorem pick_from (l : List (Str × Tok)) : slicePick (strValues l).toArray (some 2) none none = (strValues (l.drop 2)).toArray := by
  rw [kms_pick_eq]
  unfold kms_pick kms_lo kms_hi strValues
  simp only [List.map_drop, List.length_map]
  rw [if_neg (by decide), show (2 : Int).toNat = 2 from rfl]
  congr 1
  rw [List.take_of_length_le (by rw [List.length_drop, List.length_map]; omega)]
  have h := kmk_drop_min (l.map fun p => Value.str p.1 p.2) 2
  rw [List.length_map] at h
  exact h

theorem nl_len : (Str.ofString "\n").length = 1 := by decide
/-- what splitdoc gives -/
def splitd (x : Str) : Str × Str :=
  match Txt.split (Txt.strip x) (Str.ofString "\n") with
  | [a] => (a, Str.ofString "")
  | a :: b :: r => if (Txt.rstrip b).length = 0 then (a, Txt.join (Str.ofString "\n") r) else (Str.ofString "", Txt.join (Str.ofString "\n") (a :: b :: r))
  | [] => (Str.ofString "", Txt.join (Str.ofString "\n") [])
theorem splitd_1 {x y : Str} {ps : List Str} (h : ps = Txt.split (Txt.strip x) (Str.ofString "\n")) (hl : ps.length = 1) (h0 : ps[0]? = some y) : splitd x = (y, Str.ofString "") := by
  unfold splitd
  rw [← h]
  match ps, hl, h0 with
  | [a], _, h0 => simp at h0; subst h0; rfl
theorem splitd_2 {x y z : Str} {ps : List Str} (h : ps = Txt.split (Txt.strip x) (Str.ofString "\n")) (h0 : ps[0]? = some y) (h1 : ps[1]? = some z) (hz : (Txt.rstrip z).length = 0) : splitd x = (y, Txt.join (Str.ofString "\n") (ps.drop 2)) := by
  unfold splitd
  rw [← h]
  match ps, h0, h1 with
  | a :: b :: r, h0, h1 => simp at h0 h1; subst h0; subst h1; simp [hz]
theorem splitd_3 {x z : Str} {ps : List Str} (h : ps = Txt.split (Txt.strip x) (Str.ofString "\n")) (h1 : ps[1]? = some z) (hz : (Txt.rstrip z).length ≠ 0) : splitd x = (Str.ofString "", Txt.join (Str.ofString "\n") ps) := by
  unfold splitd
  rw [← h]
  match ps, h1 with
  | a :: b :: r, h1 => simp at h1; subst h1; simp [hz]
theorem splitd_0 {x : Str} {ps : List Str} (h : ps = Txt.split (Txt.strip x) (Str.ofString "\n")) (h1 : ps.length ≠ 1) (h2 : ¬ 2 ≤ ps.length) : splitd x = (Str.ofString "", Txt.join (Str.ofString "\n") ps) := by
  unfold splitd
  rw [← h]
  match ps, h1, h2 with
  | [], _, _ => rfl
  | [_], h1, _ => exact absurd rfl h1
  | _ :: _ :: _, _, h2 => exact absurd (by simp) h2
end Mine
end
section
open PySem PySem.W PyProof.Rows PySem.Spec PySem.Calls
namespace Mine
def fullOf (x : Str) : List Int := (rangeKs 0 ((x.length : Int) - 0).toNat).filter (fun k => !Txt.isspace (Txt.item x k))
def bareOf (x : Str) : Str := if 0 < (fullOf x).length then Txt.slice x (some ((fullOf x).getD (Int.toNat 0) 0)) (some ((fullOf x).getD (-1 + ((fullOf x).length : Int)).toNat 0 + 1)) else Str.ofString ""
def endsOf (b : Str) : List Int := (rangeKs 0 ((b.length : Int) - 0).toNat).filter (fun k => decide (Txt.item b k = Str.ofString "\n"))
/-- what the law's own _law_told gives -/
def told (x : Str) : Str × Str :=
  if 0 < (endsOf (bareOf x)).length then
    if 1 < (endsOf (bareOf x)).length ∧ ((Txt.slice (bareOf x) (some ((endsOf (bareOf x)).getD (Int.toNat 0) 0 + 1)) (some ((endsOf (bareOf x)).getD (Int.toNat 1) 0))).cps.toList.map (fun c => Txt.isspace ⟨#[c]⟩)).all id = true then
      (Txt.slice (bareOf x) none (some ((endsOf (bareOf x)).getD (Int.toNat 0) 0)), Txt.slice (bareOf x) (some ((endsOf (bareOf x)).getD (Int.toNat 1) 0 + 1)) none)
    else (Str.ofString "", bareOf x)
  else (bareOf x, Str.ofString "")
section
variable {x b : Str} {full ends : List Int}
theorem bareOf_1 (hf : full = (rangeKs 0 ((x.length : Int) - 0).toNat).filter (fun k => !Txt.isspace (Txt.item x k))) (h : 0 < full.length)
    (hb : b = Txt.slice x (some (full.getD (Int.toNat 0) 0)) (some (full.getD (-1 + (full.length : Int)).toNat 0 + 1))) : bareOf x = b := by
  have e : full = fullOf x := hf
  subst e
  subst hb
  exact if_pos h
theorem bareOf_0 (hf : full = (rangeKs 0 ((x.length : Int) - 0).toNat).filter (fun k => !Txt.isspace (Txt.item x k))) (h : ¬ 0 < full.length) (hb : b = Str.ofString "") : bareOf x = b := by
  have e : full = fullOf x := hf
  subst e
  subst hb
  exact if_neg h
theorem told_0 (hb : bareOf x = b) (he : ends = (rangeKs 0 ((b.length : Int) - 0).toNat).filter (fun k => decide (Txt.item b k = Str.ofString "\n"))) (h : ¬ 0 < ends.length) : told x = (b, Str.ofString "") := by
  subst hb
  have e : ends = endsOf (bareOf x) := he
  subst e
  exact if_neg h
theorem told_1 (hb : bareOf x = b) (he : ends = (rangeKs 0 ((b.length : Int) - 0).toNat).filter (fun k => decide (Txt.item b k = Str.ofString "\n"))) (h : 0 < ends.length) (h1 : ¬ 1 < ends.length) : told x = (Str.ofString "", b) := by
  subst hb
  have e : ends = endsOf (bareOf x) := he
  subst e
  exact (if_pos h).trans (if_neg fun q => h1 q.1)
theorem told_2 (hb : bareOf x = b) (he : ends = (rangeKs 0 ((b.length : Int) - 0).toNat).filter (fun k => decide (Txt.item b k = Str.ofString "\n"))) (h : 0 < ends.length)
    (ha : ¬ ((Txt.slice b (some (ends.getD (Int.toNat 0) 0 + 1)) (some (ends.getD (Int.toNat 1) 0))).cps.toList.map (fun c => Txt.isspace ⟨#[c]⟩)).all id = true) : told x = (Str.ofString "", b) := by
  subst hb
  have e : ends = endsOf (bareOf x) := he
  subst e
  exact (if_pos h).trans (if_neg fun q => ha q.2)
theorem told_3 (hb : bareOf x = b) (he : ends = (rangeKs 0 ((b.length : Int) - 0).toNat).filter (fun k => decide (Txt.item b k = Str.ofString "\n"))) (h : 0 < ends.length) (h1 : 1 < ends.length)
    (ha : ((Txt.slice b (some (ends.getD (Int.toNat 0) 0 + 1)) (some (ends.getD (Int.toNat 1) 0))).cps.toList.map (fun c => Txt.isspace ⟨#[c]⟩)).all id = true) :
    told x = (Txt.slice b none (some (ends.getD (Int.toNat 0) 0)), Txt.slice b (some (ends.getD (Int.toNat 1) 0 + 1)) none) := by
  subst hb
  have e : ends = endsOf (bareOf x) := he
  subst e
  exact (if_pos h).trans (if_pos ⟨h1, ha⟩)
end
end Mine
end
section
open PySem PySem.W PyProof.Rows PySem.Spec PySem.Calls
namespace Mine
/-- two new pairs of equal texts: != answers False -/
theorem ne_pair {prog : Program} {w : World} {A : Around} {E : Value → Shared → Prop} {s : Shared} {a b : Addr} {h₀ : Heap} {L : Addr} {news : List (Addr × Obj)} {p q : Str} {t u t' u' : Tok} {c c' : Nat} {Q : Value → Shared → Prop}
    (N : News h₀ L s.heap news) (m1 : (a, tupO p q t u c) ∈ news) (m2 : (b, tupO p q t' u' c') ∈ news) (hu : A.units < cLine) (h : Q (.bool false) s) : wpAny (model prog w) A (compareOp .NotEq (.ref a) (.ref b)) Q E s := by
  have H := SeqAt.RcNeAt.tuples (A := A) (s := s) (items := #[.str p t, .str q u]) (items2 := #[.str p t', .str q u']) (e := fun _ => true) ⟨_, N.get m1, rfl, _, rfl⟩ ⟨_, N.get m2, rfl, _, rfl⟩ hu (by
    intro j h1 h2
    have hp : SeqAt.EqAt A.in1 s (.str p t) (.str p t') true := by
      have := SeqAt.EqAt.str_str (A := A.in1) (s := s) p t p t'
      rwa [beq_self_eq_true] at this
    have hq : SeqAt.EqAt A.in1 s (.str q u) (.str q u') true := by
      have := SeqAt.EqAt.str_str (A := A.in1) (s := s) q u q u'
      rwa [beq_self_eq_true] at this
    match j, h1, h2 with
    | 0, _, _ => exact hp
    | 1, _, _ => exact hq
    | n + 2, h1, _ => exact absurd h1 (by simp))
  exact H prog w E Q h
end Mine
end
section
open PySem PySem.W PyProof.Rows PySem.Spec PySem.Calls PySem.Builtin PySem.Builtin.Str
namespace Mine
/-- the places of the signs that a test takes, from i on -/
def posR (p : Nat → Bool) : Nat → List Nat → List Int
  | _, [] => []
  | i, c :: r => if p c = true then (i : Int) :: posR p (i + 1) r else posR p (i + 1) r
theorem posR_append (p : Nat → Bool) : ∀ (P : List Nat) (i : Nat) (R : List Nat), posR p i (P ++ R) = posR p i P ++ posR p (i + P.length) R
  | [], i, R => by simp [posR]
  | c :: P, i, R => by
    have h := posR_append p P (i + 1) R
    have e : i + 1 + P.length = i + (c :: P).length := by simp only [List.length_cons]; omega
    rw [e] at h
    simp only [List.cons_append, posR, h]
    split <;> rfl
theorem posR_none {p : Nat → Bool} : ∀ (P : List Nat) (i : Nat), (∀ c ∈ P, p c = false) → posR p i P = []
  | [], _, _ => rfl
  | c :: P, i, h => by
    have h1 := h c List.mem_cons_self
    have h2 := posR_none P (i + 1) fun d hd => h d (List.mem_cons_of_mem _ hd)
    simp [posR, h1, h2]
theorem filter_from (p : Nat → Bool) (q : Int → Bool) : ∀ (R : List Nat) (i : Nat), (∀ (k : Nat) (hk : k < R.length), q ((i + k : Nat) : Int) = p R[k]) → ((List.range R.length).map fun j => ((i + j : Nat) : Int)).filter q = posR p i R
  | [], _, _ => rfl
  | c :: R, i, h => by
    have h0 := h 0 (by simp)
    simp only [List.getElem_cons_zero, Nat.add_zero] at h0
    have ih := filter_from p q R (i + 1) fun k hk => by
      have := h (k + 1) (by simpa using hk)
      simp only [List.getElem_cons_succ] at this
      rw [← this]
      congr 2
      omega
    have e : (List.range (c :: R).length).map (fun j => ((i + j : Nat) : Int)) = ((i : Nat) : Int) :: (List.range R.length).map (fun j => ((i + 1 + j : Nat) : Int)) := by
      rw [List.length_cons, List.range_succ_eq_map, List.map_cons, List.map_map]
      refine List.cons_eq_cons.mpr ⟨by simp, List.map_congr_left fun j _ => ?_⟩
      simp only [Function.comp]
      omega
    rw [e, List.filter_cons, h0, ih]
    simp only [posR]
theorem filter_pos (p : Nat → Bool) (q : Int → Bool) (X : List Nat) (n : Nat) (hn : n = X.length) (h : ∀ (k : Nat) (hk : k < X.length), q (k : Int) = p X[k]) : (rangeKs 0 n).filter q = posR p 0 X := by
  subst hn
  have h1 := filter_from p q X 0 (fun k hk => by rw [← h k hk]; congr 1; omega)
  rw [← h1]
  unfold rangeKs
  refine congrArg (List.filter q) (List.map_congr_left fun j _ => ?_)
  omega
theorem item_at (x : Str) (k : Nat) (hk : k < x.cps.toList.length) : Txt.item x (k : Int) = ⟨#[x.cps.toList[k]]⟩ := by
  have hk' : k < x.cps.size := by simpa using hk
  unfold Txt.item Txt.charAt seqIndex?
  have h0 : ¬ ((k : Int) < 0) := by omega
  have h1 : (decide ((0 : Int) ≤ (k : Int)) && decide ((k : Int) < (x.length : Int))) = true := by
    rw [Bool.and_eq_true]
    exact ⟨by simp, by simp [Str.length]; exact hk'⟩
  simp only [h0, if_false, h1, if_true, Option.bind_some, Int.toNat_natCast]
  simp [hk']
theorem one_space (c : Nat) : Txt.isspace ⟨#[c]⟩ = Unicode.isSpace c := by
  unfold Txt.isspace
  simp [Str.length]
theorem nl_is : Str.ofString "\n" = ⟨#[10]⟩ := by decide
theorem nl_space : Unicode.isSpace 10 = true := by decide
theorem toNat0 (n : Nat) : ((n : Int) - 0).toNat = n := by omega
theorem fullOf_pos (x : Str) : fullOf x = posR (fun c => !Unicode.isSpace c) 0 x.cps.toList := by
  unfold fullOf
  rw [toNat0]
  refine filter_pos _ _ _ _ (by simp [Str.length]) fun k hk => ?_
  rw [item_at x k hk, one_space]
theorem endsOf_pos (b : Str) : endsOf b = posR (fun c => c == 10) 0 b.cps.toList := by
  unfold endsOf
  rw [toNat0]
  refine filter_pos _ _ _ _ (by simp [Str.length]) fun k hk => ?_
  rw [item_at b k hk, nl_is]
  simp only [Str.mk.injEq, Array.mk.injEq, List.cons.injEq, and_true]
  rw [Bool.eq_iff_iff]
  simp
section
variable {p : Nat → Bool}
theorem dropWhile_head : ∀ l : List Nat, l.dropWhile p = [] ∨ ∃ a r, l.dropWhile p = a :: r ∧ p a = false
  | [] => .inl rfl
  | c :: r => by
    rw [List.dropWhile_cons]
    by_cases h : p c = true
    · rw [if_pos h]; exact dropWhile_head r
    · rw [if_neg h]; exact .inr ⟨c, r, rfl, by simpa using h⟩
theorem takeWhile_mem : ∀ (l : List Nat) (c : Nat), c ∈ l.takeWhile p → p c = true
  | [], _, h => by simp at h
  | a :: r, c, h => by
    rw [List.takeWhile_cons] at h
    by_cases ha : p a = true
    · rw [if_pos ha] at h
      rcases List.mem_cons.mp h with rfl | h
      · exact ha
      · exact takeWhile_mem r c h
    · rw [if_neg ha] at h; simp at h
theorem cut_end (Y : List Nat) : Y.take (Y.length - (Y.reverse.takeWhile p).length) = (Y.reverse.dropWhile p).reverse := by
  have h : Y = (Y.reverse.dropWhile p).reverse ++ (Y.reverse.takeWhile p).reverse := by
    rw [← List.reverse_append, List.takeWhile_append_dropWhile, List.reverse_reverse]
  have hl : Y.length = (Y.reverse.dropWhile p).length + (Y.reverse.takeWhile p).length := by
    have := congrArg List.length h
    simpa only [List.length_append, List.length_reverse] using this
  have e : Y.length - (Y.reverse.takeWhile p).length = (Y.reverse.dropWhile p).reverse.length := by
    rw [List.length_reverse]; omega
  rw [e]
  generalize (Y.reverse.dropWhile p).reverse = U at h ⊢
  generalize (Y.reverse.takeWhile p).reverse = V at h
  rw [h, List.take_left']
  rfl
theorem take_len (X : List Nat) : X.drop (X.takeWhile p).length = X.dropWhile p := by
  have h := List.takeWhile_append_dropWhile (p := p) (l := X)
  generalize hU : X.takeWhile p = U at h ⊢
  generalize hV : X.dropWhile p = V at h ⊢
  rw [← h, List.drop_left']
  rfl
end
theorem strip_list (x : Str) : (Txt.strip x).cps.toList = ((x.cps.toList.dropWhile Unicode.isSpace).reverse.dropWhile Unicode.isSpace).reverse := by
  unfold Txt.strip
  rw [PyProof.Rows.stripBy_eq, StrLaws.strSub_toList]
  simp only [stripLo, stripHi, if_true]
  have hl : x.length = (x.cps.toList.takeWhile Unicode.isSpace).length + (x.cps.toList.dropWhile Unicode.isSpace).length := by
    have h := congrArg List.length (List.takeWhile_append_dropWhile (p := Unicode.isSpace) (l := x.cps.toList))
    rw [List.length_append] at h
    rw [h]
    simp [Str.length]
  rw [take_len, ← cut_end]
  congr 1
  omega
theorem rstrip_list (x : Str) : (Txt.rstrip x).cps.toList = (x.cps.toList.reverse.dropWhile Unicode.isSpace).reverse := by
  unfold Txt.rstrip
  rw [PyProof.Rows.stripBy_eq, StrLaws.strSub_toList]
  simp only [stripLo, stripHi, if_true, List.drop_zero]
  rw [← cut_end]
  simp [Str.length]
theorem strip_cut (x : Str) : ∃ A C : List Nat, x.cps.toList = A ++ (Txt.strip x).cps.toList ++ C ∧ (∀ c ∈ A, Unicode.isSpace c = true) ∧ (∀ c ∈ C, Unicode.isSpace c = true) ∧
    ((Txt.strip x).cps.toList = [] ∨ ((∃ m M, (Txt.strip x).cps.toList = m :: M ∧ Unicode.isSpace m = false) ∧ ∃ M m, (Txt.strip x).cps.toList = M ++ [m] ∧ Unicode.isSpace m = false)) := by
  rw [strip_list]
  generalize hY : x.cps.toList.dropWhile Unicode.isSpace = Y
  refine ⟨x.cps.toList.takeWhile Unicode.isSpace, (Y.reverse.takeWhile Unicode.isSpace).reverse, ?_, fun c hc => takeWhile_mem _ c hc, fun c hc => takeWhile_mem _ c (List.mem_reverse.mp hc), ?_⟩
  · rw [List.append_assoc, ← List.reverse_append, List.takeWhile_append_dropWhile, List.reverse_reverse, ← hY, List.takeWhile_append_dropWhile]
  · rcases dropWhile_head (p := Unicode.isSpace) Y.reverse with h | ⟨a, r, h, ha⟩
    · exact .inl (by rw [h]; rfl)
    · refine .inr ⟨?_, r.reverse, a, by rw [h, List.reverse_cons], ha⟩
      have hYe : Y = (Y.reverse.dropWhile Unicode.isSpace).reverse ++ (Y.reverse.takeWhile Unicode.isSpace).reverse := by
        rw [← List.reverse_append, List.takeWhile_append_dropWhile, List.reverse_reverse]
      have hne : (Y.reverse.dropWhile Unicode.isSpace).reverse ≠ [] := by rw [h]; simp
      rcases dropWhile_head (p := Unicode.isSpace) x.cps.toList with h2 | ⟨b, t, h2, hb⟩
      · rw [hY] at h2
        rw [h2] at h
        simp at h
      · rw [hY] at h2
        cases hM : (Y.reverse.dropWhile Unicode.isSpace).reverse with
        | nil => exact absurd hM hne
        | cons m M =>
          refine ⟨m, M, rfl, ?_⟩
          rw [hM, h2, List.cons_append] at hYe
          have : b = m := (List.cons.inj hYe).1
          rw [← this]; exact hb
theorem str_ext {a b : Str} (h : a.cps.toList = b.cps.toList) : a = b := Str.ext' (Array.toList_inj.mp h)
theorem rstrip_zero (q : Str) : (Txt.rstrip q).length = 0 ↔ ∀ c ∈ q.cps.toList, Unicode.isSpace c = true := by
  have e : (Txt.rstrip q).length = (q.cps.toList.reverse.dropWhile Unicode.isSpace).length := by
    have := congrArg List.length (rstrip_list q)
    simpa [Str.length] using this
  rw [e]
  constructor
  · intro h c hc
    have h0 := List.eq_nil_of_length_eq_zero h
    have h1 := List.takeWhile_append_dropWhile (p := Unicode.isSpace) (l := q.cps.toList.reverse)
    rw [h0, List.append_nil] at h1
    refine takeWhile_mem q.cps.toList.reverse c ?_
    rw [h1]
    exact List.mem_reverse.mpr hc
  · intro h
    rcases dropWhile_head (p := Unicode.isSpace) q.cps.toList.reverse with h1 | ⟨a, r, h1, ha⟩
    · rw [h1]; rfl
    · have hm : a ∈ q.cps.toList.reverse := by
        have h2 := List.takeWhile_append_dropWhile (p := Unicode.isSpace) (l := q.cps.toList.reverse)
        rw [← h2, h1]
        simp
      have := h a (List.mem_reverse.mp hm)
      rw [ha] at this
      cases this
theorem slice_mid {x : Str} {A M C : List Nat} (h : x.cps.toList = A ++ M ++ C) {i j : Int} (hi : i = (A.length : Int)) (hj : j = (A.length : Int) + (M.length : Int)) : (Txt.slice x (some i) (some j)).cps.toList = M := by
  subst hi; subst hj
  have hl : x.cps.toList.length = A.length + M.length + C.length := by rw [h]; simp only [List.length_append]
  have h1 := slice_closes (x := x) (i := (A.length : Int)) (j := (A.length : Int) + (M.length : Int)) ⟨by omega, by omega, by omega⟩
  rw [beq_iff_eq.mp h1]
  have e1 : ((A.length : Int)).toNat = A.length := by omega
  have e2 : ((A.length : Int) + (M.length : Int) - (A.length : Int)).toNat = M.length := by omega
  rw [e1, e2, h, List.append_assoc, List.drop_left' rfl, List.take_left' rfl]
theorem slice_head {x : Str} {A C : List Nat} (h : x.cps.toList = A ++ C) {j : Int} (hj : j = (A.length : Int)) : (Txt.slice x none (some j)).cps.toList = A := by
  subst hj
  have hl : x.cps.toList.length = A.length + C.length := by rw [h]; simp
  have h1 := slice_closes_to (x := x) (j := (A.length : Int)) ⟨by omega, by omega⟩
  rw [beq_iff_eq.mp h1]
  have e2 : ((A.length : Int) - 0).toNat = A.length := by omega
  rw [e2, h]
  show List.take A.length (List.drop 0 (A ++ C)) = A
  rw [List.drop_zero, List.take_left' rfl]
theorem slice_tail {x : Str} {A C : List Nat} (h : x.cps.toList = A ++ C) {i : Int} (hi : i = (A.length : Int)) : (Txt.slice x (some i) none).cps.toList = C := by
  subst hi
  have hl : x.cps.toList.length = A.length + C.length := by rw [h]; simp
  have hx : x.length = A.length + C.length := by rw [← hl]; simp [Str.length]
  rw [slice_from_eq (x := x) (i := (A.length : Int)) (b := (x.length : Int)) (by omega) (by omega) rfl]
  have e1 : ((A.length : Int)).toNat = A.length := by omega
  have e2 : ((x.length : Int) - (A.length : Int)).toNat = C.length := by omega
  rw [e1, e2, h, List.drop_left' rfl, List.take_length]
theorem bareOf_strip (x : Str) : bareOf x = Txt.strip x := by
  obtain ⟨A, C, hX, hA, hC, hM⟩ := strip_cut x
  generalize hS : (Txt.strip x).cps.toList = M at hX hM
  have hf : fullOf x = posR (fun c => !Unicode.isSpace c) A.length M := by
    rw [fullOf_pos, hX, posR_append, posR_append, posR_none A _ (fun c hc => by simp [hA c hc]), posR_none C _ (fun c hc => by simp [hC c hc]), List.nil_append, List.append_nil, Nat.zero_add]
  rcases hM with hM | ⟨⟨m, M1, h1, hm1⟩, M2, m2, h2, hm2⟩
  · have h0 : fullOf x = [] := by rw [hf, hM]; rfl
    unfold bareOf
    rw [h0, if_neg (by simp)]
    refine str_ext ?_
    rw [hS, hM]
    decide
  · have hf1 : fullOf x = (A.length : Int) :: posR (fun c => !Unicode.isSpace c) (A.length + 1) M1 := by rw [hf, h1]; simp [posR, hm1]
    have hf2 : fullOf x = posR (fun c => !Unicode.isSpace c) A.length M2 ++ [((A.length + M2.length : Nat) : Int)] := by rw [hf, h2, posR_append]; simp [posR, hm2]
    have hpos : 0 < (fullOf x).length := by rw [hf1]; simp
    have hfirst : (fullOf x).getD (Int.toNat 0) 0 = (A.length : Int) := by rw [hf1]; rfl
    have hlast : (fullOf x).getD (-1 + ((fullOf x).length : Int)).toNat 0 = ((A.length + M2.length : Nat) : Int) := by
      have e : (-1 + ((fullOf x).length : Int)).toNat = (posR (fun c => !Unicode.isSpace c) A.length M2).length := by
        rw [hf2]; simp only [List.length_append, List.length_singleton]; omega
      rw [e, hf2]
      simp [List.getD]
    unfold bareOf
    rw [if_pos hpos, hfirst, hlast]
    refine str_ext ?_
    rw [hS]
    refine slice_mid hX rfl ?_
    rw [h2]
    simp only [List.length_append, List.length_singleton]
    omega
end Mine
end
section
open PySem PySem.W PyProof.Rows PySem.Spec PySem.Calls PySem.Builtin PySem.Builtin.Str
namespace Mine
theorem cps_join2 (p q : Str) (r : List Str) : (Str.join (Str.ofString "\n") (p :: q :: r)).cps.toList = p.cps.toList ++ 10 :: (Str.join (Str.ofString "\n") (q :: r)).cps.toList := by
  show ((p ++ Str.ofString "\n") ++ Str.join (Str.ofString "\n") (q :: r)).cps.toList = _
  rw [Str.cps_append, Str.cps_append, nl_is]
  simp
theorem free_pos {P : List Nat} (h : 10 ∉ P) : ∀ c ∈ P, (c == 10) = false := fun c hc => by
  rw [beq_eq_false_iff_ne]
  intro e
  exact h (e ▸ hc)
theorem ends_cons {P R : List Nat} (h : 10 ∉ P) (i : Nat) : posR (fun c => c == 10) i (P ++ 10 :: R) = ((i + P.length : Nat) : Int) :: posR (fun c => c == 10) (i + P.length + 1) R := by
  rw [posR_append, posR_none P i (free_pos h), List.nil_append]
  simp [posR]
theorem join_txt (sep : Str) (ps : List Str) : Txt.join sep ps = Str.join sep ps := StrLaws.glued_eq_join sep ps
theorem all_space (Q : List Nat) : (Q.map fun c => Txt.isspace ⟨#[c]⟩).all _root_.id = true ↔ ∀ c ∈ Q, Unicode.isSpace c = true := by
  simp only [List.all_map, List.all_eq_true, Function.comp, one_space]
  exact Iff.rfl
theorem last_mem {U V M : List Nat} {m : Nat} (h : U ++ V = M ++ [m]) (hV : V ≠ []) : m ∈ V := by
  rcases List.eq_nil_or_concat V with rfl | ⟨V', v, rfl⟩
  · exact absurd rfl hV
  · rw [List.concat_eq_append] at h ⊢
    rw [← List.append_assoc] at h
    have h1 := (List.append_inj' h rfl).2
    rw [← (List.cons.inj h1).1]
    simp
/-- the plain law: the law's own reckoning and splitdoc's agree on every text -/
theorem told_eq (x : Str) : told x = splitd x := by
  have hb := bareOf_strip x
  obtain ⟨A, C, -, -, -, hM⟩ := strip_cut x
  generalize hbx : Txt.strip x = b at hb hM
  have hj := StrLaws.join_split b (Str.ofString "\n")
  have hfree := StrLaws.split_free b 10
  have hpos := split_pos b (Str.ofString "\n")
  rw [← nl_is] at hfree
  have he := endsOf_pos b
  generalize hps : Txt.split b (Str.ofString "\n") = ps at hj hfree hpos
  have hps' : ps = Txt.split (Txt.strip x) (Str.ofString "\n") := by rw [hbx, hps]
  match ps, hj, hfree, hpos, hps' with
  | [], _, _, hpos, _ => exact absurd hpos (by simp)
  | [p], hj, hfree, _, hps' =>
    have hB : p = b := hj
    subst hB
    have h0 : endsOf p = [] := by rw [he, posR_none _ _ (free_pos (hfree p (by simp)))]
    rw [told_0 (ends := endsOf p) hb rfl (by rw [h0]; simp), splitd_1 hps' rfl rfl]
  | [p, q], hj, hfree, _, hps' =>
    have hBL : b.cps.toList = p.cps.toList ++ 10 :: q.cps.toList := by rw [← hj, cps_join2]; rfl
    have h1 : endsOf b = [((0 + p.cps.toList.length : Nat) : Int)] := by
      rw [he, hBL, ends_cons (hfree p (by simp)), posR_none _ _ (free_pos (hfree q (by simp)))]
    have hz : (Txt.rstrip q).length ≠ 0 := by
      intro h
      have hall := (rstrip_zero q).mp h
      rcases hM with hM | ⟨_, M, m, hMm, hm⟩
      · rw [hBL] at hM; simp at hM
      · rw [hBL] at hMm
        have := last_mem hMm (by simp)
        rcases List.mem_cons.mp this with rfl | hq
        · rw [nl_space] at hm; cases hm
        · rw [hall m hq] at hm; cases hm
    rw [told_1 (ends := endsOf b) hb rfl (by rw [h1]; simp) (by rw [h1]; simp), splitd_3 hps' rfl hz, join_txt, hj]
  | p :: q :: r :: rest, hj, hfree, _, hps' =>
    generalize hR : (Str.join (Str.ofString "\n") (r :: rest)).cps.toList = R
    have hBL : b.cps.toList = p.cps.toList ++ 10 :: (q.cps.toList ++ 10 :: R) := by rw [← hj, cps_join2, cps_join2, hR]
    have h1 : endsOf b = ((0 + p.cps.toList.length : Nat) : Int) :: ((0 + p.cps.toList.length + 1 + q.cps.toList.length : Nat) : Int) :: posR (fun c => c == 10) (0 + p.cps.toList.length + 1 + q.cps.toList.length + 1) R := by
      rw [he, hBL, ends_cons (hfree p (by simp)), ends_cons (hfree q (by simp))]
    have e0 : (endsOf b).getD (Int.toNat 0) 0 = ((0 + p.cps.toList.length : Nat) : Int) := by rw [h1]; rfl
    have e1 : (endsOf b).getD (Int.toNat 1) 0 = ((0 + p.cps.toList.length + 1 + q.cps.toList.length : Nat) : Int) := by rw [h1]; rfl
    have hl : 1 < (endsOf b).length := by rw [h1]; simp
    have hmid : (Txt.slice b (some ((endsOf b).getD (Int.toNat 0) 0 + 1)) (some ((endsOf b).getD (Int.toNat 1) 0))).cps.toList = q.cps.toList := by
      rw [e0, e1]
      refine slice_mid (A := p.cps.toList ++ [10]) (C := 10 :: R) (by rw [hBL]; simp) ?_ ?_
      · simp only [List.length_append, List.length_singleton]; omega
      · simp only [List.length_append, List.length_singleton]; omega
    by_cases hz : (Txt.rstrip q).length = 0
    · have ha := (all_space q.cps.toList).mpr ((rstrip_zero q).mp hz)
      rw [told_3 (ends := endsOf b) hb rfl (by omega) hl (by rw [hmid]; exact ha), splitd_2 hps' rfl rfl hz, join_txt]
      have s1 : Txt.slice b none (some ((endsOf b).getD (Int.toNat 0) 0)) = p := str_ext (slice_head hBL (by rw [e0]; omega))
      have s2 : Txt.slice b (some ((endsOf b).getD (Int.toNat 1) 0 + 1)) none = Str.join (Str.ofString "\n") (r :: rest) := by
        refine str_ext ?_
        rw [hR]
        refine slice_tail (A := p.cps.toList ++ 10 :: (q.cps.toList ++ [10])) (by rw [hBL]; simp) ?_
        rw [e1]
        simp only [List.length_append, List.length_cons, List.length_nil]
        omega
      rw [s1, s2]
      rfl
    · have ha : ¬ (q.cps.toList.map fun c => Txt.isspace ⟨#[c]⟩).all _root_.id = true := fun h => hz ((rstrip_zero q).mpr ((all_space _).mp h))
      rw [told_2 (ends := endsOf b) hb rfl (by omega) (by rw [hmid]; exact ha), splitd_3 hps' rfl hz, join_txt, hj]
end Mine
end
section
open PySem PySem.W PyProof.Rows PySem.Spec PySem.Calls
namespace Mine
local macro_rules | `(tactic| walk_at "call builtin:str.join") => `(tactic| refine Stop.out ?_)
local macro_rules | `(tactic| walk_at "call builtin:str.rstrip") => `(tactic| refine Stop.out ?_)

set_option maxRecDepth 100000 in
set_option maxHeartbeats 4000000 in
theorem splitdoc_calls (w : World) : Calls2 w 21 splitd := by
  unfold Calls2
  k_fill
  intro mean mg mb dp un gd cn cs a ccd cl outer A₀ base h₀ L m news s x t E B F X N T hk hx hd hu
  refine wpAny_call ?_
  k_dflt cell_enter
  k_steps
  · rename (List.map _ _ = Txt.split _ _) => hsp
    rename (_[_]? = some _) => hy0
    refine ret2_end (by k_asm) (by k_asm) (fun p hp => by simp [hp]) (ktn_ltOf (by simp_all)) ?_
    exact splitd_1 hsp (by rw [List.length_map]; omega) hy0
  · rename (∀ (a : Str), a ∈ List.map _ _ → _ ≤ _) => hpl
    rename (_[_]? = some _) => hy1
    rename (List.map _ _ = Txt.split _ _) => hsp
    rename ((Txt.strip x).length ≤ x.length) => hst
    show wpAny _ _ (call (Value.builtin "str.rstrip") [Value.str _ _]) _ _ _
    have h9 := hpl _ (List.mem_of_getElem? hy1)
    refine SCL.rstrip (hsz := ?hz) ?_
    case hz =>
      rw [PySem.sizeLine_eq]
      omega
    intro t9 k9 hr9
    (try dsimp only)
    (try k_fold)
    k_steps
    · rename News _ _ _ _ => N9
      show wpAny _ _ (call (Value.builtin "str.join") [Value.str _ _, Value.ref _]) _ _ _
      refine SC.join (N9.isList List.mem_cons_self) hsp (joinOk_all (by rw [nl_len]; omega)) ?_
      intro t8 k8
      (try dsimp only)
      k_steps
      refine ret2_end (by k_asm) (by k_asm) (fun p hp => by simp [hp]) (ktn_ltOf (by simp_all)) ?_
      rw [← hsp]
      exact splitd_3 hsp hy1 (by omega)
    · rename News _ _ _ _ => N9
      show wpAny _ _ (call (Value.builtin "str.join") [Value.str _ _, Value.ref _]) _ _ _
      rename (_[Int.toNat 0]? = some _) => hy0
      rw [pick_from] at N9
      refine SC.join (N9.isList List.mem_cons_self) (texts := (Txt.split (Txt.strip x) (Str.ofString "\n")).drop 2) (List.map_drop.trans (congrArg (List.drop 2) (by assumption))) (joinOk_drop 2 (by rw [nl_len]; omega)) ?_
      intro t8 k8
      (try dsimp only)
      k_steps
      rename (List.map _ _ = Txt.split _ _) => hsp
      refine ret2_end (by k_asm) (by k_asm) (fun p hp => by simp [hp]) (ktn_ltOf (by simp_all)) ?_
      rw [← hsp]
      exact splitd_2 hsp hy0 hy1 (by omega)
  · rename (List.map _ _ = Txt.split _ _) => hsp
    rename News _ _ _ _ => N9
    rename ((Txt.strip x).length ≤ x.length) => hst
    show wpAny _ _ (call (Value.builtin "str.join") [Value.str _ _, Value.ref _]) _ _ _
    refine SC.join (N9.isList List.mem_cons_self) hsp (joinOk_all (by rw [nl_len]; omega)) ?_
    intro t8 k8
    (try dsimp only)
    k_steps
    refine ret2_end (by k_asm) (by k_asm) (fun p hp => by simp [hp]) (ktn_ltOf (by simp_all)) ?_
    rw [← hsp]
    exact splitd_0 hsp (by rw [List.length_map]; omega) (by rw [List.length_map]; omega)
end Mine
end
section
open PySem PySem.W PyProof.Rows PySem.Spec PySem.Calls
namespace Mine
local macro_rules | `(tactic| walk_at "CompSrcT") => `(tactic| refine Stop.out ?_)
local macro_rules | `(tactic| walk_at "CompEnd") => `(tactic| refine Stop.out ?_)

local macro_rules | `(tactic| walk_at "eval ListComp") => `(tactic| refine Stop.out ?_)
set_option maxRecDepth 100000 in
set_option maxHeartbeats 4000000 in
theorem told_calls (w : World) : Calls2 w 26 told := by
  unfold Calls2
  k_fill
  intro mean mg mb dp un gd cn cs a ccd cl outer A₀ base h₀ L m news s x t E B F X N T hk hx hd hu
  refine wpAny_call ?_
  k_dflt (refine' code_defC ?k1 ?k2 ?k3 ?k4 ?k5 ?kA ?kF ?kK ?k6 ?k7 ?k8 ?k9 ?kB ?kD ?_ ?c2 ?c3 ?c4; (case kA => exact rfl); (case kF => exact rfl); (case kK => assumption); (case k1 => k_asm); (case k2 => k_asm); (case k3 => k_asm); (case k4 => k_asm); (case k5 => k_asm); (case k6 => k_is); (case k7 => k_is); (case k8 => ktr_room); (case k9 => first | exact BindsTo.of_eq rfl | exact binds_K (by k_in) rfl (by k_is) rfl rfl rfl | fail "k_enter: no rule for these arguments"); (case kB => exact rfl); (case kD => decide +kernel); (case c2 => exact rfl); (case c3 => exact rfl); (case c4 => exact rfl); k_whole; intro g' L' h' tk' cells' FG' F' N' Y' B' X' T' l1; (try k_lt l1); k_cells Y'; (try simp only [List.cons_append, List.nil_append] at N'); (try dsimp only); (try k_lift B'); (try k_fold))
  k_steps
  show LCt.CompSrcT _ _ _ _ _ _ _ _ _ _ _ _ _ _ _
  refine LCt.CompSrcT.range (by rfl) (by k_asm) (by k_asm) (by assumption) (by first | decide | exact small_one (by l_bnd) (by l_bnd) (by l_bnd) (by l_bnd)) (by first | exact rangeSize_nat _ _ | rfl) (by first | exact Nat.le_of_ble_eq_true rfl | (rw [PySem.sizeLine_eq]; omega)) ?_
  intro g'
  refine comp_filter (fun k => !Txt.isspace (Txt.item x k)) (fun k' t' I' oI' C' oC' D' m' ys' h' tk' E' hlo' hhi' hC' hx' F' N' off' ne' => ?_) ?_
  · all_goals (try k_fold)
    k_steps
    · exact LCg.CompEnd.intro (by assumption) (by assumption) _ (fun _ h => h) (by assumption) True.intro ⟨rfl, by simp only [Bool.not_eq_false']; assumption⟩
    · exact LCg.CompEnd.intro (by assumption) (by assumption) _ (fun _ h => h) (by assumption) True.intro ⟨rfl, by simp only [Bool.not_eq_true']; assumption, _, rfl⟩
  · intro ys' full hfull hI' hl1' hl2'
    all_goals (try k_fold)
    k_steps
    all_goals (
      k_dflt (refine' storeX_C ?F ?N ?c (UpdF.tail ?n1 (UpdF.head (all_ne (L := L' + 2) ?n2 (Nat.le_refl _)))) ?d ?_ ?a ?b; (case a => rfl); (case b => rfl); (case F => k_asm); (case N => k_asm); (case c => rfl); (case n1 => (refine neN ?_; (try dsimp only); omega)); (case n2 => (intro p hp; rcases List.mem_cons.mp hp with rfl | hp; exact Nat.lt_succ_self _; exact Nat.lt_of_lt_of_le (l1 p hp) (Nat.le_add_right _ _))); (case d => k_asm); k_whole)
      intro h' o' F' N' d'
      (try dsimp only at N')
      (try k_sweep)
      refine gen_cell d' ?_
      clear d'
      intro bare hbare d'
      have hbb : bareOf x = bare := by first | exact bareOf_1 hfull (by omega) hbare | exact bareOf_0 hfull (by omega) hbare
      have hbl : bare.length ≤ 100 := by rw [hbare]; first | decide | omega
      k_steps
      show LCt.CompSrcT _ _ _ _ _ _ _ _ _ _ _ _ _ _ _
      refine LCt.CompSrcT.range (by rfl) (by k_asm) (by k_asm) (by assumption) (by first | decide | exact small_one (by l_bnd) (by l_bnd) (by l_bnd) (by l_bnd)) (by first | exact rangeSize_nat _ _ | rfl) (by first | exact Nat.le_of_ble_eq_true rfl | (rw [PySem.sizeLine_eq]; omega)) ?_
      intro g'
      refine comp_filter (fun k => decide (Txt.item bare k = Str.ofString "\n")) (fun k' t' I' oI' C' oC' D' m' ys' h' tk' E' hlo' hhi' hC' hx' F' N' off' ne' => ?_) ?_
      · all_goals (try k_fold)
        k_steps
        · exact LCg.CompEnd.intro (by assumption) (by assumption) _ (fun _ h => h) (by assumption) True.intro ⟨rfl, of_beq' (by assumption), _, rfl⟩
        · exact LCg.CompEnd.intro (by assumption) (by assumption) _ (fun _ h => h) (by assumption) True.intro ⟨rfl, of_nbeq' (by assumption)⟩
      · intro ys' ends hends hI' hl1' hl2'
        all_goals (try k_fold)
        k_steps
        · show wpAny _ _ _ _ _ _
          refine ListComp_S (F₀ := by k_asm) (by with_unfolding_all rfl) (by decide) (by rfl) (by decide) (by rfl) ?_
          (try k_fold)
          k_steps
          show SrcS _ _ _ _ _ _ _ _ _ _ _ _ _ _
          refine ⟨_, _, _, fun c => Txt.isspace ⟨#[c]⟩, rfl, rfl, by k_asm, by k_asm, by (rw [PySem.sizeLine_eq]; omega), ?_, ?_⟩
          · intro c' u' I' oI' C' oC' D' m' ys' h' tk' E' hC' hx' F' N' off' ne'
            (try k_fold)
            k_steps
            exact LCg.CompEnd.intro (by assumption) (by assumption) _ (fun _ h => h) (by assumption) True.intro ⟨rfl, rfl⟩
          · intro ys' D' h' tk' hB' hl' F' N' o1'
            (try k_fold)
            k_steps
            refine LSm.all_bools F' N' (by rfl) (News.isList N' (List.mem_cons_self)) hB' ?_
            intro h' tk' F' N'
            (try k_sweep)
            k_steps
            · refine ret2_end (by k_asm) (by k_asm) (fun p hp => by simp [hp]) (ktn_ltOf (by simp_all)) ?_
              exact told_3 hbb hends (by omega) (by omega) (by assumption)
            · refine ret2_end (by k_asm) (by k_asm) (fun p hp => by simp [hp]) (ktn_ltOf (by simp_all)) ?_
              exact told_2 hbb hends (by omega) (by simp only [Bool.not_eq_true]; assumption)
        · refine ret2_end (by k_asm) (by k_asm) (fun p hp => by simp [hp]) (ktn_ltOf (by simp_all)) ?_
          exact told_1 hbb hends (by omega) (by omega)
        · refine ret2_end (by k_asm) (by k_asm) (fun p hp => by simp [hp]) (ktn_ltOf (by simp_all)) ?_
          exact told_0 hbb hends (by omega))
end Mine
end
section
open PySem PySem.W PyProof.Rows PySem.Spec PySem.Calls
namespace Mine
theorem call2 {w : World} {f : Addr} {g : Str → Str × Str} (C : Calls2 w f g) {mean : ExcName → Option Value} {mg mb : Str → Option Value} {dp un : Nat} {gd : Option (List Code)} {cn : Str} {cs : Scope} {a : Addr} {ccd : Value} {cl : List (Str × Addr)} {outer : List Env} {A₀ : Around} {base h₀ : Heap} {L : Addr} {m : Str → Option Value} {news : List (Addr × Obj)} {s : Shared} {x : Str} {t : Tok} {Q E : Value → Shared → Prop}
    (B : Below A₀ base outer h₀) (F : Fr h₀ L s.heap m) (X : (hd.heap_39 w.params).In h₀) (N : News h₀ L s.heap news) (T : Top hd.view_39 (looseW hd.view_39 []) mean mg mb h₀) (hk : cs.kind = .function) (hx : x.length ≤ 100) (hdp : dp + 1 < recursionLimit) (hu : un + 8 < cLine)
    (h : ∀ D t1 t2 c h' tk, Fr h₀ L h' m → News h₀ L h' ((D, tupO (g x).1 (g x).2 t1 t2 c) :: news) → (∀ p ∈ news, p.1 < D) → Q (.ref D) { s with heap := h', toks := tk }) :
    wpAny (model Challenge.rw_dz0092_01.row.prog w) (ktrTop dp un gd cn cs L a ccd cl outer) (call (.ref f) [.str x t]) Q E s := by
  refine wpAny_mono (C mean mg mb dp un gd cn cs a ccd cl outer A₀ base h₀ L m news s x t E B F X N T hk hx hdp hu) (fun v s' hr => ?_) fun _ _ e => e
  obtain ⟨D, t1, t2, c, h', tk, rfl, rfl, F', N', hl⟩ := hr
  exact h D t1 t2 c h' tk F' N' hl
def Ones (signs : List Str) : Prop := ∀ s ∈ signs, Str.length s ≤ 1
theorem ones_nil : ([] : List Str).length = ([] : List Int).length ∧ Ones [] := ⟨rfl, fun _ h => nomatch h⟩
theorem ones_snoc {pre : List Int} {signs : List Str} {n : Int} {y : Str} (hl : signs.length = pre.length) (h : Ones signs) (hy : y.length ≤ 1) : (signs ++ [y]).length = (pre ++ [n]).length ∧ Ones (signs ++ [y]) := by
  refine ⟨by simp [hl], fun s hs => ?_⟩
  rcases List.mem_append.mp hs with hs | hs
  · exact h s hs
  · rw [List.mem_singleton.mp hs]; exact hy
theorem ones_sum : ∀ {signs : List Str}, Ones signs → (signs.map (·.length)).sum ≤ signs.length
  | [], _ => Nat.le_refl _
  | y :: r, h => by
    have h1 := ones_sum (signs := r) fun s hs => h s (List.mem_cons_of_mem _ hs)
    have h2 := h y List.mem_cons_self
    simp only [List.map_cons, List.sum_cons, List.length_cons]
    omega
theorem join_ones {prog : Program} {w : World} {A : Around} {E : Value → Shared → Prop} {s : Shared} {t : Tok} {Q : Value → Shared → Prop} {D : Addr} {items : Array Value} {ys : List Str} (hl : s.heap.IsList D items) (hi : StrsAre items.toList ys) (ho : Ones ys) (hn : ys.length ≤ 24)
    (h : ∀ J t' k, Str.length J ≤ 24 → Q (.str J t') { s with toks := k }) : wpAny (model prog w) A (call (.builtin "str.join") [.str (Str.ofString "") t, .ref D]) Q E s := by
  have e0 : (Str.ofString "").length = 0 := by decide
  have h1 := ones_sum ho
  refine join_list hl hi (by rw [e0]; omega) fun t' k => h _ t' k ?_
  have h2 := StrLaws.join_length_le (Str.ofString "") ys
  show (Builtin.Str.glued (Str.ofString "") ys).length ≤ 24
  rw [StrLaws.glued_eq_join]
  rw [e0] at h2
  omega
theorem add_tail {prog : Program} {w : World} {A : Around} {E : Value → Shared → Prop} {s : Shared} {t u : Tok} {J : Str} {Q : Value → Shared → Prop} (hJ : J.length ≤ 24)
    (h : ∀ T t' k, Str.length T ≤ 31 → Q (.str T t') { s with toks := k }) : wpAny (model prog w) A (binaryOp .Add (.str J t) (.str (Str.ofString "a\n \nb\nc") u)) Q E s := by
  have e7 : (Str.ofString "a\n \nb\nc").length = 7 := by decide
  refine SB.add (fun t' k => h _ t' k ?_) (by rw [PySem.sizeLine_eq, e7]; omega)
  rw [Str.length_append, e7]
  omega
end Mine
end
section
open PySem PySem.W PyProof.Rows PySem.Spec PySem.Calls Mine
local macro_rules | `(tactic| walk_at "call builtin:str.join") => `(tactic| refine Stop.out ?_)
local macro_rules | `(tactic| walk_at "call ref") => `(tactic| refine Stop.out ?_)
local macro_rules | `(tactic| walk_at "binaryOp Add str str") => `(tactic| refine Stop.out ?_)
local macro_rules | `(tactic| walk_at "compareOp NotEq ref ref") => `(tactic| refine Stop.out ?_)
local macro_rules | `(tactic| walk_at "UnrEnd") => `(tactic| refine Stop.out ?_)
set_option maxRecDepth 100000 in
set_option maxHeartbeats 4000000 in
theorem PySem.Challenge.cw_dz0092_01_holds : PySem.Challenge.rw_dz0092_01.Holds := by
  exact Mine.hd (by
    k_with "pyIter ref" => (k_of "number" => k_state (fun pre signs => signs.length = pre.length ∧ Ones signs) "signs$")
    k_with "state" => (first | exact ones_nil | exact ones_snoc (by assumption) (by assumption) (by first | omega | exact Nat.le_refl _ | (simp [Str.length]; done)))
    k_with "pyIter ref" => (k_of "k" => k_state (fun (pre : List Int) (signs : List Str) => signs.length = signs.length) "signs$")
    k_go0
    all_goals try k_fold
    k_steps
    rename StrsAre _ _ => hS9
    rename Ones _ => hO9
    rename News _ _ _ _ => N9
    show wpAny _ _ (call (Value.builtin "str.join") [Value.str _ _, Value.ref _]) _ _ _
    refine join_ones (N9.isList (by k_mem)) hS9 hO9 (by omega) ?_
    intro J t9 k9 hJ9
    (try dsimp only)
    k_steps
    show wpAny _ _ (binaryOp Operator.Add (Value.str _ _) (Value.str _ _)) _ _ _
    refine add_tail hJ9 ?_
    intro T t9 k9 hT9
    (try dsimp only)
    k_steps
    rename News _ _ _ _ => N9
    rename Fr _ _ _ _ => F9
    refine iter_listUnr (vs := [_, _]) (by rfl) F9 N9 List.mem_cons_self rfl rfl ?_
    intro I9 hI9
    clear N9 F9
    refine ListRest.succ ?_
    intro it1 h1 tk1 hc1 F1 N1
    (try k_fold)
    k_steps
    show wpAny _ _ (call (Value.ref 21) [Value.str _ _]) _ _ _
    k_dflt (refine' call2 (splitdoc_calls _) ?k1 ?k2 ?k3 ?k4 ?k5 ?kK ?kx ?kd ?ku ?_; (case k1 => k_asm); (case k2 => k_asm); (case k3 => k_asm); (case k4 => k_asm); (case k5 => k_asm); (case kK => exact rfl); (case kx => omega); (case kd => ktr_room); (case ku => ktr_units); k_whole)
    intro D1 t1 t2 c1 h2 tk2 F2 N2 l2
    (try dsimp only)
    (try k_sweep)
    k_steps
    show wpAny _ _ (call (Value.ref 26) [Value.str _ _]) _ _ _
    k_dflt (refine' call2 (told_calls _) ?k1 ?k2 ?k3 ?k4 ?k5 ?kK ?kx ?kd ?ku ?_; (case k1 => k_asm); (case k2 => k_asm); (case k3 => k_asm); (case k4 => k_asm); (case k5 => k_asm); (case kK => exact rfl); (case kx => omega); (case kd => ktr_room); (case ku => ktr_units); k_whole)
    intro D2 t3 t4 c2 h3 tk3 F3 N3 l3
    (try dsimp only)
    (try k_sweep)
    rw [told_eq] at N3
    k_steps
    show wpAny _ _ (compareOp CmpOp.NotEq (Value.ref _) (Value.ref _)) _ _ _
    refine ne_pair N3 (.tail _ (.head _)) (.head _) (by ktr_units) ?_
    k_steps
    refine UnrEnd.intro F3 N3 _ (fun p hp => .tail _ (.tail _ hp)) (fun p hp => Nat.ne_of_lt (hI9 p hp)) ⟨List.mem_cons_self, ?_⟩
    refine ListRest.succ ?_
    intro it1 h1 tk1 hc1 F1 N1
    (try k_fold)
    k_steps
    show wpAny _ _ (call (Value.ref 21) [Value.str _ _]) _ _ _
    k_dflt (refine' call2 (splitdoc_calls _) ?k1 ?k2 ?k3 ?k4 ?k5 ?kK ?kx ?kd ?ku ?_; (case k1 => k_asm); (case k2 => k_asm); (case k3 => k_asm); (case k4 => k_asm); (case k5 => k_asm); (case kK => exact rfl); (case kx => omega); (case kd => ktr_room); (case ku => ktr_units); k_whole)
    intro D1 t1 t2 c1 h2 tk2 F2 N2 l2
    (try dsimp only)
    (try k_sweep)
    k_steps
    show wpAny _ _ (call (Value.ref 26) [Value.str _ _]) _ _ _
    k_dflt (refine' call2 (told_calls _) ?k1 ?k2 ?k3 ?k4 ?k5 ?kK ?kx ?kd ?ku ?_; (case k1 => k_asm); (case k2 => k_asm); (case k3 => k_asm); (case k4 => k_asm); (case k5 => k_asm); (case kK => exact rfl); (case kx => omega); (case kd => ktr_room); (case ku => ktr_units); k_whole)
    intro D2 t3 t4 c2 h3 tk3 F3 N3 l3
    (try dsimp only)
    (try k_sweep)
    rw [told_eq] at N3
    k_steps
    show wpAny _ _ (compareOp CmpOp.NotEq (Value.ref _) (Value.ref _)) _ _ _
    refine ne_pair N3 (.tail _ (.head _)) (.head _) (by ktr_units) ?_
    k_steps
    refine UnrEnd.intro F3 N3 _ (fun p hp => .tail _ (.tail _ hp)) (fun p hp => Nat.ne_of_lt (hI9 p hp)) ⟨List.mem_cons_self, ?_⟩
    refine ListRest.zero ?_
    intro h4 tk4 F4 N4
    (try dsimp only)
    k_steps)
end
