import PyProof.Rows.All
import Wide.All
import OpenK.AllK
import Wide.FinOn
import PySem.Challenge.RW_bb0032_01
open PySem PySem.W PySem.Calls PyProof.Rows
set_option Elab.async false
namespace Mine
set_option maxRecDepth 100000 in
set_option maxHeartbeats 8000000 in
open_top hd for PySem.Challenge.rw_bb0032_01
section
def Tells (k : Nat) (f : Addr) (pre : Prop) (vs : List Value) (R : Tok → Value) : Prop :=
  ∀ (w : World) (p : Program) (loose : List Str) (mean : ExcName → Option Value) (mg mb : Str → Option Value) (news : List (Addr × Obj))
    (dp un : Nat) (gd : Option (List Code)) (cn : Str) (cs : Scope) (a : Addr) (ccd : Value) (cl : List (Str × Addr)) (outer : List Env) (A₀ : Around) (base h₀ : Heap) (L : Addr) (m : Str → Option Value) (s : Shared) (Q E : Value → Shared → Prop),
    Below A₀ base outer h₀ → Fr h₀ L s.heap m → (hd.heap_39 w.params).In h₀ → News h₀ L s.heap news → Top p loose mean mg mb h₀ → cs.kind = .function →
    pre → dp + k < recursionLimit → un + 10 * k + 200 < cLine →
    (∀ (t : Tok) (h' : Heap) (tk' : Nat), Fr h₀ L h' m → News h₀ L h' news → Q (R t) { s with heap := h', toks := tk' }) →
      wpAny (model PySem.Challenge.rw_bb0032_01.row.prog w) (ktrTop dp un gd cn cs L a ccd cl outer) (call (.ref f) vs) Q E s
theorem use {k : Nat} {f : Addr} {pre : Prop} {vs : List Value} {R : Tok → Value} (C : Tells k f pre vs R) {w : World} {p : Program} {loose : List Str} {mean : ExcName → Option Value} {mg mb : Str → Option Value} {news : List (Addr × Obj)}
    {dp un : Nat} {gd : Option (List Code)} {cn : Str} {cs : Scope} {a : Addr} {ccd : Value} {cl : List (Str × Addr)} {outer : List Env} {A₀ : Around} {base h₀ : Heap} {L : Addr} {m : Str → Option Value} {s : Shared} {Q E : Value → Shared → Prop}
    (B : Below A₀ base outer h₀) (F : Fr h₀ L s.heap m) (X : (hd.heap_39 w.params).In h₀) (N : News h₀ L s.heap news) (T : Top p loose mean mg mb h₀) (hk : cs.kind = .function)
    (hp : pre) (hd9 : dp + k < recursionLimit) (hu : un + 10 * k + 200 < cLine)
    (ret : ∀ (t : Tok) (h' : Heap) (tk' : Nat), Fr h₀ L h' m → News h₀ L h' news → Q (R t) { s with heap := h', toks := tk' }) :
    wpAny (model PySem.Challenge.rw_bb0032_01.row.prog w) (ktrTop dp un gd cn cs L a ccd cl outer) (call (.ref f) vs) Q E s :=
  C w p loose mean mg mb news dp un gd cn cs a ccd cl outer A₀ base h₀ L m s Q E B F X N T hk hp hd9 hu ret
theorem gentoks {M : Model} {A : Around} {α : Type} {T : Sem α} {Q : α → Shared → Prop} {E : Value → Shared → Prop} {h : Heap} {g : Array GenState} {d : Drawn} {X : Nat} {o : OsState}
    (H : ∀ tk, wpAny M A T Q E ⟨h, g, d, tk, o⟩) : wpAny M A T Q E ⟨h, g, d, X, o⟩ := H X
theorem in_topK {prog : Program} {w : World} {A : Around} {E : Value → Shared → Prop} {s : Shared} {K : Frag} {a L : Addr} {n : Nat} {h₀ : Heap} {m : Str → Option Value} {l : List Value} {ns : List Int} {dd : Option Addr} {sl : Array (Option Value)} {x : Int} {u : Tok} {b : Bool} {Q : Value → Shared → Prop}
    (F : Fr h₀ L s.heap m) (X₀ : K.In h₀) (hl : K.lookup a = some ⟨.type "tuple", dd, .seq l.toArray n, sl⟩) (hi : IntsAre l ns) (hb : ns.any (· == x) = b) (h : Q (.bool b) s) :
    wpAny (model prog w) A (compareOp .In (.int x u) (.ref a)) Q E s :=
  in_tuple_ints (tupK (X₀.keeps F.keep) hl) (by simpa using hi) (by rw [hb]; exact h)
def Tells3 (k : Nat) (f : Addr) (pre : Prop) (vs : List Value) (R : Int) : Prop :=
  ∀ (w : World) (p : Program) (loose : List Str) (mean : ExcName → Option Value) (mg mb : Str → Option Value) (news : List (Addr × Obj))
    (dp un : Nat) (gd : Option (List Code)) (cn : Str) (cs : Scope) (a : Addr) (ccd : Value) (cl : List (Str × Addr)) (outer : List Env) (A₀ : Around) (base h₀ : Heap) (L : Addr) (m : Str → Option Value) (s : Shared) (Q E : Value → Shared → Prop),
    Below A₀ base outer h₀ → Fr h₀ L s.heap m → (hd.heap_39 w.params).In h₀ → News h₀ L s.heap news → Top p loose mean mg mb h₀ → cs.kind = .function →
    pre → dp + k < recursionLimit → un + 10 * k + 200 < cLine →
    (∀ (D : Addr) (t : Tok) (v2 v3 : Value) (h' : Heap) (tk' : Nat), Fr h₀ L h' m → News h₀ L h' ((D, ({ cls := .type "tuple", data := .seq [.int R t, v2, v3].toArray } : Obj)) :: news) → (∀ p ∈ news, p.1 < D) → Q (.ref D) { s with heap := h', toks := tk' }) →
      wpAny (model PySem.Challenge.rw_bb0032_01.row.prog w) (ktrTop dp un gd cn cs L a ccd cl outer) (call (.ref f) vs) Q E s
theorem use3 {k : Nat} {f : Addr} {pre : Prop} {vs : List Value} {R : Int} (C : Tells3 k f pre vs R) {w : World} {p : Program} {loose : List Str} {mean : ExcName → Option Value} {mg mb : Str → Option Value} {news : List (Addr × Obj)}
    {dp un : Nat} {gd : Option (List Code)} {cn : Str} {cs : Scope} {a : Addr} {ccd : Value} {cl : List (Str × Addr)} {outer : List Env} {A₀ : Around} {base h₀ : Heap} {L : Addr} {m : Str → Option Value} {s : Shared} {Q E : Value → Shared → Prop}
    (B : Below A₀ base outer h₀) (F : Fr h₀ L s.heap m) (X : (hd.heap_39 w.params).In h₀) (N : News h₀ L s.heap news) (T : Top p loose mean mg mb h₀) (hk : cs.kind = .function)
    (hp : pre) (hd9 : dp + k < recursionLimit) (hu : un + 10 * k + 200 < cLine)
    (ret : ∀ (D : Addr) (t : Tok) (v2 v3 : Value) (h' : Heap) (tk' : Nat), Fr h₀ L h' m → News h₀ L h' ((D, ({ cls := .type "tuple", data := .seq [.int R t, v2, v3].toArray } : Obj)) :: news) → (∀ p ∈ news, p.1 < D) → Q (.ref D) { s with heap := h', toks := tk' }) :
    wpAny (model PySem.Challenge.rw_bb0032_01.row.prog w) (ktrTop dp un gd cn cs L a ccd cl outer) (call (.ref f) vs) Q E s :=
  C w p loose mean mg mb news dp un gd cn cs a ccd cl outer A₀ base h₀ L m s Q E B F X N T hk hp hd9 hu ret
theorem ret3 {R y : Int} {Q : Value → Shared → Prop} {s : Shared} {h₀ h' : Heap} {L D : Addr} {m : Str → Option Value} {news : List (Addr × Obj)} {t : Tok} {v2 v3 : Value} {tk' : Nat}
    (ret : ∀ (D : Addr) (t : Tok) (v2 v3 : Value) (h' : Heap) (tk' : Nat), Fr h₀ L h' m → News h₀ L h' ((D, ({ cls := .type "tuple", data := .seq [.int R t, v2, v3].toArray } : Obj)) :: news) → (∀ p ∈ news, p.1 < D) → Q (.ref D) { s with heap := h', toks := tk' })
    (e : y = R) (F : Fr h₀ L h' m) (N : News h₀ L h' ((D, ({ cls := .type "tuple", data := .seq [.int y t, v2, v3].toArray } : Obj)) :: news)) (l : ∀ p ∈ news, p.1 < D) : Q (.ref D) { s with heap := h', toks := tk' } := by
  subst e; exact ret _ _ _ _ _ _ F N l
open PySem.SeqAt in
theorem in_pairK {prog : Program} {w : World} {A : Around} {E : Value → Shared → Prop} {s : Shared} {a L : Addr} {h₀ : Heap} {news : List (Addr × Obj)} {dd : Option Addr} {sl : Array (Option Value)} {k : Nat} {n x : Int} {tn tz u : Tok} {z : Str} {b : Bool} {Q : Value → Shared → Prop}
    (N : News h₀ L s.heap news) (hm : (a, (⟨.type "tuple", dd, .seq #[.int n tn, .str z tz] k, sl⟩ : Obj)) ∈ news) (hb : (n == x) = b) (h : Q (.bool b) s) :
    wpAny (model prog w) A (compareOp .In (.int x u) (.ref a)) Q E s := by
  refine in_tupleAt (fun v => match v with | .int i _ => i == x | _ => false) ⟨_, (N _ hm).1, rfl, _, rfl⟩ ?_ ?_
  · intro y hy
    simp only [List.mem_toArray, List.mem_cons, List.not_mem_nil, or_false] at hy
    rcases hy with rfl | rfl
    · exact EqAt.int_int _ _ _ _
    · exact EqAt.str_int _ _ _ _
  · simp only [List.any_toArray, List.any_cons, List.any_nil, Bool.or_false, hb]
    exact h
def isleapF (y : Int) : Bool := decide (y % 4 = 0) && (!decide (y % 100 = 0) || decide (y % 400 = 0))
def gregF (y : Int) : Int := 1721426 - 1 + 365 * (y - 1) + (y - 1) / 4 + -((y - 1) / 100) + (y - 1) / 400 + 1
def greg3F (y d : Int) : Int := 1721426 - 1 + 365 * (y - 1) + (y - 1) / 4 + -((y - 1) / 100) + (y - 1) / 400 + (61 + (if isleapF y = true then 0 else -1) + d - 1)
def indF (y : Int) : Int := greg3F (y + 78) (if isleapF (y + 78) = true then 21 else 22)
def fisF (j : Int) : Int := (30 * (j - 1948440) + 10646) / 10631
def fcoF (j : Int) : Int := (4 * (j - 1825030) + 1463) / 1461
def fjuF (j : Int) : Int := 4 * j / 1461 - 4712
def midF (j : Int) : Int := if j > 0 then j else j + 1
def d1F (y : Int) : Int :=
  let months := (235 * y - 234) / 19
  let day := months * 29 + (12084 + 13753 * months) / 25920
  if (3 * (day + 1)) % 7 < 3 then day + 1 else day
def d2F (y : Int) : Int := if d1F (y + 1) - d1F y = 356 then 2 else if d1F y - d1F (y - 1) = 382 then 1 else 0
def ymF (y : Int) : Int := if (y * 7 + 1) % 19 < 7 then 13 else 12
def hebF (y : Int) : Int := midF (347996 + d1F y + d2F y + 1 + 1)
theorem indF_eq (y : Int) : indF y = gregF (y + 78) + 80 := by
  unfold indF greg3F gregF
  cases isleapF (y + 78)
  · simp only [Bool.false_eq_true, if_false]; omega
  · simp only [if_true]; omega
theorem near_greg {a b n : Int} (h : a = b + n) : 400 * (gregF a - gregF b) - 146097 * n ≤ 879 ∧ -879 ≤ 400 * (gregF a - gregF b) - 146097 * n := by
  subst h
  unfold gregF
  constructor <;> omega
theorem near_ind {a b n : Int} (h : a = b + n) : 400 * (indF a - indF b) - 146097 * n ≤ 879 ∧ -879 ≤ 400 * (indF a - indF b) - 146097 * n := by
  rw [indF_eq, indF_eq]
  have := near_greg (a := a + 78) (b := b + 78) (n := n) (by omega)
  constructor <;> omega
end
section
open PySem.W (neN ltN)
open LCg (NsObj lst)
theorem fr_off {h₀ h h' : Heap} {L X : Addr} {m : Str → Option Value} (F : Fr h₀ L h m) (hk : ∀ b o, b ≠ X → h.get? b = some o → h'.get? b = some o) (hL : L ≠ X) (hX : h₀.get? X = none) : Fr h₀ L h' m :=
  ⟨F.ns.at' fun o e => hk L o hL e, fun b o e => hk b o (fun q => by rw [q, hX] at e; cases e) (F.keep b o e), F.above⟩
theorem news_off {h₀ h h' : Heap} {L X : Addr} {led : List (Addr × Obj)} (N : News h₀ L h led) (hk : ∀ b o, b ≠ X → h.get? b = some o → h'.get? b = some o) (off : ∀ p ∈ led, p.1 ≠ X) : News h₀ L h' led :=
  fun p hp => ⟨hk _ _ (off p hp) (N p hp).1, (N p hp).2⟩
section
variable {prog : Program} {w : World} {A : Around} {E : Value → Shared → Prop} {s : Shared} {h₀ : Heap} {L : Addr} {m : Str → Option Value} {env : Env}
def QuadEnd (h₀ : Heap) (L : Addr) (m : Str → Option Value) (s₁ : Shared) (led : List (Addr × Obj)) (y : Value) (s' : Shared) : Prop :=
  ∃ h' tk', y = .bool true ∧ s' = { s₁ with heap := h', toks := tk' } ∧ Fr h₀ L h' m ∧ News h₀ L h' led
/-- what the turn of one item, a tuple of four, asks: the element is True, nothing else is left -/
def Quad (prog : Program) (w : World) (A : Around) (h₀ : Heap) (L : Addr) (m : Str → Option Value) (env : Env) (elt : Expr) (a b c d : Str) (scope : Scope) (cl : List (Str × Addr)) (s₁ : Shared) (news : List (Addr × Obj)) (v : Value) : Prop :=
  ∃ (t : Addr) (ot : Obj) (v1 v2 v3 v4 : Value) (nt : Nat), v = .ref t ∧ (t, ot) ∈ news ∧ ot.cls = .type "tuple" ∧ ot.data = .seq #[v1, v2, v3, v4] nt ∧
    ∀ (I : Addr) (oI : Obj) (C : Addr) (oC : Obj) (D : Addr) (ys : List Value) (m₂ : Str → Option Value) (h : Heap) (tk : Nat) (E' : Value → Shared → Prop), NsObj oC m₂ → m₂ a = some v1 → m₂ b = some v2 → m₂ c = some v3 → m₂ d = some v4 →
      Fr h₀ L h m → News h₀ L h ((I, oI) :: (C, oC) :: (D, lst ys) :: news) →
      wpAny (model prog w) A (eval elt (compEnvC scope cl C env))
        (QuadEnd h₀ L m s₁ ((I, oI) :: (C, oC) :: (D, lst ys) :: news)) E' { s₁ with heap := h, toks := tk }
theorem replicate_snoc (i : Nat) : List.replicate i (Value.bool true) ++ [.bool true] = List.replicate (i + 1) (.bool true) := by
  rw [List.replicate_succ']
def QuadSrc (prog : Program) (w : World) (A : Around) (h₀ : Heap) (L : Addr) (m : Str → Option Value) (env : Env) (elt : Expr) (a b c d : Str) (scope : Scope) (cl : List (Str × Addr)) (Q : Value → Shared → Prop) (xv : Value) (s₁ : Shared) : Prop :=
  ∃ (ax : Addr) (its : Array Value) (o : Obj) (n : Nat) (news : List (Addr × Obj)), xv = .ref ax ∧ Fr h₀ L s₁.heap m ∧ News h₀ L s₁.heap news ∧ (ax, o) ∈ news ∧ o.cls = .type "list" ∧ o.data = .seq its n ∧ its.size ≤ sizeLine ∧
      (∀ v ∈ its.toList, Quad prog w A h₀ L m env elt a b c d scope cl s₁ news v) ∧
      (∀ D h tk, Fr h₀ L h m → News h₀ L h ((D, lst (List.replicate its.size (.bool true))) :: news) → (∀ p ∈ news, p.1 < D) → Q (.ref D) { s₁ with heap := h, toks := tk })
/-- [elt for a, b, c, d in rows], the rows tuples of four on the ledger, each element True -/
theorem comp_quads {elt iter : Expr} {a b c d : Str} {pa pb pc pd tp pos : Pos} {tk9 : Nat} {scope : Scope} {cl : List (Str × Addr)} {Q : Value → Shared → Prop}
    (_F₀ : Fr h₀ L s.heap m) (hh : A.handled = none) (hclos : closureFor scope env = pure cl) (hcell : ∀ y ∈ scope.names, y.2 ≠ .cell) (hkind : scope.kind = .function)
    (hnames : ∀ y ∈ scope.names, y.2 = .local → scope.names.lookup y.1 = some .local)
    (ha : scope.names.lookup a = some .local) (hb : scope.names.lookup b = some .local) (hc : scope.names.lookup c = some .local) (hd : scope.names.lookup d = some .local)
    (hne : a ≠ b ∧ a ≠ c ∧ a ≠ d ∧ b ≠ c ∧ b ≠ d ∧ c ≠ d)
    (h : wpAny (model prog w) A (eval iter env) (QuadSrc prog w A h₀ L m env elt a b c d scope cl Q) E s)
    (hs : ∀ x, foldedSetIterable iter env x = pure x := by intro _; rfl) :
    wpAny (model prog w) A (eval (.ListComp elt [⟨.Tuple [.Name a pa, .Name b pb, .Name c pc, .Name d pd] tk9 tp, iter, [], 0⟩] scope pos) env) Q E s := by
  rw [eval_ListComp]
  refine wpAny_comprehension_free (use := none) rfl hs hclos hkind hnames (wpAny_mono h (fun xv s₁ h₁ => ?_) fun _ _ e => e)
  obtain ⟨ax, its, o, n, news, rfl, F, N, hm, hoc, hod, hsz, turn, fin⟩ := h₁
  have hl : s₁.heap.IsList ax its := ⟨o, (N _ hm).1, hoc, n, hod⟩
  have hax : @LT.lt Nat _ ax s₁.heap.objs.size := Heap.lt_size (N _ hm).1
  have hLlt : @LT.lt Nat _ L s₁.heap.objs.size := F.ns.lt
  have hlow : ∀ p ∈ news, @LT.lt Nat _ p.1 s₁.heap.objs.size := fun p hp => Heap.lt_size (N p hp).1
  have hnone : ∀ x, @LE.le Nat _ s₁.heap.objs.size x → h₀.get? x = none := fun x hx => by
    cases e : h₀.get? x with
    | none => rfl
    | some o' => exact absurd (Heap.lt_size (F.keep x o' e)) (Nat.not_lt.mpr hx)
  refine wpAny_pyIter_list hl ?_
  refine wpAny_newObj_type (wpAny_newFunctionEnv hcell (by intro y hy; simp at hy) (fun h₁ hns hsb => ?_) hkind)
  dsimp only at hns hsb ⊢
  generalize hI : s₁.heap.objs.size = I at *
  generalize hH1 : s₁.heap.push { cls := .type "list_iterator", data := .fields #[.ref ax, .int 0 0] } = H1 at *
  have hD : H1.objs.size = I + 1 := by rw [← hH1, Heap.size_push, hI]
  generalize hH2 : H1.push { cls := .type "list", dict := none, data := .seq ([] : List Value).toArray } = H2 at *
  have hC : H2.objs.size = I + 2 := by rw [← hH2, Heap.size_push, hD]
  rw [hC] at hns hsb ⊢
  rw [hD]
  have up1 : ∀ x o, s₁.heap.get? x = some o → H1.get? x = some o := fun x o e => hH1 ▸ Heap.get?_push_of_some _ e
  have up2 : ∀ x o, H1.get? x = some o → H2.get? x = some o := fun x o e => hH2 ▸ Heap.get?_push_of_some _ e
  have up3 : ∀ x o, x ≠ I + 2 → H2.get? x = some o → h₁.get? x = some o := fun x o hx e => hsb.extBut x o hx (Heap.get?_push_of_some _ e)
  have upD : H2.get? (I + 1) = some (lst []) := by rw [← hH2, ← hD]; exact Heap.get?_push_size _ rfl
  have upI : H1.get? I = some { cls := .type "list_iterator", data := .fields #[.ref ax, .int 0 0] } := by rw [← hH1, ← hI]; exact Heap.get?_push_size _ rfl
  have all : ∀ x o, s₁.heap.get? x = some o → h₁.get? x = some o := fun x o e => up3 x o (by have hq : @LT.lt Nat _ x s₁.heap.objs.size := Heap.lt_size e; rw [hI] at hq; refine neN ?_; omega) (up2 _ _ (up1 _ _ e))
  have W := Walks.list (prog := prog) (w := w) hh I ax (Nat.ne_of_lt hax) its
  have st0 : h₁.IsListIter I ax 0 ∧ h₁.IsList ax its := ⟨⟨_, up3 _ _ (neN (by omega)) (up2 _ _ upI), rfl, rfl⟩, ⟨o, all _ _ (N _ hm).1, hoc, n, hod⟩⟩
  have loop : ∀ s₃ : Shared, s₃ = { s₁ with heap := h₁, toks := s₁.toks + ([] : List (Str × Value)).length } →
      codeAny (model prog w) A (.compLoop (.ListComp elt [⟨.Tuple [.Name a pa, .Name b pb, .Name c pc, .Name d pd] tk9 tp, iter, [], 0⟩] scope pos) 0 (.ref I) (.ref (I + 1)) (compEnvC scope cl (I + 2) env))
        (compPost (model prog w) A E none Q (.ref (I + 1)) (I + 2)) s₃ := by
    rintro s₃ rfl
    refine LCp.codeAny_compLoop_pair (fun k s' => ∃ h' tk i m', s' = { s₁ with heap := h', toks := tk } ∧ i ≤ its.size ∧ k = its.size + 1 - i ∧ (h'.IsListIter I ax i ∧ h'.IsList ax its) ∧ Fr h₀ L h' m ∧ h'.Ns (I + 2) m' ∧
      News h₀ L h' ((I + 1, lst (List.replicate i (.bool true))) :: news)) ?_ (its.size + 1) ⟨h₁, _, 0, _, rfl, Nat.zero_le _, rfl, st0, F.keeps all, hns, ?_⟩
    · rintro k s' ⟨h', tk, i, m', rfl, hi, rfl, st, F', hn', N'⟩
      have offI : ∀ p ∈ (I + 1, lst (List.replicate i (.bool true))) :: news, p.1 ≠ I := fun p hp => by
        rcases List.mem_cons.mp hp with rfl | hp
        · exact Nat.succ_ne_self I
        · exact Nat.ne_of_lt (hlow p hp)
      by_cases hlt : i < its.size
      · refine W.item i _ _ _ hlt st fun v h₂ tk₂ hPv st₂ hk₂ => ?_
        have hk2 : ∀ b o, b ≠ I → h'.get? b = some o → h₂.get? b = some o := fun b o hb e => hk₂ b o (by simpa using hb) e
        obtain ⟨t, ot, v1, v2, v3, v4, nt, rfl, hmt, hct, hdt, go⟩ := turn v (by
          have : its[i]? = some v := hPv
          rw [Array.getElem?_eq_some_iff] at this
          obtain ⟨_, e⟩ := this
          rw [← e]
          exact Array.getElem_mem_toList _)
        have F2 := fr_off F' hk2 (Nat.ne_of_lt hLlt) (hnone I (Nat.le_refl _))
        have N2 := news_off N' hk2 offI
        have n2 : h₂.Ns (I + 2) m' := hn'.at' fun o e => hk2 _ o (neN (by omega)) e
        refine wpAny_letOwnedTupleGo_listiter st₂.1 ?_
        refine assign_Tuple_tuple hh ⟨ot, (N2 _ (List.mem_cons_of_mem _ hmt)).1, hct, nt, hdt⟩ rfl rfl fun h₃ he => ?_
        have he' : ∀ b o, h₂.get? b = some o → h₃.get? b = some o := fun b o e => he b o (Nat.ne_of_lt (Heap.lt_size e)) e
        refine assignInOrder_cons (wpAny_assign_Name (wpAny_storeName_local (lookup_relabel_local ha) (n2.at' fun o e => he' _ o e) (fun h₄ n4 s4 => ?_) (by simp [compEnvC, relabel, hkind])))
        refine assignInOrder_cons (wpAny_assign_Name (wpAny_storeName_local (lookup_relabel_local hb) n4 (fun h₅ n5 s5 => ?_) (by simp [compEnvC, relabel, hkind])))
        refine assignInOrder_cons (wpAny_assign_Name (wpAny_storeName_local (lookup_relabel_local hc) n5 (fun h₆ n6 s6 => ?_) (by simp [compEnvC, relabel, hkind])))
        refine assignInOrder_cons (wpAny_assign_Name (wpAny_storeName_local (lookup_relabel_local hd) n6 (fun h₇ n7 s7 => ?_) (by simp [compEnvC, relabel, hkind])))
        refine assignInOrder_nil ?_
        have hk3 : ∀ b o, b ≠ I + 2 → h₂.get? b = some o → h₇.get? b = some o := fun b o hb e =>
          s7.extBut b o hb (s6.extBut b o hb (s5.extBut b o hb (s4.extBut b o hb (he' b o e))))
        have F7 := fr_off F2 hk3 (neN (by omega)) (hnone (I + 2) (by omega))
        have N7 : News h₀ L h₇ ((I + 1, lst (List.replicate i (.bool true))) :: news) := news_off N2 hk3 (fun p hp => by
          rcases List.mem_cons.mp hp with rfl | hp
          · exact neN (by omega)
          · have := hlow p hp; exact neN (by omega))
        obtain ⟨oI, heI, hcI, hdI⟩ := st₂.1
        obtain ⟨oC, heC, hoC⟩ := LCg.ns_obj n7
        have heI7 := hk3 I oI (neN (by omega)) heI
        refine wpAny_mono (go I oI (I + 2) oC (I + 1) (List.replicate i (.bool true)) _ h₇ _ _ hoC ?_ ?_ ?_ ?_ F7 ?_) (fun y s₄ h₄ => ?_) fun _ _ e => e
        · simp [hne.1, hne.2.1, hne.2.2.1]
        · simp [hne.2.2.2.1, hne.2.2.2.2.1]
        · simp [hne.2.2.2.2.2]
        · simp
        · intro p hp
          rcases List.mem_cons.mp hp with rfl | hp
          · exact ⟨heI7, Nat.ne_of_gt hLlt, hnone I (Nat.le_refl _)⟩
          · rcases List.mem_cons.mp hp with rfl | hp
            · exact ⟨heC, neN (by omega), hnone (I + 2) (by omega)⟩
            · exact N7 p hp
        · obtain ⟨h8, tk8, rfl, rfl, F8, N8⟩ := h₄
          have zI := (N8 (I, oI) List.mem_cons_self).1
          have zC := (N8 (I + 2, oC) (List.mem_cons_of_mem _ List.mem_cons_self)).1
          have zD := (N8 (I + 1, lst (List.replicate i (.bool true))) (List.mem_cons_of_mem _ (List.mem_cons_of_mem _ List.mem_cons_self))).1
          have zl : ∀ p ∈ news, h8.get? p.1 = some p.2 := fun p hp => (N8 p (List.mem_cons_of_mem _ (List.mem_cons_of_mem _ (List.mem_cons_of_mem _ hp)))).1
          refine append_at (hsz := by rw [List.size_toArray, List.length_replicate]; omega) zD fun h9 s9 e9 => ?_
          have hk9 : ∀ b o, b ≠ I + 1 → h8.get? b = some o → h9.get? b = some o := fun b o hb e => s9.extBut b o hb e
          refine ⟨its.size + 1 - (i + 1), by omega, h9, tk8, i + 1, _, rfl, hlt, rfl, ⟨⟨oI, hk9 _ _ (neN (by omega)) zI, hcI, hdI⟩, ⟨o, hk9 _ _ (neN (by omega)) (zl _ hm), hoc, n, hod⟩⟩,
            fr_off F8 hk9 (neN (by omega)) (hnone (I + 1) (by omega)), (hoC.ns zC).sameBut s9 (neN (by omega)), fun p hp => ?_⟩
          rcases List.mem_cons.mp hp with rfl | hp
          · refine ⟨?_, neN (by omega), hnone (I + 1) (by omega)⟩
            rw [← replicate_snoc, ← LCg.lst_snoc]
            exact e9
          · exact ⟨hk9 _ _ (by have := hlow p hp; exact neN (by omega)) (zl p hp), (N p hp).2⟩
      · obtain rfl : i = its.size := Nat.le_antisymm hi (Nat.not_lt.mp hlt)
        refine W.done _ _ _ st fun h₂ tk₂ hk₂ => ?_
        have hk2 : ∀ b o, b ≠ I → h'.get? b = some o → h₂.get? b = some o := fun b o hb e => hk₂ b o (by simpa using hb) e
        have F2 := fr_off F' hk2 (Nat.ne_of_lt hLlt) (hnone I (Nat.le_refl _))
        have N2 := news_off N' hk2 offI
        refine ⟨m', hn'.at' fun o e => hk2 _ o (neN (by omega)) e, fun h3 s3 => fin (I + 1) h3 tk₂ (F2.change s3 (neN (by omega)) (hnone (I + 2) (by omega))) ?_ ?_⟩
        · refine news_off N2 (fun b o hb e => s3.extBut b o hb e) fun p hp => ?_
          rcases List.mem_cons.mp hp with rfl | hp
          · exact neN (by omega)
          · have := hlow p hp; exact neN (by omega)
        · intro p hp; have := hlow p hp; exact ltN (by omega)
    · intro p hp
      rcases List.mem_cons.mp hp with rfl | hp
      · exact ⟨up3 _ _ (neN (by omega)) upD, neN (by omega), hnone (I + 1) (by omega)⟩
      · exact ⟨all _ _ (N p hp).1, (N p hp).2⟩
  exact codeAny_compStart_list (loop _ rfl) (W.self 0 _ _ _ st0 (loop _ rfl))
open PySem.SeqAt in
theorem notin_trues {a : Addr} {news : List (Addr × Obj)} {n : Nat} {Q : Value → Shared → Prop} (N : News h₀ L s.heap news) (hm : (a, lst (List.replicate n (.bool true))) ∈ news) (h : Q (.bool true) s) :
    wpAny (model prog w) A (compareOp .NotIn (.bool false) (.ref a)) Q E s := by
  refine notIn_listAt (fun _ => false) ⟨_, (N _ hm).1, rfl, _, rfl⟩ ?_ ?_
  · intro y hy
    simp only [List.mem_toArray, List.mem_replicate] at hy
    obtain ⟨_, rfl⟩ := hy
    exact EqAt.bool_bool true false
  · have e : (List.replicate n (Value.bool true)).toArray.any (fun _ => false) = false := by
      rw [List.any_toArray]
      simp
    rw [e]
    exact h
end
end
section
/-- the months ahead of a Hebrew year -/
def moF (y : Int) : Int := (235 * y - 234) / 19
theorem ym_step (y : Int) : ymF y = moF (y + 1) - moF y := by
  have e1 : moF (y + 1) = 12 * y + (y * 7 + 1) / 19 := by unfold moF; omega
  have e2 : moF y = 12 * y - 13 + (y * 7 + 13) / 19 := by unfold moF; omega
  rw [e1, e2]
  unfold ymF
  generalize y * 7 = z
  split <;> omega
theorem sum_snoc (l : List Int) (x : Int) : (l ++ [x]).sum = l.sum + x := by
  induction l with
  | nil => simp
  | cons a r ih => simp only [List.cons_append, List.sum_cons, ih]; omega
theorem months_nat (y : Int) : ∀ n : Nat, (List.map (fun k' => ymF (y + k')) (rangeKs 0 n)).sum = moF (y + n) - moF y
  | 0 => by simp [rangeKs]
  | n + 1 => by
    have e : rangeKs 0 (n + 1) = rangeKs 0 n ++ [(n : Int)] := by simp [rangeKs, List.range_succ]
    rw [e, List.map_append, List.map_cons, List.map_nil, sum_snoc, months_nat y n, ym_step (y + n), show y + (n : Int) + 1 = y + ((n + 1 : Nat) : Int) by omega]
    omega
theorem months_sum (y n : Int) (h : 0 ≤ n) : (List.map (fun k' => ymF (y + k')) (rangeKs 0 (n - 0).toNat)).sum = moF (y + n) - moF y := by
  rw [months_nat, show ((n - 0).toNat : Int) = n by omega]
/-- the days ahead of a Hebrew year, by the mean moons alone -/
def meanF (y : Int) : Int := moF y * 29 + (12084 + 13753 * moF y) / 25920
theorem d1_mean (y : Int) : meanF y ≤ d1F y ∧ d1F y ≤ meanF y + 1 := by
  unfold d1F meanF moF
  dsimp only
  split <;> omega
/-- a common or a long year by the mean moons -/
theorem mean_step (y : Int) : (353 < meanF (y + 1) - meanF y ∧ meanF (y + 1) - meanF y < 356) ∨ (382 < meanF (y + 1) - meanF y ∧ meanF (y + 1) - meanF y < 385) := by
  have h : moF (y + 1) - moF y = 12 ∨ moF (y + 1) - moF y = 13 := by unfold moF; omega
  unfold meanF
  omega
/-- both delays together: two days at most -/
theorem delays (y : Int) : meanF y ≤ d1F y + d2F y ∧ d1F y + d2F y ≤ meanF y + 2 := by
  have a := d1_mean (y - 1)
  have b := d1_mean y
  have c := d1_mean (y + 1)
  have s := mean_step y
  have s' := mean_step (y - 1)
  rw [show y - 1 + 1 = y by omega] at s'
  unfold d2F
  split
  · omega
  · split <;> omega
theorem mo_pos {y : Int} (h : 1 ≤ y) : 0 ≤ moF y := by unfold moF; omega
theorem heb_mean {y : Int} (h : 1 ≤ y) : 347998 + meanF y ≤ hebF y ∧ hebF y ≤ 347998 + meanF y + 2 := by
  have d := delays y
  have p := mo_pos h
  have q : 0 ≤ meanF y := by unfold meanF; omega
  unfold hebF midF
  split <;> omega
theorem heb_end {y n : Int} (h : 1 ≤ y) (hn : 1 ≤ n) :
    (19 * (List.map (fun k' => ymF (y + k')) (rangeKs 0 (n - 0).toNat)).sum - 235 * n ≤ 18 ∧ -18 ≤ 19 * (List.map (fun k' => ymF (y + k')) (rangeKs 0 (n - 0).toNat)).sum - 235 * n) ∧
    25920 * (hebF (y + n) - hebF y) - 765433 * (List.map (fun k' => ymF (y + k')) (rangeKs 0 (n - 0).toNat)).sum < 77760 ∧
    -77760 < 25920 * (hebF (y + n) - hebF y) - 765433 * (List.map (fun k' => ymF (y + k')) (rangeKs 0 (n - 0).toNat)).sum := by
  rw [months_sum y n (by omega)]
  have a := heb_mean h
  have b := heb_mean (y := y + n) (by omega)
  refine ⟨?_, ?_⟩
  · unfold moF; omega
  · unfold meanF at a b
    omega
end
section
local macro_rules | `(tactic| k_room) => `(tactic| ktr_room)
local macro_rules | `(tactic| room) => `(tactic| ktr_room)
local macro_rules | `(tactic| walk_at "eval Call") => `(tactic| ((with_reducible show wpAny _ _ (eval (Expr.Call (Expr.Name _ _) _ [] _) _) _ _ _); k_dflt (refine Call_ ?_)))
set_option maxRecDepth 100000 in
set_option maxHeartbeats 8000000 in
theorem isleap_tells (y : Int) (t : Tok) : Tells 10 21 (True) [.int y t] (fun _ => .bool (isleapF y)) := by
  unfold Tells
  k_with_none
  k_with "execs cons" => (k_here; (try dsimp only); (with_reducible refine Mine.gentoks ?_); intro tk9; (with_reducible refine wpAny_execs_cons ?_); (try dsimp only))
  k_with "execs nil" => (k_here; (try dsimp only); (with_reducible refine Mine.gentoks ?_); intro tk9; (with_reducible refine wpAny_execs_nil ?_); (try dsimp only))
  k_with "tree" => simp only [isleapF]
  w_on
  k_fill
  intro w p loose mean mg mb news dp un gd cn cs a ccd cl outer A₀ base h₀ L m s Q E B F X N T hk hp hd9 hu hret
  w_strict (refine wpAny_call ?_; (k_dflt (refine' code_def ?k1 ?k2 ?k3 ?k4 ?k5 ?kA ?kF ?kK ?k6 ?k7 ?k8 ?k9 ?kB ?_ ?c2 ?c3 ?c4 ?c5; (case kA => exact rfl); (case kF => exact rfl); (case kK => assumption); (case k1 => k_asm); (case k2 => k_asm); (case k3 => k_asm); (case k4 => k_asm); (case k5 => k_asm); (case k6 => k_is); (case k7 => k_is); (case k8 => ktr_room); (case k9 => first | exact BindsTo.of_eq rfl | exact binds_K (by k_in) rfl (by k_is) rfl rfl rfl); (case c5 => decide); (case kB => exact locs rfl); (case c2 => exact rfl); (case c3 => exact rfl); (case c4 => exact rfl); k_whole; intro g' L' h' FG' F' N' B' X' T'; (try dsimp only); (try k_lift B'); (try k_fold))); (repeat' ((fail_if_success (with_reducible show Q _ _)); (first | (k_unfold; (try dsimp only)) | (k_end; wrow_close) | walk1 | (dsimp only; walk1) | (leave1; walk_say "STEP leave1"; try dsimp only) | fail "no step"))); all_goals cb_end hret)
set_option maxRecDepth 100000 in
set_option maxHeartbeats 8000000 in
theorem trunc_tells (y : Int) (t t4 : Tok) : Tells 10 28 (0 ≤ y) [.int y t, .int 4 t4] (fun t => .int (y / 4) t) := by
  unfold Tells
  k_with_none
  k_with "execs cons" => (k_here; (try dsimp only); (with_reducible refine Mine.gentoks ?_); intro tk9; (with_reducible refine wpAny_execs_cons ?_); (try dsimp only))
  k_with "execs nil" => (k_here; (try dsimp only); (with_reducible refine Mine.gentoks ?_); intro tk9; (with_reducible refine wpAny_execs_nil ?_); (try dsimp only))
  w_on
  k_fill
  intro w p loose mean mg mb news dp un gd cn cs a ccd cl outer A₀ base h₀ L m s Q E B F X N T hk hp hd9 hu hret
  w_strict (refine wpAny_call ?_; (k_dflt (refine' code_def ?k1 ?k2 ?k3 ?k4 ?k5 ?kA ?kF ?kK ?k6 ?k7 ?k8 ?k9 ?kB ?_ ?c2 ?c3 ?c4 ?c5; (case kA => exact rfl); (case kF => exact rfl); (case kK => assumption); (case k1 => k_asm); (case k2 => k_asm); (case k3 => k_asm); (case k4 => k_asm); (case k5 => k_asm); (case k6 => k_is); (case k7 => k_is); (case k8 => ktr_room); (case k9 => first | exact BindsTo.of_eq rfl | exact binds_K (by k_in) rfl (by k_is) rfl rfl rfl); (case c5 => decide); (case kB => exact locs rfl); (case c2 => exact rfl); (case c3 => exact rfl); (case c4 => exact rfl); k_whole; intro g' L' h' FG' F' N' B' X' T'; (try dsimp only); (try k_lift B'); (try k_fold))); (repeat' ((fail_if_success (with_reducible show Q _ _)); (first | (k_unfold; (try dsimp only)) | (k_end; wrow_close) | walk1 | (dsimp only; walk1) | (leave1; walk_say "STEP leave1"; try dsimp only) | fail "no step"))); all_goals (first | (refine' cb_retI (Q := Q) hret ?e1 ?e2 ?e3; (case e2 => k_asm); (case e3 => first | k_asm | (refine' cb_drop ?cbN ?cbS; (case cbN => assumption); (case cbS => kcj_all))); (case e1 => (first | rfl | ((try law_fm); (try simp only [decide_eq_true_eq, decide_eq_false_iff_not, Bool.not_eq_true] at *); first | omega | ((repeat' split) <;> first | rfl | omega))))) | w_report))
set_option maxRecDepth 100000 in
set_option maxHeartbeats 8000000 in
theorem mid_tells (y : Int) (t : Tok) : Tells 10 35 (True) [.int y t] (fun t => .int (midF y) t) := by
  unfold Tells
  k_with_none
  k_with "execs cons" => (k_here; (try dsimp only); (with_reducible refine Mine.gentoks ?_); intro tk9; (with_reducible refine wpAny_execs_cons ?_); (try dsimp only))
  k_with "execs nil" => (k_here; (try dsimp only); (with_reducible refine Mine.gentoks ?_); intro tk9; (with_reducible refine wpAny_execs_nil ?_); (try dsimp only))
  w_on
  k_fill
  intro w p loose mean mg mb news dp un gd cn cs a ccd cl outer A₀ base h₀ L m s Q E B F X N T hk hp hd9 hu hret
  w_strict (refine wpAny_call ?_; (k_dflt (refine' code_def ?k1 ?k2 ?k3 ?k4 ?k5 ?kA ?kF ?kK ?k6 ?k7 ?k8 ?k9 ?kB ?_ ?c2 ?c3 ?c4 ?c5; (case kA => exact rfl); (case kF => exact rfl); (case kK => assumption); (case k1 => k_asm); (case k2 => k_asm); (case k3 => k_asm); (case k4 => k_asm); (case k5 => k_asm); (case k6 => k_is); (case k7 => k_is); (case k8 => ktr_room); (case k9 => first | exact BindsTo.of_eq rfl | exact binds_K (by k_in) rfl (by k_is) rfl rfl rfl); (case c5 => decide); (case kB => exact locs rfl); (case c2 => exact rfl); (case c3 => exact rfl); (case c4 => exact rfl); k_whole; intro g' L' h' FG' F' N' B' X' T'; (try dsimp only); (try k_lift B'); (try k_fold))); (repeat' ((fail_if_success (with_reducible show Q _ _)); (first | (k_unfold; (try dsimp only)) | (k_end; wrow_close) | walk1 | (dsimp only; walk1) | (leave1; walk_say "STEP leave1"; try dsimp only) | fail "no step"))); all_goals (first | (refine' cb_retI (Q := Q) hret ?e1 ?e2 ?e3; (case e2 => k_asm); (case e3 => first | k_asm | (refine' cb_drop ?cbN ?cbS; (case cbN => assumption); (case cbS => kcj_all))); (case e1 => ((try law_fm); (try simp only [midF, decide_eq_true_eq, decide_eq_false_iff_not, Bool.not_eq_true] at *); first | omega | ((repeat' split) <;> first | rfl | omega)))) | w_report))
end
section
local macro_rules | `(tactic| k_room) => `(tactic| ktr_room)
local macro_rules | `(tactic| room) => `(tactic| ktr_room)
local macro_rules | `(tactic| walk_at "eval Call") => `(tactic| ((with_reducible show wpAny _ _ (eval (Expr.Call (Expr.Name _ _) _ [] _) _) _ _ _); k_dflt (refine Call_ ?_)))
set_option maxRecDepth 100000 in
set_option maxHeartbeats 8000000 in
theorem coptic_tells (y : Int) (t t1 t2 : Tok) : Tells 10 80 (True) [.int y t, .int 1 t1, .int 1 t2] (fun t => .int (1 + 0 + (y - 1) * 365 + y / 4 + 1825030 - 1) t) := by
  unfold Tells
  k_with_none
  k_with "execs cons" => (k_here; (try dsimp only); (with_reducible refine Mine.gentoks ?_); intro tk9; (with_reducible refine wpAny_execs_cons ?_); (try dsimp only))
  k_with "execs nil" => (k_here; (try dsimp only); (with_reducible refine Mine.gentoks ?_); intro tk9; (with_reducible refine wpAny_execs_nil ?_); (try dsimp only))
  w_on
  k_fill
  intro w p loose mean mg mb news dp un gd cn cs a ccd cl outer A₀ base h₀ L m s Q E B F X N T hk hp hd9 hu hret
  w_strict (refine wpAny_call ?_; (k_dflt (refine' code_def ?k1 ?k2 ?k3 ?k4 ?k5 ?kA ?kF ?kK ?k6 ?k7 ?k8 ?k9 ?kB ?_ ?c2 ?c3 ?c4 ?c5; (case kA => exact rfl); (case kF => exact rfl); (case kK => assumption); (case k1 => k_asm); (case k2 => k_asm); (case k3 => k_asm); (case k4 => k_asm); (case k5 => k_asm); (case k6 => k_is); (case k7 => k_is); (case k8 => ktr_room); (case k9 => first | exact BindsTo.of_eq rfl | exact binds_K (by k_in) rfl (by k_is) rfl rfl rfl); (case c5 => decide); (case kB => exact locs rfl); (case c2 => exact rfl); (case c3 => exact rfl); (case c4 => exact rfl); k_whole; intro g' L' h' FG' F' N' B' X' T'; (try dsimp only); (try k_lift B'); (try k_fold))); (repeat' ((fail_if_success (with_reducible show Q _ _)); (first | (k_unfold; (try dsimp only)) | (k_end; wrow_close) | walk1 | (dsimp only; walk1) | (leave1; walk_say "STEP leave1"; try dsimp only) | fail "no step"))); all_goals (first | (refine' cb_retI (Q := Q) hret ?e1 ?e2 ?e3; (case e2 => k_asm); (case e3 => first | k_asm | (refine' cb_drop ?cbN ?cbS; (case cbN => assumption); (case cbS => kcj_all))); (case e1 => (first | rfl | ((try law_fm); (try simp only [decide_eq_true_eq, decide_eq_false_iff_not, Bool.not_eq_true] at *); first | omega | ((repeat' split) <;> first | rfl | omega))))) | w_report))
set_option maxRecDepth 100000 in
set_option maxHeartbeats 8000000 in
theorem islamic_tells (y : Int) (t t1 t2 : Tok) : Tells 10 180 (True) [.int y t, .int 1 t1, .int 1 t2] (fun t => .int (1 + 0 + (y - 1) * 354 + (3 + 11 * y) / 30 + 1948440 - 1) t) := by
  unfold Tells
  k_with_none
  k_with "execs cons" => (k_here; (try dsimp only); (with_reducible refine Mine.gentoks ?_); intro tk9; (with_reducible refine wpAny_execs_cons ?_); (try dsimp only))
  k_with "execs nil" => (k_here; (try dsimp only); (with_reducible refine Mine.gentoks ?_); intro tk9; (with_reducible refine wpAny_execs_nil ?_); (try dsimp only))
  w_on
  k_fill
  intro w p loose mean mg mb news dp un gd cn cs a ccd cl outer A₀ base h₀ L m s Q E B F X N T hk hp hd9 hu hret
  w_strict (refine wpAny_call ?_; (k_dflt (refine' code_def ?k1 ?k2 ?k3 ?k4 ?k5 ?kA ?kF ?kK ?k6 ?k7 ?k8 ?k9 ?kB ?_ ?c2 ?c3 ?c4 ?c5; (case kA => exact rfl); (case kF => exact rfl); (case kK => assumption); (case k1 => k_asm); (case k2 => k_asm); (case k3 => k_asm); (case k4 => k_asm); (case k5 => k_asm); (case k6 => k_is); (case k7 => k_is); (case k8 => ktr_room); (case k9 => first | exact BindsTo.of_eq rfl | exact binds_K (by k_in) rfl (by k_is) rfl rfl rfl); (case c5 => decide); (case kB => exact locs rfl); (case c2 => exact rfl); (case c3 => exact rfl); (case c4 => exact rfl); k_whole; intro g' L' h' FG' F' N' B' X' T'; (try dsimp only); (try k_lift B'); (try k_fold))); (repeat' ((fail_if_success (with_reducible show Q _ _)); (first | (k_unfold; (try dsimp only)) | (k_end; wrow_close) | walk1 | (dsimp only; walk1) | (leave1; walk_say "STEP leave1"; try dsimp only) | fail "no step"))); all_goals (first | (refine' cb_retI (Q := Q) hret ?e1 ?e2 ?e3; (case e2 => k_asm); (case e3 => first | k_asm | (refine' cb_drop ?cbN ?cbS; (case cbN => assumption); (case cbS => kcj_all))); (case e1 => (first | rfl | ((try law_fm); (try simp only [decide_eq_true_eq, decide_eq_false_iff_not, Bool.not_eq_true] at *); first | omega | ((repeat' split) <;> first | rfl | omega))))) | w_report))
set_option maxRecDepth 100000 in
set_option maxHeartbeats 8000000 in
theorem leapj_tells (y : Int) (t : Tok) : Tells 10 195 (True) [.int y t] (fun _ => .bool (decide (y % 4 = 0))) := by
  unfold Tells
  k_with_none
  k_with "execs cons" => (k_here; (try dsimp only); (with_reducible refine Mine.gentoks ?_); intro tk9; (with_reducible refine wpAny_execs_cons ?_); (try dsimp only))
  k_with "execs nil" => (k_here; (try dsimp only); (with_reducible refine Mine.gentoks ?_); intro tk9; (with_reducible refine wpAny_execs_nil ?_); (try dsimp only))
  w_on
  k_fill
  intro w p loose mean mg mb news dp un gd cn cs a ccd cl outer A₀ base h₀ L m s Q E B F X N T hk hp hd9 hu hret
  w_strict (refine wpAny_call ?_; (k_dflt (refine' code_def ?k1 ?k2 ?k3 ?k4 ?k5 ?kA ?kF ?kK ?k6 ?k7 ?k8 ?k9 ?kB ?_ ?c2 ?c3 ?c4 ?c5; (case kA => exact rfl); (case kF => exact rfl); (case kK => assumption); (case k1 => k_asm); (case k2 => k_asm); (case k3 => k_asm); (case k4 => k_asm); (case k5 => k_asm); (case k6 => k_is); (case k7 => k_is); (case k8 => ktr_room); (case k9 => first | exact BindsTo.of_eq rfl | exact binds_K (by k_in) rfl (by k_is) rfl rfl rfl); (case c5 => decide); (case kB => exact locs rfl); (case c2 => exact rfl); (case c3 => exact rfl); (case c4 => exact rfl); k_whole; intro g' L' h' FG' F' N' B' X' T'; (try dsimp only); (try k_lift B'); (try k_fold))); (repeat' ((fail_if_success (with_reducible show Q _ _)); (first | (k_unfold; (try dsimp only)) | (k_end; wrow_close) | walk1 | (dsimp only; walk1) | (leave1; walk_say "STEP leave1"; try dsimp only) | fail "no step"))); all_goals cb_end hret)
end
section
local macro_rules | `(tactic| k_room) => `(tactic| ktr_room)
local macro_rules | `(tactic| room) => `(tactic| ktr_room)
local macro_rules | `(tactic| walk_at "eval Call") => `(tactic| ((with_reducible show wpAny _ _ (eval (Expr.Call (Expr.Name _ _) _ [] _) _) _ _ _); k_dflt (refine Call_ ?_)))
set_option maxRecDepth 100000 in
set_option maxHeartbeats 8000000 in
theorem d1_tells (y : Int) (t : Tok) : Tells 10 131 (True) [.int y t] (fun t => .int (d1F y) t) := by
  unfold Tells
  k_with_none
  k_with "execs cons" => (k_here; (try dsimp only); (with_reducible refine Mine.gentoks ?_); intro tk9; (with_reducible refine wpAny_execs_cons ?_); (try dsimp only))
  k_with "execs nil" => (k_here; (try dsimp only); (with_reducible refine Mine.gentoks ?_); intro tk9; (with_reducible refine wpAny_execs_nil ?_); (try dsimp only))
  w_on
  k_fill
  intro w p loose mean mg mb news dp un gd cn cs a ccd cl outer A₀ base h₀ L m s Q E B F X N T hk hp hd9 hu hret
  w_strict (refine wpAny_call ?_; (k_dflt (refine' code_def ?k1 ?k2 ?k3 ?k4 ?k5 ?kA ?kF ?kK ?k6 ?k7 ?k8 ?k9 ?kB ?_ ?c2 ?c3 ?c4 ?c5; (case kA => exact rfl); (case kF => exact rfl); (case kK => assumption); (case k1 => k_asm); (case k2 => k_asm); (case k3 => k_asm); (case k4 => k_asm); (case k5 => k_asm); (case k6 => k_is); (case k7 => k_is); (case k8 => ktr_room); (case k9 => first | exact BindsTo.of_eq rfl | exact binds_K (by k_in) rfl (by k_is) rfl rfl rfl); (case c5 => decide); (case kB => exact locs rfl); (case c2 => exact rfl); (case c3 => exact rfl); (case c4 => exact rfl); k_whole; intro g' L' h' FG' F' N' B' X' T'; (try dsimp only); (try k_lift B'); (try k_fold))); (repeat' ((fail_if_success (with_reducible show Q _ _)); (first | (k_unfold; (try dsimp only)) | (k_end; wrow_close) | walk1 | (dsimp only; walk1) | (leave1; walk_say "STEP leave1"; try dsimp only) | fail "no step"))); all_goals (first | (refine' cb_retI (Q := Q) hret ?e1 ?e2 ?e3; (case e2 => k_asm); (case e3 => first | k_asm | (refine' cb_drop ?cbN ?cbS; (case cbN => assumption); (case cbS => kcj_all))); (case e1 => ((try law_fm); (try simp only [d1F, decide_eq_true_eq, decide_eq_false_iff_not, Bool.not_eq_true] at *); first | omega | ((repeat' split) <;> first | rfl | omega)))) | w_report))
set_option maxRecDepth 100000 in
set_option maxHeartbeats 8000000 in
theorem ym_tells (y : Int) (t : Tok) : Tells 10 124 (True) [.int y t] (fun t => .int (ymF y) t) := by
  unfold Tells
  k_with_none
  k_with "execs cons" => (k_here; (try dsimp only); (with_reducible refine Mine.gentoks ?_); intro tk9; (with_reducible refine wpAny_execs_cons ?_); (try dsimp only))
  k_with "execs nil" => (k_here; (try dsimp only); (with_reducible refine Mine.gentoks ?_); intro tk9; (with_reducible refine wpAny_execs_nil ?_); (try dsimp only))
  w_on
  k_fill
  intro w p loose mean mg mb news dp un gd cn cs a ccd cl outer A₀ base h₀ L m s Q E B F X N T hk hp hd9 hu hret
  w_strict (refine wpAny_call ?_; (k_dflt (refine' code_def ?k1 ?k2 ?k3 ?k4 ?k5 ?kA ?kF ?kK ?k6 ?k7 ?k8 ?k9 ?kB ?_ ?c2 ?c3 ?c4 ?c5; (case kA => exact rfl); (case kF => exact rfl); (case kK => assumption); (case k1 => k_asm); (case k2 => k_asm); (case k3 => k_asm); (case k4 => k_asm); (case k5 => k_asm); (case k6 => k_is); (case k7 => k_is); (case k8 => ktr_room); (case k9 => first | exact BindsTo.of_eq rfl | exact binds_K (by k_in) rfl (by k_is) rfl rfl rfl); (case c5 => decide); (case kB => exact locs rfl); (case c2 => exact rfl); (case c3 => exact rfl); (case c4 => exact rfl); k_whole; intro g' L' h' FG' F' N' B' X' T'; (try dsimp only); (try k_lift B'); (try k_fold))); (repeat' ((fail_if_success (with_reducible show Q _ _)); (first | (k_unfold; (try dsimp only)) | (k_end; wrow_close) | walk1 | (dsimp only; walk1) | (leave1; walk_say "STEP leave1"; try dsimp only) | fail "no step"))); all_goals (first | (refine' cb_retI (Q := Q) hret ?e1 ?e2 ?e3; (case e2 => k_asm); (case e3 => first | k_asm | (refine' cb_drop ?cbN ?cbS; (case cbN => assumption); (case cbS => kcj_all))); (case e1 => ((try law_fm); (try simp only [ymF, decide_eq_true_eq, decide_eq_false_iff_not, Bool.not_eq_true] at *); first | omega | ((repeat' split) <;> first | rfl | omega)))) | w_report))
end
section
local macro_rules | `(tactic| k_room) => `(tactic| ktr_room)
local macro_rules | `(tactic| room) => `(tactic| ktr_room)
local macro_rules | `(tactic| walk_at "eval Call") => `(tactic| ((with_reducible show wpAny _ _ (eval (Expr.Call (Expr.Name _ _) _ [] _) _) _ _ _); k_dflt (refine Call_ ?_)))
set_option maxRecDepth 100000 in
set_option maxHeartbeats 8000000 in
theorem d2_tells (y : Int) (t : Tok) : Tells 15 138 (True) [.int y t] (fun t => .int (d2F y) t) := by
  unfold Tells
  k_with_none
  k_with "call ref" => (k_here; (with_reducible show wpAny _ _ (call (Value.ref 131) _ _) _ _ _); k_dflt (refine' Mine.use (Mine.d1_tells _ _) ?k1 ?k2 ?k3 ?k4 ?k5 ?kK ?kp ?kd ?ku ?_); (case k1 => k_asm); (case k2 => k_asm); (case k3 => k_asm); (case k4 => k_asm); (case k5 => k_asm); (case kK => first | exact rfl | assumption); (case kp => first | trivial | omega | l_fact); (case kd => ktr_room); (case ku => ktr_units); intro t9 h9 tk9 F9 N9; (try dsimp only); (try k_fold))
  k_with "execs cons" => (k_here; (try dsimp only); (with_reducible refine Mine.gentoks ?_); intro tk9; (with_reducible refine wpAny_execs_cons ?_); (try dsimp only))
  k_with "execs nil" => (k_here; (try dsimp only); (with_reducible refine Mine.gentoks ?_); intro tk9; (with_reducible refine wpAny_execs_nil ?_); (try dsimp only))
  w_on
  k_fill
  intro w p loose mean mg mb news dp un gd cn cs a ccd cl outer A₀ base h₀ L m s Q E B F X N T hk hp hd9 hu hret
  w_strict (refine wpAny_call ?_; (k_dflt (refine' code_def ?k1 ?k2 ?k3 ?k4 ?k5 ?kA ?kF ?kK ?k6 ?k7 ?k8 ?k9 ?kB ?_ ?c2 ?c3 ?c4 ?c5; (case kA => exact rfl); (case kF => exact rfl); (case kK => assumption); (case k1 => k_asm); (case k2 => k_asm); (case k3 => k_asm); (case k4 => k_asm); (case k5 => k_asm); (case k6 => k_is); (case k7 => k_is); (case k8 => ktr_room); (case k9 => first | exact BindsTo.of_eq rfl | exact binds_K (by k_in) rfl (by k_is) rfl rfl rfl); (case c5 => decide); (case kB => exact locs rfl); (case c2 => exact rfl); (case c3 => exact rfl); (case c4 => exact rfl); k_whole; intro g' L' h' FG' F' N' B' X' T'; (try dsimp only); (try k_lift B'); (try k_fold))); (repeat' ((fail_if_success (with_reducible show Q _ _)); (first | (k_unfold; (try dsimp only)) | (k_end; wrow_close) | walk1 | (dsimp only; walk1) | (leave1; walk_say "STEP leave1"; try dsimp only) | fail "no step"))); all_goals (first | (refine' cb_retI (Q := Q) hret ?e1 ?e2 ?e3; (case e2 => k_asm); (case e3 => first | k_asm | (refine' cb_drop ?cbN ?cbS; (case cbN => assumption); (case cbS => kcj_all))); (case e1 => ((try law_fm); (try simp only [d2F, decide_eq_true_eq, decide_eq_false_iff_not, Bool.not_eq_true] at *); first | omega | ((repeat' split) <;> first | rfl | omega)))) | w_report))
end
section
local macro_rules | `(tactic| k_room) => `(tactic| ktr_room)
local macro_rules | `(tactic| room) => `(tactic| ktr_room)
local macro_rules | `(tactic| walk_at "eval Call") => `(tactic| ((with_reducible show wpAny _ _ (eval (Expr.Call (Expr.Name _ _) _ [] _) _) _ _ _); k_dflt (refine Call_ ?_)))
set_option maxRecDepth 100000 in
set_option maxHeartbeats 8000000 in
theorem heb_tells (y : Int) (t t1 t2 : Tok) : Tells 20 166 (True) [.int y t, .int 7 t1, .int 1 t2] (fun t => .int (hebF y) t) := by
  unfold Tells
  k_with_none
  k_with "call ref" => (k_here; (with_reducible show wpAny _ _ (call (Value.ref 35) _ _) _ _ _); k_dflt (refine' Mine.use (Mine.mid_tells _ _) ?k1 ?k2 ?k3 ?k4 ?k5 ?kK ?kp ?kd ?ku ?_); (case k1 => k_asm); (case k2 => k_asm); (case k3 => k_asm); (case k4 => k_asm); (case k5 => k_asm); (case kK => first | exact rfl | assumption); (case kp => first | trivial | omega | l_fact); (case kd => ktr_room); (case ku => ktr_units); intro t9 h9 tk9 F9 N9; (try dsimp only); (try k_fold))
  k_with "call ref" => (k_here; (with_reducible show wpAny _ _ (call (Value.ref 124) _ _) _ _ _); k_dflt (refine' Mine.use (Mine.ym_tells _ _) ?k1 ?k2 ?k3 ?k4 ?k5 ?kK ?kp ?kd ?ku ?_); (case k1 => k_asm); (case k2 => k_asm); (case k3 => k_asm); (case k4 => k_asm); (case k5 => k_asm); (case kK => first | exact rfl | assumption); (case kp => first | trivial | omega | l_fact); (case kd => ktr_room); (case ku => ktr_units); intro t9 h9 tk9 F9 N9; (try dsimp only); (try k_fold))
  k_with "call ref" => (k_here; (with_reducible show wpAny _ _ (call (Value.ref 138) _ _) _ _ _); k_dflt (refine' Mine.use (Mine.d2_tells _ _) ?k1 ?k2 ?k3 ?k4 ?k5 ?kK ?kp ?kd ?ku ?_); (case k1 => k_asm); (case k2 => k_asm); (case k3 => k_asm); (case k4 => k_asm); (case k5 => k_asm); (case kK => first | exact rfl | assumption); (case kp => first | trivial | omega | l_fact); (case kd => ktr_room); (case ku => ktr_units); intro t9 h9 tk9 F9 N9; (try dsimp only); (try k_fold))
  k_with "call ref" => (k_here; (with_reducible show wpAny _ _ (call (Value.ref 131) _ _) _ _ _); k_dflt (refine' Mine.use (Mine.d1_tells _ _) ?k1 ?k2 ?k3 ?k4 ?k5 ?kK ?kp ?kd ?ku ?_); (case k1 => k_asm); (case k2 => k_asm); (case k3 => k_asm); (case k4 => k_asm); (case k5 => k_asm); (case kK => first | exact rfl | assumption); (case kp => first | trivial | omega | l_fact); (case kd => ktr_room); (case ku => ktr_units); intro t9 h9 tk9 F9 N9; (try dsimp only); (try k_fold))
  k_with "execs cons" => (k_here; (try dsimp only); (with_reducible refine Mine.gentoks ?_); intro tk9; (with_reducible refine wpAny_execs_cons ?_); (try dsimp only))
  k_with "execs nil" => (k_here; (try dsimp only); (with_reducible refine Mine.gentoks ?_); intro tk9; (with_reducible refine wpAny_execs_nil ?_); (try dsimp only))
  w_on
  k_fill
  intro w p loose mean mg mb news dp un gd cn cs a ccd cl outer A₀ base h₀ L m s Q E B F X N T hk hp hd9 hu hret
  w_strict (refine wpAny_call ?_; (k_dflt (refine' code_def ?k1 ?k2 ?k3 ?k4 ?k5 ?kA ?kF ?kK ?k6 ?k7 ?k8 ?k9 ?kB ?_ ?c2 ?c3 ?c4 ?c5; (case kA => exact rfl); (case kF => exact rfl); (case kK => assumption); (case k1 => k_asm); (case k2 => k_asm); (case k3 => k_asm); (case k4 => k_asm); (case k5 => k_asm); (case k6 => k_is); (case k7 => k_is); (case k8 => ktr_room); (case k9 => first | exact BindsTo.of_eq rfl | exact binds_K (by k_in) rfl (by k_is) rfl rfl rfl); (case c5 => decide); (case kB => exact locs rfl); (case c2 => exact rfl); (case c3 => exact rfl); (case c4 => exact rfl); k_whole; intro g' L' h' FG' F' N' B' X' T'; (try dsimp only); (try k_lift B'); (try k_fold))); (repeat' ((fail_if_success (with_reducible show Q _ _)); (first | (k_unfold; (try dsimp only)) | (k_end; wrow_close) | walk1 | (dsimp only; walk1) | (leave1; walk_say "STEP leave1"; try dsimp only) | fail "no step"))); all_goals (first | (refine' cb_retI (Q := Q) hret ?e1 ?e2 ?e3; (case e2 => k_asm); (case e3 => first | k_asm | (refine' cb_drop ?cbN ?cbS; (case cbN => assumption); (case cbS => kcj_all))); (case e1 => ((try law_fm); (try simp only [hebF, midF, decide_eq_true_eq, decide_eq_false_iff_not, Bool.not_eq_true] at *); first | omega | ((repeat' split) <;> first | rfl | omega)))) | w_report))
end
section
local macro_rules | `(tactic| k_room) => `(tactic| ktr_room)
local macro_rules | `(tactic| room) => `(tactic| ktr_room)
local macro_rules | `(tactic| walk_at "eval Call") => `(tactic| ((with_reducible show wpAny _ _ (eval (Expr.Call (Expr.Name _ _) _ [] _) _) _ _ _); k_dflt (refine Call_ ?_)))
set_option maxRecDepth 100000 in
set_option maxHeartbeats 8000000 in
theorem greg_tells (y : Int) (t t1 t2 : Tok) : Tells 20 50 (True) [.int y t, .int 1 t1, .int 1 t2] (fun t => .int (gregF y) t) := by
  unfold Tells
  k_with_none
  k_with "execs cons" => (k_here; (try dsimp only); (with_reducible refine Mine.gentoks ?_); intro tk9; (with_reducible refine wpAny_execs_cons ?_); (try dsimp only))
  k_with "execs nil" => (k_here; (try dsimp only); (with_reducible refine Mine.gentoks ?_); intro tk9; (with_reducible refine wpAny_execs_nil ?_); (try dsimp only))
  k_with "compareOp In int ref" => (k_here; (with_reducible show wpAny _ _ (compareOp CmpOp.In (Value.int _ _) (Value.ref _)) _ _ _); k_dflt (first | (refine' Mine.in_topK (b := false) ?k1 ?k2 ?k3 ?k4 ?k5 ?_; (case k1 => k_asm); (case k2 => k_asm); (case k3 => k_is); (case k4 => repeat constructor); (case k5 => rfl)) | (refine' Mine.in_topK (b := true) ?k1 ?k2 ?k3 ?k4 ?k5 ?_; (case k1 => k_asm); (case k2 => k_asm); (case k3 => k_is); (case k4 => repeat constructor); (case k5 => rfl))))
  w_on
  k_fill
  intro w p loose mean mg mb news dp un gd cn cs a ccd cl outer A₀ base h₀ L m s Q E B F X N T hk hp hd9 hu hret
  w_strict (refine wpAny_call ?_; (k_dflt (refine' code_def ?k1 ?k2 ?k3 ?k4 ?k5 ?kA ?kF ?kK ?k6 ?k7 ?k8 ?k9 ?kB ?_ ?c2 ?c3 ?c4 ?c5; (case kA => exact rfl); (case kF => exact rfl); (case kK => assumption); (case k1 => k_asm); (case k2 => k_asm); (case k3 => k_asm); (case k4 => k_asm); (case k5 => k_asm); (case k6 => k_is); (case k7 => k_is); (case k8 => ktr_room); (case k9 => first | exact BindsTo.of_eq rfl | exact binds_K (by k_in) rfl (by k_is) rfl rfl rfl); (case c5 => decide); (case kB => exact locs rfl); (case c2 => exact rfl); (case c3 => exact rfl); (case c4 => exact rfl); k_whole; intro g' L' h' FG' F' N' B' X' T'; (try dsimp only); (try k_lift B'); (try k_fold))); (repeat' ((fail_if_success (with_reducible show Q _ _)); (first | (k_unfold; (try dsimp only)) | (k_end; wrow_close) | walk1 | (dsimp only; walk1) | (leave1; walk_say "STEP leave1"; try dsimp only) | fail "no step"))); all_goals (first | (refine' cb_retI (Q := Q) hret ?e1 ?e2 ?e3; (case e2 => k_asm); (case e3 => first | k_asm | (refine' cb_drop ?cbN ?cbS; (case cbN => assumption); (case cbS => kcj_all))); (case e1 => ((try law_fm); (try simp only [gregF, decide_eq_true_eq, decide_eq_false_iff_not, Bool.not_eq_true] at *); first | omega | ((repeat' split) <;> first | rfl | omega)))) | w_report))
end
section
local macro_rules | `(tactic| k_room) => `(tactic| ktr_room)
local macro_rules | `(tactic| room) => `(tactic| ktr_room)
local macro_rules | `(tactic| walk_at "eval Call") => `(tactic| ((with_reducible show wpAny _ _ (eval (Expr.Call (Expr.Name _ _) _ [] _) _) _ _ _); k_dflt (refine Call_ ?_)))
set_option maxRecDepth 100000 in
set_option maxHeartbeats 8000000 in
theorem greg3_tells (y d : Int) (t t1 t2 : Tok) : Tells 20 50 (1 ≤ d ∧ d ≤ 31) [.int y t, .int 3 t1, .int d t2] (fun t => .int (greg3F y d) t) := by
  unfold Tells
  k_with_none
  k_with "call ref" => (k_here; (with_reducible show wpAny _ _ (call (Value.ref 21) _ _) _ _ _); k_dflt (refine' Mine.use (Mine.isleap_tells _ _) ?k1 ?k2 ?k3 ?k4 ?k5 ?kK ?kp ?kd ?ku ?_); (case k1 => k_asm); (case k2 => k_asm); (case k3 => k_asm); (case k4 => k_asm); (case k5 => k_asm); (case kK => first | exact rfl | assumption); (case kp => first | trivial | omega | l_fact); (case kd => ktr_room); (case ku => ktr_units); intro t9 h9 tk9 F9 N9; (try dsimp only); (try k_fold))
  k_with "execs cons" => (k_here; (try dsimp only); (with_reducible refine Mine.gentoks ?_); intro tk9; (with_reducible refine wpAny_execs_cons ?_); (try dsimp only))
  k_with "execs nil" => (k_here; (try dsimp only); (with_reducible refine Mine.gentoks ?_); intro tk9; (with_reducible refine wpAny_execs_nil ?_); (try dsimp only))
  k_with "compareOp In int ref" => (k_here; (with_reducible show wpAny _ _ (compareOp CmpOp.In (Value.int _ _) (Value.ref _)) _ _ _); k_dflt (first | (refine' Mine.in_topK (b := false) ?k1 ?k2 ?k3 ?k4 ?k5 ?_; (case k1 => k_asm); (case k2 => k_asm); (case k3 => k_is); (case k4 => repeat constructor); (case k5 => rfl)) | (refine' Mine.in_topK (b := true) ?k1 ?k2 ?k3 ?k4 ?k5 ?_; (case k1 => k_asm); (case k2 => k_asm); (case k3 => k_is); (case k4 => repeat constructor); (case k5 => rfl))))
  w_on
  k_fill
  intro w p loose mean mg mb news dp un gd cn cs a ccd cl outer A₀ base h₀ L m s Q E B F X N T hk hp hd9 hu hret
  w_strict (refine wpAny_call ?_; (k_dflt (refine' code_def ?k1 ?k2 ?k3 ?k4 ?k5 ?kA ?kF ?kK ?k6 ?k7 ?k8 ?k9 ?kB ?_ ?c2 ?c3 ?c4 ?c5; (case kA => exact rfl); (case kF => exact rfl); (case kK => assumption); (case k1 => k_asm); (case k2 => k_asm); (case k3 => k_asm); (case k4 => k_asm); (case k5 => k_asm); (case k6 => k_is); (case k7 => k_is); (case k8 => ktr_room); (case k9 => first | exact BindsTo.of_eq rfl | exact binds_K (by k_in) rfl (by k_is) rfl rfl rfl); (case c5 => decide); (case kB => exact locs rfl); (case c2 => exact rfl); (case c3 => exact rfl); (case c4 => exact rfl); k_whole; intro g' L' h' FG' F' N' B' X' T'; (try dsimp only); (try k_lift B'); (try k_fold))); (repeat' ((fail_if_success (with_reducible show Q _ _)); (first | (k_unfold; (try dsimp only)) | (k_end; wrow_close) | walk1 | (dsimp only; walk1) | (leave1; walk_say "STEP leave1"; try dsimp only) | fail "no step"))); all_goals (first | (refine' cb_retI (Q := Q) hret ?e1 ?e2 ?e3; (case e2 => k_asm); (case e3 => first | k_asm | (refine' cb_drop ?cbN ?cbS; (case cbN => assumption); (case cbS => kcj_all))); (case e1 => ((rename (isleapF _ = _) => hi9); (simp only [greg3F, hi9, Bool.false_eq_true, if_true, if_false]); (try law_fm); omega))) | w_report))
end
section
local macro_rules | `(tactic| k_room) => `(tactic| ktr_room)
local macro_rules | `(tactic| room) => `(tactic| ktr_room)
local macro_rules | `(tactic| walk_at "eval Call") => `(tactic| ((with_reducible show wpAny _ _ (eval (Expr.Call (Expr.Name _ _) _ [] _) _) _ _ _); k_dflt (refine Call_ ?_)))
set_option maxRecDepth 100000 in
set_option maxHeartbeats 8000000 in
theorem jul_tells (y : Int) (t t1 t2 : Tok) : Tells 20 223 (True) [.int y t, .int 1 t1, .int 1 t2] (fun t => .int (1461 * (y - 1 + 4716) / 4 + 428 + 1 - 1524) t) := by
  unfold Tells
  k_with_none
  k_with "execs cons" => (k_here; (try dsimp only); (with_reducible refine Mine.gentoks ?_); intro tk9; (with_reducible refine wpAny_execs_cons ?_); (try dsimp only))
  k_with "execs nil" => (k_here; (try dsimp only); (with_reducible refine Mine.gentoks ?_); intro tk9; (with_reducible refine wpAny_execs_nil ?_); (try dsimp only))
  k_with "compareOp In int ref" => (k_here; (with_reducible show wpAny _ _ (compareOp CmpOp.In (Value.int _ _) (Value.ref _)) _ _ _); k_dflt (first | (refine' Mine.in_topK (b := false) ?k1 ?k2 ?k3 ?k4 ?k5 ?_; (case k1 => k_asm); (case k2 => k_asm); (case k3 => k_is); (case k4 => repeat constructor); (case k5 => rfl)) | (refine' Mine.in_topK (b := true) ?k1 ?k2 ?k3 ?k4 ?k5 ?_; (case k1 => k_asm); (case k2 => k_asm); (case k3 => k_is); (case k4 => repeat constructor); (case k5 => rfl))))
  w_on
  k_fill
  intro w p loose mean mg mb news dp un gd cn cs a ccd cl outer A₀ base h₀ L m s Q E B F X N T hk hp hd9 hu hret
  w_strict (refine wpAny_call ?_; (k_dflt (refine' code_def ?k1 ?k2 ?k3 ?k4 ?k5 ?kA ?kF ?kK ?k6 ?k7 ?k8 ?k9 ?kB ?_ ?c2 ?c3 ?c4 ?c5; (case kA => exact rfl); (case kF => exact rfl); (case kK => assumption); (case k1 => k_asm); (case k2 => k_asm); (case k3 => k_asm); (case k4 => k_asm); (case k5 => k_asm); (case k6 => k_is); (case k7 => k_is); (case k8 => ktr_room); (case k9 => first | exact BindsTo.of_eq rfl | exact binds_K (by k_in) rfl (by k_is) rfl rfl rfl); (case c5 => decide); (case kB => exact locs rfl); (case c2 => exact rfl); (case c3 => exact rfl); (case c4 => exact rfl); k_whole; intro g' L' h' FG' F' N' B' X' T'; (try dsimp only); (try k_lift B'); (try k_fold))); (repeat' ((fail_if_success (with_reducible show Q _ _)); (first | (k_unfold; (try dsimp only)) | (k_end; wrow_close) | walk1 | (dsimp only; walk1) | (leave1; walk_say "STEP leave1"; try dsimp only) | fail "no step"))); all_goals (first | (refine' cb_retI (Q := Q) hret ?e1 ?e2 ?e3; (case e2 => k_asm); (case e3 => first | k_asm | (refine' cb_drop ?cbN ?cbS; (case cbN => assumption); (case cbS => kcj_all))); (case e1 => (first | rfl | ((try law_fm); (try simp only [decide_eq_true_eq, decide_eq_false_iff_not, Bool.not_eq_true] at *); first | omega | ((repeat' split) <;> first | rfl | omega))))) | w_report))
end
section
local macro_rules | `(tactic| k_room) => `(tactic| ktr_room)
local macro_rules | `(tactic| room) => `(tactic| ktr_room)
local macro_rules | `(tactic| walk_at "eval Call") => `(tactic| ((with_reducible show wpAny _ _ (eval (Expr.Call (Expr.Name _ _) _ [] _) _) _ _ _); k_dflt (refine Call_ ?_)))
set_option maxRecDepth 100000 in
set_option maxHeartbeats 8000000 in
theorem pos_tells (y : Int) (t t1 t2 : Tok) : Tells 20 237 (1 ≤ y) [.int y t, .int 1 t1, .int 1 t2] (fun t => .int (gregF (y + 1788)) t) := by
  unfold Tells
  k_with_none
  k_with "execs cons" => (k_here; (try dsimp only); (with_reducible refine Mine.gentoks ?_); intro tk9; (with_reducible refine wpAny_execs_cons ?_); (try dsimp only))
  k_with "execs nil" => (k_here; (try dsimp only); (with_reducible refine Mine.gentoks ?_); intro tk9; (with_reducible refine wpAny_execs_nil ?_); (try dsimp only))
  w_on
  k_fill
  intro w p loose mean mg mb news dp un gd cn cs a ccd cl outer A₀ base h₀ L m s Q E B F X N T hk hp hd9 hu hret
  w_strict (refine wpAny_call ?_; (k_dflt (refine' code_def ?k1 ?k2 ?k3 ?k4 ?k5 ?kA ?kF ?kK ?k6 ?k7 ?k8 ?k9 ?kB ?_ ?c2 ?c3 ?c4 ?c5; (case kA => exact rfl); (case kF => exact rfl); (case kK => assumption); (case k1 => k_asm); (case k2 => k_asm); (case k3 => k_asm); (case k4 => k_asm); (case k5 => k_asm); (case k6 => k_is); (case k7 => k_is); (case k8 => ktr_room); (case k9 => first | exact BindsTo.of_eq rfl | exact binds_K (by k_in) rfl (by k_is) rfl rfl rfl); (case c5 => decide); (case kB => exact locs rfl); (case c2 => exact rfl); (case c3 => exact rfl); (case c4 => exact rfl); k_whole; intro g' L' h' FG' F' N' B' X' T'; (try dsimp only); (try k_lift B'); (try k_fold))); (repeat' ((fail_if_success (with_reducible show Q _ _)); (first | (k_unfold; (try dsimp only)) | (k_end; wrow_close) | walk1 | (dsimp only; walk1) | (leave1; walk_say "STEP leave1"; try dsimp only) | fail "no step"))); all_goals (first | (refine' cb_retI (Q := Q) hret ?e1 ?e2 ?e3; (case e2 => k_asm); (case e3 => first | k_asm | (refine' cb_drop ?cbN ?cbS; (case cbN => assumption); (case cbS => kcj_all))); (case e1 => ((try law_fm); (try simp only [gregF, decide_eq_true_eq, decide_eq_false_iff_not, Bool.not_eq_true] at *); first | omega | ((repeat' split) <;> first | rfl | omega)))) | w_report))
end
section
local macro_rules | `(tactic| k_room) => `(tactic| ktr_room)
local macro_rules | `(tactic| room) => `(tactic| ktr_room)
local macro_rules | `(tactic| walk_at "eval Call") => `(tactic| ((with_reducible show wpAny _ _ (eval (Expr.Call (Expr.Name _ _) _ [] _) _) _ _ _); k_dflt (refine Call_ ?_)))
set_option maxRecDepth 100000 in
set_option maxHeartbeats 8000000 in
theorem arms_tells (y : Int) (t t1 t2 t3 : Tok) : Tells 20 73 (533 ≤ y) [.int y t, .int 1 t1, .int 1 t2, .str (Str.ofString "sarkawag") t3] (fun t => .int (2117211 + 365 * (y - 533) + (y - 533) / 4 + 1) t) := by
  unfold Tells
  k_with_none
  k_with "call ref" => (k_here; (with_reducible show wpAny _ _ (call (Value.ref 28) _ _) _ _ _); k_dflt (refine' Mine.use (Mine.trunc_tells _ _ _) ?k1 ?k2 ?k3 ?k4 ?k5 ?kK ?kp ?kd ?ku ?_); (case k1 => k_asm); (case k2 => k_asm); (case k3 => k_asm); (case k4 => k_asm); (case k5 => k_asm); (case kK => first | exact rfl | assumption); (case kp => first | trivial | omega | l_fact); (case kd => ktr_room); (case ku => ktr_units); intro t9 h9 tk9 F9 N9; (try dsimp only); (try k_fold))
  k_with "execs cons" => (k_here; (try dsimp only); (with_reducible refine Mine.gentoks ?_); intro tk9; (with_reducible refine wpAny_execs_cons ?_); (try dsimp only))
  k_with "execs nil" => (k_here; (try dsimp only); (with_reducible refine Mine.gentoks ?_); intro tk9; (with_reducible refine wpAny_execs_nil ?_); (try dsimp only))
  w_on
  k_fill
  intro w p loose mean mg mb news dp un gd cn cs a ccd cl outer A₀ base h₀ L m s Q E B F X N T hk hp hd9 hu hret
  w_strict (refine wpAny_call ?_; (k_dflt (refine' code_def ?k1 ?k2 ?k3 ?k4 ?k5 ?kA ?kF ?kK ?k6 ?k7 ?k8 ?k9 ?kB ?_ ?c2 ?c3 ?c4 ?c5; (case kA => exact rfl); (case kF => exact rfl); (case kK => assumption); (case k1 => k_asm); (case k2 => k_asm); (case k3 => k_asm); (case k4 => k_asm); (case k5 => k_asm); (case k6 => k_is); (case k7 => k_is); (case k8 => ktr_room); (case k9 => first | exact BindsTo.of_eq rfl | exact binds_K (by k_in) rfl (by k_is) rfl rfl rfl); (case c5 => decide); (case kB => exact locs rfl); (case c2 => exact rfl); (case c3 => exact rfl); (case c4 => exact rfl); k_whole; intro g' L' h' FG' F' N' B' X' T'; (try dsimp only); (try k_lift B'); (try k_fold))); (repeat' ((fail_if_success (with_reducible show Q _ _)); (first | (k_unfold; (try dsimp only)) | (k_end; wrow_close) | walk1 | (dsimp only; walk1) | (leave1; walk_say "STEP leave1"; try dsimp only) | fail "no step"))); all_goals (first | (refine' cb_retI (Q := Q) hret ?e1 ?e2 ?e3; (case e2 => k_asm); (case e3 => first | k_asm | (refine' cb_drop ?cbN ?cbS; (case cbN => assumption); (case cbS => kcj_all))); (case e1 => (first | rfl | ((try law_fm); (try simp only [decide_eq_true_eq, decide_eq_false_iff_not, Bool.not_eq_true] at *); first | omega | ((repeat' split) <;> first | rfl | omega))))) | w_report))
set_option maxRecDepth 100000 in
set_option maxHeartbeats 8000000 in
theorem arm_tells (y : Int) (t t1 t2 : Tok) : Tells 20 73 (1 ≤ y) [.int y t, .int 1 t1, .int 1 t2] (fun t => .int (1922502 + 365 * y + 1) t) := by
  unfold Tells
  k_with_none
  k_with "execs cons" => (k_here; (try dsimp only); (with_reducible refine Mine.gentoks ?_); intro tk9; (with_reducible refine wpAny_execs_cons ?_); (try dsimp only))
  k_with "execs nil" => (k_here; (try dsimp only); (with_reducible refine Mine.gentoks ?_); intro tk9; (with_reducible refine wpAny_execs_nil ?_); (try dsimp only))
  w_on
  k_fill
  intro w p loose mean mg mb news dp un gd cn cs a ccd cl outer A₀ base h₀ L m s Q E B F X N T hk hp hd9 hu hret
  w_strict (refine wpAny_call ?_; (k_dflt (refine' code_def ?k1 ?k2 ?k3 ?k4 ?k5 ?kA ?kF ?kK ?k6 ?k7 ?k8 ?k9 ?kB ?_ ?c2 ?c3 ?c4 ?c5; (case kA => exact rfl); (case kF => exact rfl); (case kK => assumption); (case k1 => k_asm); (case k2 => k_asm); (case k3 => k_asm); (case k4 => k_asm); (case k5 => k_asm); (case k6 => k_is); (case k7 => k_is); (case k8 => ktr_room); (case k9 => first | exact BindsTo.of_eq rfl | exact binds_K (by k_in) rfl (by k_is) rfl rfl rfl); (case c5 => decide); (case kB => exact locs rfl); (case c2 => exact rfl); (case c3 => exact rfl); (case c4 => exact rfl); k_whole; intro g' L' h' FG' F' N' B' X' T'; (try dsimp only); (try k_lift B'); (try k_fold))); (repeat' ((fail_if_success (with_reducible show Q _ _)); (first | (k_unfold; (try dsimp only)) | (k_end; wrow_close) | walk1 | (dsimp only; walk1) | (leave1; walk_say "STEP leave1"; try dsimp only) | fail "no step"))); all_goals (first | (refine' cb_retI (Q := Q) hret ?e1 ?e2 ?e3; (case e2 => k_asm); (case e3 => first | k_asm | (refine' cb_drop ?cbN ?cbS; (case cbN => assumption); (case cbS => kcj_all))); (case e1 => (first | rfl | ((try law_fm); (try simp only [decide_eq_true_eq, decide_eq_false_iff_not, Bool.not_eq_true] at *); first | omega | ((repeat' split) <;> first | rfl | omega))))) | w_report))
end
section
local macro_rules | `(tactic| k_room) => `(tactic| ktr_room)
local macro_rules | `(tactic| room) => `(tactic| ktr_room)
local macro_rules | `(tactic| walk_at "eval Call") => `(tactic| ((with_reducible show wpAny _ _ (eval (Expr.Call (Expr.Name _ _) _ [] _) _) _ _ _); k_dflt (refine Call_ ?_)))
set_option maxRecDepth 100000 in
set_option maxHeartbeats 8000000 in
theorem fr_tells (y : Int) (t t1 t2 t3 : Tok) : Tells 20 103 (1 ≤ y) [.int y t, .int 1 t1, .int 1 t2, .int 4 t3] (fun t => .int (2375840 + (y / 4 * 1461 + y % 4 * 365 - 365)) t) := by
  unfold Tells
  k_with_none
  k_with "call ref" => (k_here; (with_reducible show wpAny _ _ (call (Value.ref 28) _ _) _ _ _); k_dflt (refine' Mine.use (Mine.trunc_tells _ _ _) ?k1 ?k2 ?k3 ?k4 ?k5 ?kK ?kp ?kd ?ku ?_); (case k1 => k_asm); (case k2 => k_asm); (case k3 => k_asm); (case k4 => k_asm); (case k5 => k_asm); (case kK => first | exact rfl | assumption); (case kp => first | trivial | omega | l_fact); (case kd => ktr_room); (case ku => ktr_units); intro t9 h9 tk9 F9 N9; (try dsimp only); (try k_fold))
  k_with "execs cons" => (k_here; (try dsimp only); (with_reducible refine Mine.gentoks ?_); intro tk9; (with_reducible refine wpAny_execs_cons ?_); (try dsimp only))
  k_with "execs nil" => (k_here; (try dsimp only); (with_reducible refine Mine.gentoks ?_); intro tk9; (with_reducible refine wpAny_execs_nil ?_); (try dsimp only))
  k_with "compareOp In int ref" => (k_here; (with_reducible show wpAny _ _ (compareOp CmpOp.In (Value.int _ _) (Value.ref _)) _ _ _); k_dflt (first | (refine' Mine.in_pairK (b := false) ?k1 ?k2 ?k3 ?_; (case k1 => k_asm); (case k2 => k_mem); (case k3 => rfl)) | (refine' Mine.in_pairK (b := true) ?k1 ?k2 ?k3 ?_; (case k1 => k_asm); (case k2 => k_mem); (case k3 => rfl))))
  w_on
  k_fill
  intro w p loose mean mg mb news dp un gd cn cs a ccd cl outer A₀ base h₀ L m s Q E B F X N T hk hp hd9 hu hret
  w_strict (refine wpAny_call ?_; (k_dflt (refine' code_def ?k1 ?k2 ?k3 ?k4 ?k5 ?kA ?kF ?kK ?k6 ?k7 ?k8 ?k9 ?kB ?_ ?c2 ?c3 ?c4 ?c5; (case kA => exact rfl); (case kF => exact rfl); (case kK => assumption); (case k1 => k_asm); (case k2 => k_asm); (case k3 => k_asm); (case k4 => k_asm); (case k5 => k_asm); (case k6 => k_is); (case k7 => k_is); (case k8 => ktr_room); (case k9 => first | exact BindsTo.of_eq rfl | exact binds_K (by k_in) rfl (by k_is) rfl rfl rfl); (case c5 => decide); (case kB => exact locs rfl); (case c2 => exact rfl); (case c3 => exact rfl); (case c4 => exact rfl); k_whole; intro g' L' h' FG' F' N' B' X' T'; (try dsimp only); (try k_lift B'); (try k_fold))); (repeat' ((fail_if_success (with_reducible show Q _ _)); (first | (k_unfold; (try dsimp only)) | (k_end; wrow_close) | walk1 | (dsimp only; walk1) | (leave1; walk_say "STEP leave1"; try dsimp only) | fail "no step"))); all_goals (first | (refine' cb_retI (Q := Q) hret ?e1 ?e2 ?e3; (case e2 => k_asm); (case e3 => first | k_asm | (refine' cb_drop ?cbN ?cbS; (case cbN => assumption); (case cbS => kcj_all))); (case e1 => ((simp (disch := omega) only [Int.fmod_eq_emod_of_nonneg, Int.fdiv_eq_ediv_of_nonneg]); omega))) | w_report))
end
section
local macro_rules | `(tactic| k_room) => `(tactic| ktr_room)
local macro_rules | `(tactic| room) => `(tactic| ktr_room)
local macro_rules | `(tactic| walk_at "eval Call") => `(tactic| ((with_reducible show wpAny _ _ (eval (Expr.Call (Expr.Name _ _) _ [] _) _) _ _ _); k_dflt (refine Call_ ?_)))
set_option maxRecDepth 100000 in
set_option maxHeartbeats 8000000 in
theorem ind_tells (y : Int) (t t1 t2 : Tok) : Tells 30 173 (True) [.int y t, .int 1 t1, .int 1 t2] (fun t => .int (indF y) t) := by
  unfold Tells
  k_with_none
  k_with "call ref" => (k_here; (with_reducible show wpAny _ _ (call (Value.ref 50) _ _) _ _ _); k_dflt (refine' Mine.use (Mine.greg3_tells _ _ _ _ _) ?k1 ?k2 ?k3 ?k4 ?k5 ?kK ?kp ?kd ?ku ?_); (case k1 => k_asm); (case k2 => k_asm); (case k3 => k_asm); (case k4 => k_asm); (case k5 => k_asm); (case kK => first | exact rfl | assumption); (case kp => first | trivial | omega | l_fact); (case kd => ktr_room); (case ku => ktr_units); intro t9 h9 tk9 F9 N9; (try dsimp only); (try k_fold))
  k_with "call ref" => (k_here; (with_reducible show wpAny _ _ (call (Value.ref 21) _ _) _ _ _); k_dflt (refine' Mine.use (Mine.isleap_tells _ _) ?k1 ?k2 ?k3 ?k4 ?k5 ?kK ?kp ?kd ?ku ?_); (case k1 => k_asm); (case k2 => k_asm); (case k3 => k_asm); (case k4 => k_asm); (case k5 => k_asm); (case kK => first | exact rfl | assumption); (case kp => first | trivial | omega | l_fact); (case kd => ktr_room); (case ku => ktr_units); intro t9 h9 tk9 F9 N9; (try dsimp only); (try k_fold))
  k_with "execs cons" => (k_here; (try dsimp only); (with_reducible refine Mine.gentoks ?_); intro tk9; (with_reducible refine wpAny_execs_cons ?_); (try dsimp only))
  k_with "execs nil" => (k_here; (try dsimp only); (with_reducible refine Mine.gentoks ?_); intro tk9; (with_reducible refine wpAny_execs_nil ?_); (try dsimp only))
  w_on
  k_fill
  intro w p loose mean mg mb news dp un gd cn cs a ccd cl outer A₀ base h₀ L m s Q E B F X N T hk hp hd9 hu hret
  w_strict (refine wpAny_call ?_; (k_dflt (refine' code_def ?k1 ?k2 ?k3 ?k4 ?k5 ?kA ?kF ?kK ?k6 ?k7 ?k8 ?k9 ?kB ?_ ?c2 ?c3 ?c4 ?c5; (case kA => exact rfl); (case kF => exact rfl); (case kK => assumption); (case k1 => k_asm); (case k2 => k_asm); (case k3 => k_asm); (case k4 => k_asm); (case k5 => k_asm); (case k6 => k_is); (case k7 => k_is); (case k8 => ktr_room); (case k9 => first | exact BindsTo.of_eq rfl | exact binds_K (by k_in) rfl (by k_is) rfl rfl rfl); (case c5 => decide); (case kB => exact locs rfl); (case c2 => exact rfl); (case c3 => exact rfl); (case c4 => exact rfl); k_whole; intro g' L' h' FG' F' N' B' X' T'; (try dsimp only); (try k_lift B'); (try k_fold))); (repeat' ((fail_if_success (with_reducible show Q _ _)); (first | (k_unfold; (try dsimp only)) | (k_end; wrow_close) | walk1 | (dsimp only; walk1) | (leave1; walk_say "STEP leave1"; try dsimp only) | fail "no step"))); all_goals (first | (refine' cb_retI (Q := Q) hret ?e1 ?e2 ?e3; (case e2 => k_asm); (case e3 => first | k_asm | (refine' cb_drop ?cbN ?cbS; (case cbN => assumption); (case cbS => kcj_all))); (case e1 => (simp only [indF]; cases isleapF (y + 78) <;> simp))) | w_report))
end
section
local macro_rules | `(tactic| k_room) => `(tactic| ktr_room)
local macro_rules | `(tactic| room) => `(tactic| ktr_room)
local macro_rules | `(tactic| walk_at "eval Call") => `(tactic| ((with_reducible show wpAny _ _ (eval (Expr.Call (Expr.Name _ _) _ [] _) _) _ _ _); k_dflt (refine Call_ ?_)))
set_option maxRecDepth 100000 in
set_option maxHeartbeats 8000000 in
theorem near400_tells (d n : Int) (t t1 t2 t3 t4 : Tok) : Tells 10 244 (400 * d - 146097 * n ≤ 879 ∧ -879 ≤ 400 * d - 146097 * n) [.int d t, .int n t1, .int 400 t2, .int 146097 t3, .int 879 t4] (fun _ => .bool true) := by
  unfold Tells
  k_with_none
  k_with "execs cons" => (k_here; (try dsimp only); (with_reducible refine Mine.gentoks ?_); intro tk9; (with_reducible refine wpAny_execs_cons ?_); (try dsimp only))
  k_with "execs nil" => (k_here; (try dsimp only); (with_reducible refine Mine.gentoks ?_); intro tk9; (with_reducible refine wpAny_execs_nil ?_); (try dsimp only))
  w_on
  k_fill
  intro w p loose mean mg mb news dp un gd cn cs a ccd cl outer A₀ base h₀ L m s Q E B F X N T hk hp hd9 hu hret
  w_strict (refine wpAny_call ?_; (k_dflt (refine' code_def ?k1 ?k2 ?k3 ?k4 ?k5 ?kA ?kF ?kK ?k6 ?k7 ?k8 ?k9 ?kB ?_ ?c2 ?c3 ?c4 ?c5; (case kA => exact rfl); (case kF => exact rfl); (case kK => assumption); (case k1 => k_asm); (case k2 => k_asm); (case k3 => k_asm); (case k4 => k_asm); (case k5 => k_asm); (case k6 => k_is); (case k7 => k_is); (case k8 => ktr_room); (case k9 => first | exact BindsTo.of_eq rfl | exact binds_K (by k_in) rfl (by k_is) rfl rfl rfl); (case c5 => decide); (case kB => exact locs rfl); (case c2 => exact rfl); (case c3 => exact rfl); (case c4 => exact rfl); k_whole; intro g' L' h' FG' F' N' B' X' T'; (try dsimp only); (try k_lift B'); (try k_fold))); (repeat' ((fail_if_success (with_reducible show Q _ _)); (first | (k_unfold; (try dsimp only)) | (k_end; wrow_close) | walk1 | (dsimp only; walk1) | (leave1; walk_say "STEP leave1"; try dsimp only) | fail "no step"))); all_goals cb_end hret)
set_option maxRecDepth 100000 in
set_option maxHeartbeats 8000000 in
theorem near4_tells (d n : Int) (t t1 t2 t3 t4 : Tok) : Tells 10 244 (4 * d - 1461 * n ≤ 3 ∧ -3 ≤ 4 * d - 1461 * n) [.int d t, .int n t1, .int 4 t2, .int 1461 t3, .int 3 t4] (fun _ => .bool true) := by
  unfold Tells
  k_with_none
  k_with "execs cons" => (k_here; (try dsimp only); (with_reducible refine Mine.gentoks ?_); intro tk9; (with_reducible refine wpAny_execs_cons ?_); (try dsimp only))
  k_with "execs nil" => (k_here; (try dsimp only); (with_reducible refine Mine.gentoks ?_); intro tk9; (with_reducible refine wpAny_execs_nil ?_); (try dsimp only))
  w_on
  k_fill
  intro w p loose mean mg mb news dp un gd cn cs a ccd cl outer A₀ base h₀ L m s Q E B F X N T hk hp hd9 hu hret
  w_strict (refine wpAny_call ?_; (k_dflt (refine' code_def ?k1 ?k2 ?k3 ?k4 ?k5 ?kA ?kF ?kK ?k6 ?k7 ?k8 ?k9 ?kB ?_ ?c2 ?c3 ?c4 ?c5; (case kA => exact rfl); (case kF => exact rfl); (case kK => assumption); (case k1 => k_asm); (case k2 => k_asm); (case k3 => k_asm); (case k4 => k_asm); (case k5 => k_asm); (case k6 => k_is); (case k7 => k_is); (case k8 => ktr_room); (case k9 => first | exact BindsTo.of_eq rfl | exact binds_K (by k_in) rfl (by k_is) rfl rfl rfl); (case c5 => decide); (case kB => exact locs rfl); (case c2 => exact rfl); (case c3 => exact rfl); (case c4 => exact rfl); k_whole; intro g' L' h' FG' F' N' B' X' T'; (try dsimp only); (try k_lift B'); (try k_fold))); (repeat' ((fail_if_success (with_reducible show Q _ _)); (first | (k_unfold; (try dsimp only)) | (k_end; wrow_close) | walk1 | (dsimp only; walk1) | (leave1; walk_say "STEP leave1"; try dsimp only) | fail "no step"))); all_goals cb_end hret)
set_option maxRecDepth 100000 in
set_option maxHeartbeats 8000000 in
theorem near30_tells (d n : Int) (t t1 t2 t3 t4 : Tok) : Tells 10 244 (30 * d - 10631 * n ≤ 29 ∧ -29 ≤ 30 * d - 10631 * n) [.int d t, .int n t1, .int 30 t2, .int 10631 t3, .int 29 t4] (fun _ => .bool true) := by
  unfold Tells
  k_with_none
  k_with "execs cons" => (k_here; (try dsimp only); (with_reducible refine Mine.gentoks ?_); intro tk9; (with_reducible refine wpAny_execs_cons ?_); (try dsimp only))
  k_with "execs nil" => (k_here; (try dsimp only); (with_reducible refine Mine.gentoks ?_); intro tk9; (with_reducible refine wpAny_execs_nil ?_); (try dsimp only))
  w_on
  k_fill
  intro w p loose mean mg mb news dp un gd cn cs a ccd cl outer A₀ base h₀ L m s Q E B F X N T hk hp hd9 hu hret
  w_strict (refine wpAny_call ?_; (k_dflt (refine' code_def ?k1 ?k2 ?k3 ?k4 ?k5 ?kA ?kF ?kK ?k6 ?k7 ?k8 ?k9 ?kB ?_ ?c2 ?c3 ?c4 ?c5; (case kA => exact rfl); (case kF => exact rfl); (case kK => assumption); (case k1 => k_asm); (case k2 => k_asm); (case k3 => k_asm); (case k4 => k_asm); (case k5 => k_asm); (case k6 => k_is); (case k7 => k_is); (case k8 => ktr_room); (case k9 => first | exact BindsTo.of_eq rfl | exact binds_K (by k_in) rfl (by k_is) rfl rfl rfl); (case c5 => decide); (case kB => exact locs rfl); (case c2 => exact rfl); (case c3 => exact rfl); (case c4 => exact rfl); k_whole; intro g' L' h' FG' F' N' B' X' T'; (try dsimp only); (try k_lift B'); (try k_fold))); (repeat' ((fail_if_success (with_reducible show Q _ _)); (first | (k_unfold; (try dsimp only)) | (k_end; wrow_close) | walk1 | (dsimp only; walk1) | (leave1; walk_say "STEP leave1"; try dsimp only) | fail "no step"))); all_goals cb_end hret)
set_option maxRecDepth 100000 in
set_option maxHeartbeats 8000000 in
theorem near1_tells (d n : Int) (t t1 t2 t3 t4 : Tok) : Tells 10 244 (1 * d - 365 * n ≤ 0 ∧ -0 ≤ 1 * d - 365 * n) [.int d t, .int n t1, .int 1 t2, .int 365 t3, .int 0 t4] (fun _ => .bool true) := by
  unfold Tells
  k_with_none
  k_with "execs cons" => (k_here; (try dsimp only); (with_reducible refine Mine.gentoks ?_); intro tk9; (with_reducible refine wpAny_execs_cons ?_); (try dsimp only))
  k_with "execs nil" => (k_here; (try dsimp only); (with_reducible refine Mine.gentoks ?_); intro tk9; (with_reducible refine wpAny_execs_nil ?_); (try dsimp only))
  w_on
  k_fill
  intro w p loose mean mg mb news dp un gd cn cs a ccd cl outer A₀ base h₀ L m s Q E B F X N T hk hp hd9 hu hret
  w_strict (refine wpAny_call ?_; (k_dflt (refine' code_def ?k1 ?k2 ?k3 ?k4 ?k5 ?kA ?kF ?kK ?k6 ?k7 ?k8 ?k9 ?kB ?_ ?c2 ?c3 ?c4 ?c5; (case kA => exact rfl); (case kF => exact rfl); (case kK => assumption); (case k1 => k_asm); (case k2 => k_asm); (case k3 => k_asm); (case k4 => k_asm); (case k5 => k_asm); (case k6 => k_is); (case k7 => k_is); (case k8 => ktr_room); (case k9 => first | exact BindsTo.of_eq rfl | exact binds_K (by k_in) rfl (by k_is) rfl rfl rfl); (case c5 => decide); (case kB => exact locs rfl); (case c2 => exact rfl); (case c3 => exact rfl); (case c4 => exact rfl); k_whole; intro g' L' h' FG' F' N' B' X' T'; (try dsimp only); (try k_lift B'); (try k_fold))); (repeat' ((fail_if_success (with_reducible show Q _ _)); (first | (k_unfold; (try dsimp only)) | (k_end; wrow_close) | walk1 | (dsimp only; walk1) | (leave1; walk_say "STEP leave1"; try dsimp only) | fail "no step"))); all_goals cb_end hret)
set_option maxRecDepth 100000 in
set_option maxHeartbeats 8000000 in
theorem begun4_tells (f l d : Int) (t t1 t2 t3 t4 : Tok) : Tells 10 261 (1461 * (l - f) - 4 * d < 1461 ∧ -1461 < 1461 * (l - f) - 4 * d) [.int f t, .int l t1, .int d t2, .int 4 t3, .int 1461 t4] (fun _ => .bool true) := by
  unfold Tells
  k_with_none
  k_with "execs cons" => (k_here; (try dsimp only); (with_reducible refine Mine.gentoks ?_); intro tk9; (with_reducible refine wpAny_execs_cons ?_); (try dsimp only))
  k_with "execs nil" => (k_here; (try dsimp only); (with_reducible refine Mine.gentoks ?_); intro tk9; (with_reducible refine wpAny_execs_nil ?_); (try dsimp only))
  w_on
  k_fill
  intro w p loose mean mg mb news dp un gd cn cs a ccd cl outer A₀ base h₀ L m s Q E B F X N T hk hp hd9 hu hret
  w_strict (refine wpAny_call ?_; (k_dflt (refine' code_def ?k1 ?k2 ?k3 ?k4 ?k5 ?kA ?kF ?kK ?k6 ?k7 ?k8 ?k9 ?kB ?_ ?c2 ?c3 ?c4 ?c5; (case kA => exact rfl); (case kF => exact rfl); (case kK => assumption); (case k1 => k_asm); (case k2 => k_asm); (case k3 => k_asm); (case k4 => k_asm); (case k5 => k_asm); (case k6 => k_is); (case k7 => k_is); (case k8 => ktr_room); (case k9 => first | exact BindsTo.of_eq rfl | exact binds_K (by k_in) rfl (by k_is) rfl rfl rfl); (case c5 => decide); (case kB => exact locs rfl); (case c2 => exact rfl); (case c3 => exact rfl); (case c4 => exact rfl); k_whole; intro g' L' h' FG' F' N' B' X' T'; (try dsimp only); (try k_lift B'); (try k_fold))); (repeat' ((fail_if_success (with_reducible show Q _ _)); (first | (k_unfold; (try dsimp only)) | (k_end; wrow_close) | walk1 | (dsimp only; walk1) | (leave1; walk_say "STEP leave1"; try dsimp only) | fail "no step"))); all_goals cb_end hret)
set_option maxRecDepth 100000 in
set_option maxHeartbeats 8000000 in
theorem begun30_tells (f l d : Int) (t t1 t2 t3 t4 : Tok) : Tells 10 261 (10631 * (l - f) - 30 * d < 10631 ∧ -10631 < 10631 * (l - f) - 30 * d) [.int f t, .int l t1, .int d t2, .int 30 t3, .int 10631 t4] (fun _ => .bool true) := by
  unfold Tells
  k_with_none
  k_with "execs cons" => (k_here; (try dsimp only); (with_reducible refine Mine.gentoks ?_); intro tk9; (with_reducible refine wpAny_execs_cons ?_); (try dsimp only))
  k_with "execs nil" => (k_here; (try dsimp only); (with_reducible refine Mine.gentoks ?_); intro tk9; (with_reducible refine wpAny_execs_nil ?_); (try dsimp only))
  w_on
  k_fill
  intro w p loose mean mg mb news dp un gd cn cs a ccd cl outer A₀ base h₀ L m s Q E B F X N T hk hp hd9 hu hret
  w_strict (refine wpAny_call ?_; (k_dflt (refine' code_def ?k1 ?k2 ?k3 ?k4 ?k5 ?kA ?kF ?kK ?k6 ?k7 ?k8 ?k9 ?kB ?_ ?c2 ?c3 ?c4 ?c5; (case kA => exact rfl); (case kF => exact rfl); (case kK => assumption); (case k1 => k_asm); (case k2 => k_asm); (case k3 => k_asm); (case k4 => k_asm); (case k5 => k_asm); (case k6 => k_is); (case k7 => k_is); (case k8 => ktr_room); (case k9 => first | exact BindsTo.of_eq rfl | exact binds_K (by k_in) rfl (by k_is) rfl rfl rfl); (case c5 => decide); (case kB => exact locs rfl); (case c2 => exact rfl); (case c3 => exact rfl); (case c4 => exact rfl); k_whole; intro g' L' h' FG' F' N' B' X' T'; (try dsimp only); (try k_lift B'); (try k_fold))); (repeat' ((fail_if_success (with_reducible show Q _ _)); (first | (k_unfold; (try dsimp only)) | (k_end; wrow_close) | walk1 | (dsimp only; walk1) | (leave1; walk_say "STEP leave1"; try dsimp only) | fail "no step"))); all_goals cb_end hret)
end
section
local macro_rules | `(tactic| k_room) => `(tactic| ktr_room)
local macro_rules | `(tactic| room) => `(tactic| ktr_room)
local macro_rules | `(tactic| walk_at "eval Call") => `(tactic| ((with_reducible show wpAny _ _ (eval (Expr.Call (Expr.Name _ _) _ [] _) _) _ _ _); k_dflt (refine Call_ ?_)))
set_option maxRecDepth 100000 in
set_option maxHeartbeats 8000000 in
theorem fis_tells (j : Int) (t : Tok) : Tells3 20 187 (True) [.int j t] (fisF j) := by
  unfold Tells3
  k_with_none
  k_with "execs cons" => (k_here; (try dsimp only); (with_reducible refine Mine.gentoks ?_); intro tk9; (with_reducible refine wpAny_execs_cons ?_); (try dsimp only))
  k_with "execs nil" => (k_here; (try dsimp only); (with_reducible refine Mine.gentoks ?_); intro tk9; (with_reducible refine wpAny_execs_nil ?_); (try dsimp only))
  w_on
  k_fill
  intro w p loose mean mg mb news dp un gd cn cs a ccd cl outer A₀ base h₀ L m s Q E B F X N T hk hp hd9 hu hret
  w_strict (refine wpAny_call ?_; (k_dflt (refine' code_def ?k1 ?k2 ?k3 ?k4 ?k5 ?kA ?kF ?kK ?k6 ?k7 ?k8 ?k9 ?kB ?_ ?c2 ?c3 ?c4 ?c5; (case kA => exact rfl); (case kF => exact rfl); (case kK => assumption); (case k1 => k_asm); (case k2 => k_asm); (case k3 => k_asm); (case k4 => k_asm); (case k5 => k_asm); (case k6 => k_is); (case k7 => k_is); (case k8 => ktr_room); (case k9 => first | exact BindsTo.of_eq rfl | exact binds_K (by k_in) rfl (by k_is) rfl rfl rfl); (case c5 => decide); (case kB => exact locs rfl); (case c2 => exact rfl); (case c3 => exact rfl); (case c4 => exact rfl); k_whole; intro g' L' h' FG' F' N' B' X' T'; (try dsimp only); (try k_lift B'); (try k_fold))); (repeat' ((fail_if_success (with_reducible show Q _ _)); (first | (k_unfold; (try dsimp only)) | (k_end; wrow_close) | walk1 | (dsimp only; walk1) | (leave1; walk_say "STEP leave1"; try dsimp only) | fail "no step"))); all_goals (first | (refine' Mine.ret3 (Q := Q) hret ?e1 ?e2 ?e3 ?e4; (case e2 => k_asm); (case e3 => first | k_asm | (refine' cb_drop ?cbN ?cbS; (case cbN => assumption); (case cbS => kcj_all))); (case e4 => k_asm); (case e1 => (simp (disch := omega) only [Int.fmod_eq_emod_of_nonneg, Int.fdiv_eq_ediv_of_nonneg]); simp only [fisF])) | w_report))
end
section
local macro_rules | `(tactic| k_room) => `(tactic| ktr_room)
local macro_rules | `(tactic| room) => `(tactic| ktr_room)
local macro_rules | `(tactic| walk_at "eval Call") => `(tactic| ((with_reducible show wpAny _ _ (eval (Expr.Call (Expr.Name _ _) _ [] _) _) _ _ _); k_dflt (refine Call_ ?_)))
set_option maxRecDepth 100000 in
set_option maxHeartbeats 8000000 in
theorem fco_tells (j : Int) (t : Tok) : Tells3 20 87 (True) [.int j t] (fcoF j) := by
  unfold Tells3
  k_with_none
  k_with "execs cons" => (k_here; (try dsimp only); (with_reducible refine Mine.gentoks ?_); intro tk9; (with_reducible refine wpAny_execs_cons ?_); (try dsimp only))
  k_with "execs nil" => (k_here; (try dsimp only); (with_reducible refine Mine.gentoks ?_); intro tk9; (with_reducible refine wpAny_execs_nil ?_); (try dsimp only))
  w_on
  k_fill
  intro w p loose mean mg mb news dp un gd cn cs a ccd cl outer A₀ base h₀ L m s Q E B F X N T hk hp hd9 hu hret
  w_strict (refine wpAny_call ?_; (k_dflt (refine' code_def ?k1 ?k2 ?k3 ?k4 ?k5 ?kA ?kF ?kK ?k6 ?k7 ?k8 ?k9 ?kB ?_ ?c2 ?c3 ?c4 ?c5; (case kA => exact rfl); (case kF => exact rfl); (case kK => assumption); (case k1 => k_asm); (case k2 => k_asm); (case k3 => k_asm); (case k4 => k_asm); (case k5 => k_asm); (case k6 => k_is); (case k7 => k_is); (case k8 => ktr_room); (case k9 => first | exact BindsTo.of_eq rfl | exact binds_K (by k_in) rfl (by k_is) rfl rfl rfl); (case c5 => decide); (case kB => exact locs rfl); (case c2 => exact rfl); (case c3 => exact rfl); (case c4 => exact rfl); k_whole; intro g' L' h' FG' F' N' B' X' T'; (try dsimp only); (try k_lift B'); (try k_fold))); (repeat' ((fail_if_success (with_reducible show Q _ _)); (first | (k_unfold; (try dsimp only)) | (k_end; wrow_close) | walk1 | (dsimp only; walk1) | (leave1; walk_say "STEP leave1"; try dsimp only) | fail "no step"))); all_goals (first | (refine' Mine.ret3 (Q := Q) hret ?e1 ?e2 ?e3 ?e4; (case e2 => k_asm); (case e3 => first | k_asm | (refine' cb_drop ?cbN ?cbS; (case cbN => assumption); (case cbS => kcj_all))); (case e4 => k_asm); (case e1 => (simp (disch := omega) only [Int.fmod_eq_emod_of_nonneg, Int.fdiv_eq_ediv_of_nonneg]); simp only [fcoF])) | w_report))
end
section
local macro_rules | `(tactic| k_room) => `(tactic| ktr_room)
local macro_rules | `(tactic| room) => `(tactic| ktr_room)
local macro_rules | `(tactic| walk_at "eval Call") => `(tactic| ((with_reducible show wpAny _ _ (eval (Expr.Call (Expr.Name _ _) _ [] _) _) _ _ _); k_dflt (refine Call_ ?_)))
set_option maxRecDepth 100000 in
set_option maxHeartbeats 8000000 in
theorem fju_tells (j : Int) (t : Tok) : Tells3 20 216 (True) [.int j t] (fjuF j) := by
  unfold Tells3
  k_with_none
  k_with "execs cons" => (k_here; (try dsimp only); (with_reducible refine Mine.gentoks ?_); intro tk9; (with_reducible refine wpAny_execs_cons ?_); (try dsimp only))
  k_with "execs nil" => (k_here; (try dsimp only); (with_reducible refine Mine.gentoks ?_); intro tk9; (with_reducible refine wpAny_execs_nil ?_); (try dsimp only))
  w_on
  k_fill
  intro w p loose mean mg mb news dp un gd cn cs a ccd cl outer A₀ base h₀ L m s Q E B F X N T hk hp hd9 hu hret
  w_strict (refine wpAny_call ?_; (k_dflt (refine' code_def ?k1 ?k2 ?k3 ?k4 ?k5 ?kA ?kF ?kK ?k6 ?k7 ?k8 ?k9 ?kB ?_ ?c2 ?c3 ?c4 ?c5; (case kA => exact rfl); (case kF => exact rfl); (case kK => assumption); (case k1 => k_asm); (case k2 => k_asm); (case k3 => k_asm); (case k4 => k_asm); (case k5 => k_asm); (case k6 => k_is); (case k7 => k_is); (case k8 => ktr_room); (case k9 => first | exact BindsTo.of_eq rfl | exact binds_K (by k_in) rfl (by k_is) rfl rfl rfl); (case c5 => decide); (case kB => exact locs rfl); (case c2 => exact rfl); (case c3 => exact rfl); (case c4 => exact rfl); k_whole; intro g' L' h' FG' F' N' B' X' T'; (try dsimp only); (try k_lift B'); (try k_fold))); (repeat' ((fail_if_success (with_reducible show Q _ _)); (first | (k_unfold; (try dsimp only)) | (k_end; wrow_close) | walk1 | (dsimp only; walk1) | (leave1; walk_say "STEP leave1"; try dsimp only) | fail "no step"))); all_goals (first | (refine' Mine.ret3 (Q := Q) hret ?e1 ?e2 ?e3 ?e4; (case e2 => k_asm); (case e3 => first | k_asm | (refine' cb_drop ?cbN ?cbS; (case cbN => assumption); (case cbS => kcj_all))); (case e4 => k_asm); (case e1 => ((try law_fm); (simp only [fjuF, decide_eq_true_eq, decide_eq_false_iff_not, Bool.not_eq_true] at *); omega))) | w_report))
end
section
local macro_rules | `(tactic| k_room) => `(tactic| ktr_room)
local macro_rules | `(tactic| room) => `(tactic| ktr_room)
local macro_rules | `(tactic| walk_at "eval Call") => `(tactic| ((with_reducible show wpAny _ _ (eval (Expr.Call (Expr.Name _ _) _ [] _) _) _ _ _); k_dflt (refine Call_ ?_)))
local macro_rules | `(tactic| walk_at "eval ListComp") => `(tactic| (k_here; (with_reducible show wpAny _ _ (eval (Expr.ListComp _ [⟨Expr.Tuple [_, _, _, _] _ _, _, _, _⟩] _ _) _) _ _ _); k_dflt (refine' Mine.comp_quads ?x0 ?x1 ?x2 ?x3 ?x4 ?x5 ?x6 ?x7 ?x8 ?x9 ?x10 ?_ ?x12; (case x0 => k_asm); (case x1 => rfl); (case x2 => with_unfolding_all rfl); (case x3 => decide); (case x4 => rfl); (case x5 => decide); (case x6 => rfl); (case x7 => rfl); (case x8 => rfl); (case x9 => rfl); (case x10 => decide); (case x12 => intro _; rfl))))
local macro_rules | `(tactic| walk_at "QuadSrc") => `(tactic| (k_here; k_dflt (unfold Mine.QuadSrc; (refine' ⟨_, _, _, _, _, ?e1, ?F, ?N, ?hm, ?e2, ?e3, ?hs, ?tn, ?fn⟩); (case e1 => rfl); (case F => k_asm); (case N => k_asm); (case hm => k_mem); (case e2 => rfl); (case e3 => rfl); (case hs => first | size_fits | exact Nat.le_of_ble_eq_true rfl); (case' tn => (intro v hv; (simp only [List.toList_toArray, List.mem_cons, List.not_mem_nil, or_false] at hv); (rcases hv with hv | hv | hv | hv | hv | hv | hv | hv | hv) <;> (subst hv; unfold Mine.Quad; (refine' ⟨_, _, _, _, _, _, _, ?e1, ?hm, ?e2, ?e3, ?_⟩); (case e1 => rfl); (case hm => k_mem); (case e2 => rfl); (case e3 => rfl); intro I9 oI9 C9 oC9 D9 ys9 m9 h9 tk9 E9 hC9 x1 x2 x3 x4 F9 N9))); (case' fn => (intro D9 h9 tk9 F9 N9 l9; (try k_lt l9); (try dsimp only))))))
local macro_rules | `(tactic| walk_at "QuadEnd") => `(tactic| (k_here; unfold Mine.QuadEnd; exact ⟨_, _, rfl, rfl, by k_asm, by k_asm⟩))
local macro_rules | `(tactic| walk_at "compareOp NotIn") => `(tactic| (k_here; (with_reducible show wpAny _ _ (compareOp CmpOp.NotIn (Value.bool false) (Value.ref _)) _ _ _); k_dflt (refine' Mine.notin_trues ?N ?hm ?_; (case N => k_asm); (case hm => k_mem))))
set_option maxRecDepth 100000 in
set_option maxHeartbeats 8000000 in
theorem new_tells (y n : Int) (t t1 : Tok) : Tells 40 249 (1 ≤ n) [.int y t, .int n t1] (fun _ => .bool true) := by
  unfold Tells
  k_with_none
  k_with "call ref" => (k_here; (with_reducible show wpAny _ _ (call (Value.ref 244) _ _) _ _ _); k_dflt (refine' Mine.use (Mine.near1_tells _ _ _ _ _ _ _) ?k1 ?k2 ?k3 ?k4 ?k5 ?kK ?kp ?kd ?ku ?_); (case k1 => k_asm); (case k2 => k_asm); (case k3 => k_asm); (case k4 => k_asm); (case k5 => k_asm); (case kK => first | exact rfl | assumption); (case kp => first | exact Mine.near_greg (by omega) | exact Mine.near_ind (by omega) | (constructor <;> omega)); (case kd => ktr_room); (case ku => ktr_units); intro t9 h9 tk9 F9 N9; (try dsimp only); (try k_fold))
  k_with "call ref" => (k_here; (with_reducible show wpAny _ _ (call (Value.ref 244) _ _) _ _ _); k_dflt (refine' Mine.use (Mine.near30_tells _ _ _ _ _ _ _) ?k1 ?k2 ?k3 ?k4 ?k5 ?kK ?kp ?kd ?ku ?_); (case k1 => k_asm); (case k2 => k_asm); (case k3 => k_asm); (case k4 => k_asm); (case k5 => k_asm); (case kK => first | exact rfl | assumption); (case kp => first | exact Mine.near_greg (by omega) | exact Mine.near_ind (by omega) | (constructor <;> omega)); (case kd => ktr_room); (case ku => ktr_units); intro t9 h9 tk9 F9 N9; (try dsimp only); (try k_fold))
  k_with "call ref" => (k_here; (with_reducible show wpAny _ _ (call (Value.ref 244) _ _) _ _ _); k_dflt (refine' Mine.use (Mine.near4_tells _ _ _ _ _ _ _) ?k1 ?k2 ?k3 ?k4 ?k5 ?kK ?kp ?kd ?ku ?_); (case k1 => k_asm); (case k2 => k_asm); (case k3 => k_asm); (case k4 => k_asm); (case k5 => k_asm); (case kK => first | exact rfl | assumption); (case kp => first | exact Mine.near_greg (by omega) | exact Mine.near_ind (by omega) | (constructor <;> omega)); (case kd => ktr_room); (case ku => ktr_units); intro t9 h9 tk9 F9 N9; (try dsimp only); (try k_fold))
  k_with "call ref" => (k_here; (with_reducible show wpAny _ _ (call (Value.ref 244) _ _) _ _ _); k_dflt (refine' Mine.use (Mine.near400_tells _ _ _ _ _ _ _) ?k1 ?k2 ?k3 ?k4 ?k5 ?kK ?kp ?kd ?ku ?_); (case k1 => k_asm); (case k2 => k_asm); (case k3 => k_asm); (case k4 => k_asm); (case k5 => k_asm); (case kK => first | exact rfl | assumption); (case kp => first | exact Mine.near_greg (by omega) | exact Mine.near_ind (by omega) | (constructor <;> omega)); (case kd => ktr_room); (case ku => ktr_units); intro t9 h9 tk9 F9 N9; (try dsimp only); (try k_fold))
  k_with "call ref" => (k_here; (with_reducible show wpAny _ _ (call (Value.ref 180) _ _) _ _ _); k_dflt (refine' Mine.use (Mine.islamic_tells _ _ _ _) ?k1 ?k2 ?k3 ?k4 ?k5 ?kK ?kp ?kd ?ku ?_); (case k1 => k_asm); (case k2 => k_asm); (case k3 => k_asm); (case k4 => k_asm); (case k5 => k_asm); (case kK => first | exact rfl | assumption); (case kp => first | trivial | omega | l_fact); (case kd => ktr_room); (case ku => ktr_units); intro t9 h9 tk9 F9 N9; (try dsimp only); (try k_fold))
  k_with "call ref" => (k_here; (with_reducible show wpAny _ _ (call (Value.ref 103) _ _) _ _ _); k_dflt (refine' Mine.use (Mine.fr_tells _ _ _ _ _) ?k1 ?k2 ?k3 ?k4 ?k5 ?kK ?kp ?kd ?ku ?_); (case k1 => k_asm); (case k2 => k_asm); (case k3 => k_asm); (case k4 => k_asm); (case k5 => k_asm); (case kK => first | exact rfl | assumption); (case kp => first | trivial | omega | l_fact); (case kd => ktr_room); (case ku => ktr_units); intro t9 h9 tk9 F9 N9; (try dsimp only); (try k_fold))
  k_with "call ref" => (k_here; (with_reducible show wpAny _ _ (call (Value.ref 73) _ _) _ _ _); k_dflt (refine' Mine.use (Mine.arm_tells _ _ _ _) ?k1 ?k2 ?k3 ?k4 ?k5 ?kK ?kp ?kd ?ku ?_); (case k1 => k_asm); (case k2 => k_asm); (case k3 => k_asm); (case k4 => k_asm); (case k5 => k_asm); (case kK => first | exact rfl | assumption); (case kp => first | trivial | omega | l_fact); (case kd => ktr_room); (case ku => ktr_units); intro t9 h9 tk9 F9 N9; (try dsimp only); (try k_fold))
  k_with "call ref" => (k_here; (with_reducible show wpAny _ _ (call (Value.ref 73) _ _) _ _ _); k_dflt (refine' Mine.use (Mine.arms_tells _ _ _ _ _) ?k1 ?k2 ?k3 ?k4 ?k5 ?kK ?kp ?kd ?ku ?_); (case k1 => k_asm); (case k2 => k_asm); (case k3 => k_asm); (case k4 => k_asm); (case k5 => k_asm); (case kK => first | exact rfl | assumption); (case kp => first | trivial | omega | l_fact); (case kd => ktr_room); (case ku => ktr_units); intro t9 h9 tk9 F9 N9; (try dsimp only); (try k_fold))
  k_with "call ref" => (k_here; (with_reducible show wpAny _ _ (call (Value.ref 80) _ _) _ _ _); k_dflt (refine' Mine.use (Mine.coptic_tells _ _ _ _) ?k1 ?k2 ?k3 ?k4 ?k5 ?kK ?kp ?kd ?ku ?_); (case k1 => k_asm); (case k2 => k_asm); (case k3 => k_asm); (case k4 => k_asm); (case k5 => k_asm); (case kK => first | exact rfl | assumption); (case kp => first | trivial | omega | l_fact); (case kd => ktr_room); (case ku => ktr_units); intro t9 h9 tk9 F9 N9; (try dsimp only); (try k_fold))
  k_with "call ref" => (k_here; (with_reducible show wpAny _ _ (call (Value.ref 223) _ _) _ _ _); k_dflt (refine' Mine.use (Mine.jul_tells _ _ _ _) ?k1 ?k2 ?k3 ?k4 ?k5 ?kK ?kp ?kd ?ku ?_); (case k1 => k_asm); (case k2 => k_asm); (case k3 => k_asm); (case k4 => k_asm); (case k5 => k_asm); (case kK => first | exact rfl | assumption); (case kp => first | trivial | omega | l_fact); (case kd => ktr_room); (case ku => ktr_units); intro t9 h9 tk9 F9 N9; (try dsimp only); (try k_fold))
  k_with "call ref" => (k_here; (with_reducible show wpAny _ _ (call (Value.ref 237) _ _) _ _ _); k_dflt (refine' Mine.use (Mine.pos_tells _ _ _ _) ?k1 ?k2 ?k3 ?k4 ?k5 ?kK ?kp ?kd ?ku ?_); (case k1 => k_asm); (case k2 => k_asm); (case k3 => k_asm); (case k4 => k_asm); (case k5 => k_asm); (case kK => first | exact rfl | assumption); (case kp => first | trivial | omega | l_fact); (case kd => ktr_room); (case ku => ktr_units); intro t9 h9 tk9 F9 N9; (try dsimp only); (try k_fold))
  k_with "call ref" => (k_here; (with_reducible show wpAny _ _ (call (Value.ref 173) _ _) _ _ _); k_dflt (refine' Mine.use (Mine.ind_tells _ _ _ _) ?k1 ?k2 ?k3 ?k4 ?k5 ?kK ?kp ?kd ?ku ?_); (case k1 => k_asm); (case k2 => k_asm); (case k3 => k_asm); (case k4 => k_asm); (case k5 => k_asm); (case kK => first | exact rfl | assumption); (case kp => first | trivial | omega | l_fact); (case kd => ktr_room); (case ku => ktr_units); intro t9 h9 tk9 F9 N9; (try dsimp only); (try k_fold))
  k_with "call ref" => (k_here; (with_reducible show wpAny _ _ (call (Value.ref 50) _ _) _ _ _); k_dflt (refine' Mine.use (Mine.greg_tells _ _ _ _) ?k1 ?k2 ?k3 ?k4 ?k5 ?kK ?kp ?kd ?ku ?_); (case k1 => k_asm); (case k2 => k_asm); (case k3 => k_asm); (case k4 => k_asm); (case k5 => k_asm); (case kK => first | exact rfl | assumption); (case kp => first | trivial | omega | l_fact); (case kd => ktr_room); (case ku => ktr_units); intro t9 h9 tk9 F9 N9; (try dsimp only); (try k_fold))
  k_with "execs cons" => (k_here; (try dsimp only); (with_reducible refine Mine.gentoks ?_); intro tk9; (with_reducible refine wpAny_execs_cons ?_); (try dsimp only))
  k_with "execs nil" => (k_here; (try dsimp only); (with_reducible refine Mine.gentoks ?_); intro tk9; (with_reducible refine wpAny_execs_nil ?_); (try dsimp only))
  w_on
  k_fill
  intro w p loose mean mg mb news dp un gd cn cs a ccd cl outer A₀ base h₀ L m s Q E B F X N T hk hp hd9 hu hret
  w_strict (refine wpAny_call ?_; (k_dflt (refine' code_defC ?k1 ?k2 ?k3 ?k4 ?k5 ?kA ?kF ?kK ?k6 ?k7 ?k8 ?k9 ?kB ?kD ?_ ?c2 ?c3 ?c4; (case kA => exact rfl); (case kF => exact rfl); (case kK => assumption); (case k1 => k_asm); (case k2 => k_asm); (case k3 => k_asm); (case k4 => k_asm); (case k5 => k_asm); (case k6 => k_is); (case k7 => k_is); (case k8 => ktr_room); (case k9 => first | exact BindsTo.of_eq rfl | exact binds_K (by k_in) rfl (by k_is) rfl rfl rfl); (case kB => exact rfl); (case kD => decide +kernel); (case c2 => exact rfl); (case c3 => exact rfl); (case c4 => exact rfl); k_whole; intro g' L' h' tk' cells' FG' F' N' Y' B' X' T' l1; (try k_lt l1); k_cells Y'; (try simp only [List.cons_append, List.nil_append] at N'); (try dsimp only); (try k_lift B'); (try k_fold))); (repeat' ((fail_if_success (with_reducible show Q _ _)); (first | (k_unfold; (try dsimp only)) | (k_end; wrow_close) | walk1 | (dsimp only; walk1) | (leave1; walk_say "STEP leave1"; try dsimp only) | fail "no step"))); all_goals (first | (refine' cb_retB (Q := Q) hret ?e1 ?e2 ?e3; (case e2 => k_asm); (case e3 => first | k_asm | (refine' cb_drop ?cbN ?cbS; (case cbN => assumption); (case cbS => kcj_all))); (case e1 => rfl)) | w_report))
end
section
local macro_rules | `(tactic| k_room) => `(tactic| ktr_room)
local macro_rules | `(tactic| room) => `(tactic| ktr_room)
set_option maxRecDepth 100000 in
set_option maxHeartbeats 3000000 in
theorem hebl_tells (y n : Int) (t t1 : Tok) : Tells 40 254 (1 ≤ y ∧ 1 ≤ n ∧ n ≤ 39) [.int y t, .int n t1] (fun _ => .bool true) := by
  unfold Tells
  k_with_none
  k_with "call ref" => (k_here; (with_reducible show wpAny _ _ (call (Value.ref 166) _ _) _ _ _); k_dflt (refine' Mine.use (Mine.heb_tells _ _ _ _) ?k1 ?k2 ?k3 ?k4 ?k5 ?kK ?kp ?kd ?ku ?_); (case k1 => k_asm); (case k2 => k_asm); (case k3 => k_asm); (case k4 => k_asm); (case k5 => k_asm); (case kK => first | exact rfl | assumption); (case kp => first | trivial | omega | l_fact); (case kd => ktr_room); (case ku => ktr_units); intro t9 h9 tk9 F9 N9; (try dsimp only); (try k_fold))
  k_with "call ref" => (k_here; (with_reducible show wpAny _ _ (call (Value.ref 124) _ _) _ _ _); k_dflt (refine' Mine.use (Mine.ym_tells _ _) ?k1 ?k2 ?k3 ?k4 ?k5 ?kK ?kp ?kd ?ku ?_); (case k1 => k_asm); (case k2 => k_asm); (case k3 => k_asm); (case k4 => k_asm); (case k5 => k_asm); (case kK => first | exact rfl | assumption); (case kp => first | trivial | omega | l_fact); (case kd => ktr_room); (case ku => ktr_units); intro t9 h9 tk9 F9 N9; (try dsimp only); (try k_fold))
  k_with "execs cons" => (k_here; (try dsimp only); (with_reducible refine Mine.gentoks ?_); intro tk9; (with_reducible refine wpAny_execs_cons ?_); (try dsimp only))
  k_with "execs nil" => (k_here; (try dsimp only); (with_reducible refine Mine.gentoks ?_); intro tk9; (with_reducible refine wpAny_execs_nil ?_); (try dsimp only))
  w_on
  k_fill
  intro w p loose mean mg mb news dp un gd cn cs a ccd cl outer A₀ base h₀ L m s Q E B F X N T hk hp hd9 hu hret
  w_strict (refine wpAny_call ?_; (k_dflt (refine' code_defC ?k1 ?k2 ?k3 ?k4 ?k5 ?kA ?kF ?kK ?k6 ?k7 ?k8 ?k9 ?kB ?kD ?_ ?c2 ?c3 ?c4; (case kA => exact rfl); (case kF => exact rfl); (case kK => assumption); (case k1 => k_asm); (case k2 => k_asm); (case k3 => k_asm); (case k4 => k_asm); (case k5 => k_asm); (case k6 => k_is); (case k7 => k_is); (case k8 => ktr_room); (case k9 => first | exact BindsTo.of_eq rfl | exact binds_K (by k_in) rfl (by k_is) rfl rfl rfl); (case kB => exact rfl); (case kD => decide +kernel); (case c2 => exact rfl); (case c3 => exact rfl); (case c4 => exact rfl); k_whole; intro g' L' h' tk' cells' FG' F' N' Y' B' X' T' l1; (try k_lt l1); k_cells Y'; (try simp only [List.cons_append, List.nil_append] at N'); (try dsimp only); (try k_lift B'); (try k_fold))); (repeat' ((fail_if_success (with_reducible show Q _ _)); (first | (k_unfold; (try dsimp only)) | (k_end; wrow_close) | walk1 | (dsimp only; walk1) | (leave1; walk_say "STEP leave1"; try dsimp only) | fail "no step"))); all_goals (first | (refine' cb_retB (Q := Q) hret ?e1 ?e2 ?e3; (case e2 => k_asm); (case e3 => first | k_asm | (refine' cb_drop ?cbN ?cbS; (case cbN => assumption); (case cbS => kcj_all))); (case e1 => (obtain ⟨⟨q1, q2⟩, q3, q4⟩ := Mine.heb_end (y := y) (n := n) (by omega) (by omega); first | (rw [decide_eq_true_eq]; split <;> omega) | done))) | w_report))
end
theorem four {vs : List Value} {ns : List Int} (h : IntsAre vs (List.take 4 (List.take 4 ns ++ [0, 0, 0, 0]))) :
    ∃ (a b c d : Int) (ta tb tc td : Tok), vs = [.int a ta, .int b tb, .int c tc, .int d td] := by
  have e : ∃ a b c d : Int, List.take 4 (List.take 4 ns ++ [0, 0, 0, 0]) = [a, b, c, d] := by
    match ns with
    | [] => exact ⟨_, _, _, _, rfl⟩
    | [_] => exact ⟨_, _, _, _, rfl⟩
    | [_, _] => exact ⟨_, _, _, _, rfl⟩
    | [_, _, _] => exact ⟨_, _, _, _, rfl⟩
    | _ :: _ :: _ :: _ :: _ => exact ⟨_, _, _, _, rfl⟩
  obtain ⟨a, b, c, d, e⟩ := e
  rw [e] at h
  obtain ⟨ta, v1, e1, h1⟩ := IntsAre.cons_inv h
  obtain ⟨tb, v2, e2, h2⟩ := IntsAre.cons_inv h1
  obtain ⟨tc, v3, e3, h3⟩ := IntsAre.cons_inv h2
  obtain ⟨td, v4, e4, h4⟩ := IntsAre.cons_inv h3
  have e5 := IntsAre.nil_inv h4
  exact ⟨a, b, c, d, ta, tb, tc, td, by rw [e1, e2, e3, e4, e5]⟩
end Mine
open Mine
local macro_rules | `(tactic| walk_at "subscriptTail BinOp Subscript Add List Slice ref ref") => `(tactic| (k_here; k_dflt (refine kba_turn (value' := PySem.Expr.Name (PySem.Str.ofString "_") ⟨0, 0, 0, 0⟩) (fun _ => rfl) ?_)))
set_option maxRecDepth 100000 in
set_option maxHeartbeats 8000000 in
theorem PySem.Challenge.cw_bb0032_01_holds : PySem.Challenge.rw_bb0032_01.Holds := by
  k_with_none
  k_with "call ref" => (k_here; (with_reducible show wpAny _ _ (call (Value.ref 261) _ _) _ _ _); k_dflt (refine' Mine.use (Mine.begun4_tells _ _ _ _ _ _ _ _) ?k1 ?k2 ?k3 ?k4 ?k5 ?kK ?kp ?kd ?ku ?_); (case k1 => k_asm); (case k2 => k_asm); (case k3 => k_asm); (case k4 => k_asm); (case k5 => k_asm); (case kK => first | exact rfl | assumption); (case kp => ((simp only [fcoF, fjuF]); first | omega | ((repeat' split) <;> omega))); (case kd => ktr_room); (case ku => ktr_units); intro t9 h9 tk9 F9 N9; (try dsimp only); (try k_fold))
  k_with "call ref" => (k_here; (with_reducible show wpAny _ _ (call (Value.ref 261) _ _) _ _ _); k_dflt (refine' Mine.use (Mine.begun30_tells _ _ _ _ _ _ _ _) ?k1 ?k2 ?k3 ?k4 ?k5 ?kK ?kp ?kd ?ku ?_); (case k1 => k_asm); (case k2 => k_asm); (case k3 => k_asm); (case k4 => k_asm); (case k5 => k_asm); (case kK => first | exact rfl | assumption); (case kp => ((simp only [fisF]); first | omega | ((repeat' split) <;> omega))); (case kd => ktr_room); (case ku => ktr_units); intro t9 h9 tk9 F9 N9; (try dsimp only); (try k_fold))
  k_with "call ref" => (k_here; (with_reducible show wpAny _ _ (call (Value.ref 254) _ _) _ _ _); k_dflt (refine' Mine.use (Mine.hebl_tells _ _ _ _) ?k1 ?k2 ?k3 ?k4 ?k5 ?kK ?kp ?kd ?ku ?_); (case k1 => k_asm); (case k2 => k_asm); (case k3 => k_asm); (case k4 => k_asm); (case k5 => k_asm); (case kK => first | exact rfl | assumption); (case kp => ((try (simp (disch := omega) only [Int.fmod_eq_emod_of_nonneg, Int.fdiv_eq_ediv_of_nonneg])); first | omega | ((repeat' split) <;> omega))); (case kd => ktr_room); (case ku => ktr_units); intro t9 h9 tk9 F9 N9; (try dsimp only); (try k_fold))
  k_with "call ref" => (k_here; (with_reducible show wpAny _ _ (call (Value.ref 249) _ _) _ _ _); k_dflt (refine' Mine.use (Mine.new_tells _ _ _ _) ?k1 ?k2 ?k3 ?k4 ?k5 ?kK ?kp ?kd ?ku ?_); (case k1 => k_asm); (case k2 => k_asm); (case k3 => k_asm); (case k4 => k_asm); (case k5 => k_asm); (case kK => first | exact rfl | assumption); (case kp => first | omega | ((repeat' split) <;> omega)); (case kd => ktr_room); (case ku => ktr_units); intro t9 h9 tk9 F9 N9; (try dsimp only); (try k_fold))
  k_with "call ref" => (k_here; (with_reducible show wpAny _ _ (call (Value.ref 216) _ _) _ _ _); k_dflt (refine' Mine.use3 (Mine.fju_tells _ _) ?k1 ?k2 ?k3 ?k4 ?k5 ?kK ?kp ?kd ?ku ?_); (case k1 => k_asm); (case k2 => k_asm); (case k3 => k_asm); (case k4 => k_asm); (case k5 => k_asm); (case kK => first | exact rfl | assumption); (case kp => trivial); (case kd => ktr_room); (case ku => ktr_units); intro D9 t9 v9 u9 h9 tk9 F9 N9 l9; (try k_lt l9); (try dsimp only); (try k_sweep); (try k_fold))
  k_with "call ref" => (k_here; (with_reducible show wpAny _ _ (call (Value.ref 87) _ _) _ _ _); k_dflt (refine' Mine.use3 (Mine.fco_tells _ _) ?k1 ?k2 ?k3 ?k4 ?k5 ?kK ?kp ?kd ?ku ?_); (case k1 => k_asm); (case k2 => k_asm); (case k3 => k_asm); (case k4 => k_asm); (case k5 => k_asm); (case kK => first | exact rfl | assumption); (case kp => trivial); (case kd => ktr_room); (case ku => ktr_units); intro D9 t9 v9 u9 h9 tk9 F9 N9 l9; (try k_lt l9); (try dsimp only); (try k_sweep); (try k_fold))
  k_with "call ref" => (k_here; (with_reducible show wpAny _ _ (call (Value.ref 187) _ _) _ _ _); k_dflt (refine' Mine.use3 (Mine.fis_tells _ _) ?k1 ?k2 ?k3 ?k4 ?k5 ?kK ?kp ?kd ?ku ?_); (case k1 => k_asm); (case k2 => k_asm); (case k3 => k_asm); (case k4 => k_asm); (case k5 => k_asm); (case kK => first | exact rfl | assumption); (case kp => trivial); (case kd => ktr_room); (case ku => ktr_units); intro D9 t9 v9 u9 h9 tk9 F9 N9 l9; (try k_lt l9); (try dsimp only); (try k_sweep); (try k_fold))
  k_with "execs cons" => (k_here; (try dsimp only); (with_reducible refine Mine.gentoks ?_); intro tk9; (with_reducible refine wpAny_execs_cons ?_); (try dsimp only))
  k_with "execs nil" => (k_here; (try dsimp only); (with_reducible refine Mine.gentoks ?_); intro tk9; (with_reducible refine wpAny_execs_nil ?_); (try dsimp only))
  k_with "assign Tuple cons ref" => (with_reducible (rename IntsAre _ (List.take 4 (List.take 4 _ ++ _)) => hI9; rename (List.length (List.take 4 (List.take 4 _ ++ _)) = _) => hC9; rename (List.length (List.take 4 (List.take 4 _ ++ _)) ≤ _) => hL9; clear hC9 hL9; obtain ⟨a9, b9, c9, d9, ta9, tb9, tc9, td9, e9⟩ := Mine.four hI9; clear hI9; subst e9))
  w_on
  refine hd ?_
  w_strict k_go
