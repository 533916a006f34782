import PyProof.Rows.All
import Wide.All
import OpenK.AllK
import Wide.FinOn
import PySem.Challenge.RW_kg0004_01
open PySem PySem.W PyProof.Rows
set_option Elab.async false

namespace Mine
open PySem.Spec PySem.Calls PyProof.Rows.LCg PyProof.Rows.LCt

section
variable {prog : Program} {w : World} {A : Around} {E : Value → Shared → Prop} {s : Shared} {h₀ : Heap} {L : Addr} {m : Str → Option Value} {env : Env}

theorem pyIter_str_o {x : Str} {t : Tok} {Q : Value → Shared → Prop}
    (hQ : ∀ (o : Obj) (St : Nat → Heap → Prop), (∀ A' : Around, A'.handled = none → Walks prog w A' s.heap.objs.size [s.heap.objs.size] [s.heap.objs.size] x.cps.size (SignAt x) St) → St 0 (s.heap.push o) →
      (∀ i h, St i h → ∃ o, h.get? s.heap.objs.size = some o) →
      Q (.ref s.heap.objs.size) { s with heap := s.heap.push o }) : wpAny (model prog w) A (pyIter (.str x t)) Q E s := by
  cases ha : x.cps.all (· < 128)
  · exact wpAny_pyIter_wide ha (hQ _ _ (fun A' hA => Walks.strWide hA _ x t) ⟨_, Heap.get?_push_size _ rfl, rfl, rfl⟩ fun i h st => let ⟨o, ho, _⟩ := st; ⟨o, ho⟩)
  · exact wpAny_pyIter_ascii ha (hQ _ _ (fun A' hA => Walks.strAscii hA _ x t) ⟨_, Heap.get?_push_size _ rfl, rfl, rfl⟩ fun i h st => let ⟨o, ho, _⟩ := st; ⟨o, ho⟩)

def TestEnd (h₀ : Heap) (L : Addr) (m : Str → Option Value) (s₁ : Shared) (I : Addr) (oI : Obj) (C : Addr) (oC : Obj) (D : Addr) (oD : Obj) (news : List (Addr × Obj)) (b ok : Bool) (s' : Shared) : Prop :=
  ok = b ∧ CompEnd h₀ L m s₁ I oI C oC D oD (fun _ => True) (fun _ news' => news' = news) Value.none s'

theorem rest_S {ct : Expr} {x : Str} {pe : Pos} {scope : Scope} {cl : List (Str × Addr)} {Fin : List Value → List (Addr × Obj) → Prop} {news : List (Addr × Obj)} {xt : Str} (p : Nat → Bool)
    (hkf : ∀ C, (compEnvC scope cl C env).scope.kind = .function) (hkl : ∀ C, (compEnvC scope cl C env).kindOf x = some .local) (hd : (x == ("__debug__" : Str)) = false)
    (turn : ∀ c t I oI C oC D m₂ ys h tk (E' : Value → Shared → Prop), NsObj oC m₂ → m₂ x = some (.str ⟨#[c]⟩ t) → Fr h₀ L h m → News h₀ L h ((I, oI) :: (C, oC) :: (D, lst ys) :: news) → Off3 I C D news → ((@Ne Nat I C) ∧ (@Ne Nat I D) ∧ (@Ne Nat C D)) →
      wpAny (model prog w) A (isTrue ct (compEnvC scope cl C env) (eval ct (compEnvC scope cl C env))) (TestEnd h₀ L m { s with heap := h, toks := tk } I oI C oC D (lst ys) news (p c)) E' { s with heap := h, toks := tk })
    (fin : ∀ ys, StrsAre ys ((xt.cps.toList.filter p).map fun c => ⟨#[c]⟩) → Fin ys news) :
    CompRestT prog w A h₀ L m env ct (.Name x pe) x scope cl s (fun _ => True) (SignAt xt) Fin xt.cps.size 0 [] news := by
  have key : ∀ (j i : Nat) (ys : List Value), i + j = xt.cps.size → StrsAre ys (((xt.cps.toList.take i).filter p).map fun c => ⟨#[c]⟩) → CompRestT prog w A h₀ L m env ct (.Name x pe) x scope cl s (fun _ => True) (SignAt xt) Fin j i ys news := by
    intro j
    induction j with
    | zero =>
      intro i ys hi hy
      have e : i = xt.cps.toList.length := by simpa using hi
      subst e
      rw [List.take_length] at hy
      exact CompRestT.zero (fin ys hy)
    | succ j ih =>
      intro i ys hi hy
      refine CompRestT.succ ?_
      intro v I oI C oC D m₂ h tk E' hv hC hx F N off ne
      obtain ⟨c, t, hc, hv'⟩ := hv
      rw [hv'] at hx
      have hc' : xt.cps.toList[i]? = some c := by simpa using hc
      refine wpAny_mono (turn c t I oI C oC D m₂ ys h tk E' hC hx F N off ne) (fun ok s₂ hq => ?_) fun _ _ e => e
      obtain ⟨rfl, h', tk', nw, e, F', N', off', hS, hn⟩ := hq
      subst hn
      have hnext : ∀ zs : List Value, StrsAre zs (((xt.cps.toList.take (i + 1)).filter p).map fun c => ⟨#[c]⟩) → CompRestT prog w A h₀ L m env ct (.Name x pe) x scope cl s (fun _ => True) (SignAt xt) Fin j (i + 1) zs nw := fun zs hz => ih (i + 1) zs (by omega) hz
      rw [take_succ_filter p _ i c hc'] at hnext
      cases hp : p c with
      | true =>
        rw [hp] at hnext
        simp only [if_true] at hnext ⊢
        rw [e]
        refine LCgL.ld_own (s := { s with heap := h', toks := tk' }) N' (List.mem_cons_of_mem _ List.mem_cons_self) hC hx ?_ (hkf C) (hkl C) hd
        refine ⟨h', tk', nw, rfl, F', N', off', hS, hnext _ ?_⟩
        rw [List.map_append]
        exact kct_snoc hy
      | false =>
        rw [hp] at hnext
        simp only [Bool.false_eq_true, if_false] at hnext ⊢
        refine ⟨h', tk', nw, e, F', N', off', hS, hnext _ ?_⟩
        rw [List.append_nil]
        exact hy
  exact key _ 0 [] (by omega) (by simp only [List.take_zero, List.filter_nil, List.map_nil]; exact .nil)

def SrcS (prog : Program) (w : World) (A : Around) (h₀ : Heap) (L : Addr) (m : Str → Option Value) (env : Env) (ct : Expr) (elt : Expr) (x : Str) (scope : Scope) (cl : List (Str × Addr)) (Fin : Shared → List Value → List (Addr × Obj) → Prop) (xv : Value) (s₁ : Shared) : Prop :=
  ∃ xt t news, xv = .str xt t ∧ A.handled = none ∧ Fr h₀ L s₁.heap m ∧ News h₀ L s₁.heap news ∧ xt.cps.size ≤ sizeLine ∧
    ∀ s₂ : Shared, (∃ h, s₂ = { s₁ with heap := h }) → CompRestT prog w A h₀ L m env ct elt x scope cl s₂ (fun _ => True) (SignAt xt) (Fin s₂) xt.cps.size 0 [] news

theorem ListComp_S {ct elt iter : Expr} {x : Str} {px : Pos} {scope : Scope} {cl : List (Str × Addr)} {pos : Pos} {Q : Value → Shared → Prop} (F₀ : Fr h₀ L s.heap m)
    (hclos : closureFor scope env = pure cl) (hcell : ∀ y ∈ scope.names, y.2 ≠ .cell) (hkind : scope.kind = .function)
    (hnames : ∀ y ∈ scope.names, y.2 = .local → scope.names.lookup y.1 = some .local) (hx : scope.names.lookup x = some .local)
    (h : wpAny (model prog w) A (eval iter env) (SrcS prog w A h₀ L m env ct elt x scope cl (fun s₂ => FinE h₀ L m s₂ Q)) E s)
    (hs : ∀ x, foldedSetIterable iter env x = pure x := by intro _; rfl) :
    wpAny (model prog w) A (eval (.ListComp elt [⟨.Name x px, iter, [ct], 0⟩] scope pos) env) Q E s := by
  rw [eval_ListComp]
  refine wpAny_comprehension_free (use := none) rfl hs hclos hkind hnames (wpAny_mono h (fun xv s₁ h₁ => ?_) fun _ _ e => e)
  obtain ⟨xt, t, news, rfl, hh, F, N, hsz, R⟩ := h₁
  refine pyIter_str_o fun o St hW hst hSo => ?_
  have W := hW A hh
  have up : ∀ b o', s₁.heap.get? b = some o' → (s₁.heap.push o).get? b = some o' := fun b o e => Heap.get?_push_of_some _ e
  refine block_T W hsz hSo (fun i h h' o nw st e e' _ _ _ => W.frame _ _ _ st fun b hb o' eb => ?_) hcell hkind hx hst (fun b hb => ?_)
      (F.keeps up) (N.grown up) (Nat.ne_of_lt F.ns.lt) (next_is_new F) (fun p hp => Nat.ne_of_lt (Heap.lt_size (N p hp).1)) trivial (R _ ⟨_, rfl⟩) ?_
  · rw [List.mem_singleton.mp hb] at eb ⊢
    rw [e] at eb
    rw [← Option.some.inj eb]
    exact e'
  · rw [List.mem_singleton.mp hb]
    show s₁.heap.objs.size < (s₁.heap.push _).objs.size
    rw [Heap.size_push]; exact Nat.lt_succ_self _
  · intro D C h tk m' ys news' F' N' o1 hn hC₀ hD₀ hCL hDL hCD offC fin
    refine ⟨m', hn, fun h'' hs'' => fin D h'' tk (F'.change hs'' hCL hC₀) (fun p hp => ?_) o1⟩
    refine ⟨hs''.extBut _ _ ?_ (N' p hp).1, (N' p hp).2⟩
    rcases List.mem_cons.mp hp with rfl | hp
    · exact Ne.symm hCD
    · exact offC p hp
end
end Mine

namespace Mine
open PyProof.Rows.LCg PyProof.Rows.LCt

def Stop (P : Prop) : Prop := P
theorem stopIt {P : Prop} (h : Stop P) : P := h
theorem gen_fr {h₀ h : Heap} {L : Addr} {x : Str} {t : Tok} {m : Str → Option Value} {G : Prop} (F : Fr h₀ L h (fun y => if y = Str.ofString "text" then some (.str x t) else m y)) (hx : x.length ≤ 63)
  (k : ∀ X : Str, X.length ≤ 63 → Fr h₀ L h (fun y => if y = Str.ofString "text" then some (.str X t) else m y) → G) : G := k x hx F

/-- the signs that are refused -/
def ctl (c : Nat) : Bool := decide (c < 32) && !(c == 9 || c == 10 || c == 13)

theorem ctl_occ : ∀ c < 32, (Builtin.Str.occurrences (Str.ofString "\t\n\x0d") { cps := #[c] } 0 (Str.ofString "\t\n\x0d").length 1).isEmpty = ctl c := by decide +kernel
theorem ctl_small {c : Nat} {b : Bool} (h1 : (c : Int) < 32) (h2 : (Builtin.Str.occurrences (Str.ofString "\t\n\x0d") { cps := #[c] } 0 (Str.ofString "\t\n\x0d").length 1).isEmpty = b) : b = ctl c := by
  rw [← h2]; exact ctl_occ c (by omega)
theorem ctl_big {c : Nat} (h1 : ¬ (c : Int) < 32) : false = ctl c := by
  have : ¬ c < 32 := by omega
  simp [ctl, this]
theorem testEnd_close {h₀ : Heap} {L : Addr} {m : Str → Option Value} {s : Shared} {I : Addr} {oI : Obj} {C : Addr} {oC : Obj} {D : Addr} {oD : Obj} {news : List (Addr × Obj)} {b ok : Bool} {h : Heap} {tk tk' : Nat}
   (F : Fr h₀ L h m) (N : News h₀ L h ((I, oI) :: (C, oC) :: (D, oD) :: news)) (off : Off3 I C D news) (e : ok = b) :
   TestEnd h₀ L m { s with heap := h, toks := tk } I oI C oC D oD news b ok { s with heap := h, toks := tk' } :=
  ⟨e, h, tk', news, rfl, F, N, off, trivial, rfl⟩
theorem join_short {f : Int → Str} {ns : List Int} (hf : ∀ a, (f a).length ≤ 1) (h : ns.length ≤ 63) : (Txt.join (Str.ofString "") (ns.map f)).length ≤ 63 := by
  show (Builtin.Str.glued (Str.ofString "") (ns.map f)).length ≤ 63
  rw [StrLaws.glued_eq_join]
  cases ns with
  | nil => exact Nat.zero_le _
  | cons a r =>
    have z : (PySem.Str.ofString "").length = 0 := by decide
    have b := sumLen_le_of_bound f 1 (a :: r) fun a _ => hf a
    rw [List.map_cons] at b ⊢
    rw [len_join_cons, z]
    omega

theorem ctl_lt {c : Nat} (h : ctl c = true) : c < 32 := by
  unfold ctl at h
  rw [Bool.and_eq_true] at h
  exact of_decide_eq_true h.1
theorem ok_small : ∀ c < 32, PyData.strOk ⟨#[c]⟩ = true := by decide +kernel
theorem canLay_ctl : ∀ cs : List Nat, (∀ c ∈ cs, ctl c = true) → PyData.canLayAll0 ((cs.map fun c => (⟨#[c]⟩ : Str)).map PyData.str) = true
  | [], _ => rfl
  | c :: r, h => by
    simp only [List.map_cons, PyData.canLayAll0, PyData.canLay0, ok_small c (ctl_lt (h c List.mem_cons_self)), Bool.true_and]
    exact canLay_ctl r fun d hd => h d (List.mem_cons_of_mem _ hd)
theorem depth_strs : ∀ ss : List Str, PyData.depthAll (ss.map PyData.str) = 0
  | [] => rfl
  | _ :: r => by simp [PyData.depthAll, PyData.depth, depth_strs r]
theorem shaped_ctl (cs : List Nat) (h : ∀ c ∈ cs, ctl c = true) : SeqAt.shaped (.list ((cs.map fun c => (⟨#[c]⟩ : Str)).map PyData.str)) = true := by
  simp only [SeqAt.shaped, PyData.canLay0, PyData.depth, depth_strs, canLay_ctl cs h]
  rfl
theorem ne_ctl_nil {prog : Program} {w : World} {A : Around} {E : Value → Shared → Prop} {s : Shared} {Q : Value → Shared → Prop} {a b : Addr} {vs : List Value} {l : List Nat}
    (hl : s.heap.IsList a vs.toArray) (hl' : s.heap.IsList b ([] : List Value).toArray) (hs : StrsAre vs ((l.filter ctl).map fun c => ⟨#[c]⟩)) (hu : A.units + 64 < cLine) (h : Q (.bool (l.any ctl)) s) :
    wpAny (model prog w) A (compareOp .NotEq (.ref a) (.ref b)) Q E s := by
  have hc : ∀ c ∈ l.filter ctl, ctl c = true := fun c hc => (List.mem_filter.mp hc).2
  refine ne_dataH_same (reads_newData hl hs.carried) (reads_newData hl' .nil) (shaped_ctl _ hc) rfl hu ?_ ?_
  · simp only [SeqAt.noMix]
    cases l.filter ctl <;> rfl
  · have e : (!Spec.same (.list (((l.filter ctl).map fun c => (⟨#[c]⟩ : Str)).map PyData.str)) (.list [])) = l.any ctl := by
      simp only [Spec.same]
      clear hs hc
      cases hf : l.filter ctl with
      | nil =>
        have : l.any ctl = false := by
          rw [List.any_eq_false]
          exact List.filter_eq_nil_iff.mp hf
        rw [this]; rfl
      | cons c r =>
        have : l.any ctl = true := by
          rw [List.any_eq_true]
          have hm : c ∈ l.filter ctl := by rw [hf]; exact List.mem_cons_self
          exact ⟨c, List.mem_filter.mp hm⟩
        rw [this]; rfl
    rw [e]; exact h
end Mine

namespace Mine
open PySem.StrLaws PySem.Builtin.Str

def rep1 (c : Nat) (z : List Nat) (l : List Nat) : List Nat := l.flatMap fun d => if d = c then z else [d]
theorem rep1_append (c : Nat) (z a b : List Nat) : rep1 c z (a ++ b) = rep1 c z a ++ rep1 c z b := List.flatMap_append
theorem rep1_free (c : Nat) (z : List Nat) : ∀ l : List Nat, c ∉ l → rep1 c z l = l
  | [], _ => rfl
  | d :: r, h => by
    have h1 : ¬ d = c := fun e => h (e ▸ List.mem_cons_self)
    have ih := rep1_free c z r fun m => h (List.mem_cons_of_mem _ m)
    unfold rep1 at ih ⊢
    rw [List.flatMap_cons, if_neg h1, ih]
    rfl
theorem rep1_one (c : Nat) (z : List Nat) : rep1 c z [c] = z := by simp [rep1]
theorem rep1_join (c : Nat) (z : Str) : ∀ parts : List Str, (∀ p ∈ parts, c ∉ p.cps.toList) → rep1 c z.cps.toList (Str.join ⟨#[c]⟩ parts).cps.toList = (Str.join z parts).cps.toList
  | [], _ => rfl
  | [p], h => rep1_free c _ _ (h p (List.mem_singleton.mpr rfl))
  | p :: q :: r, h => by
    have ih := rep1_join c z (q :: r) fun a ha => h a (List.mem_cons_of_mem _ ha)
    show rep1 c _ (p ++ ⟨#[c]⟩ ++ Str.join ⟨#[c]⟩ (q :: r)).cps.toList = (p ++ z ++ Str.join z (q :: r)).cps.toList
    simp only [Str.cps_append, Array.toList_append]
    rw [rep1_append, rep1_append, ih, rep1_free c _ _ (h p List.mem_cons_self)]
    show p.cps.toList ++ rep1 c _ [c] ++ _ = _
    rw [rep1_one]
theorem replace1 (x z : Str) (c : Nat) : (Txt.replace x ⟨#[c]⟩ z).cps.toList = rep1 c z.cps.toList x.cps.toList := by
  rw [replace_one, ← rep1_join c z _ (split_free x c), join_split]

def crlf : List Nat → List Nat
  | [] => []
  | c :: r => if c = 13 ∧ r.head? = some 10 then crlf r else c :: crlf r

theorem crlf_cons (c : Nat) (r : List Nat) : crlf (c :: r) = if c = 13 ∧ r.head? = some 10 then crlf r else c :: crlf r := rfl

def CrLf : Str := ⟨#[13, 10]⟩
def Lf : Str := ⟨#[10]⟩

theorem at_crlf (x : Str) (k : Nat) : At x CrLf x.length k ↔ (x.cps.toList.drop k).head? = some 13 ∧ (x.cps.toList.drop (k + 1)).head? = some 10 := by
  unfold At
  rw [subAt_eq, beq_iff_eq]
  show (k + 2 ≤ x.length ∧ List.take 2 (x.cps.toList.drop k) = [13, 10]) ↔ _
  have hl : x.length = x.cps.toList.length := by simp [Str.length]
  rw [hl]
  generalize x.cps.toList = l
  rw [show l.drop (k + 1) = (l.drop k).drop 1 from by rw [List.drop_drop]]
  have hlen : (l.drop k).length = l.length - k := List.length_drop
  generalize l.drop k = d at hlen ⊢
  constructor
  · rintro ⟨h1, h2⟩
    match d, h2 with
    | a :: b :: r, h2 =>
      have h2' : [a, b] = [13, 10] := by simpa using h2
      simp only [List.cons.injEq, and_true] at h2'
      simp [h2'.1, h2'.2]
  · rintro ⟨h1, h2⟩
    match d, h1, h2, hlen with
    | a :: b :: r, h1, h2, hlen =>
      have e1 : a = 13 := by simpa using h1
      have e2 : b = 10 := by simpa using h2
      subst e1 e2
      refine ⟨?_, by simp⟩
      simp only [List.length_cons] at hlen
      omega

theorem gap (x : Str) : ∀ (n a : Nat), (∀ k, a ≤ k → k < a + n → ¬ At x CrLf x.length k) → crlf (x.cps.toList.drop a) = (x.cps.toList.drop a).take n ++ crlf (x.cps.toList.drop (a + n))
  | 0, a, _ => by simp
  | n + 1, a, h => by
    have h0 := h a (Nat.le_refl _) (by omega)
    rw [at_crlf] at h0
    have ih := gap x n (a + 1) fun k h1 h2 => h k (by omega) (by omega)
    have e : a + (n + 1) = a + 1 + n := by omega
    rw [e]
    by_cases hl : a < x.cps.toList.length
    · have d := List.drop_eq_getElem_cons hl
      rw [d] at h0 ⊢
      rw [List.take_succ_cons, List.cons_append, ← ih]
      rw [crlf_cons, if_neg (by
        intro q
        apply h0
        refine ⟨by rw [List.head?_cons, q.1], q.2⟩)]
    · have d1 : x.cps.toList.drop a = [] := List.drop_eq_nil_of_le (by omega)
      have d2 : x.cps.toList.drop (a + 1 + n) = [] := List.drop_eq_nil_of_le (by omega)
      rw [d1, d2]
      rfl

theorem cut_here (x : Str) (c : Nat) (h : At x CrLf x.length c) : crlf (x.cps.toList.drop c) = 10 :: crlf (x.cps.toList.drop (c + 2)) := by
  rw [at_crlf] at h
  rw [show x.cps.toList.drop (c + 1) = (x.cps.toList.drop c).drop 1 from by rw [List.drop_drop]] at h
  rw [show x.cps.toList.drop (c + 2) = (x.cps.toList.drop c).drop 2 from by rw [List.drop_drop]]
  generalize x.cps.toList.drop c = d at h ⊢
  match d, h with
  | a :: b :: r, ⟨h1, h2⟩ =>
    have e1 : a = 13 := by simpa using h1
    have e2 : b = 10 := by simpa using h2
    subst e1 e2
    simp [crlf]

theorem parts_crlf (x : Str) : ∀ (cuts : List Nat) (a f : Nat), ChainG x CrLf x.length a cuts f → (∀ k, f ≤ k → ¬ At x CrLf x.length k) → (Str.join Lf (partsFrom x 2 a cuts)).cps.toList = crlf (x.cps.toList.drop a)
  | [], a, f, h, hn => by
    have e : f = a := h
    subst e
    show (strSub x f x.length).cps.toList = _
    rw [strSub_toList, gap x (x.length - f) f fun k h1 _ => hn k h1]
    have : x.cps.toList.drop (f + (x.length - f)) = [] := List.drop_eq_nil_of_le (by simp [Str.length]; omega)
    rw [this]
    simp [crlf]
  | c :: r, a, f, h, hn => by
    have ih := parts_crlf x r (c + 2) f h.2.2.2 hn
    have g := gap x (c - a) a fun k h1 h2 => h.2.2.1 k h1 (by have := h.1; omega)
    rw [show a + (c - a) = c from by have := h.1; omega, cut_here x c h.2.1] at g
    rw [g, ← ih]
    have e : ∃ p q, partsFrom x 2 (c + 2) r = p :: q := by cases r with
      | nil => exact ⟨_, _, rfl⟩
      | cons d r => exact ⟨_, _, rfl⟩
    obtain ⟨p, q, e⟩ := e
    show (Str.join Lf (strSub x a c :: partsFrom x 2 (c + 2) r)).cps.toList = _
    rw [e]
    show (strSub x a c ++ Lf ++ Str.join Lf (p :: q)).cps.toList = _
    simp only [Str.cps_append, Array.toList_append]
    rw [strSub_toList]
    simp [Lf]

theorem replace_crlf (x : Str) : (Txt.replace x CrLf Lf).cps.toList = crlf x.cps.toList := by
  obtain ⟨f, hG, hn⟩ := occ_tight x CrLf (by decide)
  have h := parts_crlf x _ 0 f hG hn
  rw [List.drop_zero] at h
  have h10 : (CrLf.length == 0) = false := rfl
  unfold Txt.replace
  rw [h10, Bool.false_and, Bool.or_false]
  cases he : (occurrences x CrLf 0 x.length (x.length + 1)).isEmpty
  · rw [if_neg Bool.false_ne_true, glued_eq_join, partsBetween_eq]
    exact h
  · rw [if_pos rfl, ← h, List.isEmpty_iff.mp he]
    show _ = (strSub x 0 x.length).cps.toList
    rw [strSub_toList, List.drop_zero, List.take_of_length_le (by simp [Str.length])]

def piece (c : Nat) : List Nat := if c = 38 then [38, 97, 109, 112, 59] else if c = 60 then [38, 108, 116, 59] else if c = 62 then [38, 103, 116, 59] else if c = 13 then [10] else [c]
def pieceS (c : Nat) : Str := ⟨(piece c).toArray⟩

theorem four (l : List Nat) : rep1 62 [38, 103, 116, 59] (rep1 60 [38, 108, 116, 59] (rep1 38 [38, 97, 109, 112, 59] (rep1 13 [10] l))) = l.flatMap piece := by
  induction l with
  | nil => rfl
  | cons c r ih =>
    have sp : ∀ (d : Nat) (z : List Nat), rep1 d z (c :: r) = rep1 d z [c] ++ rep1 d z r := fun d z => rep1_append d z [c] r
    rw [sp, rep1_append, rep1_append, rep1_append, ih, List.flatMap_cons]
    congr 1
    unfold piece
    by_cases h1 : c = 38
    · subst h1; decide
    · by_cases h2 : c = 60
      · subst h2; decide
      · by_cases h3 : c = 62
        · subst h3; decide
        · by_cases h4 : c = 13
          · subst h4; decide
          · simp [rep1, h1, h2, h3, h4]

/-- what the law reckons, from the head on -/
def dueL : List Nat → List Nat
  | [] => []
  | c :: r => if c = 13 ∧ r.head? = some 10 then dueL r else piece c ++ dueL r
theorem dueL_cons (c : Nat) (r : List Nat) : dueL (c :: r) = if c = 13 ∧ r.head? = some 10 then dueL r else piece c ++ dueL r := rfl
theorem due_crlf : ∀ l : List Nat, (crlf l).flatMap piece = dueL l
  | [] => rfl
  | c :: r => by
    have ih := due_crlf r
    unfold crlf dueL
    split
    · exact ih
    · rw [List.flatMap_cons, ih]

/-- what the law has after k turns -/
def dueN (x : Str) : Nat → Str
  | 0 => Str.empty
  | k + 1 => if x.cps[k]? = some 13 ∧ x.cps[k + 1]? = some 10 then dueN x k else dueN x k ++ pieceS (x.cps.getD k 0)

theorem dueN_succ (x : Str) (k : Nat) : dueN x (k + 1) = if x.cps[k]? = some 13 ∧ x.cps[k + 1]? = some 10 then dueN x k else dueN x k ++ pieceS (x.cps.getD k 0) := rfl
theorem dueN_all (x : Str) : ∀ k, k ≤ x.length → (dueN x k).cps.toList ++ dueL (x.cps.toList.drop k) = dueL x.cps.toList
  | 0, _ => by simp [dueN, Str.empty]
  | k + 1, h => by
    have ih := dueN_all x k (by omega)
    rw [← ih]
    have hk' : k < x.cps.size := h
    have hk : k < x.cps.toList.length := by simpa using hk'
    have d := List.drop_eq_getElem_cons hk
    rw [d, dueL_cons, dueN_succ]
    have e1 : x.cps[k]? = some x.cps.toList[k] := by simp [hk']
    have e2 : x.cps[k + 1]? = (x.cps.toList.drop (k + 1)).head? := by simp
    have e3 : x.cps.getD k 0 = x.cps.toList[k] := by simp [Array.getD, hk']
    rw [e1, e2, e3]
    by_cases hc : x.cps.toList[k] = 13 ∧ (x.cps.toList.drop (k + 1)).head? = some 10
    · rw [if_pos hc, if_pos ⟨congrArg some hc.1, hc.2⟩]
    · rw [if_neg hc, if_neg fun q => hc ⟨Option.some.inj q.1, q.2⟩]
      simp [Str.cps_append, pieceS]

theorem escape_eq (x : Str) : Txt.replace (Txt.replace (Txt.replace (Txt.replace (Txt.replace x (Str.ofString "\x0d\n") (Str.ofString "\n")) (Str.ofString "\x0d") (Str.ofString "\n")) (Str.ofString "&") (Str.ofString "&amp;")) (Str.ofString "<") (Str.ofString "&lt;")) (Str.ofString ">") (Str.ofString "&gt;") = dueN x x.length := by
  have s1 : Str.ofString "\x0d\n" = CrLf := by decide +kernel
  have s2 : Str.ofString "\n" = Lf := by decide +kernel
  have s3 : Str.ofString "\x0d" = ⟨#[13]⟩ := by decide +kernel
  have s4 : Str.ofString "&" = ⟨#[38]⟩ := by decide +kernel
  have s5 : Str.ofString "&amp;" = ⟨#[38, 97, 109, 112, 59]⟩ := by decide +kernel
  have s6 : Str.ofString "<" = ⟨#[60]⟩ := by decide +kernel
  have s7 : Str.ofString "&lt;" = ⟨#[38, 108, 116, 59]⟩ := by decide +kernel
  have s8 : Str.ofString ">" = ⟨#[62]⟩ := by decide +kernel
  have s9 : Str.ofString "&gt;" = ⟨#[38, 103, 116, 59]⟩ := by decide +kernel
  rw [s1, s2, s3, s4, s5, s6, s7, s8, s9]
  refine Str.ext' (Array.toList_inj.mp ?_)
  rw [replace1, replace1, replace1, replace1, replace_crlf]
  have h := dueN_all x x.length (Nat.le_refl _)
  have dn : x.cps.toList.drop x.length = [] := List.drop_eq_nil_of_le (by simp [Str.length])
  rw [dn] at h
  rw [show (dueN x x.length).cps.toList = dueL x.cps.toList from by rw [← h]; simp [dueL], ← due_crlf]
  exact four _
end Mine

namespace Mine
open PySem.StrLaws

section
variable {prog : Program} {w : World} {A : Around} {E : Value → Shared → Prop} {s : Shared} {value slice : PySem.Expr} {x : Str} {t u : Tok} {i c : Nat} {k : Int} {Q : Value → Shared → Prop}

theorem item_sign (hc : x.cps[i]? = some c) : Txt.item x (i : Int) = ⟨#[c]⟩ := by
  have hi : i < x.cps.size := by
    rcases Nat.lt_or_ge i x.cps.size with h | h
    · exact h
    · rw [Array.getElem?_eq_none h] at hc; cases hc
  unfold Txt.item Txt.charAt
  have e : seqIndex? (i : Int) x.length = some i := by
    unfold seqIndex?
    have : (i : Int) < (x.length : Int) := by
      have : i < x.length := hi
      omega
    simp
    omega
  rw [e]
  show (⟨#[(x.cps[i]?).getD 0]⟩ : Str) = _
  rw [hc]
  rfl

theorem sub_sign (hc : x.cps[i]? = some c) (hk : k = (i : Int)) (hx : x.length ≤ 63) (h : Q (.str ⟨#[c]⟩ s.toks) { s with toks := s.toks + 1 })
    (hs : subscripted slice false (.str x t) (.int k u) = operate [.str x t, .int k u] (getItem (.str x t) (.int k u)) := by with_unfolding_all rfl)
    (ht : ∀ r, letTemporaryGo value (.str x t) r = pure () := by intro _; with_unfolding_all rfl) :
    wpAny (model prog w) A (subscriptTail value slice (.str x t) (.int k u)) Q E s := by
  subst hk
  have hi : i < x.length := by
    rcases Nat.lt_or_ge i x.cps.size with h | h
    · exact h
    · rw [Array.getElem?_eq_none h] at hc; cases hc
  refine KXi.item rfl (by omega) (by omega) (by omega) (fun _ => ?_) hs ht
  rw [item_sign hc]
  exact h

/-- the place of a sign in the menu of four -/
def amp (c : Nat) : Int := if c = 38 then 0 else if c = 60 then 1 else if c = 62 then 2 else if c = 13 then 3 else -1

theorem find_amp (c : Nat) : Txt.find (Str.ofString "&<>\x0d") ⟨#[c]⟩ = amp c := by
  unfold amp
  by_cases h1 : c = 38
  · subst h1; decide +kernel
  by_cases h2 : c = 60
  · subst h2; decide +kernel
  by_cases h3 : c = 62
  · subst h3; decide +kernel
  by_cases h4 : c = 13
  · subst h4; decide +kernel
  rw [if_neg h1, if_neg h2, if_neg h3, if_neg h4]
  have f := found_one (Str.ofString "&<>\x0d") c
  have e : (Str.ofString "&<>\x0d").cps.toList = [38, 60, 62, 13] := by decide +kernel
  rw [e] at f
  have n : decide (c ∈ [38, 60, 62, 13]) = false := by simp [h1, h2, h3, h4]
  rw [n] at f
  unfold Txt.find
  cases ho : Builtin.Str.occurrences (Str.ofString "&<>\x0d") ⟨#[c]⟩ 0 (Str.ofString "&<>\x0d").length 1 with
  | nil => rfl
  | cons a r => rw [ho] at f; cases f

theorem find_wp (h : Q (.int (amp c) s.toks) { s with toks := s.toks + 1 }) : wpAny (model prog w) A (call (.builtin "str.find") [.str (Str.ofString "&<>\x0d") t, .str ⟨#[c]⟩ u]) Q E s := by
  refine SC.find ?_
  rw [find_amp]
  exact h

theorem amp_lt (c : Nat) : amp c < 4 := by
  unfold amp
  repeat' split
  all_goals omega

/-- the four texts of the menu -/
def menu : List Str := [Str.ofString "&amp;", Str.ofString "&lt;", Str.ofString "&gt;", Str.ofString "\n"]
theorem menu_at {c : Nat} (h : (0 : Int) ≤ amp c) : menu.getD (amp c).toNat Str.empty = pieceS c := by
  unfold amp at h ⊢
  by_cases h1 : c = 38
  · subst h1; decide +kernel
  by_cases h2 : c = 60
  · subst h2; decide +kernel
  by_cases h3 : c = 62
  · subst h3; decide +kernel
  by_cases h4 : c = 13
  · subst h4; decide +kernel
  rw [if_neg h1, if_neg h2, if_neg h3, if_neg h4] at h
  omega
theorem piece_self {c : Nat} (h : ¬ (0 : Int) ≤ amp c) : (⟨#[c]⟩ : Str) = pieceS c := by
  unfold amp at h
  unfold pieceS piece
  by_cases h1 : c = 38
  · subst h1; exact absurd (by decide) h
  by_cases h2 : c = 60
  · subst h2; exact absurd (by decide) h
  by_cases h3 : c = 62
  · subst h3; exact absurd (by decide) h
  by_cases h4 : c = 13
  · subst h4; exact absurd (by decide) h
  rw [if_neg h1, if_neg h2, if_neg h3, if_neg h4]
theorem piece_len (c : Nat) : (pieceS c).length ≤ 5 := by
  unfold pieceS piece
  repeat' split
  all_goals (simp [Str.length])

theorem pick_wp {l : Addr} {vs : List Value} (hl : s.heap.IsList l vs.toArray) (hw : StrsAre vs menu) (h0 : 0 ≤ amp c) (h : ∀ t', Q (.str (pieceS c) t') s)
    (hs : subscripted slice false (.ref l) (.int (amp c) u) = operate [.ref l, .int (amp c) u] (getItem (.ref l) (.int (amp c) u)) := by with_unfolding_all rfl) :
    wpAny (model prog w) A (subscriptTail value slice (.ref l) (.int (amp c) u)) Q E s := by
  have h4 := amp_lt c
  have m4 : menu.length = 4 := rfl
  refine KTb.item_list hl hw h0 (by rw [m4]; omega) (by omega) (fun t' _ => ?_) hs
  rw [menu_at h0]
  exact h t'

theorem slice_next (hi : i < x.length) : (Txt.slice x (some ((i : Int) + 1)) (some ((i : Int) + 2)) == Str.ofString "\n") = decide (x.cps[i + 1]? = some 10) := by
  have s2 : Str.ofString "\n" = ⟨#[10]⟩ := by decide +kernel
  rw [s2]
  by_cases hl : i + 1 < x.length
  · have hs := eq_of_beq (slice_one_closes (x := x) (n := ((i + 1 : Nat) : Int)) (by omega) (by omega))
    rw [show (i : Int) + 1 = ((i + 1 : Nat) : Int) from by omega, show (i : Int) + 2 = ((i + 1 : Nat) : Int) + 1 from by omega, hs, Int.toNat_natCast]
    have hl' : i + 1 < x.cps.size := hl
    have g : x.cps.getD (i + 1) 0 = x.cps[i + 1] := by simp [Array.getD, hl']
    rw [g, Array.getElem?_eq_getElem hl']
    by_cases h : x.cps[i + 1] = 10
    · rw [h]; decide
    · rw [decide_eq_false (fun q => h (Option.some.inj q)), beq_eq_false_iff_ne]
      intro e
      have e' : (#[x.cps[i + 1]] : Array Nat) = #[10] := congrArg Str.cps e
      simp at e'
      exact h e'
  · have hn : x.cps[i + 1]? = none := Array.getElem?_eq_none (by show x.length ≤ _; omega)
    rw [hn]
    have hz : Builtin.Str.strSliceIndices (some ((i : Int) + 1)) (some ((i : Int) + 2)) 1 x.length = [] := by
      have e0 : ((x.length : Nat) : Int) = (i : Int) + 1 := by omega
      have a1 : ¬ ((i : Int) + 1 < 0) := by omega
      have a2 : ¬ ((i : Int) + 2 < 0) := by omega
      simp [Builtin.Str.strSliceIndices, e0, a1, a2, sliceRange]
      split <;> omega
    unfold Txt.slice
    rw [hz]
    have hne : ¬ (0 = x.length) := by omega
    rw [if_neg (by simp [hne])]
    rfl
theorem sign_cr (c : Nat) : ((⟨#[c]⟩ : Str) == Str.ofString "\x0d") = decide (c = 13) := by
  have s3 : Str.ofString "\x0d" = ⟨#[13]⟩ := by decide +kernel
  rw [s3]
  by_cases h : c = 13
  · subst h; decide
  · rw [decide_eq_false h, beq_eq_false_iff_ne]
    intro e
    have e' : (#[c] : Array Nat) = #[13] := congrArg Str.cps e
    simp at e'
    exact h e'

/-- the word behind a turn: one for each way -/
theorem turn_skip (hc : x.cps[i]? = some c) (h1 : c = 13) (h2 : x.cps[i + 1]? = some 10) : dueN x (i + 1) = dueN x i := by
  rw [dueN_succ, if_pos ⟨by rw [hc, h1], h2⟩]
theorem turn_add (hc : x.cps[i]? = some c) (h : ¬ (c = 13 ∧ x.cps[i + 1]? = some 10)) : dueN x (i + 1) = dueN x i ++ pieceS c := by
  have e : x.cps.getD i 0 = c := by rw [Array.getD_eq_getD_getElem?, hc]; rfl
  rw [dueN_succ, if_neg (fun q => h ⟨by rw [hc] at q; exact Option.some.inj q.1, q.2⟩), e]
theorem dueN_len (x : Str) : ∀ k, (dueN x k).length ≤ 5 * k
  | 0 => Nat.le_refl _
  | k + 1 => by
    have ih := dueN_len x k
    rw [dueN_succ]
    split
    · omega
    · have := piece_len (x.cps.getD k 0)
      rw [Str.length_append]
      omega
theorem st_skip {f : Str} {pre : List Int} {v : Int} (hinv : f = dueN x pre.length) (hi : pre.length < x.length) (hc : x.cps[pre.length]? = some c) (h1 : ((⟨#[c]⟩ : Str) == Str.ofString "\x0d") = true)
    (h2 : (Txt.slice x (some ((pre.length : Int) + 1)) (some ((pre.length : Int) + 2)) == Str.ofString "\n") = true) : f = dueN x (pre ++ [v]).length ∧ f.length ≤ 5 * (pre ++ [v]).length := by
  rw [sign_cr] at h1
  rw [slice_next hi] at h2
  rw [List.length_append, List.length_singleton, turn_skip hc (of_decide_eq_true h1) (of_decide_eq_true h2)]
  exact ⟨hinv, by have := dueN_len x pre.length; rw [← hinv] at this; omega⟩
theorem st_add {f p : Str} {pre : List Int} {v : Int} (hp : p = pieceS c) (hinv : f = dueN x pre.length) (hi : pre.length < x.length) (hc : x.cps[pre.length]? = some c)
    (h : ((⟨#[c]⟩ : Str) == Str.ofString "\x0d") = false ∨ (Txt.slice x (some ((pre.length : Int) + 1)) (some ((pre.length : Int) + 2)) == Str.ofString "\n") = false) :
    f ++ p = dueN x (pre ++ [v]).length ∧ (f ++ p).length ≤ 5 * (pre ++ [v]).length := by
  rw [sign_cr, slice_next hi] at h
  have hn : ¬ (c = 13 ∧ x.cps[pre.length + 1]? = some 10) := fun q => by
    rcases h with h | h
    · exact of_decide_eq_false h q.1
    · exact of_decide_eq_false h q.2
  have hl := piece_len c
  rw [List.length_append, List.length_singleton, turn_add hc hn, hp, Str.length_append, ← hinv]
  exact ⟨rfl, by have := dueN_len x pre.length; rw [← hinv] at this; omega⟩
end
end Mine

namespace Mine
set_option maxRecDepth 100000
theorem plainAttrs_pat : PlainAttrs "re.Pattern" :=
  ⟨⟨"object.__getattribute__", by rw [typeLookup_type, builtinLookup_eq_fast]; kernel_rfl, by decide +kernel⟩, by rw [typeLookup_type, builtinLookup_eq_fast]; kernel_rfl⟩
theorem slot_search : Slot "re.Pattern" "search" "re.Pattern.search" :=
  .of (owner := "re.Pattern") (n := "search") (by rw [typeLookup_type, builtinLookup_eq_fast]; kernel_rfl) (by decide +kernel) (by decide +kernel) (by decide +kernel)
    (by first | exact .inl (by decide +kernel) | exact .inr (by decide +kernel)) (by rw [isSubtype_type]; kernel_rfl)
theorem type_search : typeOf (.builtin "re.Pattern.search") = pure (.type "method_descriptor") := by show builtinType _ = _; rw [builtinType_eq_fast]; kernel_rfl
theorem entry_search : entryFor table "re.Pattern.search" = some Builtin.«re.Pattern.search» := entryFor_of_fast (by kernel_rfl)
theorem args_search (a b : Value) : argsOk "re.Pattern.search" ⟨[a, b], []⟩ := by unfold argsOk; kernel_rfl
end Mine

namespace Mine
set_option maxRecDepth 100000
open PySem.Sre

def pcode : Array Nat := #[14, 14, 4, 1, 1, 9, 4294957567, 0, 0, 0, 0, 0, 0, 0, 0, 13, 11, 9, 4294957567, 0, 0, 0, 0, 0, 0, 0, 0, 1]

theorem bit5_small : ∀ c < 256, (pcode.getD (5 + (1 + c / 32)) 0).testBit (c % 32) = ctl c := by decide +kernel
theorem bit17_small : ∀ c < 256, (pcode.getD (17 + (1 + c / 32)) 0).testBit (c % 32) = ctl c := by decide +kernel
theorem ctl_far {c : Nat} (h : ¬ c < 256) : ctl c = false := by
  have : ¬ c < 32 := by omega
  simp [ctl, this]
theorem bit5 (c : Nat) : (decide (c < 256) && (pcode.getD (5 + (1 + c / 32)) 0).testBit (c % 32)) = ctl c := by
  by_cases h : c < 256
  · rw [decide_eq_true h, Bool.true_and, bit5_small c h]
  · rw [decide_eq_false h, Bool.false_and, ctl_far h]
theorem bit17 (c : Nat) : (decide (c < 256) && (pcode.getD (17 + (1 + c / 32)) 0).testBit (c % 32)) = ctl c := by
  by_cases h : c < 256
  · rw [decide_eq_true h, Bool.true_and, bit17_small c h]
  · rw [decide_eq_false h, Bool.false_and, ctl_far h]

theorem inSet5 (c : Nat) (seen : Sre.Seen) : ∃ seen', inSet pcode c 28 5 true seen = .ok (ctl c, seen') := by
  have e : inSet pcode c 28 5 true seen = if (decide (c < 256) && (pcode.getD (5 + (1 + c / 32)) 0).testBit (c % 32)) = true then .ok (true, seen.add 9) else .ok (false, (seen.add 9).add 0) := rfl
  rw [e, bit5]
  cases ctl c
  · exact ⟨_, rfl⟩
  · exact ⟨_, rfl⟩
theorem inSet17 (c : Nat) (seen : Sre.Seen) : ∃ seen', inSet pcode c 28 17 true seen = .ok (ctl c, seen') := by
  have e : inSet pcode c 28 17 true seen = if (decide (c < 256) && (pcode.getD (17 + (1 + c / 32)) 0).testBit (c % 32)) = true then .ok (true, seen.add 9) else .ok (false, (seen.add 9).add 0) := rfl
  rw [e, bit17]
  cases ctl c
  · exact ⟨_, rfl⟩
  · exact ⟨_, rfl⟩

/-- the scan for a first sign of the set -/
theorem admitted_eq (m : M) (hc : m.code = pcode) : ∀ (fuel s : Nat) (seen : Sre.Seen), m.lim < s + fuel →
    (∃ seen', m.admitted fuel s seen = .ok (none, seen') ∧ ∀ j, s ≤ j → j < m.lim → ctl (m.text.getD j 0) = false) ∨
    (∃ seen' j, m.admitted fuel s seen = .ok (some j, seen') ∧ s ≤ j ∧ j < m.lim ∧ ctl (m.text.getD j 0) = true)
  | 0, s, seen, h => .inl ⟨seen, rfl, fun j h1 h2 => by omega⟩
  | fuel + 1, s, seen, h => by
    by_cases hs : s ≥ m.lim
    · refine .inl ⟨seen, ?_, fun j h1 h2 => by omega⟩
      unfold M.admitted
      rw [if_pos hs]
    · obtain ⟨seen', e⟩ := inSet5 (m.text.getD s 0) seen
      have e' : inSet m.code (m.text.getD s 0) m.code.size 5 true seen = .ok (ctl (m.text.getD s 0), seen') := by rw [hc]; exact e
      cases hb : ctl (m.text.getD s 0) with
      | true =>
        refine .inr ⟨seen', s, ?_, Nat.le_refl _, by omega, hb⟩
        unfold M.admitted
        rw [if_neg hs, e', hb]
      | false =>
        have u : m.admitted (fuel + 1) s seen = m.admitted fuel (s + 1) seen' := by
          conv => lhs; unfold M.admitted
          rw [if_neg hs, e', hb]
        rw [u]
        rcases admitted_eq m hc fuel (s + 1) seen' (by omega) with ⟨q, h1, h2⟩ | ⟨q, j, h1, h2, h3, h4⟩
        · refine .inl ⟨q, h1, fun j a b => ?_⟩
          by_cases hj : j = s
          · rw [hj]; exact hb
          · exact h2 j (by omega) b
        · exact .inr ⟨q, j, h1, by omega, h3, h4⟩

def start (text : Array Nat) : M := forSearch pcode text 0 0 text.size false

def base (text : Array Nat) (last : Nat) (q : Sre.Seen) : M := { code := pcode, text, lim := text.size, start := 0, lastStart := last, pc := 15, pos := 0, handed := 0, marks := Array.replicate (2 * 0) none, mustAdvance := false, seen := q }

theorem start_eq (text : Array Nat) : start text = if (decide (0 > text.size) || decide (text.size - 0 < 1)) = true then (base text 0 (({} : Sre.Seen).add 14)).say false else M.attemptFrom (base text text.size (({} : Sre.Seen).add 14)) 0 true := rfl

theorem first_of {m : M} (hc : m.code = pcode) : m.hasFirstSet = true := by unfold M.hasFirstSet; rw [hc]; rfl
theorem attemptFrom_none {m : M} (hc : m.code = pcode) {s : Nat} {first : Bool} {q : Sre.Seen} (e : m.admitted (m.lim + 1 - s) s m.seen = .ok (none, q)) : m.attemptFrom s first = M.say { m with seen := q } false := by
  unfold M.attemptFrom
  rw [first_of hc, e]
  rfl
theorem attemptFrom_some {m : M} (hc : m.code = pcode) {s j : Nat} {first : Bool} {q : Sre.Seen} (e : m.admitted (m.lim + 1 - s) s m.seen = .ok (some j, q)) : m.attemptFrom s first = M.attemptAt { m with mustAdvance := false, seen := q } j first := by
  unfold M.attemptFrom
  rw [first_of hc, e]
  rfl

/-- no sign of the set: the machine fails -/
theorem run_none (text : Array Nat) (h : ∀ j, j < text.size → ctl (text.getD j 0) = false) : ((start text).runFor 4).outcome = some .failed := by
  rw [start_eq]
  split
  · rfl
  · rcases admitted_eq (base text text.size (({} : Sre.Seen).add 14)) rfl (text.size + 1 - 0) 0 (({} : Sre.Seen).add 14) (by show text.size < _; omega) with ⟨q, h1, h2⟩ | ⟨q, j, h1, h2, h3, h4⟩
    · rw [attemptFrom_none rfl h1]
      rfl
    · have z : ctl (text.getD j 0) = true := h4
      rw [h j h3] at z
      cases z

def m1 (text : Array Nat) (i pc pos handed : Nat) (q : Sre.Seen) (ans : Option Bool) : M := { code := pcode, text, lim := text.size, start := i, lastStart := text.size, pc := pc, pos := pos, handed := handed, marks := Array.replicate (2 * 0) none, mustAdvance := false, seen := q, answer := ans, frames := [{ wait := .nextStart, pc := 15, pos := i, outermost := true }], weight := 1 }

theorem step1 (text : Array Nat) (i : Nat) (q : Sre.Seen) (hi : i < text.size) (h : ctl (text.getD i 0) = true) : ∃ q', M.step (m1 text i 15 i i q none) = m1 text i 27 (i + 1) i q' none := by
  obtain ⟨q', e17⟩ := inSet17 (text.getD i 0) (q.add 13)
  rw [h] at e17
  refine ⟨q', ?_⟩
  have e : M.step (m1 text i 15 i i q none) = if i ≥ text.size then (m1 text i 15 i i (q.add 13) none).say false else
      match inSet pcode (text.getD i 0) 28 17 true (q.add 13) with
      | .error why => (m1 text i 15 i i (q.add 13) none).stick why
      | .ok (false, seen) => (m1 text i 15 i i seen none).say false
      | .ok (true, seen) => m1 text i 27 (i + 1) i seen none := rfl
  rw [e, if_neg (by omega), e17]

/-- a sign of the set: the machine matches -/
theorem run_some (text : Array Nat) (j : Nat) (hj : j < text.size) (h : ctl (text.getD j 0) = true) : ((start text).runFor 4).outcome = some .matched := by
  rw [start_eq]
  have c : (decide (0 > text.size) || decide (text.size - 0 < 1)) = false := by
    rw [Bool.or_eq_false_iff]
    exact ⟨decide_eq_false (by omega), decide_eq_false (by omega)⟩
  rw [if_neg (by rw [c]; exact Bool.false_ne_true)]
  rcases admitted_eq (base text text.size (({} : Sre.Seen).add 14)) rfl (text.size + 1 - 0) 0 (({} : Sre.Seen).add 14) (by show text.size < _; omega) with ⟨q, h1, h2⟩ | ⟨q, i, h1, h2, h3, h4⟩
  · have z : ctl (text.getD j 0) = false := h2 j (Nat.zero_le _) hj
    rw [h] at z
    cases z
  · rw [attemptFrom_some rfl h1]
    have h3' : i < text.size := h3
    have h4' : ctl (text.getD i 0) = true := h4
    have at1 : M.attemptAt { base text text.size (({} : Sre.Seen).add 14) with mustAdvance := false, seen := q } i true = m1 text i 15 i i q none := rfl
    rw [at1]
    obtain ⟨q', e1⟩ := step1 text i q h3' h4'
    have r : ∀ m : M, m.outcome = none → m.runFor 4 = (m.step).runFor 3 := fun m hm => by
      show (if m.outcome.isSome = true then m else M.runFor 3 m.step) = _
      rw [hm]; rfl
    rw [r _ rfl, e1]
    rfl
end Mine

namespace Mine
set_option maxRecDepth 100000
open PySem.Builtin.Re

def codeVals : Array Value := #[.int 14 0, .int 14 0, .int 4 0, .int 1 0, .int 1 0, .int 9 0, .int 4294957567 0, .int 0 0, .int 0 0, .int 0 0, .int 0 0, .int 0 0, .int 0 0, .int 0 0, .int 0 0, .int 13 0, .int 11 0, .int 9 0, .int 4294957567 0, .int 0 0, .int 0 0, .int 0 0, .int 0 0, .int 0 0, .int 0 0, .int 0 0, .int 0 0, .int 1 0]
theorem code_is : (codeVals.map reRawOf).map (·.toNat) = pcode := by decide +kernel

section
variable {prog : Program} {w : World} {A : Around} {E : Value → Shared → Prop} {s : Shared}

theorem named_eq (x : Str) (t : Tok) : reNamed "re.Pattern.search" "search" ["string", "pos", "endpos"] 1 [.str x t] [] = pure [some (.str x t), none, none] := rfl

theorem rules_wp {M : Model} {m : Sre.M} {Q : PUnit → Shared → Prop} (h : Q PUnit.unit s) : ∀ l : List Nat, wpAny M A (forIn l PUnit.unit fun i _ => if m.seen.has i = true then (rule (Sre.names.getD i "") >>= fun _ => pure (ForInStep.yield PUnit.unit)) else pure (ForInStep.yield PUnit.unit)) Q E s
  | [] => wpAny_pure h
  | i :: l => by
    rw [List.forIn_cons]
    refine wpAny_bind ?_
    split
    · exact wpAny_bind (wpAny_rule (wpAny_pure (rules_wp h l)))
    · exact wpAny_pure (rules_wp h l)

theorem drive_wp {M : Model} {m : Sre.M} {n : Nat} {Q : Sre.M → Shared → Prop} (ho : (m.runFor 4).outcome.isSome = true) (h : Q (m.runFor 4) s) : wpAny M A (reDrive (n + 1) m) Q E s := by
  unfold reDrive
  show wpAny M A (if (m.runFor 4).outcome.isSome = true then pure (m.runFor 4) else _) Q E s
  rw [if_pos ho]
  exact wpAny_pure h

theorem toEnd_wp {M : Model} {m : Sre.M} {Q : Option Sre.M → Shared → Prop}
    (h : ((m.runFor 4).outcome = some .failed ∧ Q none s) ∨ ((m.runFor 4).outcome = some .matched ∧ Q (some (m.runFor 4)) s)) : wpAny M A (reRunToEnd m) Q E s := by
  have ho : (m.runFor 4).outcome.isSome = true := by rcases h with ⟨e, _⟩ | ⟨e, _⟩ <;> (rw [e]; rfl)
  unfold reRunToEnd
  refine wpAny_bind (drive_wp (n := 2 ^ 64 - 1) ho ?_)
  refine wpAny_bind (rules_wp ?_ _)
  rcases h with ⟨e, q⟩ | ⟨e, q⟩
  · rw [e]; exact wpAny_pure q
  · rw [e]; exact wpAny_pure q

theorem search_wp {x : Str} {t : Tok} {Q : Value → Shared → Prop} {P C : Addr} {v0 v1 : Value} {n : Nat} (hx : x.length ≤ 63)
    (hP : s.heap.get? P = some { cls := .type "re.Pattern", data := .fields #[v0, v1, .int 0 0, .none, .none, .ref C, .int 0 0] }) (hC : s.heap.get? C = some { cls := .type "tuple", data := .seq codeVals n })
    (hn : x.cps.toList.any ctl = false → Q .none s)
    (hs : x.cps.toList.any ctl = true → ∀ o1 o2, Q (.ref (s.heap.push o1).objs.size) { s with heap := (s.heap.push o1).push o2 }) :
    wpAny (model prog w) A (call (.builtin "re.Pattern.search") [.ref P, .str x t]) Q E s := by
  refine wpAny_call_entry slot_search ⟨_, hP, rfl⟩ entry_search ?_ (args_search _ _)
  unfold Builtin.«re.Pattern.search»
  refine wpAny_bind ?_
  unfold reTarget
  refine wpAny_bind (wpAny_of_eq (named_eq x t) ?_)
  refine wpAny_bind (wpAny_pure ?_)
  refine wpAny_bind (wpAny_pure ?_)
  unfold fieldsOf
  refine wpAny_bind (wpAny_bind (wpAny_load hP ?_))
  refine wpAny_pure ?_
  refine wpAny_bind (wpAny_of_eq (show reTextOf (.str x t) = pure (x.cps, 0) from rfl) ?_)
  show wpAny _ _ (reNoCollectionInside (.str x t) 0 >>= _) _ _ _
  refine wpAny_bind (wpAny_of_eq (show reNoCollectionInside (.str x t) 0 = pure () from rfl) ?_)
  have hitems : ∀ {R : Array Int → Shared → Prop}, R (codeVals.map reRawOf) s → wpAny (model prog w) A.in1 (reRawItems (.ref C)) R E s := fun hR => by
    unfold reRawItems seqItems?
    refine wpAny_bind (wpAny_bind (wpAny_load hC ?_))
    exact wpAny_pure (wpAny_pure hR)
  refine wpAny_bind (hitems ?_)
  refine wpAny_pure ?_
  have hclip : min ((2 ^ 63 - 1 : Int)).toNat x.cps.size = x.cps.size := by
    have hx' : x.cps.size ≤ 63 := hx
    rw [show ((2 ^ 63 - 1 : Int)).toNat = 9223372036854775807 from rfl]
    omega
  have hg : reRawNat ((#[v0, v1, Value.int 0 0, Value.none, Value.none, Value.ref C, Value.int 0 0] : Array Value).getD 2 Value.none) = 0 := rfl
  have h0 : min (Int.toNat 0) x.cps.size = 0 := Nat.zero_min _
  rw [code_is]
  dsimp only
  rw [hclip, hg, h0]
  unfold reAnswer
  refine wpAny_bind (toEnd_wp ?_)
  have any_iff : x.cps.toList.any ctl = true ↔ ∃ j, j < x.cps.size ∧ ctl (x.cps.getD j 0) = true := by
    rw [List.any_eq_true]
    constructor
    · rintro ⟨c, hc, hb⟩
      obtain ⟨j, hj, rfl⟩ := List.getElem_of_mem hc
      have hj' : j < x.cps.size := by simpa using hj
      exact ⟨j, hj', by simpa [Array.getD, hj'] using hb⟩
    · rintro ⟨j, hj, hb⟩
      refine ⟨x.cps[j], by simp, ?_⟩
      simpa [Array.getD, hj] using hb
  cases hany : x.cps.toList.any ctl with
  | false =>
    refine .inl ⟨run_none x.cps fun j hj => ?_, ?_⟩
    · cases hb : ctl (x.cps.getD j 0) with
      | false => rfl
      | true =>
        have := any_iff.mpr ⟨j, hj, hb⟩
        rw [hany] at this
        cases this
    · exact wpAny_pure ⟨_, rfl, hn hany⟩
  | true =>
    obtain ⟨j, hj, hb⟩ := any_iff.mp hany
    refine .inr ⟨run_some x.cps j hj hb, ?_⟩
    dsimp only
    refine wpAny_bind ?_
    unfold reNewMatch
    show wpAny _ _ (newTuple _ >>= _) _ _ _
    refine wpAny_bind (wpAny_newObj_type ?_ (by first | exact Nat.le_of_ble_eq_true rfl | size_fits))
    refine wpAny_newObj_type ?_ (by first | exact Nat.le_of_ble_eq_true rfl | exact trivial | size_fits)
    exact wpAny_pure ⟨_, rfl, hs hany _ _⟩
end

section
variable {prog : Program} {w : World} {A : Around} {E : Value → Shared → Prop} {s : Shared} {K : Frag} {h₀ : Heap} {L : Addr} {m : Str → Option Value} {news : List (Addr × Obj)}
theorem search_method {M : Model} {pl : Sem Bool} {Q : Value × List Value → Shared → Prop} {P : Addr} {o : Obj} (F : Fr h₀ L s.heap m) (X : K.In h₀) (hk : K.lookup P = some o) (hc : o.cls = .type "re.Pattern") (hd : o.dict = none) (h : Q (.builtin "re.Pattern.search", [.ref P]) s) :
    wpAny M A (getMethod (.ref P) (Str.ofString "search") pl) Q E s := by
  have hg : s.heap.get? P = some o := F.keep _ _ (X _ _ hk)
  exact getMethod_builtin ⟨_, hg, hc⟩ plainAttrs_pat slot_search type_search (fun a e => by cases e; exact ⟨_, hg, hd⟩) h
theorem search_K {x : Str} {t : Tok} {Q : Value → Shared → Prop} {P C : Addr} {v0 v1 : Value} {n : Nat} (F : Fr h₀ L s.heap m) (X : K.In h₀) (N : News h₀ L s.heap news)
    (hP : K.lookup P = some { cls := .type "re.Pattern", data := .fields #[v0, v1, .int 0 0, .none, .none, .ref C, .int 0 0] }) (hC : K.lookup C = some { cls := .type "tuple", data := .seq codeVals n }) (hx : x.length ≤ 63)
    (hn : x.cps.toList.any ctl = false → Q .none s)
    (hs : x.cps.toList.any ctl = true → ∀ a h', Fr h₀ L h' m → News h₀ L h' news → Q (.ref a) { s with heap := h' }) :
    wpAny (model prog w) A (call (.builtin "re.Pattern.search") [.ref P, .str x t]) Q E s := by
  refine search_wp hx (F.keep _ _ (X _ _ hP)) (F.keep _ _ (X _ _ hC)) hn fun ha o1 o2 => hs ha _ _ ((F.push o1).push o2) ?_
  exact N.grown fun b y e => Heap.get?_push_of_some _ (Heap.get?_push_of_some _ e)
end
end Mine

namespace Mine
open PySem.Builtin PySem.Builtin.Str

theorem toks_gen {α : Type} {M : Model} {A : Around} {E : Value → Shared → Prop} {t : Sem α} {Q : α → Shared → Prop} {H : Heap} {g : Array GenState} {d : Drawn} {a b : Nat} {o : OsState} (h : 1 ≤ a + b)
    (k : ∀ tk, 1 ≤ tk → wpAny M A t Q E ⟨H, g, d, tk, o⟩) : wpAny M A t Q E ⟨H, g, d, a + b, o⟩ := k _ h

theorem len_replace (x y z : Str) : (Txt.replace x y z).length ≤ x.length + (x.length + 1) * z.length := by
  unfold Txt.replace
  split
  · exact Nat.le_add_right _ _
  · have h1 := StrLaws.occ_length_le x y 0 x.length (x.length + 1)
    have hy : (glued y (partsBetween x (occurrences x y 0 x.length (x.length + 1)) y.length)).length = x.length := by rw [StrLaws.glued_between_self]
    rw [size_glued, length_partsBetween, Nat.add_sub_cancel] at hy
    rw [size_glued, length_partsBetween, Nat.add_sub_cancel]
    have h2 : (occurrences x y 0 x.length (x.length + 1)).length * z.length ≤ (x.length + 1) * z.length := Nat.mul_le_mul_right _ h1
    omega

theorem replace_T {prog : Program} {w : World} {A : Around} {E : Value → Shared → Prop} {s : Shared} {x y z : Str} {t u v : Tok} {Q : Value → Shared → Prop} {a n : Nat}
    (hx : x.length ≤ a) (hn : a + (a + 1) * 5 ≤ n) (hb : n ≤ 16777216) (hz : z.length ≤ 5) (hyz : (y == z) = false) (hu : u ≠ 0) (hv : v ≠ 0) (huv : u ≠ v) (hs : 1 ≤ s.toks)
    (h : ∀ r t' k, r = Txt.replace x y z → r.length ≤ n → 1 ≤ k → Q (.str r t') { s with toks := k }) :
    wpAny (model prog w) A (call (.builtin "str.replace") [.str x t, .str y u, .str z v]) Q E s := by
  have e1 : x.length + (x.length + 1) * z.length ≤ n := by
    have h1 : (x.length + 1) * z.length ≤ (x.length + 1) * 5 := Nat.mul_le_mul_left _ hz
    have h2 : (x.length + 1) * 5 ≤ (a + 1) * 5 := Nat.mul_le_mul_right _ (by omega)
    omega
  refine wpAny_with_toks hs (SC.replace hu hv huv hyz (Nat.le_trans e1 hb) fun t' k hk => ?_)
  exact h _ t' k rfl (Nat.le_trans (len_replace x y z) e1) hk

theorem told_due {x r1 r2 r3 r4 r5 d : Str} {n : Nat} (h1 : r1 = Txt.replace x (Str.ofString "\x0d\n") (Str.ofString "\n")) (h2 : r2 = Txt.replace r1 (Str.ofString "\x0d") (Str.ofString "\n"))
    (h3 : r3 = Txt.replace r2 (Str.ofString "&") (Str.ofString "&amp;")) (h4 : r4 = Txt.replace r3 (Str.ofString "<") (Str.ofString "&lt;")) (h5 : r5 = Txt.replace r4 (Str.ofString ">") (Str.ofString "&gt;"))
    (hd : d = dueN x n) (hn : n = x.length) : (r5 == d) = true := by
  subst hn h1 h2 h3 h4 h5 hd
  rw [escape_eq]
  exact beq_self_eq_true _

section
variable {prog : Program} {w : World} {A : Around} {E : Value → Shared → Prop} {s : Shared} {Q : Value → Shared → Prop}
theorem eq_true_wp {a b : Str} {t u : Tok} (h : (a == b) = true) (hq : Q (.bool true) s) : wpAny (model prog w) A (compareOp .Eq (.str a t) (.str b u)) Q E s := by
  refine eq_str ?_
  rw [h]
  exact hq
theorem not_false_wp {b : Bool} (h : b = false) (hq : Q (.bool true) s) : wpAny (model prog w) A (unaryOp .Not (.bool b)) Q E s := by
  subst h
  exact not_of (wpAny_of_eq (show truthy (.bool false) = pure false from rfl) hq)
end
end Mine

namespace Mine
theorem at_some {x : Str} {i : Nat} (h : i < ((x.length : Int) - 0).toNat) : ∃ c, x.cps[i]? = some c := by
  have h' : i < x.cps.size := by
    have : i < x.length := by omega
    exact this
  exact ⟨_, Array.getElem?_eq_getElem h'⟩
end Mine

open Mine PyProof.Rows.LCg PyProof.Rows.LCt

local macro_rules | `(tactic| walk_at "eval ListComp") => `(tactic| (k_here; lct_look; refine stopIt ?_))
local macro_rules | `(tactic| walk_at "SrcS") => `(tactic| (refine stopIt ?_))
local macro_rules | `(tactic| walk_at "compareOp NotEq ref ref") => `(tactic| (k_here; refine stopIt ?_))
local macro_rules | `(tactic| walk_at "pyIter ref") => `(tactic| (k_here; refine stopIt ?_))
local macro_rules | `(tactic| walk_at "subscriptTail Name Name str int") => `(tactic| (k_here; (with_reducible show wpAny _ _ (subscriptTail _ _ (Value.str _ _) (Value.int _ _)) _ _ _); refine sub_sign (by assumption) (by rfl) (by assumption) ?_))
local macro_rules | `(tactic| walk_at "subscriptTail") => `(tactic| (k_here; (with_reducible show wpAny _ _ (subscriptTail _ (Expr.Slice (some _) (some _) none _) (Value.str _ _) (Value.ref _)) _ _ _); (with_reducible rename Fr _ _ _ _ => F'); (with_reducible rename News _ _ _ _ => N'); (refine slice_strN_ss (hsz := ?hsz) (s := ⟨_, _, _, _, _⟩) F' N' ?_); (case hsz => (rw [sizeLine_eq]; omega)); intro _ _ _ _ _))
local macro_rules | `(tactic| walk_at "subscriptTail") => `(tactic| (k_here; (with_reducible show wpAny _ _ (subscriptTail _ _ (Value.ref _) (Value.int (amp _) _)) _ _ _); refine pick_wp (News.isList (by k_asm) (by k_mem)) (by unfold menu; repeat constructor) (by assumption) ?_; intro _))
local macro_rules | `(tactic| walk_at "call builtin:str.find") => `(tactic| (k_here; refine find_wp ?_))
local macro_rules | `(tactic| walk_at "binaryOp Add str str") => `(tactic| (k_here; (with_reducible rename KstMark => kM9); refine PyProof.Rows.add_str (hsz := ?hsz) ?_; (case hsz => (rw [sizeLine_eq]; first | omega | (rw [show ∀ n : Nat, (⟨#[n]⟩ : Str).length = 1 from fun _ => rfl]; omega))); intro _ _))
local macro_rules | `(tactic| walk_at "InvEndN") => `(tactic| (k_here; first | k_dflt ((rename News _ _ _ _ => nE'); (refine' kst_end ⟨_, _⟩ (by assumption) nE' ?a1 ?a2 ?a3 ?a4 ?a5 ?a6 ?a7); (case a5 => kst_all); (case a1 => first | kst_in | kst_inAny); (case a2 => first | (intro p hp; kst_mem) | kst_anyIn); (case a3 => rfl); (case a4 => kst_facts); (case a6 => kst_same); (case a7 => first | exact st_skip (by assumption) (by assumption) (by assumption) (by assumption) (by assumption) | exact st_add rfl (by assumption) (by assumption) (by assumption) (by first | exact .inl (by assumption) | exact .inr (by assumption)) | exact st_add (piece_self (by assumption)) (by assumption) (by assumption) (by assumption) (by first | exact .inl (by assumption) | exact .inr (by assumption)))) | refine stopIt ?_))
local macro_rules | `(tactic| walk_at "getMethod ref") => `(tactic| (k_here; (with_reducible show wpAny _ _ (getMethod (Value.ref 36) _ _) _ _ _); k_dflt (refine search_method (by k_asm) (by k_asm) (by with_unfolding_all rfl) (by with_unfolding_all rfl) (by with_unfolding_all rfl) ?_)))
local macro_rules | `(tactic| walk_at "call builtin:re.Pattern.search") => `(tactic| (k_here; k_dflt (refine search_K (C := 35) (by k_asm) (by k_asm) (by k_asm) (by with_unfolding_all rfl) (by with_unfolding_all rfl) (by assumption) (fun hany' => ?_) (fun hany' a' h' F' N' => ?_))))
local macro_rules | `(tactic| walk_at "execs cons") => `(tactic| (k_here; (with_reducible rename KstMark => kM9); (try dsimp only); (with_reducible refine toks_gen (by first | omega | (simp only [List.length_cons, List.length_nil]; omega)) (fun tk' htk' => ?_))))
local macro_rules | `(tactic| walk_at "call builtin:str.replace") => `(tactic| (k_here; k_dflt (refine replace_T (by assumption) (Nat.le_refl _) (by decide) (by decide +kernel) (by decide +kernel) (by first | omega | ((show @Ne Nat _ _); omega)) (by first | omega | ((show @Ne Nat _ _); omega)) (by first | omega | ((show @Ne Nat _ _); omega)) (by (try dsimp only); omega) (fun r' t' k' hr' hl' hk' => ?_))))
local macro_rules | `(tactic| walk_at "compareOp Eq str str") => `(tactic| (k_here; k_dflt (refine eq_true_wp (told_due (by assumption) (by assumption) (by assumption) (by assumption) (by assumption) (by assumption) (by first | rfl | (rw [rangeKs_length]; omega))) ?_)))
local macro_rules | `(tactic| walk_at "unaryOp Not") => `(tactic| (k_here; k_dflt (refine not_false_wp (by assumption) ?_)))

set_option maxRecDepth 100000 in
set_option maxHeartbeats 8000000 in
theorem PySem.Challenge.cw_kg0004_01_holds : PySem.Challenge.rw_kg0004_01.Holds := by
  w_on
  o_law
  k_head
  (case hw => w_witness2)
  w_strict (
    k_go0; (all_goals try k_fold); k_steps; 
    unfold Stop;
    rename Fr _ _ _ _ => F0; rename CarriedAll _ _ => kt0;
    refine gen_fr F0 (join_short ?_ (by omega)) (fun X hX F' => ?_);
    (focus (intro a; (repeat' split) <;> (first | exact Nat.le_refl _ | exact Nat.zero_le _)));
    clear F0 kt0;
    refine ListComp_S (F₀ := by k_asm) (by with_unfolding_all rfl) (by decide) (by rfl) (by decide) (by rfl) ?_;
    k_steps; 
    unfold Stop;
    refine ⟨_, _, _, rfl, rfl, by k_asm, by k_asm, ?_, ?_⟩;
    (focus (show X.length ≤ _; rw [sizeLine_eq]; omega));
    rintro _ ⟨g, rfl⟩;
    refine rest_S ctl (fun _ => rfl) (fun _ => rfl) (by decide) ?_ ?_;
    (focus (
      intro c' t' I' oI' C' oC' D' m' ys' h' tk' E' hC' hx' F' N' off0 ne';
      have off' := off0;
      (try simp only [LCg.Off3, and_true] at off');
      k_steps;
      (all_goals refine testEnd_close (by k_asm) (by k_asm) off0 ?_);
      (all_goals first | exact ctl_small (by assumption) (by assumption) | exact ctl_big (by assumption))));
    intro zs hzs D' h' tk' F' N' off';
    (try simp only [LCg.Off1, and_true] at off');
    k_steps;
    unfold Stop;
    refine ne_ctl_nil (News.isList (by k_asm) (by k_mem)) (News.isList (by k_asm) (by k_mem)) hzs (by ke_room) ?_;
    k_steps;
    unfold Stop;
    k_state (fun pre due => due = dueN X pre.length ∧ due.length ≤ 5 * pre.length) "due";
    (focus (
      (obtain rfl : kN = (kPre.length : Int) := by omega);
      (obtain ⟨c', hc'⟩ := at_some kLt);
      (have hi' : kPre.length < X.length := by omega);
      (have hp' := piece_len c');
      k_steps));
    k_steps;
    done)
